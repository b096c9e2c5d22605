import PyProof.Rows.All
import Wide.All
import OpenK.AllK
import Wide.FinOn
import Lean
import PySem.Challenge.RW_mq0429_01
set_option Elab.async false
set_option linter.all false
set_option maxRecDepth 100000
set_option maxHeartbeats 0
set_option bootstrap.genMatcherCode false
set_option tactic.hygienic false
set_option hygiene false
set_option backward.match.sparseCases false
set_option compiler.extract_closed false
set_option genInjectivity false
set_option genSizeOf false
set_option genSizeOfSpec false
open Int renaming add_comm->Xz,le_trans->nV,ofNat_sub->qJ,toNat->fU,toNat_sub->AB,zero_add->Xy,max_eq_left->vJ,max_eq_right->jZ,natCast_nonneg->aL,cast_ofNat_Int->gH,natCast_add->ei,natCast_mul->fV,toNat_natCast->gY,toNat_of_nonneg->E9,fdiv_eq_ediv_of_nonneg->yt,le_max_left->N4,add_sub_cancel->JC,ofNat_fmod->RE,natCast_inj->N3,fmod_eq_emod_of_nonneg->fD
open List renaming eq_nil_of_length_eq_zero->vo,getElem?_eq_getElem->az,getElem?_eq_none->jO,getElem?_toArray->jN,length_cons->aU,reverse_cons->lY,lookup->Xx,lookup_cons->cw,lookup_cons_self->jL,mem_of_getElem?->aT,replicate->bU,map_cons->bw,mem_cons->l0,mem_map_of_mem->iJ,nodup_cons->Mm,all_cons->cD,getElem?_append_left->bK,getElem?_concat_length->bW,mem_singleton->i9,filterMap_cons->EJ,getElem?_eq_none_iff->iC,any_cons->yD,getElem?_set_ne->Dq,getElem?_set_self->m9,size_toArray->JA,append_assoc->dj,zip_cons_cons->E7,zip_eq_zipWith->EE,length_map->ax,map_map->cK,foldl->YK,foldl_cons->eh,replicate_succ->pL,getElem?_map->bF,getElem_range->E8,length_range->bJ,range->aE,drop_eq_getElem_cons->lI,drop_eq_nil_of_le->AN,forIn_cons->Mp,append_nil->cb,dropLast_eq_take->BX,drop_sublist->JB,filterMap->N1,length_drop->mK,length_take->dA,take_of_length_le->AK,take_sublist->Jz,getElem?_append_right->bG,getElem?_drop->gA,getElem?_take->ja,length_append->aD,mem_of_mem_drop->o4,mem_of_mem_take->j',mem_append_left->fT,mem_append_right->jK,take_append_drop->jI,map_nil->kO,length->eP,forall_mem_nil->EH,not_mem_nil->tw,length_reverse->dH,map->aP,map_append->bx,getD_eq_getElem?_getD->aI,getElem?_cons_succ->mN,length_replicate->jM,map_set->Sg,mem_range->gk,length_nil->Mo,mem_range'->Mn,range'->Dp,dropLast_concat_getLast->gM,dropWhile_cons->iK,filter->hZ,length_singleton->aV,reverse_append->EF,reverse_singleton->AL,singleton_append->jJ,length_filter_le->oF,getLast_eq_getElem->mL,any_eq_false->sj,ext_getElem->mO,map_congr_left->gi,range_succ->nU,range_succ_eq_map->AM,sum_append->nT,sum_cons->lZ,append_ne_nil_of_right_ne_nil->qH,cons_ne_nil->cF,flatMap_cons->cW,getElem?_range->EG,getElem_mem->mM,flatMap_append->EI,mem_cons_self->qG,mem_cons_of_mem->o5,mem_append->i8,dropWhile_sublist->ju,map_reverse->JM,takeWhile->xf,takeWhile_append_dropWhile->jD,takeWhile_prefix->BW
open Nat renaming add_le_add->au,add_le_add_left->iS,add_right_cancel->pG,add_right_comm->cZ,add_sub_cancel_left->mY,le_max_left->gP,le_trans->ai,not_le_of_lt->Mk,sub_add_cancel->jl,add_div_right->JL,ble->fX,div_lt_of_lt_mul->pF,le_of_ble_eq_true->ae,le_of_eq->ar,le_of_not_lt->dD,mul_add_div->NZ,mul_add_mod->NY,succ_ne_zero->vm,lt_irrefl->eK,ne_of_gt->nS,le_of_lt->cN,le_refl->aJ,le_succ_of_le->ba,ne_of_lt->iA,succ_pos->eJ,sub_pos_of_lt->JK,zero_le->bH,lt_succ_self->fx,le_succ->pE,mul_le_mul_right->dy,le_antisymm->gQ,min_self->Xv,sub_le->Jw,add_sub_cancel->lE,le_add_right->a9,mul_le_mul_left->kM,log2_lt->YI,le_add_left->aM,lt_of_lt_of_le->eG,lt_succ_of_le->eS,succ_le_succ->bE,add_assoc->qF,add_sub_cancel'->kN,le_max_right->cU,lt_of_lt_of_eq->Jy,lt_of_not_le->ck,max_eq_right->iB,sub_self->Xr,zero_add->d9,min_eq_left->N0,one_mul->EC,add_comm->sV,lt_of_le_of_lt->dz,add_le_add_right->pH,add_zero->Xw,div_eq_of_lt->Ml,max_eq_left->oD,mul_add->YH,mul_succ->BU,mul_zero->Xu,not_lt_zero->vH,zero_mul->BR,add_left_cancel->EZ,add_mul->YJ,le_add_of_sub_le->kg,le_of_lt_succ->jz,pos_of_ne_zero->Jx,sub_le_sub_right->EA,succ_mul->sU,mod_lt->d',mul_le_mul->lD,not_lt_of_le->vn,lt_trans->BV,sub_le_of_le_add->EB,min_le_left->oA
open Bool renaming false->ao,true->aj,and_eq_true->aw,false_or->qD,true_and->qC,not_eq_true'->dk,and_false->N5,or_false->yG,or_eq_false_iff->ka,or_eq_true->gO,false_eq_true->cQ,not_true->yH,and_self->l5,eq_iff_iff->eT,false_ne_true->Fb,eq_false_or_eq_true->yI,or_true->sm,noConfusion->jR
open Option renaming none->aC,some->ah,none->dW,bind_some->hM
open PySem renaming Addr->aA,DictEntry->dK,FuncData->oQ,Obj->gy,Params->aB,Program->jt,Stmt->cn,Value->aK,Env->vK,OsState->ey,Pos->si,World->dC,Heap->dR,Shared->aS,Str->aF,call->Xq,Around->fR,TriplesOk->yo,CmpOp->yF,Expr->aW,Model->yC,Operator->eI,wpAny_BinOp->iP,wpAny_Constant_int->vj,wpAny_Name->vi,wpAny_isTrue_Compare1->qA,wpAny_loadName_cell->sM,wpAny_loadName_free->sL,wpAny_loadName_local->gg,wpAny_mono->aq,wpAny_truthy_bool->m1,wpAny_storeName_local->ij,wpAny_Assign_Name->ir,wpAny_If->Mg,wpAny_Return_some->ff,wpAny_execs_cons->cB,wpAny_execs_nil->gc,wpAny_bind->ak,wpAny_field->kQ,wpAny_newObj_type->m5,wpAny_pure->ay,wpAny_setField->rH,NameKind->oP,Result->rJ,Scope->cJ,codeAny_call_function->qB,codeAny_func->Js,codeAny_mono->eR,wpAny_newFunctionEnv_cells->BL,Keyword->iu,arm_eval_Call->nR,evalArgs_kw->iQ,wpAny_call->dP,wpAny_evalAll_nil->er,wpAny_holding->bo,wpAny_of_eq->m4,wpAny_standAt->dm,wpAny_List->Ru,wpAny_allTrue_And_cons->Jq,wpAny_allTrue_Or_cons->JI,wpAny_isTrue_Not->Xh,MulOk->Sf,PyData->eF,noFill_list_add->Yy,typeIs_str->fQ,aRefKeyMayBeTheName_at->Jt,pastItsLine_dict->Xl,wpAny_askSetting->yk,wpAny_loadPart->gG,wpAny_lookBehind->Xg,wpAny_mkText->Jp,wpAny_updatePart->Xf,assign->mW,arm_assign_Attribute->Mj,wpAny_Assign_stores->NW,wpAny_bindName->abG,JoinOk->gb,args_list_append->Xm,call_meets->kJ,entry_list_append->Se,getMethod_builtin->jY,slot_list_append->Xj,typeIs_int->Rv,slot_list_setitem->Sa,wpAny_callSpecial?_slot->EU,wpAny_call_entry->Xi,wpAny_pyIter_list->R',wpAny_load->vh,wpAny_newFunctionEnv->Me,wpAny_comprehension_free->Eu,length_partsBetween->lH,sliceBounds_plain->Sb,sliceRange_one->abH,wpAny_Try_except->yl,wpAny_alloc->Mf,codeAny_builtin->hH,codeAny_call_builtin_code->Dl,builtinLookup_eq_fast->ik,callType_codes->abJ,codeAny_of_tree->pJ,entryFor_of_tree->oM,isSubtype_type->eW,plainId_quiet->tq,typeLookup_type->ly,wpAny_callSpecial?_none->EW,wpAny_fieldsOf->BM,wpAny_specialOf->Yx,codeAny_call_builtin->Mi,fastTable_eq_tree->Sd,wpAny_rule->Rt,codeAny_call_builtin_at->EY,entry_typeCall->abI,wpAny_isInstance->yj,wpAny_updateSeq->pI,wpAny_seqItems->abF,wpAny_Call_NameR->ym,wpAny_loadPart_at->m6
open PySem.Challenge renaming pw_mq0429_01->RD,rw_mq0429_01->RC
open PySem.PyData renaming keyHash->dv,eqv->bA,canLayAll0->cT,depthAll->dw,str->bq,canLay0->fu,depth->e9,int->aG,tuple->km,eqvAll->fb,list->d8,strOk->NX
open PySem.Str renaming ofString->aa,length_append->bp,join->Rz
open PySem.Heap renaming mk->Sh,SameBut->gB,get?_push_of_some->bD,get?_push_size->bb,get?_update_other->cv,get?_update_self->bQ,lt_size->bR,ExtBut->vp,size_push->jv,get?_update_ne->EK
open PySem.W.Fast renaming te10110043849684766642->cq,te14364793385576792824->cp,te9446332074065402090->YA
open PySem.W renaming piece_app->sf,cellsFrom_some->BO,Looks->gh,callWith_of->jC,Frag->hJ,any_some->vF,looks_clsIn->yy,set_plain->Xk,mg_none_of->BN,mg_of->Mh,looks_findIn->ew,looks_mroIn->rI,handedOut_of->Jr,check_slot->Rx,looks_specialIn->Az,special_fn->Rw,OwitIt->Jv,ReadsAllW->Xp
open Array renaming getElem?_toList->di,isEmpty->N6,length_toList->dh,any_toList->mC,toList_push->rM,getElem?_eq_getElem->lF,getElem?_eq_none_iff->vM,getD_eq_getD_getElem?->kL,append_empty->EL
open PyProof.Rows renaming AllBare->vN,truthy_int->YB,eq_str->YF,Subscript_->Ry,Attribute_any_->abO,assign_Tuple_tuple->vk,neg_int->YE,range_getD->YD,add_str->YG,split_pos->se,split_len->YC
open PySem.Calls renaming Constant_str->dZ,Name_function_global->dE,loadGlobal_builtin->jy,loadGlobal_global->m7,spliced_cons->cA,spliced_nil->d6
open Ne renaming symm->gu
open PySem.OldK renaming staticOf_congr->Ez
open PySem.EntryCells renaming newEntry->yu
open PySem.Obj renaming data_mapFields->rK,isFreed_of_fields->oN,mapFields->j9,putName->vv,mapSeq->dJ
open PySem.Value renaming none->dU,ref->cg,bool->Ew,type->cz,builtin->yn,str->ip
open Classical renaming byContradiction->gZ
open Prod.mk renaming inj->AA
open PySem.Around renaming frames_deeper->AO,under_plainId->jS
open PySem.Keeper renaming boundFrame->qI,frame->yE,machine->oG
open PySem.W.Looks renaming ld->mB,of_pure->fY,here->ED,of_peek->yr
open Option.some renaming inj->dG
open PySem.P renaming truthy_str->BP,gt_int->Ju,str_of_int->BQ
open PySem.Builtin.Str renaming occurrences->tx,strSliceIndices->abM,glued->fy
open PySem.F renaming args_list_add_2->xe,entry_list_add->yq,slot_list_add->yA,args_str_split_2->lB,entry_str_split->lX,plainAttrs_str->gq,slot_str_join->js,slot_str_split->jk,slot_int_rmul->yB,slot_str_find->yz,slot_str_replace->lz,type_str_join->mX,type_str_replace->vG,entry_extend_loop->kR,plain_extend_loop->fC
open PySem.SeqAt renaming shaped->dQ
open PySem.Txt renaming mul->sP,slice->dX,count->dY,join->aY,split->aO,stripChars->iq,replace->bX
open PySem.Data renaming fields->XA
open PySem.Heap.SameBut renaming update->gR
open Nat.succ renaming inj->pK
open PySem.Sem renaming wp_release->yp
open And renaming intro->AP
open PySem.GM renaming noRef->kl
open PySem.Builtin.List renaming listFitsIndex->YR,listSubscript?->YO,listTooLong->YN,listExtendWith->YS,listItems->YQ,listSameRef->sk,listTouch->YM,listUpdate->YL
open PySem.IsRange renaming new->N2
open ForInStep renaming yield->fB
open PySem.NameKind renaming free->oO
open PySem.Env renaming blockKind->Sj
open PySem.Expr renaming Name->dg,Constant->fZ
open PySem.AutoIntOps renaming pow_0->abZ,pow_4->abY
open PySem.Builtin.Int renaming intBits->mZ,intTooBig->abN
open PySem.Const renaming str->jP
open PySem.StrLaws renaming occ_length_le->jr,found_one->Dn,glued_eq_join->eg,join_split->iR,split_free->kK,join_length_le->eY,sumLen_le->gL
open Eq renaming trans->Si
open Iff renaming rfl->l4
open Nat.le renaming dest->oE
open PySem.Manifest renaming find?->tv
open PySem.Bind renaming checkArgs->xg,madeBy->vq,staticBase->Mq
open PySem.Code renaming quiet_builtin->k9
open PySem.Builtin.Deque renaming clear->vw,items->XF,new->XE,newArgs->XC,size->vL,ty->XB
open Max renaming max->bP
open PySem.CmpOp renaming NotEq->j3,In->BY
open PySem.callAny renaming viaDunder->Dm
open PySem.Stmt renaming Raise->xd
open List.cons renaming inj->dn
open PySem.Sre renaming M->JJ,Seen->sQ,accepts->Yz,forSearch->qE,inSet->AH,isWord->abK
open PySem.Sre.M renaming step->Xo
open PUnit renaming unit->Ey
open PySem.Heap.ExtBut renaming refl->abL
open PySem.Shared renaming heap->AJ
open PySem.W.WData renaming int->sO
open PySem PySem.W PyProof.Rows PySem.Calls Builtin Builtin.ObjectAttr Builtin.Str
open PySem.Str renaming ofString → oS

local macro_rules | `(($a,$b,*)) => `(⟨$a,$b,*⟩)
local macro_rules | `('k') => `(by kernel_rfl)
local macro_rules | `('d') => `(by decide)
namespace Internal
theorem cH{T:Prop}(h:∀G:Prop,(T ->G)->G):T:=h T id
theorem nsQ{P:Prop}(h:aC=ah q):P:=nomatch h
theorem snQ{P:Prop}(h:ah q=aC):P:=nomatch h
theorem tfQ{P:Prop}(h:aj=ao):P:=nomatch h
theorem ftQ{P:Prop}(h:ao=aj):P:=nomatch h
end Internal
local macro_rules | `(tactic| omega) => `(tactic| first | (simp +arith only; done) | (simp +arith only [Int.natCast_add, Int.natCast_mul, Int.cast_ofNat_Int]; done) | decide | omega +splitDisjunctions)
local macro_rules | `(tactic| kspl_open zNR) => `(tactic| first | exact trivial | with_reducible assumption | exact nr_ints | exact nr_strs | exact NRA_wsA | exact NRL_intV | exact NRA_wsObj _ | exact NR_wsV | exact NRL_wsP | exact NRL_witsW | assumption | (refine ⟨?_, ?_⟩ <;> kspl_open zNR))
local macro_rules | `(tactic| cases $h:ident) => `(tactic| first | exact Internal.nsQ $h | exact Internal.snQ $h | exact Internal.tfQ $h | exact Internal.ftQ $h | (replace $h:ident := Option.some.inj $h; subst $h:ident) | cases ($h))
section
set_option backward.match.sparseCases true
namespace Internal
theorem i3{H:Sort _}{Q:Sort _}{p:H ->Q ->Prop}(a:H)(b:Q)(h:p a b):p a b:=h
theorem i4{H:Sort _}{Q:Sort _}{q:H ->Q ->Prop}(a:H)(b:Q)(h:False):q a b:=h.elim
theorem Yn{n m i:Nat}(e:n=m -i)(h:i<m):m -(i+1)<n:=by subst e;omega
theorem ZW{Q:Type _}{l:List Q}(h:l≠[]):l.length -1<l.length:=Nat.pred_lt λe=>h<|vo e
theorem sbr{i j n:Nat}(H:n<=i)(Q:n<=j)(e:i -n=j -n):i=j:=(jl H).symm.trans ((congrArg (·+n) e).trans<|jl Q)
theorem rls{a b c:Nat}(h:a+1<=b):a<=max (b -1) c:=ai (Nat.le_sub_one_of_lt h)<|gP ..
theorem j5{l r a b:Nat}(h:l<=r)(e:a+r<=b+l):a<=b:=Nat.le_of_add_le_add_right<|ai (iS h a) e
theorem RM{l r:Nat}(h:l<=r)(e:r<l):False:=Mk e h
theorem ZN{l r a b:Nat}(h:l=r)(e:a+r=b+l):a=b:=pG<|h▸e
theorem qU{l r a b:Nat}(h:l<=r)(e:a+r<b+l):a<b:=j5 (a:=a+1) h<|cZ a 1 r▸e
theorem rS{l r Q r2 a b:Nat}(h:l<=r)(H:Q<=r2)(e:a+(r+r2)<=b+(l+Q)):a<=b:=j5 (au h H) e
theorem MH{l r Q r2 a b:Nat}(h:l<=r)(H:Q<=r2)(e:a+(r+r2)<b+(l+Q)):a<b:=qU (au h H) e
theorem XM{l r Q r2:Nat}(h:l<=r)(H:Q<=r2)(e:r+r2<l+Q):False:=RM (au h H) e
theorem qp2{l r Q r2 a b:Nat}(h:l=r)(H:Q=r2)(e:a+(r+r2)=b+(l+Q)):a=b:=ZN (congr (congrArg _ h) H) e
theorem ZP{l r H r2 Q r3 a b:Nat}(h:l<=r)(D:H<=r2)(U:Q<=r3)(e:a+(r+r2+r3)<=b+(l+H+Q)):a<=b:=j5 (au (au h D) U) e
theorem qm3{l r H r2 Q r3 a b:Nat}(h:l<=r)(D:H<=r2)(U:Q<=r3)(e:a+(r+r2+r3)<b+(l+H+Q)):a<b:=qU (au (au h D) U) e
theorem ZO{l r H r2 Q r3:Nat}(h:l<=r)(D:H<=r2)(U:Q<=r3)(e:r+r2+r3<l+H+Q):False:=RM (au (au h D) U) e
theorem qn4{l r U r2 H r3 Q r4 a b:Nat}(h:l<=r)(u:U<=r2)(E:H<=r3)(D:Q<=r4)(e:a+(r+r2+r3+r4)<=b+(l+U+H+Q)):a<=b:=j5 (au (au (au h u) E) D) e
theorem Tw{l r a b:Int}(h:l<=r)(e:a+r<=b+l):a<=b:=Int.le_of_add_le_add_right<|nV (Int.add_le_add_left h a) e
theorem XN{a b:Nat}(h:a<=b):(a:Int)<=b:=Int.ofNat_le.mpr h
theorem qcL{a b:Nat}(h:a<b):(a:Int)<b:=Int.ofNat_lt.mpr h
theorem RK{a:Nat}:((a:Int)).toNat=a:=rfl
theorem ZL{a b:Nat}:((a:Int) -b).toNat=a -b:=AB a b
theorem O'{a b:Nat}:a+b -a=b:=mY ..
theorem qsb{a b:Nat}(h:b<=a):((a -b:Nat):Int)=(a:Int) -b:=qJ h
theorem ZM{n:Nat}:(-1+((n+1:Nat):Int)).toNat=n:=by rw[Int.natCast_succ,Xz (n:Int),<-Int.add_assoc];exact congrArg fU<|Xy _
section
variable{G:Prop} {a:Sort _} {b:Sort _} {c:Sort _} {d:Sort _} {e:Sort _} {p0 p1 p2 p3 p4 p5 p6 p7 p8 p9 RN XO p12:Prop} {q0 q1 q2 q3 q4 q5 q6 q7 q8 q9 q10 q11 q12:a ->Prop} {r0 r1 r2 r3 r4 r5 r6 r7 r8 r9 r10 r11 r12:a ->b ->Prop} {s0 s1 s2 s3 s4 s5 s6 s7 s8 s9 s10 s11 s12:a ->b ->c ->Prop} {t0 t1 t2 t3 t4 t5 t6 t7 t8 t9 t10 t11 t12:a ->b ->c ->d ->Prop} {u0 u1 u2 u3 u4 u5 u6 u7 u8 u9 u10 u11 u12:a ->b ->c ->d ->e ->Prop}
theorem aR(h:∃Q,q0 Q/\q1 Q)(k:∀Q,q0 Q ->q1 Q ->G):G:=by obtain⟨D,U,H⟩:=h;exact k D U H
theorem eN(h:∃Q,q0 Q)(k:∀Q,q0 Q ->G):G:=by obtain⟨U,H⟩:=h;exact k U H
theorem bl(h:∃U H Q,s0 U H Q/\s1 U H Q)(k:∀U H Q,s0 U H Q ->s1 U H Q ->G):G:=by obtain⟨z,y,u,E,D⟩:=h;exact k z y u E D
theorem fk(h:p0/\p1)(k:p0 ->p1 ->G):G:=by obtain⟨H,Q⟩:=h;exact k H Q
theorem cj(h:∃H Q,r0 H Q/\r1 H Q/\r2 H Q)(k:∀H Q,r0 H Q ->r1 H Q ->r2 H Q ->G):G:=by obtain⟨y,u,E,D,U⟩:=h;exact k y u E D U
theorem f7(h:∃H Q,r0 H Q/\r1 H Q)(k:∀H Q,r0 H Q ->r1 H Q ->G):G:=by obtain⟨u,E,D,U⟩:=h;exact k u E D U
theorem jo(h:∃Q,q0 Q/\q1 Q/\q2 Q)(k:∀Q,q0 Q ->q1 Q ->q2 Q ->G):G:=by obtain⟨E,D,U,H⟩:=h;exact k E D U H
theorem uM(h:∃H Q,r0 H Q)(k:∀H Q,r0 H Q ->G):G:=by obtain⟨E,D,U⟩:=h;exact k E D U
theorem e7(h:∃D U H Q,t0 D U H Q/\t1 D U H Q/\t2 D U H Q/\t3 D U H Q/\t4 D U H Q/\t5 D U H Q)(k:∀D U H Q,t0 D U H Q ->t1 D U H Q ->t2 D U H Q ->t3 D U H Q ->t4 D U H Q ->t5 D U H Q ->G):G:=by obtain⟨y0,y1,y2,y3,m,j,z,y,u,E⟩:=h;exact k y0 y1 y2 y3 m j z y u E
theorem ji(h:∃U H Q,s0 U H Q/\s1 U H Q/\s2 U H Q)(k:∀U H Q,s0 U H Q ->s1 U H Q ->s2 U H Q ->G):G:=by obtain⟨j,z,y,u,E,D⟩:=h;exact k j z y u E D
theorem jW(h:p0/\∃H Q,r1 H Q/\r2 H Q)(k:p0 ->∀H Q,r1 H Q ->r2 H Q ->G):G:=by obtain⟨y,u,E,D,U⟩:=h;exact k y u E D U
theorem ej(h:∃E D U H Q,u0 E D U H Q/\u1 E D U H Q/\u2 E D U H Q/\u3 E D U H Q)(k:∀E D U H Q,u0 E D U H Q ->u1 E D U H Q ->u2 E D U H Q ->u3 E D U H Q ->G):G:=by obtain⟨y0,y1,y2,y3,m,j,z,y,u⟩:=h;exact k y0 y1 y2 y3 m j z y u
theorem fF(h:p0/\p1/\p2/\p3/\∃H Q,r4 H Q/\r5 H Q)(k:p0 ->p1 ->p2 ->p3 ->∀H Q,r4 H Q ->r5 H Q ->G):G:=by obtain⟨m,j,z,y,u,E,D,U⟩:=h;exact k m j z y u E D U
theorem mq(h:∃Q,q0 Q/\q1 Q/\q2 Q/\q3 Q)(k:∀Q,q0 Q ->q1 Q ->q2 Q ->q3 Q ->G):G:=by obtain⟨u,E,D,U,H⟩:=h;exact k u E D U H
theorem uN(h:∃Q,q0 Q/\∃H,r1 Q H)(k:∀Q,q0 Q ->∀H,r1 Q H ->G):G:=by obtain⟨u,E,D,U⟩:=h;exact k u E D U
theorem lT(h:∃U H Q,s0 U H Q/\s1 U H Q/\s2 U H Q/\s3 U H Q/\s4 U H Q)(k:∀U H Q,s0 U H Q ->s1 U H Q ->s2 U H Q ->s3 U H Q ->s4 U H Q ->G):G:=by obtain⟨y0,m,j,z,y,u,E,D⟩:=h;exact k y0 m j z y u E D
theorem j7(h:p0/\p1/\p2/\p3)(k:p0 ->p1 ->p2 ->p3 ->G):G:=by obtain⟨D,U,H,Q⟩:=h;exact k D U H Q
theorem om(h:∃D U H Q,t0 D U H Q/\t1 D U H Q)(k:∀D U H Q,t0 D U H Q ->t1 D U H Q ->G):G:=by obtain⟨m,j,z,y,u,E⟩:=h;exact k m j z y u E
theorem oo(h:∃H Q,r0 H Q/\r1 H Q/\∃U,s2 H Q U)(k:∀H Q,r0 H Q ->r1 H Q ->∀U,s2 H Q U ->G):G:=by obtain⟨j,z,y,u,E,D⟩:=h;exact k j z y u E D
theorem Im(h:∃U H Q,s0 U H Q/\s1 U H Q/\s2 U H Q/\s3 U H Q)(k:∀U H Q,s0 U H Q ->s1 U H Q ->s2 U H Q ->s3 U H Q ->G):G:=by obtain⟨m,j,z,y,u,E,D⟩:=h;exact k m j z y u E D
theorem x6(h:∃Q,q0 Q/\q1 Q/\∃H,r2 Q H)(k:∀Q,q0 Q ->q1 Q ->∀H,r2 Q H ->G):G:=by obtain⟨y,u,E,D,U⟩:=h;exact k y u E D U
theorem Ai(h:∃H Q,r0 H Q/\r1 H Q/\r2 H Q/\r3 H Q/\r4 H Q)(k:∀H Q,r0 H Q ->r1 H Q ->r2 H Q ->r3 H Q ->r4 H Q ->G):G:=by obtain⟨j,z,y,u,E,D,U⟩:=h;exact k j z y u E D U
theorem uO(h:p0/\p1/\p2/\p3/\p4/\p5/\p6)(k:p0 ->p1 ->p2 ->p3 ->p4 ->p5 ->p6 ->G):G:=by obtain⟨y,u,E,D,U,H,Q⟩:=h;exact k y u E D U H Q
theorem mn(h:∃U H Q,s0 U H Q/\s1 U H Q/\s2 U H Q/\s3 U H Q/\s4 U H Q/\s5 U H Q)(k:∀U H Q,s0 U H Q ->s1 U H Q ->s2 U H Q ->s3 U H Q ->s4 U H Q ->s5 U H Q ->G):G:=by obtain⟨y0,y1,m,j,z,y,u,E,D⟩:=h;exact k y0 y1 m j z y u E D
theorem vC(h:p0/\p1/\p2)(k:p0 ->p1 ->p2 ->G):G:=by obtain⟨U,H,Q⟩:=h;exact k U H Q
theorem Ah(h:∃E D U H Q,u0 E D U H Q/\u1 E D U H Q)(k:∀E D U H Q,u0 E D U H Q ->u1 E D U H Q ->G):G:=by obtain⟨y0,y1,m,j,z,y,u⟩:=h;exact k y0 y1 m j z y u
theorem C4(h:p0/\p1/\p2/\p3/\∃Q,q4 Q)(k:p0 ->p1 ->p2 ->p3 ->∀Q,q4 Q ->G):G:=by obtain⟨y,u,E,D,U,H⟩:=h;exact k y u E D U H
theorem C3(h:∃H Q,r0 H Q/\∃U,s1 H Q U/\s2 H Q U)(k:∀H Q,r0 H Q ->∀U,s1 H Q U ->s2 H Q U ->G):G:=by obtain⟨j,z,y,u,E,D⟩:=h;exact k j z y u E D
theorem qm(h:∃D U H Q,t0 D U H Q/\t1 D U H Q/\t2 D U H Q)(k:∀D U H Q,t0 D U H Q ->t1 D U H Q ->t2 D U H Q ->G):G:=by obtain⟨y0,m,j,z,y,u,E⟩:=h;exact k y0 m j z y u E
theorem Nx(h:p0/\p1/\∃Q,q2 Q)(k:p0 ->p1 ->∀Q,q2 Q ->G):G:=by obtain⟨E,D,U,H⟩:=h;exact k E D U H
theorem x5(h:∃H Q,r0 H Q/\r1 H Q/\r2 H Q/\r3 H Q)(k:∀H Q,r0 H Q ->r1 H Q ->r2 H Q ->r3 H Q ->G):G:=by obtain⟨z,y,u,E,D,U⟩:=h;exact k z y u E D U
theorem VJ(h:p0/\∃H Q,r1 H Q)(k:p0 ->∀H Q,r1 H Q ->G):G:=by obtain⟨u,E,D,U⟩:=h;exact k u E D U
theorem uP(h:p0/\p1/\p2/\p3/\p4)(k:p0 ->p1 ->p2 ->p3 ->p4 ->G):G:=by obtain⟨E,D,U,H,Q⟩:=h;exact k E D U H Q
theorem bM(Q:a)(U:q0 Q)(H:q1 Q):∃Q,q0 Q/\q1 Q:=(Q,U,H)
theorem cy(D:p0)(U:p1)(H:p2)(Q:p3):p0/\p1/\p2/\p3:=(D,U,H,Q)
theorem br(U:a)(H:b)(Q:c)(E:s0 U H Q)(D:s1 U H Q):∃U H Q,s0 U H Q/\s1 U H Q:=(U,H,Q,E,D)
theorem f'(H:a)(Q:b)(D:r0 H Q)(U:r1 H Q):∃H Q,r0 H Q/\r1 H Q:=(H,Q,D,U)
theorem ek(H:a)(Q:b)(E:r0 H Q)(D:r1 H Q)(U:r2 H Q):∃H Q,r0 H Q/\r1 H Q/\r2 H Q:=(H,Q,E,D,U)
theorem eU(E:p0)(D:p1)(U:p2)(H:p3)(Q:p4):p0/\p1/\p2/\p3/\p4:=(E,D,U,H,Q)
theorem qp(H:a)(Q:b)(u:r0 H Q)(E:r1 H Q)(D:r2 H Q)(U:r3 H Q):∃H Q,r0 H Q/\r1 H Q/\r2 H Q/\r3 H Q:=(H,Q,u,E,D,U)
theorem gn(U:a)(H:b)(Q:c)(u:s0 U H Q)(E:s1 U H Q)(D:s2 U H Q):∃U H Q,s0 U H Q/\s1 U H Q/\s2 U H Q:=(U,H,Q,u,E,D)
theorem jG(y:p0)(u:p1)(E:p2)(D:p3)(U:p4)(H:p5)(Q:p6):p0/\p1/\p2/\p3/\p4/\p5/\p6:=(y,u,E,D,U,H,Q)
theorem iI(u:p0)(E:p1)(D:p2)(U:p3)(H:p4)(Q:p5):p0/\p1/\p2/\p3/\p4/\p5:=(u,E,D,U,H,Q)
theorem gJ(u:p0)(H:a)(Q:b)(E:r1 H Q)(D:r2 H Q)(U:r3 H Q):p0/\∃H Q,r1 H Q/\r2 H Q/\r3 H Q:=(u,H,Q,E,D,U)
theorem uQ(Q:a)(D:q0 Q)(U:q1 Q)(H:q2 Q):∃Q,q0 Q/\q1 Q/\q2 Q:=(Q,D,U,H)
theorem fH(z:p0)(y:p1)(u:p2)(E:p3)(D:p4)(U:p5)(H:p6)(Q:p7):p0/\p1/\p2/\p3/\p4/\p5/\p6/\p7:=(z,y,u,E,D,U,H,Q)
theorem mu(E:p0)(H:a)(Q:b)(D:r1 H Q)(U:r2 H Q):p0/\∃H Q,r1 H Q/\r2 H Q:=(E,H,Q,D,U)
theorem gp(j:p0)(z:p1)(y:p2)(u:p3)(E:p4)(D:p5)(U:p6)(H:p7)(Q:p8):p0/\p1/\p2/\p3/\p4/\p5/\p6/\p7/\p8:=(j,z,y,u,E,D,U,H,Q)
theorem e8(D:a)(U:b)(H:c)(Q:d)(m:t0 D U H Q)(j:t1 D U H Q)(z:t2 D U H Q)(y:t3 D U H Q)(u:t4 D U H Q)(E:t5 D U H Q):∃D U H Q,t0 D U H Q/\t1 D U H Q/\t2 D U H Q/\t3 D U H Q/\t4 D U H Q/\t5 D U H Q:=(D,U,H,Q,m,j,z,y,u,E)
theorem fG(z:p0)(y:p1)(u:p2)(E:p3)(H:a)(Q:b)(D:r4 H Q)(U:r5 H Q):p0/\p1/\p2/\p3/\∃H Q,r4 H Q/\r5 H Q:=(z,y,u,E,H,Q,D,U)
theorem rA(Q:a)(E:q0 Q)(D:q1 Q)(U:q2 Q)(H:q3 Q):∃Q,q0 Q/\q1 Q/\q2 Q/\q3 Q:=(Q,E,D,U,H)
theorem pw(Q:a)(E:q0 Q)(D:q1 Q)(H:b)(U:r2 Q H):∃Q,q0 Q/\q1 Q/\∃H,r2 Q H:=(Q,E,D,H,U)
theorem Lw(H:a)(Q:b)(U:r0 H Q):∃H Q,r0 H Q:=(H,Q,U)
theorem qo(U:a)(H:b)(Q:c)(y:s0 U H Q)(u:s1 U H Q)(E:s2 U H Q)(D:s3 U H Q):∃U H Q,s0 U H Q/\s1 U H Q/\s2 U H Q/\s3 U H Q:=(U,H,Q,y,u,E,D)
theorem lU(U:a)(H:b)(Q:c)(z:s0 U H Q)(y:s1 U H Q)(u:s2 U H Q)(E:s3 U H Q)(D:s4 U H Q):∃U H Q,s0 U H Q/\s1 U H Q/\s2 U H Q/\s3 U H Q/\s4 U H Q:=(U,H,Q,z,y,u,E,D)
theorem mv(h0:p0)(m:p1)(j:p2)(z:p3)(y:p4)(u:p5)(E:p6)(D:p7)(U:p8)(H:p9)(Q:RN):p0/\p1/\p2/\p3/\p4/\p5/\p6/\p7/\p8/\p9/\RN:=(h0,m,j,z,y,u,E,D,U,H,Q)
theorem gz(h0:p0)(h1:p1)(m:p2)(j:p3)(z:p4)(y:p5)(u:p6)(E:p7)(D:p8)(U:p9)(H:RN)(Q:XO):p0/\p1/\p2/\p3/\p4/\p5/\p6/\p7/\p8/\p9/\RN/\XO:=(h0,h1,m,j,z,y,u,E,D,U,H,Q)
theorem El(Q:a)(z:q0 Q)(y:q1 Q)(u:q2 Q)(E:q3 Q)(D:q4 Q)(U:q5 Q)(H:q6 Q):∃Q,q0 Q/\q1 Q/\q2 Q/\q3 Q/\q4 Q/\q5 Q/\q6 Q:=(Q,z,y,u,E,D,U,H)
theorem nH(h0:p0)(h1:p1)(h2:p2)(m:p3)(j:p4)(z:p5)(y:p6)(u:p7)(E:p8)(D:p9)(U:RN)(H:XO)(Q:p12):p0/\p1/\p2/\p3/\p4/\p5/\p6/\p7/\p8/\p9/\RN/\XO/\p12:=(h0,h1,h2,m,j,z,y,u,E,D,U,H,Q)
theorem Lx(u:p0)(E:p1)(D:p2)(U:p3)(Q:a)(H:q4 Q):p0/\p1/\p2/\p3/\∃Q,q4 Q:=(u,E,D,U,Q,H)
theorem kY(m:p0)(j:p1)(z:p2)(y:p3)(u:p4)(E:p5)(D:p6)(U:p7)(H:p8)(Q:p9):p0/\p1/\p2/\p3/\p4/\p5/\p6/\p7/\p8/\p9:=(m,j,z,y,u,E,D,U,H,Q)
theorem pq(U:a)(H:b)(Q:c)(j:s0 U H Q)(z:s1 U H Q)(y:s2 U H Q)(u:s3 U H Q)(E:s4 U H Q)(D:s5 U H Q):∃U H Q,s0 U H Q/\s1 U H Q/\s2 U H Q/\s3 U H Q/\s4 U H Q/\s5 U H Q:=(U,H,Q,j,z,y,u,E,D)
theorem Ek(D:a)(U:b)(H:c)(Q:d)(z:t0 D U H Q)(y:t1 D U H Q)(u:t2 D U H Q)(E:t3 D U H Q):∃D U H Q,t0 D U H Q/\t1 D U H Q/\t2 D U H Q/\t3 D U H Q:=(D,U,H,Q,z,y,u,E)
theorem Ip(H:a)(Q:b)(y:r0 H Q)(u:r1 H Q)(E:r2 H Q)(D:r3 H Q)(U:r4 H Q):∃H Q,r0 H Q/\r1 H Q/\r2 H Q/\r3 H Q/\r4 H Q:=(H,Q,y,u,E,D,U)
theorem iH(E:a)(D:b)(U:c)(H:d)(Q:e)(h0:u0 E D U H Q)(h1:u1 E D U H Q)(h2:u2 E D U H Q)(h3:u3 E D U H Q)(m:u4 E D U H Q)(j:u5 E D U H Q)(z:u6 E D U H Q)(y:u7 E D U H Q)(u:u8 E D U H Q):∃E D U H Q,u0 E D U H Q/\u1 E D U H Q/\u2 E D U H Q/\u3 E D U H Q/\u4 E D U H Q/\u5 E D U H Q/\u6 E D U H Q/\u7 E D U H Q/\u8 E D U H Q:=(E,D,U,H,Q,h0,h1,h2,h3,m,j,z,y,u)
theorem Aj(y:p0)(u:p1)(E:p2)(H:a)(Q:b)(D:r3 H Q)(U:r4 H Q):p0/\p1/\p2/\∃H Q,r3 H Q/\r4 H Q:=(y,u,E,H,Q,D,U)
theorem Io(D:a)(U:b)(H:c)(Q:d)(y:t0 D U H Q)(u:t1 D U H Q)(E:t2 D U H Q):∃D U H Q,t0 D U H Q/\t1 D U H Q/\t2 D U H Q:=(D,U,H,Q,y,u,E)
theorem pn(E:a)(D:b)(U:c)(H:d)(Q:e)(j:u0 E D U H Q)(z:u1 E D U H Q)(y:u2 E D U H Q)(u:u3 E D U H Q):∃E D U H Q,u0 E D U H Q/\u1 E D U H Q/\u2 E D U H Q/\u3 E D U H Q:=(E,D,U,H,Q,j,z,y,u)
theorem qq(Q:a)(h0:q0 Q)(U:b)(H:c)(m:s1 Q U H)(j:s2 Q U H)(E:d)(D:e)(z:u3 Q U H E D)(y:u4 Q U H E D)(u:u5 Q U H E D):∃Q,q0 Q/\∃U H,s1 Q U H/\s2 Q U H/\∃E D,u3 Q U H E D/\u4 Q U H E D/\u5 Q U H E D:=(Q,h0,U,H,m,j,E,D,z,y,u)
theorem C5(Q:a)(u:q0 Q)(E:q1 Q)(D:q2 Q)(U:q3 Q)(H:q4 Q):∃Q,q0 Q/\q1 Q/\q2 Q/\q3 Q/\q4 Q:=(Q,u,E,D,U,H)
theorem Nz(D:p0)(Q:a)(U:q1 Q)(H:q2 Q):p0/\∃Q,q1 Q/\q2 Q:=(D,Q,U,H)
theorem C6(u:p0)(E:p1)(H:a)(Q:b)(D:r2 H Q)(U:r3 H Q):p0/\p1/\∃H Q,r2 H Q/\r3 H Q:=(u,E,H,Q,D,U)
end
end Internal
end
namespace Internal.Hd
noncomputable abbrev PR:jt:=RD
noncomputable abbrev N:aK:=.none
noncomputable abbrev t0:aK:=.bool ao
noncomputable abbrev t1:aK:=.bool aj
noncomputable abbrev I(i:Int)(t:Nat):aK:=.int i t
noncomputable abbrev J(i:Int):aK:=.int i 0
noncomputable abbrev S(x:String)(t:Nat):aK:=.str (aa x) t
noncomputable abbrev C(x:List Nat)(t:Nat):aK:=.str ⟨x.toArray⟩ t
noncomputable abbrev Y(x:String):aK:=.type x
noncomputable abbrev B(x:String):aK:=.builtin x
noncomputable abbrev R(a:Nat):aK:=.ref a
noncomputable abbrev e(P:aB)(x:String)(t:Nat)(v:aK):dK:=(dv P<|aa x,.str (aa x) t,v)
noncomputable abbrev d(c:aK)(l:List dK)(n:Nat):gy:=(c,aC,.dict l.toArray n,#[])
noncomputable abbrev T(l:List aK):gy:=(.type "tuple",aC,.seq l.toArray 0,#[])
noncomputable abbrev q(c:aK)(l:List aK)(n:Nat):gy:=(c,aC,.seq l.toArray n,#[])
noncomputable abbrev Z:gy:=(.none,aC,.fields #[],#[])
noncomputable abbrev fd(c:aK)(l:List aK):gy:=(c,aC,.fields l.toArray,#[])
noncomputable abbrev pl(c:aK)(Q:Option aA)(l:List (Option aK)):gy:=(c,Q,.plain,l.toArray)
noncomputable abbrev cl(n:String)(bs mro:List aK)(ns:aA)(ql:String)(hd:Bool)(Q:List aK)(H:List (Option aK)):gy:=
 (.type "type",aC,.cls {name:=aa n,bases:=bs,mro:=mro,ns:=ns,qualname:=aa ql,hasDict:=hd,subclasses:=Q},H.toArray)
noncomputable def top:List cn:=behindTheImports PR
noncomputable def f0(i:Nat):cn:=(top[i]?).getD<|.Pass (0,0,0,0)
noncomputable def f1(i j:Nat):cn:=match f0 i with
 | .ClassDef _ _ _ b _ _ _ _ _ _ _=>(b[j]?).getD (.Pass (0,0,0,0))
 |_=>.Pass (0,0,0,0)
noncomputable def Br(s:cn)(ql:String)(gl:aA)(df kd pm cd:aK):oQ:=match s with
 | .FunctionDef n a b _ _ _ sc _ _ _=>{name:=n,qualname:=aa ql,params:=a,body:=.stmts b,scope:=sc,globals:=gl,closure:=[],defaults:=df,kwdefaults:=kd,pyModule:=pm,code:=cd}
 |_=>default
noncomputable abbrev uG(s:cn)(ql:String):gy:=(.none,aC,.func<|Br s ql 0 .none .none .none .none,#[])
noncomputable abbrev iN(s:cn)(ql:String)(df kd pm cd:aK):gy:=(.type "function",aC,.func<|Br s ql 3 df kd pm cd,#[])
noncomputable def cat:List (List gy)->List gy
 |[]=>[]
 |l::r=>l++cat r
noncomputable def vs:Nat ->List String ->List aK
 |_,[]=>[]
 |t,x::r=>S x t::vs (t+1) r
noncomputable abbrev K(n:Nat):aK:=S "/claim/cut.py" n
noncomputable def CD(a q:String)(t:Nat)(ln x y z k:Int)(r:Nat)(f u v w:aK)(n:Nat):gy:=fd (Y "code") [S a t,S q<|t+1,K<|t+2,J ln,J x,J y,J z,J k,R r,f,J 318,R<|r+1,N,u,v,w,J n,J ln,K<|n+1]
noncomputable def FR(a b:Nat)(m:aK):gy:=pl (Y "frame") aC [ah<|R a,ah<|R 3,ah<|R b,aC,ah m,aC,ah<|R 0]
noncomputable def gD(t r:Nat):gy:=fd (Y "getset_descriptor") [S "__dict__" t,R r,B "function.__dict__",B "function.__dict__#set"]
noncomputable def gW(t r:Nat):gy:=fd (Y "getset_descriptor") [S "__weakref__" t,R r,B "ExceptionGroup.__weakref__",N]
noncomputable def dq(l m:List dK):List dK:=l.take 1++l.drop 2++m
noncomputable def m2(P:aB):List dK:=[e P "\x69mport.loaded._sre" 183 t1,e P "class._frozen_importlib.BuiltinImporter" 185<|R 14,e P "watched.\x69mport" 206<|R 18,e P "class._frozen_importlib.ModuleSpec" 216<|R 22,e P "sys.modules.booked-epoch" 245<|J 4,e P "\x69mport.later-laid._sre" 270 t1,e P "watched.library" 272<|R 27,e P "watched.library-objects" 0<|S "\x0c\x1e" 0,e P "watched.library-deep._sre" 273<|S "\x04\x00\x00\x0b\x04\x00\x00\x0b\x04\x00\x00\x03\x04\x00\x00\x0b\x08\x04dict\x02" 0,e P "\x69mport.loaded._collections" 280 t1,e P "sys.modules.landed._collections" 294 t1,e P "\x69mport.later-laid._collections" 309 t1,e P "watched.library-deep._collections" 311<|S "\x04\x00\x00\x1d\x04\x00\x00\x1d\x04\x00\x00\x03\x04\x00\x00\x1d\x08\x04dict\x02" 0,e P "type.__subclasses__.OSError.0" 407<|J 73,e P "type.__subclasses__.OSError.n" 408<|J 1,e P "type.__subclasses__.Exception.0" 1307<|J 797,e P "type.__subclasses__.Exception.n" 1308<|J 1]
noncomputable def m3(P:aB):List dK:=[e P "__doc__" 166 N,e P "__package__" 167 N,e P "__loader__" 168<|B "__main__.__loader__#opaque",e P "__spec__" 169 N,e P "__annotations__" 170<|R 6,e P "__builtins__" 171<|R 4,e P "__file__" 173<|S "/claim/cut.py" 172,e P "__cached__" 174 N,e P "_sre" 275<|R 12,e P "deque" 317<|Y "collections.deque",e P "_wall" 330<|R 44,e P "_twin_re_1" 370<|R 49,e P "_whence" 380<|R 56,e P "_index" 388<|R 63,e P "UnsupportedOperation" 410<|R 73,e P "IOBase" 442<|R 93,e P "BufferedIOBase" 460<|R 108,e P "TextIOBase" 478<|R 120,e P "BytesIO" 740<|R 350,e P "StringIO" 1027<|R 597,e P "_kind" 1038<|R 606,e P "_fspath" 1047<|R 613,e P "_check_arg_types" 1057<|R 620,e P "isabs" 1064<|R 627,e P "join" 1075<|R 751,e P "join_path" 1076<|R 634,e P "dirname" 1086<|R 641,e P "shlex" 1227<|R 732,e P "split" 1237<|R 744,e P "join_shlex" 1245<|R 751,e P "_find_unsafe" 1247<|R 752,e P "quote" 1254<|R 759,e P "NannyNag" 1310<|R 797,e P "Whitespace" 1413<|R 862,e P "format_witnesses" 1422<|R 873,e P "_law_columns" 1435<|R 880,e P "_law_turned" 1443<|R 887,e P "_law_spelled" 1449<|R 892,e P "_law_plain" 1455<|R 897,e P "_law_row" 1461<|R 902,e P "_law_left" 1467<|R 907,e P "_law_complaint" 1473<|R 912,e P "_law_built" 1491<|R 919,e P "_law_judged" 1502<|R 926,e P "_law_read" 1517<|R 933,e P "law" 1523<|R 938]
noncomputable def c3(P:aB):List dK:=[e P "__module__" 396<|S "io" 401,e P "__qualname__" 398<|S "UnsupportedOperation" 397,e P "__firstlineno__" 400<|I 20 399,e P "__static_attributes__" 403<|R 71]
noncomputable def c6(P:aB):List dK:=[e P "__module__" 450<|S "io" 455,e P "__qualname__" 452<|S "BufferedIOBase" 451,e P "__firstlineno__" 454<|I 29 453,e P "__static_attributes__" 457<|R 106]
noncomputable def c7(P:aB):List dK:=[e P "__module__" 468<|S "io" 473,e P "__qualname__" 470<|S "TextIOBase" 469,e P "__firstlineno__" 472<|I 31 471,e P "__static_attributes__" 475<|R 118]
noncomputable def c8(P:aB):List dK:=[e P "__module__" 486<|S "_io" 491,e P "__qualname__" 488<|S "BytesIO" 487,e P "__firstlineno__" 490<|I 33 489,e P "__init__" 500<|R 137,e P "_BytesIO__check" 507<|R 144,e P "_BytesIO__line" 518<|R 151,e P "closed" 526<|R 159,e P "close" 533<|R 166,e P "__enter__" 540<|R 173,e P "__exit__" 548<|R 180,e P "readable" 555<|R 187,e P "writable" 562<|R 194,e P "seekable" 569<|R 201,e P "isatty" 576<|R 208,e P "flush" 583<|R 215,e P "fileno" 590<|R 222,e P "detach" 597<|R 229,e P "getvalue" 604<|R 236,e P "getbuffer" 611<|R 243,e P "tell" 618<|R 250,e P "seek" 628<|R 258,e P "truncate" 636<|R 266,e P "read" 648<|R 274,e P "read1" 658<|R 282,e P "readinto" 668<|R 289,e P "readinto1" 676<|R 296,e P "readline" 686<|R 304,e P "readlines" 694<|R 312,e P "__iter__" 701<|R 319,e P "__next__" 709<|R 326,e P "write" 719<|R 333,e P "writelines" 727<|R 340,e P "__repr__" 734<|R 347,e P "__static_attributes__" 737<|R 348]
noncomputable def c9(P:aB):List dK:=[e P "__module__" 748<|S "_io" 753,e P "__qualname__" 750<|S "StringIO" 749,e P "__firstlineno__" 752<|I 203 751,e P "__init__" 765<|R 367,e P "_StringIO__translated" 774<|R 374,e P "_StringIO__check" 781<|R 381,e P "_StringIO__check_dot" 788<|R 388,e P "_StringIO__line" 803<|R 395,e P "closed" 811<|R 403,e P "line_buffering" 819<|R 411,e P "newlines" 827<|R 419,e P "encoding" 835<|R 427,e P "errors" 843<|R 435,e P "close" 850<|R 442,e P "__enter__" 857<|R 449,e P "__exit__" 865<|R 456,e P "readable" 872<|R 463,e P "writable" 879<|R 470,e P "seekable" 886<|R 477,e P "isatty" 893<|R 484,e P "flush" 900<|R 491,e P "fileno" 907<|R 498,e P "detach" 914<|R 505,e P "getvalue" 921<|R 512,e P "tell" 928<|R 519,e P "seek" 938<|R 527,e P "truncate" 946<|R 535,e P "read" 958<|R 543,e P "readline" 968<|R 551,e P "readlines" 978<|R 559,e P "__iter__" 985<|R 566,e P "__next__" 993<|R 573,e P "write" 1005<|R 580,e P "writelines" 1013<|R 587,e P "__repr__" 1020<|R 594,e P "__static_attributes__" 1024<|R 595]
noncomputable def c10(P:aB):List dK:=[e P "__module__" 1096<|S "cpy313.shlex" 1087,e P "__qualname__" 1098<|S "shlex" 1097,e P "__firstlineno__" 1100<|I 473 1099,e P "__init__" 1112<|R 656,e P "punctuation_chars" 1120<|R 664,e P "push_token" 1128<|R 671,e P "push_source" 1137<|R 679,e P "pop_source" 1144<|R 686,e P "get_token" 1156<|R 693,e P "read_token" 1167<|R 700,e P "sourcehook" 1175<|R 707,e P "error_leader" 1184<|R 715,e P "__iter__" 1191<|R 722,e P "__next__" 1199<|R 729,e P "__static_attributes__" 1220<|R 730]
noncomputable def c11(P:aB):List dK:=[e P "__module__" 1264<|S "cpy313.tabnanny" 1255,e P "__qualname__" 1266<|S "NannyNag" 1265,e P "__firstlineno__" 1268<|I 744 1267,e P "__init__" 1278<|R 773,e P "get_lineno" 1285<|R 780,e P "get_msg" 1292<|R 787,e P "get_line" 1299<|R 794,e P "__static_attributes__" 1303<|R 795]
noncomputable def c12(P:aB):List dK:=[e P "__module__" 1318<|S "cpy313.tabnanny" 1255,e P "__qualname__" 1320<|S "Whitespace" 1319,e P "__firstlineno__" 1322<|I 757 1321,e P "S" 1326<|S " " 1324,e P "T" 1327<|S "\t" 1325,e P "__init__" 1342<|R 817,e P "longest_run_of_spaces" 1351<|R 824,e P "indent_level" 1363<|R 831,e P "equal" 1371<|R 838,e P "not_equal_witness" 1379<|R 845,e P "less" 1389<|R 852,e P "not_less_witness" 1400<|R 859,e P "__static_attributes__" 1406<|R 860]
noncomputable def FB(s:cn)(Q nm:String)(t:Nat)(ln a b c:Int)(r H U:Nat)(va:List String)(df kd D:aK):List gy:=
 [T [],Z,T<|vs U va,T [],uG s<|Q++nm,fd (Y "code") [S nm t,S (Q++nm)<|t+1,K<|t+2,J ln,J a,J b,J c,J 3,R r,t1,J 318,R<|r+1,N,R<|r+2,R<|r+3,R<|r+4,J H,J ln,K<|H+1],iN s (Q++nm) df kd D<|R<|r+5]
noncomputable def ob0(P:aB):List gy:=cat [
[boot_o_0 P,
d (Y "dict") [e P "builtins" 162<|R 4,e P "__main__" 163<|R 5,e P "_sre" 244<|R 12,e P "_collections" 292<|R 30] 4,
d N (m2 P) 17,
d (Y "dict") (e P "__name__" 165 (S "law_mq0429_01" 1423)::m3 P) 47,
pl (Y "module") (ah 0) [],
pl (Y "module") (ah 3) [],
d (Y "dict") [] 0,
T [],
Z,
fd (Y "code") [S "<module>" 176,S "<module>" 177,K 178,J 1,J 0,J 0,J 0,J 0,R 7,t0,J 175,R 8,N,N,N,N,J 179,J 1,K 180],
FR 9 3 (S "__main__" 164),
d (Y "dict") [e P "__name__" 247<|S "_sre" 246,e P "__doc__" 248 N,e P "__package__" 250<|S "" 249,e P "__loader__" 251<|B "off-the-table:_sre.__loader__:shared#opaque",e P "__spec__" 252<|B "off-the-table:_sre.__spec__:shared#opaque",e P "compile" 253<|B "_sre.compile",e P "template" 254<|B "off-the-table:_sre.template:shared#opaque",e P "getcodesize" 255<|B "off-the-table:_sre.getcodesize:shared#opaque",e P "ascii_iscased" 256<|B "off-the-table:_sre.ascii_iscased:shared#opaque",e P "unicode_iscased" 257<|B "off-the-table:_sre.unicode_iscased:shared#opaque",e P "ascii_tolower" 258<|B "off-the-table:_sre.ascii_tolower:shared#opaque",e P "unicode_tolower" 259<|B "off-the-table:_sre.unicode_tolower:shared#opaque",e P "MAGIC" 261<|I 20230612 260,e P "CODESIZE" 263<|I 4 262,e P "MAXREPEAT" 265<|I 4294967295 264,e P "MAXGROUPS" 267<|I 1073741823 266,e P "copyright" 269<|S " SRE 2.2.2 Copyright (c) 1997-2002 by Secret Labs AB " 268] 17,
pl (Y "module") (ah 11) [],
d (Y "dict") [e P "__module__" 189<|S "_frozen_importlib" 186,e P "__firstlineno__" 190<|I 971 187,e P "__doc__" 191<|B "_frozen_importlib.BuiltinImporter.__doc__:str#opaque",e P "_ORIGIN" 192<|S "built-in" 188,e P "find_spec" 193<|B "_frozen_importlib.BuiltinImporter.find_spec#opaque",e P "create_module" 194<|B "_frozen_importlib.BuiltinImporter.create_module#opaque",e P "exec_module" 195<|B "_frozen_importlib.BuiltinImporter.exec_module#opaque",e P "get_code" 196<|B "_frozen_importlib.BuiltinImporter.get_code#opaque",e P "get_source" 197<|B "_frozen_importlib.BuiltinImporter.get_source#opaque",e P "is_package" 198<|B "_frozen_importlib.BuiltinImporter.is_package#opaque",e P "load_module" 199<|B "_frozen_importlib.BuiltinImporter.load_module#opaque",e P "__static_attributes__" 200<|R 15,e P "__dict__" 202<|R 16,e P "__weakref__" 204<|R 17] 14,
cl "BuiltinImporter" [Y "object"] [R 14,Y "object"] 13 "BuiltinImporter" aj [] [],
T [],
gD 201 14,
gW 203 14,
q N [J 13,S "\x06½\n__module__\x06º\x11_frozen_importlib\x06¾\x0f__firstlineno__\x04»\x00ϋ\x06¿\x07__doc__\t4_frozen_importlib.BuiltinImporter.__doc__:str#opaque\x06À\x07_ORIGIN\x06¼\x08built-in\x06Á\tfind_spec\t2_frozen_importlib.BuiltinImporter.find_spec#opaque\x06Â\x0dcreate_module\t6_frozen_importlib.BuiltinImporter.create_module#opaque\x06Ã\x0bexec_module\t4_frozen_importlib.BuiltinImporter.exec_module#opaque\x06Ä\x08get_code\t1_frozen_importlib.BuiltinImporter.get_code#opaque\x06Å\nget_source\t3_frozen_importlib.BuiltinImporter.get_source#opaque\x06Æ\nis_package\t3_frozen_importlib.BuiltinImporter.is_package#opaque\x06Ç\x0bload_module\t4_frozen_importlib.BuiltinImporter.load_module#opaque\x06È\x15__static_attributes__\x04\x00\x00\x0f\x06Ê\x08__dict__\x04\x00\x00\x10\x06Ì\x0b__weakref__\x04\x00\x00\x11" 0,t1,t1,S "" 205,J 21,S "\x06ã\n__module__\x06Ù\x11_frozen_importlib\x06ä\x0f__firstlineno__\x04Ú\x00Ȳ\x06å\x07__doc__\t/_frozen_importlib.ModuleSpec.__doc__:str#opaque\x06æ\x08__init__\t,_frozen_importlib.ModuleSpec.__init__#opaque\x06ç\x08__repr__\t,_frozen_importlib.ModuleSpec.__repr__#opaque\x06è\x06__eq__\t*_frozen_importlib.ModuleSpec.__eq__#opaque\x06é\x06cached\t*_frozen_importlib.ModuleSpec.cached#opaque\x06ê\x06parent\t*_frozen_importlib.ModuleSpec.parent#opaque\x06ë\x0chas_location\t0_frozen_importlib.ModuleSpec.has_location#opaque\x06ì\x15__static_attributes__\x04\x00\x00\x17\x06î\x08__dict__\x04\x00\x00\x18\x06ð\x0b__weakref__\x04\x00\x00\x19\x06ñ\x08__hash__\x00" 0,t1,t1,S "" 242] 1,
q (Y "list") [] 0,
d (Y "dict") [e P "name" 208<|S "_sre" 207,e P "loader" 209<|R 14,e P "origin" 210<|S "built-in" 184,e P "loader_state" 211 N,e P "submodule_search_locations" 212 N,e P "_uninitialized_submodules" 213<|R 19,e P "_set_fileattr" 214 t0,e P "_cached" 215 N,e P "_initializing" 243 t0] 9,
d (Y "dict") [e P "__module__" 227<|S "_frozen_importlib" 217,e P "__firstlineno__" 228<|I 562 218,e P "__doc__" 229<|B "_frozen_importlib.ModuleSpec.__doc__:str#opaque",e P "__init__" 230<|B "_frozen_importlib.ModuleSpec.__init__#opaque",e P "__repr__" 231<|B "_frozen_importlib.ModuleSpec.__repr__#opaque",e P "__eq__" 232<|B "_frozen_importlib.ModuleSpec.__eq__#opaque",e P "cached" 233<|B "_frozen_importlib.ModuleSpec.cached#opaque",e P "parent" 234<|B "_frozen_importlib.ModuleSpec.parent#opaque",e P "has_location" 235<|B "_frozen_importlib.ModuleSpec.has_location#opaque",e P "__static_attributes__" 236<|R 23,e P "__dict__" 238<|R 24,e P "__weakref__" 240<|R 25,e P "__hash__" 241 N] 13,
cl "ModuleSpec" [Y "object"] [R 22,Y "object"] 21 "ModuleSpec" aj [] [],
T [S "_cached" 219,S "_set_fileattr" 220,S "_uninitialized_submodules" 221,S "loader" 222,S "loader_state" 223,S "name" 224,S "origin" 225,S "submodule_search_locations" 226],
gD 237 22,
gW 239 22,
pl (R 22) (ah 20) [],
q N [J 11,(C [6,247,8,95,95,110,97,109,101,95,95,6,246,4,95,115,114,101,6,248,7,95,95,100,111,99,95,95,0,6,250,11,95,95,112,97,99,107,97,103,101,95,95,6,249,0,6,251,10,95,95,108,111,97,100,101,114,95,95,4,0,0,14,6,252,8,95,95,115,112,101,99,95,95,4,0,0,26,6,253,7,99,111,109,112,105,108,101,9,12,95,115,114,101,46,99,111,109,112,105,108,101,6,254,8,116,101,109,112,108,97,116,101,9,13,95,115,114,101,46,116,101,109,112,108,97,116,101,6,255,11,103,101,116,99,111,100,101,115,105,122,101,9,16,95,115,114,101,46,103,101,116,99,111,100,101,115,105,122,101,6,256,13,97,115,99,105,105,95,105,115,99,97,115,101,100,9,18,95,115,114,101,46,97,115,99,105,105,95,105,115,99,97,115,101,100,6,257,15,117,110,105,99,111,100,101,95,105,115,99,97,115,101,100,9,20,95,115,114,101,46,117,110,105,99,111,100,101,95,105,115,99,97,115,101,100,6,258,13,97,115,99,105,105,95,116,111,108,111,119,101,114,9,18,95,115,114,101,46,97,115,99,105,105,95,116,111,108,111,119,101,114,6,259,15,117,110,105,99,111,100,101,95,116,111,108,111,119,101,114,9,20,95,115,114,101,46,117,110,105,99,111,100,101,95,116,111,108,111,119,101,114,6,261,5,77,65,71,73,67,4,260,0,20230612,6,263,8,67,79,68,69,83,73,90,69,4,262,0,4,6,265,9,77,65,88,82,69,80,69,65,84,4,264,0,4294967295,6,267,9,77,65,88,71,82,79,85,80,83,4,266,0,1073741823,6,269,9,99,111,112,121,114,105,103,104,116,6,268,53,32,83,82,69,32,50,46,50,46,50,32,67,111,112,121,114,105,103,104,116,32,40,99,41,32,49,57,57,55,45,50,48,48,50,32,98,121,32,83,101,99,114,101,116,32,76,97,98,115,32,65,66,32] 0),t1,t0,S "_sre" 271,J 29,S "\x06Ĩ\x08__name__\x06ħ\x0c_collections\x06ĩ\x07__doc__\t\x1f_collections.__doc__:str#opaque\x06ī\x0b__package__\x06Ī\x00\x06Ĭ\n__loader__\x04\x00\x00\x0e\x06ĭ\x08__spec__\x04\x00\x00!\x06Į\x0f_count_elements\t\x1c_collections._count_elements\x06į\x05deque\x08\x11collections.deque\x06İ\x0bdefaultdict\x08\x17collections.defaultdict\x06ı\x0f_deque_iterator\x08\x1bcollections._deque_iterator\x06Ĳ\x17_deque_reverse_iterator\x08#collections._deque_reverse_iterator\x06ĳ\x0c_tuplegetter\x08\x18collections._tuplegetter\x06Ĵ\x0bOrderedDict\x08\x17collections.OrderedDict" 0,t1,t0,S "_collections" 310] 1,
T [S "deque" 277],
d (Y "dict") [e P "__name__" 296<|S "_collections" 295,e P "__doc__" 297<|B "off-the-table:_collections.__doc__:shared#opaque",e P "__package__" 299<|S "" 298,e P "__loader__" 300<|B "off-the-table:_collections.__loader__:shared#opaque",e P "__spec__" 301<|B "off-the-table:_collections.__spec__:shared#opaque",e P "_count_elements" 302<|B "_collections._count_elements",e P "deque" 303<|Y "collections.deque",e P "defaultdict" 304<|Y "collections.defaultdict",e P "_deque_iterator" 305<|B "off-the-table:_collections._deque_iterator:shared#opaque",e P "_deque_reverse_iterator" 306<|B "off-the-table:_collections._deque_reverse_iterator:shared#opaque",e P "_tuplegetter" 307<|Y "collections._tuplegetter",e P "OrderedDict" 308<|Y "collections.OrderedDict"] 12,
pl (Y "module") (ah 29) [],
q (Y "list") [] 0,
d (Y "dict") [e P "name" 283<|S "_collections" 282,e P "loader" 284<|R 14,e P "origin" 285<|S "built-in" 281,e P "loader_state" 286 N,e P "submodule_search_locations" 287 N,e P "_uninitialized_submodules" 288<|R 31,e P "_set_fileattr" 289 t0,e P "_cached" 290 N,e P "_initializing" 291 t0] 9,
pl (R 22) (ah 32) [],
T [],
fd N [J 3,J 0,R 43,J 8,J 0,R 55,J 13,J 0,R 62,J 20,J 0,R 69,J 22,J 0,R 82,J 29,J 0,R 104,J 31,J 0,R 116,J 33,J 0,R 128,J 203,J 0,R 358,J 409,J 0,R 605,J 430,J 0,R 612,J 435,J 0,R 619,J 440,J 0,R 626,J 443,J 0,R 633,J 464,J 0,R 640,J 473,J 0,R 647,J 725,J 0,R 743,J 733,J 0,R 750,J 737,J 0,R 758,J 744,J 0,R 765,J 757,J 0,R 806,J 818,J 0,R 872,J 825,J 0,R 879,J 833,J 0,R 886,J 836,J 0,R 891,J 842,J 0,R 896,J 844,J 0,R 901,J 864,J 0,R 906,J 871,J 0,R 911,J 876,J 0,R 918,J 891,J 0,R 925,J 901,J 0,R 932,J 919,J 0,R 937],
CD "<module>" "<module>" 319 1 0 0 0 0 34 t0 N N N 322,
FR 36 3 (S "__main__" 164)],
FB (f0 0) "" "_wall" 324 3 1 0 0 38 328 327 ["k"] N N (S "__main__" 164),
[q (Y "list") [I 14 334,I 17 335,I 4 336,I 1 337,I 1 338,I 21 339,I 9 340,I 0 341,I 604043296 342,I 1 343,I 0 344,I 0 345,I 0 346,I 0 347,I 0 348,I 8 349,I 4 350,I 0 351,I 13 352,I 14 353,I 21 354,I 9 355,I 0 356,I 604043296 357,I 1 358,I 0 359,I 0 360,I 0 361,I 0 362,I 0 363,I 8 364,I 4 365,I 0 366,I 1 367] 0,
d (Y "dict") [] 0,
T [N],
T [J 14,J 17,J 4,J 1,J 1,J 21,J 9,J 0,J 604043296,J 1,J 0,J 0,J 0,J 0,J 0,J 8,J 4,J 0,J 13,J 14,J 21,J 9,J 0,J 604043296,J 1,J 0,J 0,J 0,J 0,J 0,J 8,J 4,J 0,J 1],
fd (Y "re.Pattern") [S "[^\\w@%+=:,./-]" 332,I 256 369,J 0,N,N,R 48,J 0]],
FB (f0 3) "" "_whence" 373 8 2 0 0 50 378 376 ["n","what"] N N (S "io" 371),
[T [],
Z,
T [S "n" 384,S "what" 385]]]
noncomputable def ob1(P:aB):List gy:=cat [
[T [],
uG (f0 4) "_index",
CD "_index" "_index" 381 13 2 0 0 3 57 t1 (R 59) (R 60) (R 61) 386,
iN (f0 4) "_index" N N (S "io" 371) (R 62),
T [Y "OSError",Y "ValueError"],
fd (Y "builtin_function_or_method") [B "type.__prepare__",Y "type"],
d (Y "dict") (c3 P) 4,
T [],
Z,
CD "UnsupportedOperation" "UnsupportedOperation" 391 20 0 0 0 0 67 t0 N N N 394,
FR 69 66 (S "io" 371),
T [],
d (Y "dict") (dq (c3 P) [e P "__weakref__" 405<|R 74,e P "__doc__" 406 N]) 3,
cl "UnsupportedOperation" [Y "OSError",Y "ValueError"] [R 73,Y "OSError",Y "ValueError",Y "Exception",Y "BaseException",Y "object"] 72 "UnsupportedOperation" aj [] [ah<|R 64,aC,ah<|S "UnsupportedOperation" 389,ah<|S "UnsupportedOperation" 397,ah<|B "OSError.__new__",ah t1],
gW 404 73,
fd (Y "super") [R 73,R 73,R 73],
fd (Y "builtin_function_or_method") [B "object.__init_subclass__",R 73],
T [],
fd (Y "builtin_function_or_method") [B "type.__prepare__",Y "type"],
d (Y "dict") [e P "__module__" 418<|S "io" 423,e P "__qualname__" 420<|S "IOBase" 419,e P "__firstlineno__" 422<|I 22 421,e P "__new__" 433<|R 90,e P "__static_attributes__" 434<|R 91] 5,
T [],
fd N [J 25,J 4,R 89],
CD "IOBase" "IOBase" 413 22 0 0 0 0 80 t0 N N N 416,
FR 82 79 (S "io" 371),
T [],
Z,
T [S "cls" 428,S "args" 429,S "kwargs" 430],
T [],
uG (f1 6 1) "IOBase.__new__",
CD "__new__" "IOBase.__new__" 425 25 1 1 0 15 84 t1 (R 86) (R 87) (R 88) 431,
iN (f1 6 1) "IOBase.__new__" N N (S "io" 371) (R 89),
T [],
d (Y "dict") [e P "__module__" 418<|S "io" 423,e P "__firstlineno__" 422<|I 22 421,e P "__new__" 433<|R 94,e P "__static_attributes__" 434<|R 91,e P "__dict__" 437<|R 95,e P "__weakref__" 439<|R 96,e P "__doc__" 440 N] 4,
cl "IOBase" [Y "object"] [R 93,Y "object"] 92 "IOBase" aj [R 108,R 120] [aC,aC,ah<|S "IOBase" 411,ah<|S "IOBase" 419,ah N,ah t1],
fd (Y "staticmethod") [R 90],
gD 436 93,
gW 438 93,
fd (Y "super") [R 93,R 93,R 93],
fd (Y "builtin_function_or_method") [B "object.__init_subclass__",R 93],
T [R 93],
fd (Y "builtin_function_or_method") [B "type.__prepare__",Y "type"],
d (Y "dict") (c6 P) 4,
T [],
Z,
CD "BufferedIOBase" "BufferedIOBase" 445 29 0 0 0 0 102 t0 N N N 448,
FR 104 101 (S "io" 371),
T [],
d (Y "dict") (dq (c6 P) [e P "__doc__" 458 N]) 2,
cl "BufferedIOBase" [R 93] [R 108,R 93,Y "object"] 107 "BufferedIOBase" aj [R 350] [ah<|R 99,aC,ah<|S "BufferedIOBase" 443,ah<|S "BufferedIOBase" 451,ah N,ah t1],
fd (Y "super") [R 108,R 108,R 108],
fd (Y "builtin_function_or_method") [B "object.__init_subclass__",R 108],
T [R 93],
fd (Y "builtin_function_or_method") [B "type.__prepare__",Y "type"],
d (Y "dict") (c7 P) 4,
T [],
Z,
CD "TextIOBase" "TextIOBase" 463 31 0 0 0 0 114 t0 N N N 466,
FR 116 113 (S "io" 371),
T [],
d (Y "dict") (dq (c7 P) [e P "__doc__" 476 N]) 2]]
noncomputable def ob2(P:aB):List gy:=cat [
[cl "TextIOBase" [R 93] [R 120,R 93,Y "object"] 119 "TextIOBase" aj [R 597] [ah<|R 111,aC,ah<|S "TextIOBase" 461,ah<|S "TextIOBase" 469,ah N,ah t1],
fd (Y "super") [R 120,R 120,R 120],
fd (Y "builtin_function_or_method") [B "object.__init_subclass__",R 120],
T [R 108],
fd (Y "builtin_function_or_method") [B "type.__prepare__",Y "type"],
d (Y "dict") (c8 P) 34,
T [],
fd N [J 36,J 4,R 136,J 42,J 4,R 143,J 46,J 4,R 150,J 60,J 4,R 157,J 63,J 4,R 165,J 66,J 4,R 172,J 70,J 4,R 179,J 73,J 4,R 186,J 77,J 4,R 193,J 81,J 4,R 200,J 85,J 4,R 207,J 89,J 4,R 214,J 92,J 4,R 221,J 95,J 4,R 228,J 98,J 4,R 235,J 101,J 4,R 242,J 104,J 4,R 249,J 108,J 4,R 257,J 125,J 4,R 265,J 128,J 4,R 273,J 142,J 4,R 281,J 145,J 4,R 288,J 159,J 4,R 295,J 162,J 4,R 303,J 169,J 4,R 311,J 172,J 4,R 318,J 175,J 4,R 325,J 182,J 4,R 332,J 198,J 4,R 339,J 201,J 4,R 346],
CD "BytesIO" "BytesIO" 481 33 0 0 0 0 126 t0 N N N 484,
FR 128 125 (S "io" 371),
T [N]],
FB (f1 9 1) "BytesIO." "__init__" 493 36 2 0 0 131 498 496 ["self","initial_bytes"] (R 130) N (S "io" 371),
FB (f1 9 2) "BytesIO." "__check" 501 42 1 0 0 138 505 504 ["self"] N N (S "io" 371),
FB (f1 9 3) "BytesIO." "__line" 508 46 2 0 0 145 516 511 ["self","limit","start","stop","i"] N N (S "io" 371),
FB (f1 9 4) "BytesIO." "closed" 519 59 1 0 0 152 523 522 ["self"] N N (S "io" 371),
[fd (Y "property") [R 158,N,N,N,S "closed" 526,t0]],
FB (f1 9 5) "BytesIO." "close" 527 63 1 0 0 160 531 530 ["self"] N N (S "io" 371),
FB (f1 9 6) "BytesIO." "__enter__" 534 66 1 0 0 167 538 537 ["self"] N N (S "io" 371),
[T [],
Z,
T [S "self" 544,S "args" 545],
T [],
uG (f1 9 7) "BytesIO.__exit__",
CD "__exit__" "BytesIO.__exit__" 541 70 1 0 0 7 174 t1 (R 176) (R 177) (R 178) 546]]
noncomputable def XQ(P:aB):List gy:=cat [
[iN (f1 9 7) "BytesIO.__exit__" N N (S "io" 371)<|R 179],
FB (f1 9 8) "BytesIO." "readable" 549 73 1 0 0 181 553 552 ["self"] N N (S "io" 371),
FB (f1 9 9) "BytesIO." "writable" 556 77 1 0 0 188 560 559 ["self"] N N (S "io" 371),
FB (f1 9 10) "BytesIO." "seekable" 563 81 1 0 0 195 567 566 ["self"] N N (S "io" 371),
FB (f1 9 11) "BytesIO." "isatty" 570 85 1 0 0 202 574 573 ["self"] N N (S "io" 371),
FB (f1 9 12) "BytesIO." "flush" 577 89 1 0 0 209 581 580 ["self"] N N (S "io" 371),
FB (f1 9 13) "BytesIO." "fileno" 584 92 1 0 0 216 588 587 ["self"] N N (S "io" 371),
FB (f1 9 14) "BytesIO." "detach" 591 95 1 0 0 223 595 594 ["self"] N N (S "io" 371),
FB (f1 9 15) "BytesIO." "getvalue" 598 98 1 0 0 230 602 601 ["self"] N N (S "io" 371),
[T [],
Z,
T [S "self" 608]]]
noncomputable def ob4(P:aB):List gy:=cat [
[T [],
uG (f1 9 16) "BytesIO.getbuffer",
CD "getbuffer" "BytesIO.getbuffer" 605 101 1 0 0 3 237 t1 (R 239) (R 240) (R 241) 609,
iN (f1 9 16) "BytesIO.getbuffer" N N (S "io" 371) (R 242)],
FB (f1 9 17) "BytesIO." "tell" 612 104 1 0 0 244 616 615 ["self"] N N (S "io" 371),
[T [I 0 619]],
FB (f1 9 18) "BytesIO." "seek" 620 108 3 3 0 252 626 623 ["self","pos","whence"] (R 251) N (S "io" 371),
[T [N]],
FB (f1 9 19) "BytesIO." "truncate" 629 125 2 2 0 260 634 632 ["self","size"] (R 259) N (S "io" 371),
[T [(I (-1) 638)]],
FB (f1 9 20) "BytesIO." "read" 639 128 2 2 0 268 646 642 ["self","size","start","stop"] (R 267) N (S "io" 371),
[T [(I (-1) 650)]],
FB (f1 9 21) "BytesIO." "read1" 651 142 2 2 0 276 656 654 ["self","size"] (R 275) N (S "io" 371),
FB (f1 9 22) "BytesIO." "readinto" 659 145 2 2 0 283 666 662 ["self","buffer","start","n"] N N (S "io" 371),
FB (f1 9 23) "BytesIO." "readinto1" 669 159 2 2 0 290 674 672 ["self","buffer"] N N (S "io" 371),
[T [(I (-1) 678)],
T [],
Z]]
noncomputable def ob5(P:aB):List gy:=cat [
[T [S "self" 682,S "size" 683],
T [],
uG (f1 9 24) "BytesIO.readline",
CD "readline" "BytesIO.readline" 679 162 2 2 0 3 298 t1 (R 300) (R 301) (R 302) 684,
iN (f1 9 24) "BytesIO.readline" (R 297) N (S "io" 371) (R 303),
T [N]],
FB (f1 9 25) "BytesIO." "readlines" 687 169 2 2 0 306 692 690 ["self","size"] (R 305) N (S "io" 371),
FB (f1 9 26) "BytesIO." "__iter__" 695 172 1 0 0 313 699 698 ["self"] N N (S "io" 371),
FB (f1 9 27) "BytesIO." "__next__" 702 175 1 0 0 320 707 705 ["self","line"] N N (S "io" 371),
FB (f1 9 28) "BytesIO." "write" 710 182 2 2 0 327 717 713 ["self","b","n","start"] N N (S "io" 371),
FB (f1 9 29) "BytesIO." "writelines" 720 198 2 2 0 334 725 723 ["self","lines"] N N (S "io" 371),
FB (f1 9 30) "BytesIO." "__repr__" 728 201 1 0 0 341 732 731 ["self"] N N (S "io" 371),
[T [S "__buf" 735,S "__pos" 736],
d (Y "dict") (dq (c8 P) [e P "__doc__" 738 N]) 2,
cl "BytesIO" [R 108] [R 350,R 108,R 93,Y "object"] 349 "BytesIO" aj [] [ah<|R 123,aC,ah<|S "BytesIO" 479,ah<|S "BytesIO" 487,ah N,ah t1],
fd (Y "super") [R 350,R 350,R 350],
fd (Y "builtin_function_or_method") [B "object.__init_subclass__",R 350],
T [R 120],
fd (Y "builtin_function_or_method") [B "type.__prepare__",Y "type"],
d (Y "dict") (c9 P) 36,
T [],
fd N [J 206,J 4,R 366,J 219,J 4,R 373,J 227,J 4,R 380,J 231,J 4,R 387,J 235,J 4,R 394,J 268,J 4,R 401,J 272,J 4,R 409,J 276,J 4,R 417,J 280,J 4,R 425,J 284,J 4,R 433,J 287,J 4,R 441,J 290,J 4,R 448,J 294,J 4,R 455,J 297,J 4,R 462,J 301,J 4,R 469,J 305,J 4,R 476,J 309,J 4,R 483,J 313,J 4,R 490,J 316,J 4,R 497,J 319,J 4,R 504,J 322,J 4,R 511,J 325,J 4,R 518,J 329,J 4,R 526,J 346,J 4,R 534,J 349,J 4,R 542,J 363,J 4,R 550,J 370,J 4,R 558,J 373,J 4,R 565,J 377,J 4,R 572,J 384,J 4,R 579,J 403,J 4,R 586,J 406,J 4,R 593],
CD "StringIO" "StringIO" 743 203 0 0 0 0 356 t0 N N N 746,
FR 358 355 (S "io" 371)]]
noncomputable def ob6(P:aB):List gy:=cat [
[T [S "" 755,S "\n" 756]],
FB (f1 10 1) "StringIO." "__init__" 757 206 3 0 0 361 763 760 ["self","initial_value","newline"] (R 360) N (S "io" 371),
FB (f1 10 2) "StringIO." "__translated" 766 219 2 0 0 368 772 769 ["self","s","newline"] N N (S "io" 371),
FB (f1 10 3) "StringIO." "__check" 775 227 1 0 0 375 779 778 ["self"] N N (S "io" 371),
FB (f1 10 4) "StringIO." "__check_dot" 782 231 1 0 0 382 786 785 ["self"] N N (S "io" 371),
FB (f1 10 5) "StringIO." "__line" 789 235 2 0 0 389 801 792 ["self","limit","start","stop","cut","newline","i","j","end"] N N (S "io" 371),
FB (f1 10 6) "StringIO." "closed" 804 267 1 0 0 396 808 807 ["self"] N N (S "io" 371),
[fd (Y "property") [R 402,N,N,N,S "closed" 811,t0]],
FB (f1 10 7) "StringIO." "line_buffering" 812 271 1 0 0 404 816 815 ["self"] N N (S "io" 371),
[fd (Y "property") [R 410,N,N,N,S "line_buffering" 819,t0]],
FB (f1 10 8) "StringIO." "newlines" 820 275 1 0 0 412 824 823 ["self"] N N (S "io" 371),
[fd (Y "property") [R 418,N,N,N,S "newlines" 827,t0]]]
noncomputable def ob7(P:aB):List gy:=cat [
FB (f1 10 9) "StringIO." "encoding" 828 279 1 0 0 420 832 831 ["self"] N N (S "io" 371),
[fd (Y "property") [R 426,N,N,N,S "encoding" 835,t0]],
FB (f1 10 10) "StringIO." "errors" 836 283 1 0 0 428 840 839 ["self"] N N (S "io" 371),
[fd (Y "property") [R 434,N,N,N,S "errors" 843,t0]],
FB (f1 10 11) "StringIO." "close" 844 287 1 0 0 436 848 847 ["self"] N N (S "io" 371),
FB (f1 10 12) "StringIO." "__enter__" 851 290 1 0 0 443 855 854 ["self"] N N (S "io" 371),
[T [],
Z,
T [S "self" 861,S "args" 862],
T [],
uG (f1 10 13) "StringIO.__exit__",
CD "__exit__" "StringIO.__exit__" 858 294 1 0 0 7 450 t1 (R 452) (R 453) (R 454) 863,
iN (f1 10 13) "StringIO.__exit__" N N (S "io" 371) (R 455)],
FB (f1 10 14) "StringIO." "readable" 866 297 1 0 0 457 870 869 ["self"] N N (S "io" 371),
FB (f1 10 15) "StringIO." "writable" 873 301 1 0 0 464 877 876 ["self"] N N (S "io" 371),
FB (f1 10 16) "StringIO." "seekable" 880 305 1 0 0 471 884 883 ["self"] N N (S "io" 371),
[T [],
Z]]
noncomputable def ob8(P:aB):List gy:=cat [
[T [S "self" 890],
T [],
uG (f1 10 17) "StringIO.isatty",
CD "isatty" "StringIO.isatty" 887 309 1 0 0 3 478 t1 (R 480) (R 481) (R 482) 891,
iN (f1 10 17) "StringIO.isatty" N N (S "io" 371) (R 483)],
FB (f1 10 18) "StringIO." "flush" 894 313 1 0 0 485 898 897 ["self"] N N (S "io" 371),
FB (f1 10 19) "StringIO." "fileno" 901 316 1 0 0 492 905 904 ["self"] N N (S "io" 371),
FB (f1 10 20) "StringIO." "detach" 908 319 1 0 0 499 912 911 ["self"] N N (S "io" 371),
FB (f1 10 21) "StringIO." "getvalue" 915 322 1 0 0 506 919 918 ["self"] N N (S "io" 371),
FB (f1 10 22) "StringIO." "tell" 922 325 1 0 0 513 926 925 ["self"] N N (S "io" 371),
[T [I 0 929]],
FB (f1 10 23) "StringIO." "seek" 930 329 3 3 0 521 936 933 ["self","pos","whence"] (R 520) N (S "io" 371),
[T [N]],
FB (f1 10 24) "StringIO." "truncate" 939 346 2 2 0 529 944 942 ["self","pos"] (R 528) N (S "io" 371),
[T [(I (-1) 948)],
T [],
Z,
T [S "self" 952,S "size" 953,S "start" 954,S "stop" 955]]]
noncomputable def ob9(P:aB):List gy:=cat [
[T [],
uG (f1 10 25) "StringIO.read",
CD "read" "StringIO.read" 949 349 2 2 0 3 537 t1 (R 539) (R 540) (R 541) 956,
iN (f1 10 25) "StringIO.read" (R 536) N (S "io" 371) (R 542),
T [(I (-1) 960)]],
FB (f1 10 26) "StringIO." "readline" 961 363 2 2 0 545 966 964 ["self","size"] (R 544) N (S "io" 371),
[T [(I (-1) 970)]],
FB (f1 10 27) "StringIO." "readlines" 971 370 2 2 0 553 976 974 ["self","hint"] (R 552) N (S "io" 371),
FB (f1 10 28) "StringIO." "__iter__" 979 373 1 0 0 560 983 982 ["self"] N N (S "io" 371),
FB (f1 10 29) "StringIO." "__next__" 986 377 1 0 0 567 991 989 ["self","line"] N N (S "io" 371),
FB (f1 10 30) "StringIO." "write" 994 384 2 2 0 574 1003 997 ["self","s","n","m","start","buf"] N N (S "io" 371),
FB (f1 10 31) "StringIO." "writelines" 1006 403 2 2 0 581 1011 1009 ["self","lines"] N N (S "io" 371),
FB (f1 10 32) "StringIO." "__repr__" 1014 406 1 0 0 588 1018 1017 ["self"] N N (S "io" 371),
[T [S "__buf" 1021,S "__newline" 1022,S "__pos" 1023],
d (Y "dict") (dq (c9 P) [e P "__doc__" 1025 N]) 2,
cl "StringIO" [R 120] [R 597,R 120,R 93,Y "object"] 596 "StringIO" aj [] [ah<|R 353,aC,ah<|S "StringIO" 741,ah<|S "StringIO" 749,ah N,ah t1],
fd (Y "super") [R 597,R 597,R 597],
fd (Y "builtin_function_or_method") [B "object.__init_subclass__",R 597]]]
noncomputable def Z'(P:aB):List gy:=cat [
FB (f0 12) "" "_kind" 1030 409 2 0 0 600 1036 1033 ["name","x","t"] N N (S "os.path" 1028),
FB (f0 13) "" "_fspath" 1039 430 2 0 0 607 1045 1042 ["name","x","k"] N N (S "os.path" 1028),
[T [],
Z,
T [S "funcname" 1051,S "args" 1052,S "s" 1053,S "k" 1054],
T [],
uG (f0 14) "_check_arg_types",
CD "_check_arg_types" "_check_arg_types" 1048 435 1 0 0 7 614 t1 (R 616) (R 617) (R 618) 1055,
iN (f0 14) "_check_arg_types" N N (S "os.path" 1028) (R 619)],
FB (f0 15) "" "isabs" 1058 440 1 0 0 621 1062 1061 ["s"] N N (S "os.path" 1028),
[T [],
Z,
T [S "a" 1068,S "p" 1069,S "b" 1070,S "sep" 1071,S "path" 1072],
T [],
uG (f0 16) "join",
CD "join" "join" 1065 443 1 0 0 7 628 t1 (R 630) (R 631) (R 632) 1073,
iN (f0 16) "join" N N (S "os.path" 1028) (R 633)],
FB (f0 18) "" "dirname" 1077 464 1 0 0 635 1084 1080 ["p","sep","i","head"] N N (S "os.path" 1028),
[T [],
fd (Y "builtin_function_or_method") [B "type.__prepare__",Y "type"],
d (Y "dict") (c10 P) 15,
T [],
fd N [J 475,J 4,R 655,J 517,J 4,R 662,J 520,J 4,R 670,J 523,J 4,R 678,J 536,J 4,R 685,J 543,J 4,R 692,J 570,J 4,R 699,J 707,J 4,R 706,J 714,J 4,R 714,J 717,J 4,R 721,J 720,J 4,R 728],
CD "shlex" "shlex" 1091 473 0 0 0 0 645 t0 N N N 1094,
FR 647 644 (S "cpy313.shlex" 1087),
T [N,N,t0,t0]],
FB (f1 20 0) "shlex." "__init__" 1101 475 5 0 0 650 1110 1104 ["self","instream","infile","posix","punctuation_chars","t"] (R 649) N (S "cpy313.shlex" 1087),
[T [],
Z,
T [S "self" 1116]]]
noncomputable def Z9(P:aB):List gy:=cat [
[T [],
uG (f1 20 1) "shlex.punctuation_chars",
CD "punctuation_chars" "shlex.punctuation_chars" 1113 516 1 0 0 3 657 t1 (R 659) (R 660) (R 661) 1117,
iN (f1 20 1) "shlex.punctuation_chars" N N (S "cpy313.shlex" 1087) (R 662),
fd (Y "property") [R 663,N,N,N,S "punctuation_chars" 1120,t0]],
FB (f1 20 2) "shlex." "push_token" 1121 520 2 0 0 665 1126 1124 ["self","tok"] N N (S "cpy313.shlex" 1087),
[T [N]],
FB (f1 20 3) "shlex." "push_source" 1129 523 3 0 0 673 1135 1132 ["self","newstream","newfile"] (R 672) N (S "cpy313.shlex" 1087),
FB (f1 20 4) "shlex." "pop_source" 1138 536 1 0 0 680 1142 1141 ["self"] N N (S "cpy313.shlex" 1087),
FB (f1 20 5) "shlex." "get_token" 1145 543 1 0 0 687 1154 1148 ["self","tok","raw","spec","newfile","newstream"] N N (S "cpy313.shlex" 1087),
FB (f1 20 6) "shlex." "read_token" 1157 570 1 0 0 694 1165 1160 ["self","quoted","escapedstate","nextchar","result"] N N (S "cpy313.shlex" 1087),
FB (f1 20 7) "shlex." "sourcehook" 1168 707 2 0 0 701 1173 1171 ["self","newfile"] N N (S "cpy313.shlex" 1087),
[T [N,N]],
FB (f1 20 8) "shlex." "error_leader" 1176 714 3 0 0 709 1182 1179 ["self","infile","lineno"] (R 708) N (S "cpy313.shlex" 1087),
[T [],
Z,
T [S "self" 1188],
T []]]
noncomputable def Z8(P:aB):List gy:=cat [
[uG (f1 20 9) "shlex.__iter__",
CD "__iter__" "shlex.__iter__" 1185 717 1 0 0 3 716 t1 (R 718) (R 719) (R 720) 1189,
iN (f1 20 9) "shlex.__iter__" N N (S "cpy313.shlex" 1087) (R 721)],
FB (f1 20 10) "shlex." "__next__" 1192 720 1 0 0 723 1197 1195 ["self","token"] N N (S "cpy313.shlex" 1087),
[T [S "_punctuation_chars" 1200,S "_pushback_chars" 1201,S "commenters" 1202,S "debug" 1203,S "eof" 1204,S "escape" 1205,S "escapedquotes" 1206,S "filestack" 1207,S "infile" 1208,S "instream" 1209,S "lineno" 1210,S "posix" 1211,S "pushback" 1212,S "quotes" 1213,S "source" 1214,S "state" 1215,S "token" 1216,S "whitespace" 1217,S "whitespace_split" 1218,S "wordchars" 1219],
d (Y "dict") (dq (c10 P) [e P "__dict__" 1222<|R 733,e P "__weakref__" 1224<|R 734,e P "__doc__" 1225 N]) 4,
cl "shlex" [Y "object"] [R 732,Y "object"] 731 "shlex" aj [] [aC,aC,ah<|S "shlex" 1089,ah<|S "shlex" 1097,ah<|B "object.__new__",ah t1],
gD 1221 732,
gW 1223 732,
fd (Y "super") [R 732,R 732,R 732],
fd (Y "builtin_function_or_method") [B "object.__init_subclass__",R 732],
T [t0,t1]],
FB (f0 21) "" "split" 1228 725 3 0 0 738 1235 1231 ["s","comments","posix","lex"] (R 737) N (S "cpy313.shlex" 1087),
FB (f0 22) "" "join" 1238 733 1 0 0 745 1242 1241 ["split_command"] N N (S "cpy313.shlex" 1087),
[fd (Y "builtin_function_or_method") [B "re.Pattern.search",R 49]],
FB (f0 25) "" "quote" 1248 737 1 0 0 753 1252 1251 ["s"] N N (S "cpy313.shlex" 1087),
[T [Y "Exception"],
fd (Y "builtin_function_or_method") [B "type.__prepare__",Y "type"],
d (Y "dict") (c11 P) 8,
T [],
fd N [J 746,J 4,R 772,J 749,J 4,R 779,J 752,J 4,R 786,J 755,J 4,R 793],
CD "NannyNag" "NannyNag" 1259 744 0 0 0 0 763 t0 N N N 1262,
FR 765 762 (S "cpy313.tabnanny" 1255)],
FB (f1 27 0) "NannyNag." "__init__" 1269 746 4 0 0 767 1276 1272 ["self","lineno","msg","line"] N N (S "cpy313.tabnanny" 1255),
[T [],
Z,
T [S "self" 1282],
T [],
uG (f1 27 1) "NannyNag.get_lineno",
CD "get_lineno" "NannyNag.get_lineno" 1279 749 1 0 0 3 774 t1 (R 776) (R 777) (R 778) 1283]]
noncomputable def Z7(P:aB):List gy:=cat [
[iN (f1 27 1) "NannyNag.get_lineno" N N (S "cpy313.tabnanny" 1255)<|R 779],
FB (f1 27 2) "NannyNag." "get_msg" 1286 752 1 0 0 781 1290 1289 ["self"] N N (S "cpy313.tabnanny" 1255),
FB (f1 27 3) "NannyNag." "get_line" 1293 755 1 0 0 788 1297 1296 ["self"] N N (S "cpy313.tabnanny" 1255),
[T [S "line" 1300,S "lineno" 1301,S "msg" 1302],
d (Y "dict") (dq (c11 P) [e P "__weakref__" 1305<|R 798,e P "__doc__" 1306 N]) 3,
cl "NannyNag" [Y "Exception"] [R 797,Y "Exception",Y "BaseException",Y "object"] 796 "NannyNag" aj [] [ah<|R 760,aC,ah<|S "NannyNag" 1257,ah<|S "NannyNag" 1265,ah<|B "Exception.__new__",ah t1],
gW 1304 797,
fd (Y "super") [R 797,R 797,R 797],
fd (Y "builtin_function_or_method") [B "object.__init_subclass__",R 797],
T [],
fd (Y "builtin_function_or_method") [B "type.__prepare__",Y "type"],
d (Y "dict") (c12 P) 13,
T [],
fd N [J 760,J 4,R 816,J 783,J 4,R 823,J 787,J 4,R 830,J 794,J 4,R 837,J 797,J 4,R 844,J 800,J 4,R 851,J 811,J 4,R 858],
CD "Whitespace" "Whitespace" 1313 757 0 0 0 0 804 t0 N N N 1316,
FR 806 803 (S "cpy313.tabnanny" 1255),
fd (Y "str_ascii_iterator") [N,J 2],
T [],
fd (Y "StopIteration") [R 809,N,N,N,t0,N]],
FB (f1 28 1) "Whitespace." "__init__" 1328 760 2 0 0 811 1340 1331 ["self","ws","S","T","count","b","n","nt","ch"] N N (S "cpy313.tabnanny" 1255),
FB (f1 28 2) "Whitespace." "longest_run_of_spaces" 1343 783 1 0 0 818 1349 1346 ["self","count","trailing"] N N (S "cpy313.tabnanny" 1255),
FB (f1 28 3) "Whitespace." "indent_level" 1352 787 2 0 0 825 1361 1355 ["self","tabsize","count","trailing","il","i"] N N (S "cpy313.tabnanny" 1255),
FB (f1 28 4) "Whitespace." "equal" 1364 794 2 0 0 832 1369 1367 ["self","other"] N N (S "cpy313.tabnanny" 1255),
[T []]]
noncomputable def Z6(P:aB):List gy:=cat [
[Z,
T [S "self" 1375,S "other" 1376],
T [],
uG (f1 28 5) "Whitespace.not_equal_witness",
CD "not_equal_witness" "Whitespace.not_equal_witness" 1372 797 2 0 0 3 839 t1 (R 841) (R 842) (R 843) 1377,
iN (f1 28 5) "Whitespace.not_equal_witness" N N (S "cpy313.tabnanny" 1255) (R 844)],
FB (f1 28 6) "Whitespace." "less" 1380 800 2 0 0 846 1387 1383 ["self","other","n","ts"] N N (S "cpy313.tabnanny" 1255),
FB (f1 28 7) "Whitespace." "not_less_witness" 1390 811 2 0 0 853 1398 1393 ["self","other","n","a","ts"] N N (S "cpy313.tabnanny" 1255),
[T [S "is_simple" 1401,S "n" 1402,S "norm" 1403,S "nt" 1404,S "raw" 1405],
d (Y "dict") (dq (c12 P) [e P "__dict__" 1408<|R 863,e P "__weakref__" 1410<|R 864,e P "__doc__" 1411 N]) 4,
cl "Whitespace" [Y "object"] [R 862,Y "object"] 861 "Whitespace" aj [] [aC,aC,ah<|S "Whitespace" 1311,ah<|S "Whitespace" 1319,ah<|B "object.__new__",ah t1],
gD 1407 862,
gW 1409 862,
fd (Y "super") [R 862,R 862,R 862],
fd (Y "builtin_function_or_method") [B "object.__init_subclass__",R 862]],
FB (f0 29) "" "format_witnesses" 1414 818 1 0 0 867 1420 1417 ["w","firsts","prefix"] N N (S "cpy313.tabnanny" 1255),
FB (f0 31) "" "_law_columns" 1425 825 1 0 0 874 1433 1428 ["lead","columns","size","column","sign"] N N (S "law_mq0429_01" 1423),
FB (f0 32) "" "_law_turned" 1436 833 1 0 0 881 1441 1439 ["lead","runs"] N N (S "law_mq0429_01" 1423),
[T [],
Z,
uG (f0 33) "_law_spelled",
CD "_law_spelled" "_law_spelled" 1444 836 2 0 0 3 888 t1 N N (R 890) 1447,
iN (f0 33) "_law_spelled" N N (S "law_mq0429_01" 1423) (R 891),
T [],
Z,
uG (f0 34) "_law_plain",
CD "_law_plain" "_law_plain" 1450 842 1 0 0 3 893 t1 N N (R 895) 1453,
iN (f0 34) "_law_plain" N N (S "law_mq0429_01" 1423) (R 896),
T [],
Z]]
noncomputable def Z5(P:aB):List gy:=cat [
[uG (f0 35) "_law_row",
CD "_law_row" "_law_row" 1456 844 2 0 0 3 898 t1 N N (R 900) 1459,
iN (f0 35) "_law_row" N N (S "law_mq0429_01" 1423) (R 901),
T [],
Z,
uG (f0 36) "_law_left",
CD "_law_left" "_law_left" 1462 864 3 0 0 3 903 t1 N N (R 905) 1465,
iN (f0 36) "_law_left" N N (S "law_mq0429_01" 1423) (R 906),
T [],
Z,
uG (f0 37) "_law_complaint",
CD "_law_complaint" "_law_complaint" 1468 871 3 0 0 3 908 t1 N N (R 910) 1471,
iN (f0 37) "_law_complaint" N N (S "law_mq0429_01" 1423) (R 911)],
FB (f0 38) "" "_law_built" 1474 876 1 0 0 913 1489 1477 ["numbers","texts","told","nags","pile","count","number","lead","words","text","here","left"] N N (S "law_mq0429_01" 1423),
FB (f0 39) "" "_law_judged" 1492 891 3 0 0 920 1500 1495 ["pile","text","number","here","left"] N N (S "law_mq0429_01" 1423),
FB (f0 40) "" "_law_read" 1503 901 1 0 0 927 1515 1506 ["page","rows","nags","pile","held","number","line","words","nag"] N N (S "law_mq0429_01" 1423),
[T [],
Z,
uG (f0 41) "law",
CD "law" "law" 1518 919 1 0 0 3 934 t1 N N (R 936) 1521,
iN (f0 41) "law" N N (S "law_mq0429_01" 1423) (R 937)]]
noncomputable def tc(P:aB):List gy:=ob0 P++(ob1 P++(ob2 P++(XQ P++(ob4 P++(ob5 P++(ob6 P++(ob7 P++(ob8 P++(ob9 P++(Z' P++(Z9 P++(Z8 P++(Z7 P++(Z6 P++(Z5 P)))))))))))))))
noncomputable def ov0(P:aB):List (Nat×gy):=[(2,d N ((m2 P).take 13) 13),(3,d (Y "dict") (e P "__name__" 165 (S "__main__" 164)::(m3 P).take 10) 11)]
noncomputable def ova(P:aB):List (Nat×gy):=[(2,d N ((m2 P).take 13) 13),(3,d (Y "dict") (e P "__name__" 165 (S "__main__" 164)::(m3 P).take 10) 11),(35,Z)]
noncomputable def ov8(P:aB):List (Nat×gy):=[(2,d N ((m2 P).take 15) 15),(3,d (Y "dict") (e P "__name__" 165 (S "io" 371)::(m3 P).take 18) 19),(35,fd N [J 3,J 0,R 43,J 8,J 0,R 55,J 13,J 0,R 62,J 20,J 0,R 69,J 22,J 0,R 82,J 29,J 0,R 104,J 31,J 0,R 116]),(108,cl "BufferedIOBase" [R 93] [R 108,R 93,Y "object"] 107 "BufferedIOBase" aj [] [ah<|R 99,aC,ah<|S "BufferedIOBase" 443,ah<|S "BufferedIOBase" 451,ah N,ah t1]),(120,cl "TextIOBase" [R 93] [R 120,R 93,Y "object"] 119 "TextIOBase" aj [] [ah<|R 111,aC,ah<|S "TextIOBase" 461,ah<|S "TextIOBase" 469,ah N,ah t1])]
noncomputable def ov9(P:aB):List (Nat×gy):=[(2,d N ((m2 P).take 15) 15),(3,d (Y "dict") (e P "__name__" 165 (S "io" 371)::(m3 P).take 19) 20),(35,fd N [J 3,J 0,R 43,J 8,J 0,R 55,J 13,J 0,R 62,J 20,J 0,R 69,J 22,J 0,R 82,J 29,J 0,R 104,J 31,J 0,R 116,J 33,J 0,R 128]),(120,cl "TextIOBase" [R 93] [R 120,R 93,Y "object"] 119 "TextIOBase" aj [] [ah<|R 111,aC,ah<|S "TextIOBase" 461,ah<|S "TextIOBase" 469,ah N,ah t1])]
noncomputable def Z2(P:aB):List (Nat×gy):=[(2,d N ((m2 P).take 15) 15),(3,d (Y "dict") (e P "__name__" 165 (S "io" 371)::(m3 P).take 20) 21),(35,fd N [J 3,J 0,R 43,J 8,J 0,R 55,J 13,J 0,R 62,J 20,J 0,R 69,J 22,J 0,R 82,J 29,J 0,R 104,J 31,J 0,R 116,J 33,J 0,R 128,J 203,J 0,R 358])]
noncomputable def Z1(P:aB):List (Nat×gy):=[(3,d (Y "dict") (e P "__name__" 165 (S "cpy313.tabnanny" 1255)::(m3 P).take 33) 34),(35,fd N [J 3,J 0,R 43,J 8,J 0,R 55,J 13,J 0,R 62,J 20,J 0,R 69,J 22,J 0,R 82,J 29,J 0,R 104,J 31,J 0,R 116,J 33,J 0,R 128,J 203,J 0,R 358,J 409,J 0,R 605,J 430,J 0,R 612,J 435,J 0,R 619,J 440,J 0,R 626,J 443,J 0,R 633,J 464,J 0,R 640,J 473,J 0,R 647,J 725,J 0,R 743,J 733,J 0,R 750,J 737,J 0,R 758,J 744,J 0,R 765])]
noncomputable def Z0(P:aB):List (Nat×gy):=[(3,d (Y "dict") (e P "__name__" 165 (S "cpy313.tabnanny" 1255)::(m3 P).take 34) 35),(35,fd N [J 3,J 0,R 43,J 8,J 0,R 55,J 13,J 0,R 62,J 20,J 0,R 69,J 22,J 0,R 82,J 29,J 0,R 104,J 31,J 0,R 116,J 33,J 0,R 128,J 203,J 0,R 358,J 409,J 0,R 605,J 430,J 0,R 612,J 435,J 0,R 619,J 440,J 0,R 626,J 443,J 0,R 633,J 464,J 0,R 640,J 473,J 0,R 647,J 725,J 0,R 743,J 733,J 0,R 750,J 737,J 0,R 758,J 744,J 0,R 765,J 757,J 0,R 806])]
end Internal.Hd
namespace Internal.Hd
noncomputable def GF:List gy ->List gy
 |_::b::r=>b::GF r
 |_=>[]
noncomputable def Ad:List gy ->List gy
 |a::_::r=>a::Ad r
 |[a]=>[a]
 |[]=>[]
noncomputable def KC:Nat ->List gy ->BT
 |0,_=>.nil
 |_+1,[]=>.nil
 |n+1,x::r=>.node x (KC n<|Ad r)<|KC n<|GF r
theorem wQ:∀(l:List gy) (i:Nat),(Ad l)[i]? =l[2*i]?
 |[],_=>rfl
 |[_],0=>rfl
 |[_],_+1=>rfl
 |_::_::_,0=>rfl
 |_::_::r,i+1=>wQ r i
theorem zB:∀(l:List gy) (i:Nat),(GF l)[i]? =l[2*i+1]?
 |[],_=>rfl
 |[_],0=>rfl
 |[_],_+1=>rfl
 |_::_::_,0=>rfl
 |_::_::r,i+1=>zB r i
theorem wJ:∀(l:List gy),(Ad l).length=(l.length+1)/2
 |[]=>rfl
 |[_]=>'k'
 |_::_::r=>(congrArg (·+1)<|wJ r).trans (JL (r.length+1) (ae rfl:0<2)).symm
theorem zA:∀(l:List gy),(GF l).length=l.length/2
 |[]=>rfl
 |[_]=>'k'
 |_::_::r=>(congrArg (·+1)<|zA r).trans (JL r.length (ae rfl:0<2)).symm
theorem Cq:∀i:Nat,i≠0 ->∃k,i=2*k+1\/i=2*k+2
 |0,h=>absurd rfl h
 |1,_=>(0,.inl rfl)
 |2,_=>(0,.inr rfl)
 |n+3,_=>by obtain⟨k,h⟩:=Cq (n+1)<|vm n;exact(k+1,h.elim (λe=>.inl (congrArg (·+2) e)) λe=>.inr (congrArg (·+2) e))
theorem xH:∀(n:Nat) (l:List gy),l.length<2^n ->∀i,(KC n l).get i=l[i]?
 |0,l,h,i=>by
  have:l=[]:=by cases l with|nil=>rfl|cons=>simp at h
  subst this;rfl
 |n+1,[],h,i=>rfl
 |n+1,x::r,h,i=>by
  rw[aU,Nat.pow_succ']at h;show(BT.node x (KC n<|Ad r)<|KC n<|GF r).get i=_;rw[BT.get_node];by_cases Q:i=0
  .subst Q;rfl
  .rw[if_neg Q];obtain⟨k,e|e⟩:=Cq i Q
   .subst e;rw[if_pos<|NY 2 k 1,xH n _ (by rw[wJ];exact pF h),wQ,NZ<|ae rfl];rfl
   .subst e;rw[if_neg (by rw[NY 2 k 2];decide),xH n _ (by rw[zA];exact pF<|Nat.lt_of_succ_lt h),zB,NZ<|ae rfl];rfl
theorem LZ(l:List gy)(n:Nat)(Q:Life)(H:l.length=n)(h:fX (n+1) (2^10)=aj):absHeap (KC 10 l) n Q=(l.toArray,Q):=by
 have D:l.length<2^10:=by rw[H];exact ae h
 have:(absHeap (KC 10 l) n Q).objs=l.toArray:=by
  apply Array.ext_getElem?;intro i;rw[absHeap_at,xH 10 l D,jN];by_cases q:i<n
  .rw[if_pos q];obtain⟨o,U⟩:∃o,l[i]? =ah o:=(_,az<|by exact H▸q);rw[U];rfl
  .rw[if_neg q,jO<|by exact rS (ar H) (dD q) (by omega)]
 show Sh _ _=Sh _ _;exact congrArg (Sh · Q) this
noncomputable section
noncomputable def put:List (Nat×gy)->Nat ->Nat ->List gy ->List gy
 |_,_,0,_=>[]
 |_,_,_+1,[]=>[]
 |[],i,n+1,o::r=>o::put [] (i+1) n r
 |(a,x)::v,i,n+1,o::r=>match Nat.beq a i with
  |true=>x::put v (i+1) n r
  |false=>o::put ((a,x)::v) (i+1) n r
noncomputable def L0(P:aB):List gy:=put (ov0 P) 0 34<|tc P
noncomputable def La(P:aB):List gy:=put (ova P) 0 38<|tc P
noncomputable def L8(P:aB):List gy:=put (ov8 P) 0 123<|tc P
noncomputable def L9(P:aB):List gy:=put (ov9 P) 0 353<|tc P
noncomputable def L10(P:aB):List gy:=put (Z2 P) 0 600<|tc P
noncomputable def R9(P:aB):List gy:=put (Z1 P) 0 801<|tc P
noncomputable def R8(P:aB):List gy:=put (Z0 P) 0 867<|tc P
noncomputable abbrev sT(l:List gy)(n Q:Nat)(os:ey):SharedT:=(KC 10 l,n,{},#[],{},Q,os)
noncomputable def Lp:vK:={scope:=PR.main.scope,locals:=mainNs,globals:=mainNs,cells:=[],code:=.ref 36,frame:=ah 37}
noncomputable def Ap:Code:=.body top Lp
noncomputable abbrev zp:si:=(0,0,0,0)
noncomputable abbrev B0:List Frame:=[topFrame zp]
noncomputable abbrev Ko(i j:Nat)(p:si):Thread:=piecesOf ((top.drop i).take j) Lp Ap p B0
theorem pc8(w:dC):(λos=>segRunT treeTable PR w 34 (ah<|.ref 6) 1 1075 (sT (La w.params) 38 324 os)<|Ko 0 9 zp)=λos=>ah (.next,sT (L8 w.params) 123 479 os,Ap,(31,0,32,21)):=by rw[cq,cp];kernel_rfl
end
end Internal.Hd
section
set_option backward.match.sparseCases true
namespace Internal.Hd
theorem pc9(w:dC):(λos=>segRunT treeTable PR w 34 (ah<|.ref 6) 1 1278 (sT (L8 w.params) 123 479 os)<|Ko 9 1 (31,0,32,21))=λos=>ah (.next,sT (L9 w.params) 353 741 os,Ap,(33,0,202,17)):=by rw[cq,cp];kernel_rfl
theorem ZZ(w:dC):(λos=>segRunT treeTable PR w 34 (ah<|.ref 6) 1 1578 (sT (L9 w.params) 353 741 os)<|Ko 10 1 (33,0,202,17))=λos=>ah (.next,sT (L10 w.params) 600 1028 os,Ap,(203,0,407,17)):=by rw[cq,cp];kernel_rfl
theorem ZY(w:dC):(λos=>segRunT treeTable PR w 34 (ah<|.ref 6) 1 1400 (sT (L10 w.params) 600 1028 os)<|Ko 11 17 (203,0,407,17))=λos=>ah (.next,sT (R9 w.params) 801 1311 os,Ap,(744,0,756,24)):=by rw[cq,cp];kernel_rfl
end Internal.Hd
end
section
set_option backward.match.sparseCases true
namespace Internal.Hd
theorem TF(w:dC):(λos=>segRunT treeTable PR (w.withFollow "special-get-raises" ao) 34 (ah<|.ref 6) 1 500 (sT (R9 (w.withFollow "special-get-raises" ao).params) 801 1311 os)<|Ko 28 1 (744,0,756,24))=λos=>ah (.next,sT (R8 (w.withFollow "special-get-raises" ao).params) 867 1414 os,Ap,(757,0,817,16)):=by rw[cq,cp];kernel_rfl
theorem TC(w:dC):(λos=>segRunT treeTable PR (w.withFollow "special-get-raises" aj) 34 (ah<|.ref 6) 1 500 (sT (R9 (w.withFollow "special-get-raises" aj).params) 801 1311 os)<|Ko 28 1 (744,0,756,24))=λos=>ah (.next,sT (R8 (w.withFollow "special-get-raises" aj).params) 867 1414 os,Ap,(757,0,817,16)):=by rw[cq,cp];kernel_rfl
theorem ZX(w:dC):(λos=>segRunT treeTable PR w 34 (ah<|.ref 6) 1 500 (sT (R9 w.params) 801 1311 os)<|Ko 28 1 (744,0,756,24))=λos=>ah (.next,sT (R8 w.params) 867 1414 os,Ap,(757,0,817,16)):=
 byRow2 "special-get-raises" (P:=λw=>(λos=>segRunT treeTable PR w 34 (ah<|.ref 6) 1 500 (sT (R9 w.params) 801 1311 os)<|Ko 28 1 (744,0,756,24))=λos=>ah (.next,sT (R8 w.params) 867 1414 os,Ap,(757,0,817,16))) TF TC w
theorem pcF(w:dC):(λos=>segRunT treeTable PR w 34 (ah<|.ref 6) 1 400 (sT (R8 w.params) 867 1414 os)<|Ko 29 13 (757,0,817,16))=λos=>ah (.next,sT (tc w.params) 939 1524 os,Ap,(919,0,927,44)):=by rw[cq,cp];kernel_rfl
theorem Ui:(∀P,(L0 P).length=34)/\(∀P,(La P).length=38)/\(∀P,(L8 P).length=123)/\(∀P,(L9 P).length=353)/\(∀P,(L10 P).length=600)/\(∀P,(R9 P).length=801)/\(∀P,(R8 P).length=867)/\(∀P,(tc P).length=939):=
 (λP=>'k',λP=>'k',λP=>'k',λP=>'k',λP=>'k',λP=>'k',λP=>'k',λP=>'k')
noncomputable abbrev H0(P:aB):dR:=((L0 P).toArray,{})
noncomputable abbrev HF(P:aB):dR:=((tc P).toArray,{})
theorem pre(w:dC):(λos=>topGo treeTable PR w 34 (ah<|.ref 6) 12 (H0 w.params,#[],{},318,os)<|topStub PR)=λos=>ah ((((La w.params).toArray,{}),#[],{},324,os),(denote treeTable Ap,Ap,zp,B0)):=by kernel_rfl
theorem opened(w:dC):(fencedOpening treeTable PR w 12330).map (λs=>(Prod.mk s.heap<|Prod.mk s.gens<|Prod.mk s.drawn s.toks))=ah (Prod.mk (H0 w.params)<|Prod.mk (#[])<|Prod.mk ({}) 318):=by kernel_rfl
end Internal.Hd
end
section
set_option backward.match.sparseCases true
namespace Internal.Hd
noncomputable section
noncomputable def rF:List cn:=(top.drop 29).take 13++[]
noncomputable def r28:List cn:=(top.drop 28).take 1++rF
noncomputable def r27:List cn:=(top.drop 11).take 17++r28
noncomputable def r10:List cn:=(top.drop 10).take 1++r27
noncomputable def r9:List cn:=(top.drop 9).take 1++r10
theorem Oq:top=(top.drop 0).take 9++r9:='k'
theorem ab{os:ey}(H:l.length=n)(h:fX (n+1) (2^10)=aj):(sT l n Q os).abs=((l.toArray,{}),#[],{},Q,os):=by show Shared.mk (absHeap (KC 10 l) n {}) _ _ _ _=_;rw[LZ l n {} H h]
noncomputable abbrev sA(l:List gy)(Q:Nat)(os:ey):aS:=((l.toArray,{}),#[],{},Q,os)
theorem sg(u:l.length=n)(h:fX (n+1) (2^10)=aj)(H:D.length=U)(y:fX (U+1) (2^10)=aj)(e:(λos=>segRunT treeTable PR w 34 (ah<|.ref 6) 1 k (sT l n E os) t)=λos=>ah (.next,sT D U Q os,Ap,G))(os:ey):segRun treeTable PR w 34 (ah<|.ref 6) 1 k (sA l E os) t=ah (.next,sA D Q os,Ap,G):=by have:=segRun_of<|congrFun e os;rw[ab u h,ab H y]at this;exact this
theorem blk(w:dC)(os:ey):segRun treeTable PR w 34 (ah<|.ref 6) 1 1 (sA (La w.params) 324 os) (blockOf top Lp Ap zp B0)=ah (.next,sA (La w.params) 324 os,Ap,zp):=by kernel_rfl
theorem aaT(w:dC)(os:ey):topRun treeTable PR w 34 (ah<|.ref 6) 2 (sA (tc w.params) 1524 os) (restOf [] Lp Ap (919,0,927,44) B0)=ah (sA (tc w.params) 1524 os):=by kernel_rfl
theorem O1(w:dC)(os:ey):topRun treeTable PR w 34 (ah<|.ref 6) (12+(1+(1075+(1278+(1578+(1400+(500+(400+2)))))))) (H0 w.params,#[],{},318,os) (topStub PR)=ah (HF w.params,#[],{},1524,os):=by
 obtain⟨y,G,E,D,U,H,Q,u⟩:=Ui;refine go_top (congrFun (pre w) os)<|piece_block (q:=zp) (blk w os) ?_;rw[Oq];refine sf (q:=zp) (sg (G _) rfl (E _) rfl (pc8 w) os)<|sf (q:=zp) (sg (E _) rfl (D _) rfl (pc9 w) os)<|sf (q:=zp) (sg (D _) rfl (U _) rfl (ZZ w) os)<|sf (q:=zp) (sg (U _) rfl (H _) rfl (ZY w) os)
  (sf (q:=zp) (sg (H _) rfl (Q _) rfl (ZX w) os)<|sf (q:=zp) (sg (Q _) rfl (u _) rfl (pcF w) os)<|aaT w os)
end
end Internal.Hd
end
section
set_option backward.match.sparseCases true
namespace Internal.Hd
noncomputable section
noncomputable def qv:jt:=view PR [0,1,43]
noncomputable def loose:List aF:=(["_wall","_twin_re_1","_whence","_index","UnsupportedOperation","IOBase","BufferedIOBase","TextIOBase","BytesIO","StringIO","_kind","_fspath","_check_arg_types","isabs","join","join_path","dirname","shlex","split","join_shlex","_find_unsafe","quote","NannyNag","Whitespace","format_witnesses","_law_columns","_law_turned","_law_spelled","_law_plain","_law_row","_law_left","_law_complaint","_law_built","_law_judged","_law_read"]:List String).map aa
theorem S8(w:dC):(Prod.mk ((H0 w.params).isNs mainGlobals&&(#[]:Array GenState).size==0)<|Prod.mk ((H0 w.params).objs.size)<|(H0 w.params).nsMap mainGlobals "__annotations__")=(Prod.mk aj<|Prod.mk 34<|ah<|.ref 6):=by kernel_rfl
theorem lk1(w:dC):(λos:ey=>(staticsOk (importedModules PR.main.body) (H0 w.params) (HF w.params)&&namesBound PR (HF w.params)&&gensDone (HF w.params,#[],{},1524,os)&&laidKept (H0 w.params) (HF w.params)))=λU=>aj:=by kernel_rfl
theorem lk2(w:dC):(λos:ey=>openSeen qv loose (importedModules PR.main.body) (λU=>aj) aj (HF w.params,#[],{},1524,os))=λU=>openGood qv loose:=by kernel_rfl
theorem Ku(P:aB):(tc P).all (λo=>!o.isFreed)=aj:='k'
end
end Internal.Hd
end
section
set_option backward.match.sparseCases true
namespace Internal.Hd
abbrev RW:OpenLaw:=RC
theorem sdA{a b:Bool}(h:a=aj)(g:b=aj):(a&&b)=aj:=by rw[h,g];rfl
theorem sdB:Fast.tw12908688711261696721 (Fast.tw2368527892694137696 RW).prog=aj:=sdA (sdA (sdA (sdA (sdA (by as_aux_lemma=>kernel_rfl)<|by as_aux_lemma=>kernel_rfl)<|by as_aux_lemma=>kernel_rfl)<|by as_aux_lemma=>kernel_rfl)<|by as_aux_lemma=>kernel_rfl) (by as_aux_lemma=>kernel_rfl)
theorem Zt:RW.wellSaid=aj:=by rw[YA];delta Fast.tw9446332074065402090 Fast.tw17960256430627541270 Fast.tw2436336058641802641;exact sdB.symm▸'k'
end Internal.Hd
end
section
set_option backward.match.sparseCases true
namespace Internal.Hd
noncomputable section
theorem left:LeftO PR qv loose (λU=>aj) (λs=>s.heap.objs.toList) (λw=>tc w.params) 12330:=by refine LeftO.of_pieces (H₀:=H0) (H₁:=HF) (gs₀:=#[]) (gs₁:=#[]) (d₀:={}) (d₁:={}) (k₀:=318) (k₁:=1524) (m₀:=34) (ann:=ah<|.ref 6) opened S8 O1 rfl λw=>?_;have a:=lk1 w;have b:=lk2 w;funext os;exact Prod.ext (congrFun a os)<|Prod.ext (congrFun b os) rfl
def BG(w:dC)(h:dR):Prop:=∀a o,(tc w.params)[a]? =ah o ->h.get? a=ah o
theorem Ka(w:dC)(s:aS)(e:s.heap.objs.toList=tc w.params):BG w s.heap:=by
 intro a o Q;rw[<-e,di]at Q;have H:o.isFreed=ao:=by have:=List.all_eq_true.mp (Ku w.params) o (by rw[<-e];rw[Array.mem_toList_iff];exact Array.mem_of_getElem? Q);simpa using this
 unfold Heap.get?;rw[Q];obtain⟨c,E,U,D⟩:=o;cases U<;>first|rfl|cases H
noncomputable def Ak:DefRec:=match f0 41 with
 | .FunctionDef n a b _ _ _ sc _ _ p=>(n,a,b,sc,p)
 |_=>(Str.empty,([],[],aC,[],[],aC,[]),[],PR.main.scope,(0,0,0,0))
theorem aaJ:defOf qv RW.row.name=ah (Ak,[]):='k'
theorem hpL:RW.row.prog.theDef RW.row.name=ah (Ak.params,Ak.body,Ak.scope):='k'
theorem hkL:kwWritten? Ak.params.kwonlyargs Ak.params.kw_defaults=ah []:='k'
theorem okL:(chainsOk qv&&opensWell RW.row.prog&&(frees RW.row.toRowW&&RW.row.within.isEmpty))=aj:='k'
theorem hd(call:WalkO qv loose (λU U=>True) BG RW.row.toRowW Ak [] λf vs=>Xq f vs):RW.Holds:=by
 refine holds_law Zt λQ=>holds_open (q:=qv) (loose:=loose) (Xt:=λU=>aj) (XP:=λU U=>True) (Yf:=λs=>s.heap.objs.toList) (Ya:=λw=>tc w.params) (YP:=BG) (N:=12330) left Ka (λw h H x k a o e=>k _ _<|x a o e) (λU U=>trivial) (λU U U U U=>trivial) aaJ hpL hkL (λs U=>recFacts_of 'k') 'k' Q okL ?_ ?_ call
 .exact(rfl,rfl,rfl,rfl,rfl,by decide+kernel)
 .w_witness2
end
end Internal.Hd
end
set_option genCtorIdx false
namespace Internal
inductive V where
 |none
 |bool (b:Bool)
 |int (i:Int)
 |str (s:aF)
 |tup (l:List V)
 |lst (l:List V)
 |obj (C:aA) (a:List (aF×V))
 |ref (i:Nat)
 |val (v:aK)
 |dq
 |ky (a b:Int)
 deriving Inhabited
structure jQ where
 par:aB
 h:dR
 ρ:List (aA×aA)
 P:aA ->Prop
mutual
noncomputable def R (σ:jQ):V ->aK ->Prop
 | .none,v=>v= .none
 | .bool b,v=>v= .bool b
 | .int i,v=>∃t,v= .int i t
 | .str x,v=>∃t,v= .str x t
 | .tup l,v=>∃a o Q n,v= .ref a/\σ.h.get? a=ah o/\o.cls= .type "tuple"/\o.data= .seq Q n/\¬σ.P a/\RL σ l Q.toList
 | .lst l,v=>∃a o Q n,v= .ref a/\σ.h.get? a=ah o/\o.cls= .type "list"/\o.data= .seq Q n/\¬σ.P a/\RL σ l Q.toList
 | .obj C a,v=>∃x H U es n,v= .ref x/\σ.h.get? x=ah H/\H.cls= .ref C/\notCls H=aj/\H.dict=ah U/\σ.h.get? U=ah (dictOf es n)/\¬σ.P x/\¬σ.P U/\RA σ a es
 | .ref i,v=>∃p,σ.ρ[i]? =ah p/\v= .ref p.1
 | .val u,v=>v=u
 | .dq,v=>∃a o vs,v= .ref a/\σ.h.get? a=ah o/\o.cls= .type "collections.deque"/\o.data= .fields vs/\vs.size=2/\¬σ.P a
 | .ky a b,v=>∃r t u w,v= .ref r/\IsRange σ.h r a b 1 t u w/\¬σ.P r
noncomputable def RL (σ:jQ):List V ->List aK ->Prop
 |[],l=>l=[]
 |v::vs,l=>∃x Q,l=x::Q/\R σ v x/\RL σ vs Q
noncomputable def RA (σ:jQ):List (aF×V)->List dK ->Prop
 |[],l=>l=[]
 |(n,v)::r,l=>∃x Q t,l=x::Q/\x.key= .str n t/\x.hash=dv σ.par n/\R σ v x.val/\RA σ r Q
end
structure jQ.Le (σ τ:jQ):Prop where
 par:τ.par=σ.par
 keep:∀b o,σ.h.get? b=ah o ->¬σ.P b ->τ.h.get? b=ah o
 pre:∀(i:Nat) p,σ.ρ[i]? =ah p ->τ.ρ[i]? =ah p
 new:∀b,τ.P b ->σ.P b\/σ.h.get? b=aC
theorem jQ.Le.not{σ τ:jQ}(x:σ.Le τ)(e:σ.h.get? b=ah o)(h:¬σ.P b):¬τ.P b:=λq=>by
 rcases x.new b q with z|z
 .exact h z
 .rw[e]at z;cases z
mutual
theorem R.mono (x:σ.Le τ):∀(v:V) (u:aK),R σ v u ->R τ v u
 | .none,_,h=>h
 | .bool _,_,h=>h
 | .int _,_,h=>h
 | .str _,_,h=>h
 | .tup l,_,h=>by refine e7 h λa o H n e g c d p r=>?_;exact(e8 a o H n e (x.keep _ _ g p) c d (x.not g p)<|RL.mono x l _ r)
 | .lst l,_,h=>by refine e7 h λa o H n e g c d p r=>?_;exact(e8 a o H n e (x.keep _ _ g p) c d (x.not g p)<|RL.mono x l _ r)
 | .obj C a,_,h=>by obtain⟨y,E,m,es,n,e,g,c,G,dd,D,p,U,r⟩:=h;exact(iH y E m es n e (x.keep _ _ g p) c G dd (x.keep _ _ D U) (x.not g p) (x.not D U)<|RA.mono x a _ r)
 | .ref i,_,h=>let⟨p,a,b⟩:=h;(p,x.pre _ _ a,b)
 | .val _,_,h=>h
 | .dq,_,h=>let⟨a,o,vs,e,g,c,d,z,p⟩:=h;(a,o,vs,e,x.keep _ _ g p,c,d,z,x.not g p)
 | .ky _ _,_,h=>let⟨r,t,u,w,e,g,p⟩:=h;(r,t,u,w,e,x.keep _ _ g p,x.not g p)
theorem RL.mono {σ τ:jQ} (x:σ.Le τ):∀(l:List V) (u:List aK),RL σ l u ->RL τ l u
 |[],_,h=>h
 |v::vs,_,h=>by refine cj h λy Q e a b=>?_;exact(ek y Q e (R.mono x v _ a)<|RL.mono x vs _ b)
theorem RA.mono {σ τ:jQ} (x:σ.Le τ):∀(l:List (aF×V)) (u:List dK),RA σ l u ->RA τ l u
 |[],_,h=>h
 |(n,v)::r,_,h=>by refine lT h λy Q t e k j a b=>?_;exact(lU y Q t e k (by rw[x.par];exact j) (R.mono x v _ a)<|RA.mono x r _ b)
end
theorem RL.length:∀{l:List V} {u:List aK},RL σ l u ->u.length=l.length
 |[],_,h=>by cases h;rfl
 |v::vs,_,h=>by(refine cj h λy H Q U b=>?_;subst Q);simp[RL.length b]
theorem RL.get:∀{l:List V} {u:List aK} {i:Nat} {v:V},RL σ l u ->l[i]? =ah v ->∃x,u[i]? =ah x/\R σ v x
 |[],_,i,v,_,e=>by cases i<;>cases e
 |w::vs,_,0,v,h,e=>by(refine cj h λy H Q a b=>?_;subst Q);cases e;exact(bM y rfl a)
 |w::vs,_,i+1,v,h,e=>by(refine cj h λy H Q a b=>?_;subst Q);exact RL.get (l:=vs) (i:=i) b (by simpa using e)
theorem RL.append:∀{l m:List V} {u w:List aK},RL σ l u ->RL σ m w ->RL σ (l++m) (u++w)
 |[],_,_,_,h,k=>by cases h;exact k
 |v::vs,_,_,_,h,k=>by(refine cj h λy H Q a b=>?_;subst Q);exact(ek y (H++_) rfl a<|RL.append b k)
theorem RL.snoc(h:RL σ l u)(k:R σ v x):RL σ (l++[v]) (u++[x]):=h.append<|ek x [] rfl k rfl
theorem RL.rev:∀{l:List V} {u:List aK},RL σ l u ->RL σ l.reverse u.reverse
 |[],_,h=>by cases h;exact rfl
 |v::vs,_,h=>by(refine cj h λy H Q a b=>?_;subst Q);rw[lY,lY];exact b.rev.snoc a
theorem RL.set:∀{l:List V} {u:List aK} {i:Nat} {v:V} {x:aK},RL σ l u ->R σ v x ->RL σ (l.set i v) (u.set i x)
 |[],_,_,_,_,h,_=>by cases h;exact rfl
 |w::vs,_,0,_,x,h,k=>by(refine cj h λy H Q a b=>?_;subst Q);exact(ek x H rfl k b)
 |w::vs,_,i+1,_,x,h,k=>by(refine cj h λy H Q a b=>?_;subst Q);exact(ek y _ rfl a<|RL.set b k)
end Internal
set_option genCtorIdx true
namespace Internal
inductive O where
 |inst (C:aA) (a:List (aF×V))
 |list (l:List V)
 deriving Inhabited
structure St where
 loc:List (aF×V)
 obs:List O
 deriving Inhabited
def Grows(b:aA):Prop:=b=746\/b=868
noncomputable def mJ(σ:jQ)(p:aA×aA):O ->Prop
 | .inst C a=>σ.h.get? p.1=ah (instObj C p.2)/\∃es n,σ.h.get? p.2=ah (dictOf es n)/\RA σ a es
 | .list l=>p.2=p.1/\∃Q n,σ.h.get? p.1=ah (.type "list",aC,.seq Q n,#[])/\RL σ l Q.toList
structure View (σ:jQ) (l:List O):Prop where
 len:σ.ρ.length=l.length
 at_:∀(i:Nat) o p,l[i]? =ah o ->σ.ρ[i]? =ah p ->mJ σ p o
 iV:∀p∈σ.ρ,σ.P p.1/\σ.P p.2
 apart:∀(i j:Nat) p q,σ.ρ[i]? =ah p ->σ.ρ[j]? =ah q ->i≠j ->p.1≠q.1/\p.1≠q.2/\p.2≠q.1/\p.2≠q.2
 gr:∀p∈σ.ρ,¬Grows p.1/\¬Grows p.2
def VA(ρ:List (aA×aA))(b:aA):Prop:=∃p∈ρ,b=p.1\/b=p.2
structure Fx where
 prog:jt
 w:dC
 hB:dR
 env:vK
 fr:List vK
 A:fR
 os:ey
structure Av (h₀ h:dR):Prop extends OldK h₀ h where
 tabs:∀b o,Grows b ->h₀.get? b=ah o ->∃ps,h.get? b=ah {cls:=.none,data:=.fields ps}/\yo ps.toList
theorem Av.step_keeps(K:Av Q h)(H:∀b o,h.get? b=ah o ->D.get? b=ah o):Av Q D:=
 (K.toOldK.step_keeps H,λb o g e=>let⟨U,x,t⟩:=K.tabs b o g e;(U,H _ _ x,t))
structure HInv (w:dC) (hB:dR) (fr:List vK) (os:ey) (obs:List O) (ρ:List (aA×aA)) (P:aA ->Prop) (s:aS):Prop where
 base:∀b o,hB.get? b=ah o ->¬Grows b ->s.heap.get? b=ah o
 old:Av hB s.heap
 hK:∀b o,hB.get? b=ah o ->¬Grows b ->¬P b
 gw:∀b,Grows b ->P b
 there:∀b,P b ->∃o,s.heap.get? b=ah o
 wB:s.heap.FunFrames hB fr
 wD:∀e∈fr,∀L,e.frame=ah L ->P L
 vt:∀e∈fr,∀L,e.frame=ah L ->¬VA ρ L
 view:View (w.params,s.heap,ρ,P) obs
 gens:vN s.gens
 os:s.os=os
def Xc(env:vK)(h:dR)(m:aF ->Option aK)(x:aF)(u:aK):Prop:=
 (env.kindOf x=ah .local/\m x=ah u)\/((env.kindOf x=ah .cell\/env.kindOf x=ah .free)/\∃c o,env.cells.lookup x=ah c/\h.get? c=ah o/\o.data= .cell (ah u))
structure yg (σ:jQ) (env:vK) (loc:List (aF×V)):Prop where
 ns:∃m,σ.h.Ns env.locals m/\∀x v,loc.lookup x=ah v ->∃u,Xc env σ.h m x u/\R σ v u
 jV:σ.P env.locals
 lj:¬VA σ.ρ env.locals
 ml:¬Grows env.locals
 cells:∀n c,env.cells.lookup n=ah c ->σ.P c/\¬VA σ.ρ c/\c≠env.locals/\¬Grows c/\∃AV,σ.h.IsCell c AV
 inj:∀n n' c,env.cells.lookup n=ah c ->env.cells.lookup n' =ah c ->n=n'
def Own(env:vK)(b:aA):Prop:=b=env.locals\/∃n,env.cells.lookup n=ah b
def kP:aA ->Prop:=λU=>False
theorem pV{P:aA ->Prop}:∀b,kP b ->P b:=λU h=>h.elim
structure Inv (F:Fx) (st:St) (ρ:List (aA×aA)) (P:aA ->Prop) (s:aS):Prop extends HInv F.w F.hB F.fr F.os st.obs ρ P s where
 loc:yg (F.w.params,s.heap,ρ,P) F.env st.loc
structure eH (fr:List vK) (X:aA ->Prop) (ρ cO:List (aA×aA)) (P P' :aA ->Prop) (h h' :dR):Prop where
 keep:∀b o,h.get? b=ah o ->¬VA ρ b ->¬X b ->(∀e∈fr,e.frame≠ah b)->¬Grows b ->h'.get? b=ah o
 slots:∀b o,h.get? b=ah o ->¬VA ρ b ->¬X b ->¬Grows b ->∃sl,h'.get? b=ah {o with slots:=sl}
 l9:∀b o,h.get? b=ah o ->∃o',h'.get? b=ah o'
 pre:∀(i:Nat) p,ρ[i]? =ah p ->cO[i]? =ah p
 sub:∀b,P b ->P' b
 new:∀b,P' b ->P b\/h.get? b=aC
 oJ:∀p∈cO,p∈ρ\/(h.get? p.1=aC/\h.get? p.2=aC)
theorem jh(k:∀b o,h.get? b=ah o ->Q.get? b=ah o):jQ.Le (par,h,ρ,P) (par,Q,ρ,P):=
 (rfl,λb o e U=>k b o e,λU U e=>e,λU p=>.inl p)
theorem mJ.mono(x:σ.Le τ)(h:mJ σ p o)(U:∀ob,σ.h.get? p.1=ah ob ->τ.h.get? p.1=ah ob)(E:∀ob,σ.h.get? p.2=ah ob ->τ.h.get? p.2=ah ob):mJ τ p o:=by
 cases o with
 |inst C a=>refine jW h λH es n Q r=>?_;exact(mu (U _ H) es n (E _ Q)<|RA.mono x _ _ r)
 |list l=>refine jW h λH D n Q r=>?_;exact(mu H D n (U _ Q)<|RL.mono x _ _ r)
theorem View.keeps(v:View (par,h,ρ,P) l)(k:∀b o,h.get? b=ah o ->Q.get? b=ah o):View (par,Q,ρ,P) l:=
 (v.len,λi o p e q=>(v.at_ i o p e q).mono (jh k) (λU z=>k _ _ z) (λU z=>k _ _ z),v.iV,v.apart,v.gr)
theorem HInv.keeps{os:ey}(i:HInv w hB fr os obs ρ P s)(k:∀b o,s.heap.get? b=ah o ->s'.heap.get? b=ah o)(H:vN s'.gens)(Q:s'.os=s.os):HInv w hB fr os obs ρ P s' :=
 (λb o e g=>k _ _<|i.base b o e g,i.old.step_keeps k,i.hK,i.gw,λb p=>let⟨o,e⟩:=i.there b p;(o,k _ _ e),i.wB.of_keeps λb o e U=>(bM o (k _ _ e) rfl),i.wD,i.vt,i.view.keeps k,H,Q.trans i.os)
theorem yg.keeps(i:yg (par,h,ρ,P) env loc)(k:∀b o,h.get? b=ah o ->G.get? b=ah o):yg (par,G,ρ,P) env loc:=by
 refine aR (i.ns) λm D r=>?_;refine((m,D.keeps k,λx v e=>?_),i.jV,i.lj,i.ml,λn c E=>let⟨a1,a2,j,z,Q,y⟩:=i.cells n c E;(a1,a2,j,z,Q,y.keeps k),i.inj);refine aR (r x v e) λu l H=>?_;refine(bM u ?_<|R.mono (jh k) _ _ H);rcases l with l|⟨U,c,o,a,b,d⟩
 .exact .inl l
 .exact .inr (gJ U c o a (k _ _ b) d)
theorem Inv.keeps{st:St}(i:Inv F st ρ P s)(k:∀b o,s.heap.get? b=ah o ->s'.heap.get? b=ah o)(H:s'.gens=s.gens)(Q:s'.os=s.os):Inv F st ρ P s' :=
 (i.toHInv.keeps k (by rw[H];exact i.gens) Q,i.loc.keeps k)
theorem eH.of_keeps(k:∀b o,h.get? b=ah o ->Q.get? b=ah o):eH fr X ρ ρ P P h Q:=
 (λb o e U U U U=>k b o e,λb o e U U U=>(o.slots,k b o e),λb o e=>(o,k b o e),λU U e=>e,λU p=>p,λU p=>.inl p,λp h=>.inl h)
theorem eH.refl:eH fr X ρ ρ P P h h:=.of_keeps λU U e=>e
theorem eH.weaken(x:eH fr X ρ ρ₁ P H h Q)(k:∀b,X b ->U b):eH fr U ρ ρ₁ P H h Q:=
 (λb o e n q f g=>x.keep b o e n (λz=>q<|k b z) f g,λb o e n q g=>x.slots b o e n (λz=>q<|k b z) g,x.l9,x.pre,x.sub,x.new,x.oJ)
theorem eH.trans(x:eH fr X ρ ρ₁ P E h Q)(y:eH fr X ρ₁ H E D Q U):eH fr X ρ H P D h U:=by
 have nv:∀b o,h.get? b=ah o ->¬VA ρ b ->¬VA ρ₁ b:=λb o e n zU=>aR zU λp m q=>by
  rcases x.oJ p m with z|⟨u,G⟩
  .exact n (bM p z q)
  .rcases q with rfl|rfl
   .rw[u]at e;cases e
   .rw[G]at e;cases e
 have back:∀b,Q.get? b=aC ->h.get? b=aC:=λb e=>by
  cases q:h.get? b with
  |none=>rfl
  |some o=>refine eN (x.l9 b o q) λo' z=>?_;rw[z]at e;cases e
 refine(λb o e n q f g=>y.keep b o (x.keep b o e n q f g) (nv b o e n) q f g,λb o e n q g=>?_,λb o e=>let⟨o',z⟩:=x.l9 b o e;y.l9 b o' z,λi p e=>y.pre i p<|x.pre i p e,λb p=>y.sub b<|x.sub b p,λb p=>?_,λp m=>?_)
 .refine eN (x.slots b o e n q g) λsl z=>?_;refine eN (y.slots b _ z (nv b o e n) q g) λj z' =>?_;exact(j,z')
 .exact(y.new b p).elim (x.new b) λz=>.inr<|back b z
 .rcases y.oJ p m with z|⟨u,G⟩
  .exact x.oJ p z
  .exact .inr (back _ u,back _ G)
theorem eH.le(x:eH fr X ρ Q P P' h z)(y:∀b,X b ->P b)(H:∀p∈ρ,P p.1/\P p.2)(G:∀e∈fr,∀L,e.frame=ah L ->P L)(E:∀b,Grows b ->P b):jQ.Le (par,h,ρ,P) (par,z,Q,P'):=
 (rfl,λb o e n=>x.keep b o e (λD=>aR D λp U q=>by rcases q with rfl|rfl;exact n (H p U).1;exact n (H p U).2) (λq=>n<|y b q) (λj u q=>n<|G j u b q) λg=>n<|E b g,x.pre,x.new)
theorem HInv.le{w:dC}{hB:dR}{fr:List vK}{X:aA ->Prop}{os:ey}{obs:List O}{ρ Q:List (aA×aA)}{P P' :aA ->Prop}{s:aS}{H:dR}(i:HInv w hB fr os obs ρ P s)(x:eH fr X ρ Q P P' s.heap H)(U:∀b,X b ->P b):
 jQ.Le (w.params,s.heap,ρ,P) (w.params,H,Q,P'):=x.le U i.view.iV i.wD i.gw
theorem iX:R σ (.int i) (.int i t):=(t,rfl)
theorem kI:R σ (.str x) (.str x t):=(t,rfl)
theorem pD:R σ .none .none:=rfl
theorem eV:R σ (.bool b) (.bool b):=rfl
theorem Di:R σ (.val u) u:=rfl
structure yh (F:Fx) (mg mb:aF ->Option aK):Prop where
 kind:F.env.scope.kind= .function
 glob:F.env.globals=mainGlobals
 bi:F.env.builtins=builtinsNs
 g:F.hB.Ns mainGlobals mg
 b:F.hB.Ns builtinsNs mb
 frames:F.A.frames=ah F.fr
 lim:F.hB.NoLimit
noncomputable abbrev Fx.M(F:Fx):yC:=model F.prog F.w
noncomputable abbrev Fx.fw(F:Fx)(s:aS)(ρ:List (aA×aA))(P:aA ->Prop):jQ:=(F.w.params,s.heap,ρ,P)
inductive PV (F:Fx) (ρ:List (aA×aA)) (P:aA ->Prop) (h:dR) (v:V) (ke:St) (u:aK) (s' :aS):Prop
 |mk (cO:List (aA×aA)) (P' :aA ->Prop) (i:Inv F ke cO P' s') (x:eH F.fr kP ρ cO P P' h s'.heap) (r:R (F.fw s' cO P') v u):PV F ρ P h v ke u s'
theorem PV.go(E:PV F ρ P h v H u s'){D:Prop}(G:∀(Q:List (aA×aA)) (P' :aA ->Prop) (i:Inv F H Q P' s') (x:eH F.fr kP ρ Q P P' h s'.heap) (r:R (F.fw s' Q P') v u),D):D:=PV.rec (motive:=λU=>D) G E
def EV(F:Fx)(e:aW)(st:St)(v:V)(Q:St):Prop:=
 ∀ρ P s,Inv F st ρ P s ->wpAny F.M F.A (eval e F.env) (PV F ρ P s.heap v Q) (λU U=>False) s
inductive PB (F:Fx) (ρ:List (aA×aA)) (P:aA ->Prop) (h:dR) (b:Bool) (ke:St) (u:Bool) (s' :aS):Prop
 |mk (cO:List (aA×aA)) (P' :aA ->Prop) (e:u=b) (i:Inv F ke cO P' s') (x:eH F.fr kP ρ cO P P' h s'.heap):PB F ρ P h b ke u s'
theorem PB.go(E:PB F ρ P h b H u s'){D:Prop}(G:∀(Q:List (aA×aA)) (P' :aA ->Prop) (e:u=b) (i:Inv F H Q P' s') (x:eH F.fr kP ρ Q P P' h s'.heap),D):D:=PB.rec (motive:=λU=>D) G E
def TV(F:Fx)(e:aW)(st:St)(b:Bool)(Q:St):Prop:=
 ∀ρ P s,Inv F st ρ P s ->wpAny F.M F.A (isTrue e F.env<|eval e F.env) (PB F ρ P s.heap b Q) (λU U=>False) s
def PK(F:Fx)(ρ:List (aA×aA))(P:aA ->Prop)(s:aS)(v:V)(u:aK)(s' :aS):Prop:=
 (∀b o,s.heap.get? b=ah o ->s'.heap.get? b=ah o)/\s'.gens=s.gens/\s'.os=s.os/\R (F.fw s' ρ P) v u
section
variable{F:Fx} {mg mb:aF ->Option aK} {st st₁ aN:St} {ρ ρ₁:List (aA×aA)} {P bN:aA ->Prop} {s a7:aS}
theorem PK.pv(i:Inv F st ρ P s)(h:PK F ρ P s v u s'):PV F ρ P s.heap v st u s' :=
 (ρ,P,i.keeps h.1 h.2.1 h.2.2.1,.of_keeps h.1,h.2.2.2)
theorem PK.tok(n:Nat)(h:R (F.fw s ρ P) v u):PK F ρ P s v u {s with toks:=n}:=(cy (λU U e=>e) rfl rfl h)
theorem PV.trans(x:eH F.fr kP ρ ρ₁ P bN Q a7.heap)(h:PV F ρ₁ bN a7.heap v U u s'):PV F ρ P Q v U u s' :=
 let⟨H,D,i,y,r⟩:=h;(H,D,i,x.trans y,r)
theorem EV.int:EV F (.Constant (.int i) k pos) st (.int i) st:=λρ P s I=>vj<|(PK.tok (F:=F) _ iX).pv I
theorem EV.str:EV F (.Constant (.str x) k pos) st (.str x) st:=λρ P s I=>dZ<|(PK.tok (F:=F) _ kI).pv I
theorem EV.none:EV F (.Constant .none k pos) st .none st:=λρ P s I=>λU U U=>(PK.tok (F:=F) s.toks pD).pv I
theorem EV.bool:EV F (.Constant (.bool b) k pos) st (.bool b) st:=λρ P s I=>λU U U=>(PK.tok (F:=F) s.toks eV).pv I
theorem EV.name(O:yh F mg mb)(y:st.loc.lookup x=ah v)(hd:(x==("__debug__":aF))=ao)(hc:(x==("__classdict__":aF))=ao):EV F (.Name x pos) st v st:=λρ P s I=>by
 refine cH λGq G=>?_;refine aR (I.loc.ns) λm z r=>?_;refine aR (r x v y) λu l D=>?_;refine G ?_;refine vi ?_ hd;rcases l with⟨Q,j⟩|⟨Q,c,o,U,E,H⟩
 .exact gg O.kind Q z j ((PK.tok (F:=F) s.toks D).pv I)
 .rcases Q with Q|Q
  .exact sM O.kind Q U (bM o E H) ((PK.tok (F:=F) s.toks D).pv I)
  .exact sL O.kind Q U (bM o E H) ((PK.tok (F:=F) s.toks D).pv I) hc
theorem Inv.g(I:Inv F st ρ P s)(O:yh F mg mb):s.heap.Ns mainGlobals mg:=by refine bl (O.g) λo es H Q r=>?_;exact(br o es H (I.base _ _ Q (by unfold Grows;decide)) r)
theorem Inv.b(I:Inv F st ρ P s)(O:yh F mg mb):s.heap.Ns builtinsNs mb:=by refine bl (O.b) λo es H Q r=>?_;exact(br o es H (I.base _ _ Q (by unfold Grows;decide)) r)
theorem EV.global(O:yh F mg mb)(H:F.env.kindOf x=ah .globalImplicit)(Q:mg x=ah u)(hd:(x==("__debug__":aF))=ao):EV F (.Name x pos) st (.val u) st:=λρ P s I=>
 dE O.kind H (m7 (O.glob▸I.g O) Q<|(PK.tok (F:=F) s.toks Di).pv I) hd
theorem EV.builtin(O:yh F mg mb)(H:F.env.kindOf x=ah .globalImplicit)(Q:mg x=dW)(U:mb x=ah u)(hd:(x==("__debug__":aF))=ao):EV F (.Name x pos) st (.val u) st:=λρ P s I=>
 dE O.kind H (jy (O.glob▸I.g O) Q (O.bi▸I.b O) U<|(PK.tok (F:=F) s.toks Di).pv I) hd
theorem EV.two{l r:aW}{a b:V}{C:aS ->aK ->aK ->Prop}(hl:EV F l st a st₁)(hr:EV F r st₁ b aN)(I:Inv F st ρ P s)(h:∀H D Q y u,Inv F aN H D Q ->eH F.fr kP ρ H P D s.heap Q.heap ->R (F.fw Q H D) a y ->R (F.fw Q H D) b u ->C Q y u):
 wpAny F.M F.A (eval l F.env) (λy a7=>wpAny F.M F.A (eval r F.env) (λu Q=>C Q y u) (λU U=>False) a7) (λU U=>False) s:=by
 refine aq (hl ρ P s I) (λy a7 m=>m.go λρ₁ bN G z ra=>?_) i3;refine aq (hr ρ₁ bN a7 G) (λu Q m=>m.go λH D j E rb=>?_) i3;exact h H D Q y u j (z.trans E) (R.mono (G.toHInv.le E pV) _ _ ra) rb
def lG(F:Fx)(st:St)(D:eI)(a b c:V):Prop:=∀ρ P s H Q,Inv F st ρ P s ->R (F.fw s ρ P) a H ->R (F.fw s ρ P) b Q ->wpAny F.M F.A (binaryOp D H Q) (PK F ρ P s c) (λU U=>False) s
def dO(F:Fx)(st:St)(D:yF)(a b:V)(c:Bool):Prop:=∀ρ P s H Q,Inv F st ρ P s ->R (F.fw s ρ P) a H ->R (F.fw s ρ P) b Q ->wpAny F.M F.A (compareOp D H Q) (PK F ρ P s<|.bool c) (λU U=>False) s
theorem EV.binop(hl:EV F l st a st₁)(hr:EV F r st₁ b aN)(ho:lG F aN j a b c):EV F (.BinOp l j r pos) st c aN:=λρ P s I=>
 iP (EV.two (C:=λQ y G=>wpAny F.M F.A (binaryOp j y G) (PV F ρ P s.heap c aN) (λU U=>False) Q) hl hr I λD E Q y G H x ra m=>
  aq (ho D E Q y G H ra m) (λu s' z=>(z.pv H).trans x) i3)
theorem EV.compare(hl:EV F l st a st₁)(hr:EV F r st₁ b aN)(ho:dO F aN j a b c)(hm:behindInMarks j r=ao):EV F (.Compare l [j] [r] pos) st (.bool c) aN:=λρ P s I=>
 wpAny_Compare1 (EV.two (C:=λQ y G=>wpAny F.M F.A (compareOp j y G) (PV F ρ P s.heap (.bool c) aN) (λU U=>False) Q) hl hr I λD E Q y G H x ra m=>
  aq (ho D E Q y G H ra m) (λu s' z=>(z.pv H).trans x) i3) hm
theorem TV.compare{l r:aW}{j:yF}{pos:si}{a b:V}{c:Bool}(hl:EV F l st a st₁)(hr:EV F r st₁ b aN)(ho:dO F aN j a b c)(hm:behindInMarks j r=ao):TV F (.Compare l [j] [r] pos) st c aN:=λρ P s I=>
 qA (EV.two (C:=λQ ua ub=>wpAny F.M F.A (compareOp j ua ub) (λc' E=>wpAny F.M F.A (truthy c') (PB F ρ P s.heap c aN) (λU U=>False) E) (λU U=>False) Q) hl hr I λD G Q ua ub H x ra rb=>
  aq (ho D G Q ua ub H ra rb) (λu s' z=>by obtain⟨m,P',I',y,rr⟩:=(z.pv H).trans x;cases rr;exact m1 (m,P',rfl,I',y)) i3) hm
end
theorem eD:∀{l:List (aF×Q)},l.lookup x=ah c ->(x,c)∈l
 |[],h=>by cases h
 |(y,d)::r,h=>by
  rw[cw]at h;cases q:x==y with
  |true=>rw[q]at h;cases h;rw[beq_iff_eq.mp q];exact .head _
  |false=>rw[q]at h;exact .tail _<|eD h
theorem kW(D:gB L h u)(hd:∃o',u.get? L=ah o' /\∀vs,o'.data≠ .fields vs):∀{l:List vK},h.FunFrames base l ->u.FunFrames base l
 |[],_=>trivial
 |env::U,(j,(Q,o,G,E,z,H),y)=>by
  refine(j,?_,kW D hd y);by_cases q:Q=L
  .subst q;refine aR hd λo' a b=>?_;exact(qp Q o' G E a b)
  .exact(qp Q o G E ((D.2 Q q).trans z) H)
theorem DQ(K:OldK Q h)(j:Q.get? a=aC)(E:gB a h m):OldK Q m:=by
 have ne:∀b o,Q.get? b=ah o ->b≠a:=λb o e q=>by rw[q,j]at e;cases e
 refine(λb o e=>?_,λb o e=>let⟨D,e'⟩:=K.there b o e;(D,(E.2 b<|ne b o e).trans e'));have eq:=E.2 b<|ne b o e;rcases K.old b o e with y|⟨t,c,vs,H,G,y⟩|⟨u,c,⟨D,es,n,y,z⟩,k⟩
 .exact .inl (eq.trans y)
 .exact .inr (.inl<|C6 t c vs H G<|eq.trans y)
 .subst u;exact .inr<|.inr<|cy rfl c (br D es n (eq.trans y) z) (λU=>by rw[Ez eq U];exact k U)
theorem GC(K:Av Q h)(U:Q.get? a=aC)(H:gB a h E):Av Q E:=
 (DQ K.toOldK U H,λb o g e=>let⟨D,x,t⟩:=K.tabs b o g e;(D,(H.2 b λq=>by rw[q,U]at e;cases e).trans x,t))
section
variable{w:dC} {hB:dR} {fr:List vK} {os:ey} {obs:List O} {ρ:List (aA×aA)} {P:aA ->Prop} {s s' :aS} {L:aA} {F:Fx} {st:St}
theorem fO(Q:gB L h D)(H:P L):jQ.Le (par,h,ρ,P) (par,D,ρ,P):=
 (rfl,λb o e n=>(Q.2 b λq=>n<|q▸H).trans e,λU U e=>e,λU p=>.inl p)
theorem HInv.own(i:HInv w hB fr os obs ρ P s)(Q:gB L s.heap s'.heap)(G:P L)(E:¬VA ρ L)(m:¬Grows L)(hd:∃o',s'.heap.get? L=ah o' /\∀vs,o'.data≠ .fields vs)(y:s'.gens=s.gens)(u:s'.os=s.os):HInv w hB fr os obs ρ P s' :=by
 have ne:∀b o,hB.get? b=ah o ->¬Grows b ->b≠L:=λb o e g q=>i.hK b o e g<|q▸G;have D:∀p∈ρ,p.1≠L/\p.2≠L:=λp H=>(λq=>E<|bM p H<|.inl q.symm,λq=>E<|bM p H<|.inr q.symm);refine(λb o e g=>(Q.2 b<|ne b o e g).trans<|i.base b o e g,GC i.old (by
  cases q:hB.get? L with
  |none=>rfl
  |some o=>exact absurd rfl<|ne L o q m) Q,i.hK,i.gw,λb p=>?_,kW Q hd i.wB,i.wD,i.vt,?_,by rw[y];exact i.gens,u.trans i.os)
 .by_cases q:b=L
  .refine aR hd λo' a U=>?_;exact(o',q▸a)
  .refine eN (i.there b p) λo e=>?_;exact(o,(Q.2 b q).trans e)
 .refine(i.view.len,λj o p e q=>?_,i.view.iV,i.view.apart,i.view.gr);have H:=D p<|aT q;exact(i.view.at_ j o p e q).mono (fO Q G) (λU z=>(Q.2 _ H.1).trans z) (λU z=>(Q.2 _ H.2).trans z)
theorem sY(Q:gB L h D)(H:X L)(hd:∃o',D.get? L=ah o'):eH fr X ρ ρ P P h D:=
 (λb o e U q U U=>(Q.2 b λz=>q<|z▸H).trans e,λb o e U q U=>(o.slots,(Q.2 b λz=>q<|z▸H).trans e),λb o e=>by
  by_cases q:b=L
  .refine eN hd λo' a=>?_;exact(o',q▸a)
  .exact(o,(Q.2 b q).trans e),λU U e=>e,λU p=>p,λU p=>.inl p,λp h=>.inl h)
structure Ex where
 cls:aK
 att:List (aF×V)
def XD(σ:jQ)(x:Ex)(H:gy):Prop:=x.att=[]\/∃Q es n,H.dict=ah Q/\σ.h.get? Q=ah (dictOf es n)/\¬σ.P Q/\RA σ x.att es
noncomputable def XTr(σ:jQ)(Q:dR)(a:aA)(vs:Array aK):Option aK ->Prop
 |none=>vs[1]? =ah .none
 |some f=>∃T U H,vs[1]? =ah (.ref T)/\T≠a/\Q.get? T=aC/\¬VA σ.ρ T/\σ.P T/\σ.h.get? T=ah U/\U.data= .fields H/\H[3]? =ah f
structure NP (σ:jQ) (h₀:dR) (fl:Option aK) (x:Ex) (a:aA) (oe:gy) (vs:Array aK):Prop where
 at_:σ.h.get? a=ah oe
 cls:oe.cls=x.cls
 dat:oe.data= .fields vs
 sz:1<vs.size
 new:h₀.get? a=aC
 va:¬VA σ.ρ a
 iV:σ.P a
 att:XD σ x oe
 tr:XTr σ h₀ a vs fl
inductive FV where
 |next|brk|cont
 |ret (v:V)
 |exc (x:Ex)
noncomputable def NV(σ:jQ):FV ->Flow ->Prop
 | .next,f=>f= .next
 | .brk,f=>f= .brk
 | .cont,f=>f= .cont
 | .ret v,f=>∃u,f= .ret u/\R σ v u
 | .exc _,_=>False
inductive PS (F:Fx) (ρ:List (aA×aA)) (P:aA ->Prop) (h:dR) (fl:FV) (ke:St) (f:Flow) (s' :aS):Prop
 |mk (cO:List (aA×aA)) (P' :aA ->Prop) (i:Inv F ke cO P' s') (x:eH F.fr (Own F.env) ρ cO P P' h s'.heap) (q:NV (F.fw s' cO P') fl f):PS F ρ P h fl ke f s'
theorem PS.go(E:PS F ρ P h fl H f s'){D:Prop}(G:∀(Q:List (aA×aA)) (P' :aA ->Prop) (i:Inv F H Q P' s') (x:eH F.fr (Own F.env) ρ Q P P' h s'.heap) (q:NV (F.fw s' Q P') fl f),D):D:=PS.rec (motive:=λU=>D) G E
inductive yw (F:Fx) (ρ:List (aA×aA)) (P:aA ->Prop) (h:dR) (fl:Option aK) (x:Ex) (ke:St) (e:aK) (s' :aS):Prop
 |mk (cO:List (aA×aA)) (P' :aA ->Prop) (a:aA) (oe:gy) (vs:Array aK) (q:e= .ref a) (i:Inv F ke cO P' s') (y:eH F.fr (Own F.env) ρ cO P P' h s'.heap) (z:NP (F.fw s' cO P') h fl x a oe vs):yw F ρ P h fl x ke e s'
inductive PX (F:Fx) (ρ:List (aA×aA)) (P:aA ->Prop) (h:dR) (fl:FV) (ke:St) (e:aK) (s' :aS):Prop
 |mk (x:Ex) (q:fl= .exc x) (f:Option aK) (c:f=aC\/f=ah .none\/f=ah (rawInt F.env.locals)) (p:yw F ρ P h f x ke e s'):PX F ρ P h fl ke e s'
theorem PX.go(D:PX F ρ P h fl Q e s'){H:Prop}(E:∀(x:Ex) (q:fl= .exc x) (f:Option aK) (c:f=aC\/f=ah .none\/f=ah (rawInt F.env.locals)) (p:yw F ρ P h f x Q e s'),H):H:=PX.rec (motive:=λU=>H) E D
def EX(F:Fx)(x:cn)(st:St)(fl:FV)(Q:St):Prop:=
 ∀ρ P s,Inv F st ρ P s ->wpAny F.M F.A (exec x F.env) (PS F ρ P s.heap fl Q) (PX F ρ P s.heap fl Q) s
def dc(F:Fx)(x:List cn)(st:St)(fl:FV)(Q:St):Prop:=
 ∀ρ P s,Inv F st ρ P s ->wpAny F.M F.A (execs x F.env) (PS F ρ P s.heap fl Q) (PX F ρ P s.heap fl Q) s
theorem Inv.TJ(I:Inv F st ρ P s):∀b,Own F.env b ->P b:=λb h=>by
 rcases h with rfl|⟨n,Q⟩
 .exact I.loc.jV
 .exact(I.loc.cells n b Q).1
theorem jf{y x:aF}{v:V}{l:List (aF×V)}(h:y≠x):Xx y ((x,v)::l)=l.lookup y:=by rw[cw,show(y==x)=ao from beq_eq_false_iff_ne.mpr h]
theorem store{x:aF}{v:V}{u:aK}(H:F.env.scope.kind= .function)(hk:F.env.kindOf x=ah .local\/(F.env.kindOf x=ah .cell/\(F.env.cells.lookup x).isSome=aj))(I:Inv F st ρ P s)(r:R (F.fw s ρ P) v u){E:aK ->aS ->Prop}:wpAny F.M F.A (storeName F.env x u) (λU s' =>Inv F ((x,v)::st.loc,st.obs) ρ P s' /\eH F.fr (Own F.env) ρ ρ P P s.heap s'.heap) E s:=by
 refine aR (I.loc.ns) λm hn rl=>?_;rcases hk with hk|⟨hk,hs⟩
 .refine ij hk hn (λh' X9 Q=>?_) (by rw[H];rfl);have hd:∃j,h'.get? F.env.locals=ah j/\∀vs,j.data≠ .fields vs:=by
   refine cH λGq kq=>?_;refine ji X9 λo es ep ho hd U=>?_;refine kq ?_;exact(bM o ho (λvs q=>by rw[hd]at q;cases q))
  have L:jQ.Le (F.fw s ρ P) (F.w.params,h',ρ,P):=fO Q I.loc.jV;refine((HInv.own (s' :={s with heap:=h',toks:=s.toks+1}) I.toHInv Q I.loc.jV I.loc.lj I.loc.ml hd rfl rfl,((_,X9,λy v' e=>?_),I.loc.jV,I.loc.lj,I.loc.ml,λn c hc=>?_,I.loc.inj)),sY Q (.inl rfl) (let⟨j,a,_⟩:=hd;(j,a)))
  .by_cases q:y=x
   .subst q;rw[jL]at e;cases e;exact(bM u (.inl (hk,by simp))<|R.mono L _ _ r)
   .rw[jf q]at e;refine aR (rl y v' e) λu' l ru=>?_;refine(bM u' ?_<|R.mono L _ _ ru);rcases l with⟨a,b⟩|⟨a,c,o,b,d,e⟩
    .exact .inl (a,by simp[q,b])
    .exact .inr (gJ a c o b ((Q.2 c (I.loc.cells _ _ b).2.2.1).trans d) e)
  .refine cH λGq kq=>?_;refine fF (I.loc.cells n c hc) λa1 a2 a3 a4 G o a5 a6=>?_;refine kq ?_;exact(fG a1 a2 a3 a4 G o ((Q.2 c a3).trans a5) a6)
 .refine cH λGq kq=>?_;refine eN (Option.isSome_iff_exists.mp hs) λc hc=>?_;refine C4 (I.loc.cells _ _ hc) λa1 a2 a3 a4 G hv=>?_;refine kq ?_;refine wpAny_storeName_cell H hk hc hv λh' hv' Q=>?_;refine aR hv' λoc D hdc=>?_;have hd:∃j,h'.get? c=ah j/\∀vs,j.data≠ .fields vs:=(bM oc D (λvs q=>by rw[hdc]at q;cases q));have L:jQ.Le (F.fw s ρ P) (F.w.params,h',ρ,P):=fO Q a1;refine((HInv.own (s' :={s with heap:=h'}) I.toHInv Q a1 a2 a4 hd rfl rfl,((bM m (hn.sameBut Q<|gu a3) λy v' e=>?_),I.loc.jV,I.loc.lj,I.loc.ml,λn c' Yg=>?_,I.loc.inj)),sY Q (.inr (_,hc)) (oc,D))
  .by_cases q:y=x
   .subst q;rw[jL]at e;cases e;exact(bM u (.inr<|gJ (.inl hk) c oc hc D hdc)<|R.mono L _ _ r)
   .rw[jf q]at e;refine aR (rl y v' e) λu' l ru=>?_;refine(bM u' ?_<|R.mono L _ _ ru);rcases l with l|⟨a,c',o,b,d,e⟩
    .exact .inl l
    .exact .inr (gJ a c' o b ((Q.2 c' λz=>q<|I.loc.inj _ _ c (z▸b) hc).trans d) e)
  .refine cH λGq kq=>?_;refine fF (I.loc.cells n c' Yg) λb1 b2 b3 b4 Y8 o b5 b6=>?_;refine kq ?_;by_cases z:c' =c
   .subst z;exact(fG b1 b2 b3 b4 (ah u) oc D hdc)
   .exact(fG b1 b2 b3 b4 Y8 o ((Q.2 c' z).trans b5) b6)
end
theorem eH.back(x:eH fr X ρ Q P P' h H)(e:H.get? b=aC):h.get? b=aC:=by
 cases q:h.get? b with
 |none=>rfl
 |some o=>refine eN (x.l9 b o q) λU z=>?_;rw[z]at e;cases e
theorem NP.back(k:∀b,Q.get? b=aC ->H.get? b=aC)(z:NP σ Q fl x a D vs):NP σ H fl x a D vs:=
 (z.at_,z.cls,z.dat,z.sz,k _ z.new,z.va,z.iV,z.att,by
  have:=z.tr;cases fl with
  |none=>exact this
  |some f=>refine Im this λT E U y u G r=>?_;exact(qo T E U y u (k _ G) r))
noncomputable def gm:aW ->Bool
 | .ListComp .. | .SetComp .. | .DictComp .. =>ao
 |_=>aj
theorem nX(h:gm e=aj):swapsWith e t l env=pure ao:=by cases e<;>first|rfl|cases h
section
variable{F:Fx} {mg mb:aF ->Option aK} {st st₁ aN st₃:St} {ρ ρ₁:List (aA×aA)} {P bN:aA ->Prop} {s a7:aS}
theorem PS.trans(x:eH F.fr (Own F.env) ρ ρ₁ P bN Q a7.heap)(h:PS F ρ₁ bN a7.heap fl U f s'):PS F ρ P Q fl U f s' :=
 let⟨H,D,i,y,r⟩:=h;(H,D,i,x.trans y,r)
theorem PX.trans(x:eH F.fr (Own F.env) ρ ρ₁ P bN Q a7.heap)(h:PX F ρ₁ bN a7.heap fl U e s'):PX F ρ P Q fl U e s' :=
 let⟨G,q,f,E,H,j,a,D,vs,u,i,y,r⟩:=h;(G,q,f,E,H,j,a,D,vs,u,i,x.trans y,r.back λb z=>x.back z)
theorem eH.up(x:eH fr kP ρ Q P P' h H):eH fr X ρ Q P P' h H:=x.weaken λU z=>z.elim
def qx(env:vK)(x:aF):Prop:=env.kindOf x=ah .local\/(env.kindOf x=ah .cell/\(env.cells.lookup x).isSome=aj)
theorem EX.assign(O:yh F mg mb)(z:qx F.env x)(j:EV F e st v st₁)(m:gm e=aj):EX F (.Assign [.Name x px] e pos) st .next ((x,v)::st₁.loc,st₁.obs):=λρ P s I=>by refine ir (aq (j ρ P s I) (λu a7 G=>G.go λρ₁ bN E H r=>?_) i4) (nX m);exact aq (store O.kind z E r) (λU y G=>fk G λD Q=>(ρ₁,bN,D,H.up.trans Q,rfl)) i3
def ES(F:Fx)(st:St)(D:eI)(a b c:V):Prop:=∀ρ P s H Q,Inv F st ρ P s ->R (F.fw s ρ P) a H ->R (F.fw s ρ P) b Q ->wpAny F.M F.A (inplaceOp D H Q) (PK F ρ P s c) (λU U=>False) s
theorem Ue(O:yh F mg mb)(z:st.loc.lookup x=ah v)(hc:(x==("__classdict__":aF))=ao)(I:Inv F st ρ P s):wpAny F.M F.A (loadName F.env x) (λu s' =>s' =s/\R (F.fw s ρ P) v u) E s:=by
 refine cH λGq y=>?_;refine aR (I.loc.ns) λm j r=>?_;refine aR (r x v z) λu l D=>?_;refine y ?_;rcases l with⟨Q,hm⟩|⟨Q,c,o,U,G,H⟩
 .exact gg O.kind Q j hm (rfl,D)
 .rcases Q with Q|Q
  .exact sM O.kind Q U (bM o G H) (rfl,D)
  .exact sL O.kind Q U (bM o G H) (rfl,D) hc
theorem EX.aug(O:yh F mg mb)(hx:qx F.env x)(hl:st.loc.lookup x=ah a)(hc:(x==("__classdict__":aF))=ao)(he:EV F e st b st₁)(ho:ES F st₁ op a b c):EX F (.AugAssign (.Name x px) op e pos) st .next ((x,c)::st₁.loc,st₁.obs):=λρ P s I=>by refine wpAny_AugAssign_Name (aq (Ue O hl hc I) (λua a7 G=>fk G λhs ra=>?_) i3);subst hs;refine aq (he ρ P a7 I) (λub m G=>G.go λE mU H Q rb=>?_) i4;refine aq (ho E mU m ua ub H (R.mono (I.toHInv.le Q pV) _ _ ra) rb) (λu jT z=>?_) i4;refine cH λGq kq=>?_;obtain⟨D,sG,jX,j,OY⟩:=(z.pv H).trans Q;refine kq ?_;exact aq (store O.kind hx jX OY) (λU so G=>fk G λnP y=>(D,sG,nP,j.up.trans y,rfl)) i3
theorem dc.nil:dc F [] st .next st:=λρ P s I=>gc (ρ,P,I,.refl,rfl)
theorem dc.cons{x:cn}{r:List cn}{fl:FV}(G:EX F x st .next st₁)(u:dc F r st₁ fl aN):dc F (x::r) st fl aN:=λρ P s I=>
 cB (aq (G ρ P s I) (λf a7 E=>E.go λρ₁ bN H Q q=>by cases q;exact aq (u ρ₁ bN a7 H) (λf D z=>z.trans Q) λU U z=>z.trans Q) λU U z=>by obtain⟨_,q,_⟩:=z;cases q)
noncomputable def FV.xP:FV ->Bool
 | .next=>aj
 |_=>ao
theorem dc.stop(E:EX F x st fl st₁)(G:fl.xP=ao):dc F (x::r) st fl st₁:=λρ P s I=>
 cB (aq (E ρ P s I) (λf a7 z=>by
  obtain⟨ρ₁,bN,H,Q,q⟩:=z;cases fl with
  |next=>cases G
  |brk=>cases q;exact(ρ₁,bN,H,Q,rfl)
  |cont=>cases q;exact(ρ₁,bN,H,Q,rfl)
  |ret v=>(refine aR q λu U D=>?_;subst U);exact(ρ₁,bN,H,Q,u,rfl,D)
  |exc x=>exact q.elim) i3)
theorem EX.pass:EX F (.Pass pos) st .next st:=λρ P s I=>wpAny_Pass (ρ,P,I,.refl,rfl)
theorem EX.brk:EX F (.Break pos) st .brk st:=λρ P s I=>wpAny_Break (ρ,P,I,.refl,rfl)
theorem EX.cont:EX F (.Continue pos) st .cont st:=λρ P s I=>wpAny_Continue (ρ,P,I,.refl,rfl)
theorem EX.ret(D:EV F e st v st₁):EX F (.Return (ah e) pos) st (.ret v) st₁:=λρ P s I=>
 ff (aq (D ρ P s I) (λu a7 U=>U.go λρ₁ bN H Q r=>(ρ₁,bN,H,Q.up,u,rfl,r)) i4)
theorem EX.ZK:EX F (.Return dW pos) st (.ret .none) st:=λρ P s I=>wpAny_Return_none (ρ,P,I,.refl,.none,rfl,pD)
theorem EX.ite(y:TV F t st q st₁)(j:dc F (if q then b else c) st₁ fl aN):EX F (.If t b c pos) st fl aN:=λρ P s I=>
 Mg (aq (y ρ P s I) (λu a7 E=>E.go λρ₁ bN G H Q=>by subst G;have:=aq (j ρ₁ bN a7 H) (λf D z=>PS.trans (a7:=a7) Q.up z) λU U z=>PX.trans (a7:=a7) Q.up z;cases u<;>exact this) i4)
end
structure iz (fr:List vK) (X:aA ->Prop) (h h' :dR):Prop where
 keep:∀b o,h.get? b=ah o ->¬X b ->(∀e∈fr,e.frame≠ah b)->h'.get? b=ah o
 slots:∀b o,h.get? b=ah o ->¬X b ->∃sl,h'.get? b=ah {o with slots:=sl}
 l9:∀b o,h.get? b=ah o ->∃o',h'.get? b=ah o'
theorem iz.refl:iz fr X h h:=(λU U e U U=>e,λU o e U=>(o.slots,e),λU o e=>(o,e))
theorem iz.trans(x:iz fr X h H)(y:iz fr X H Q):iz fr X h Q:=
 (λb o e n f=>y.keep b o (x.keep b o e n f) n f,λb o e n=>by refine eN (x.slots b o e n) λu z=>?_;refine eN (y.slots b _ z n) λU D=>?_;exact(U,D),λb o e=>let⟨G,z⟩:=x.l9 b o e;y.l9 b G z)
theorem iz.keeps(k:∀b o,h.get? b=ah o ->h'.get? b=ah o):iz fr X h h' :=(λb o e U U=>k b o e,λb o e U=>(o.slots,k b o e),λb o e=>(o,k b o e))
theorem iz.of_slots(k:Heap.SlotsOnly (fr.filterMap (·.frame)) h h'):iz fr X h h' :=
 (λb o e U f=>(k.2.1 b λm=>by refine aR (List.mem_filterMap.mp m) λH Q q=>?_;exact f H Q q).trans e,λb o e U=>k.2.2 b o e,λb o e=>let⟨D,z⟩:=k.2.2 b o e;(_,z))
theorem iz.fields(g:Array aK ->Array aK)(e:h.get? a=ah o)(hd:o.data= .fields vs)(H:X a):iz fr X h (h.update a<|j9 g):=
 have ne:∀b,¬X b ->(h.update a<|j9 g).get? b=h.get? b:=λb n=>cv _ _ λq=>n<|q▸H;(λb o e n U=>(ne b n).trans e,λb o e n=>(o.slots,(ne b n).trans e),λb Q D=>by
  by_cases q:a=b
  .subst q;exact(_,bQ _ e<|oN<|rK hd g)
  .exact(Q,(cv _ _ q).trans D))
theorem Bc(K:OldK Q h)(k:∀b o,Q.get? b=ah o ->h'.get? b=h.get? b):OldK Q h' :=by
 refine(λb o e=>?_,λb o e=>let⟨D,j⟩:=K.there b o e;(D,(k b o e).trans j));have eq:=k b o e;rcases K.old b o e with y|⟨t,c,vs,H,G,y⟩|⟨u,c,⟨D,es,n,y,z⟩,q⟩
 .exact .inl (eq.trans y)
 .exact .inr (.inl<|C6 t c vs H G<|eq.trans y)
 .subst u;exact .inr<|.inr<|cy rfl c (br D es n (eq.trans y) z) (λU=>by rw[Ez eq U];exact q U)
theorem lN(K:Av Q h)(k:∀b o,Q.get? b=ah o ->h'.get? b=h.get? b):Av Q h' :=
 (Bc K.toOldK k,λb o g e=>let⟨H,x,t⟩:=K.tabs b o g e;(H,(k b o e).trans x,t))
section
variable{w:dC} {hB:dR} {fr:List vK} {os:ey} {obs:List O} {ρ:List (aA×aA)} {P P' :aA ->Prop} {s s' :aS} {X:aA ->Prop} {h' :dR}
structure Out (h:dR) (ρ:List (aA×aA)) (P:aA ->Prop) (X:aA ->Prop):Prop where
 iV:∀b,X b ->P b
 va:∀b,X b ->¬VA ρ b
 gr:∀b,X b ->¬Grows b
 fld:∀b,X b ->∃o vs,h.get? b=ah o/\o.data= .fields vs
theorem uD{h hB:dR}(x:h.FunFrames hB fr):∀U∈fr,∃L o,U.frame=ah L/\hB.get? L=aC/\h.get? L=ah o/\∀vs,o.data≠ .fields vs:=by
 induction fr with
 |nil=>intro U Q;cases Q
 |cons U r D=>
  intro H Q;have y:=x.2;rcases List.mem_cons.mp Q with q|q
  .rw[q];exact let⟨L,o,z,u,G,hd⟩:=y.1;(L,o,z,u,G,hd)
  .exact D y.2 H q
theorem tJ(i:HInv w hB fr os obs ρ P s)(t:iz fr X s.heap h')(x:Out s.heap ρ P X)(Q:∀b,P' b ->P b\/s.heap.get? b=aC):jQ.Le (w.params,s.heap,ρ,P) (w.params,h',ρ,P'):=
 (rfl,λb o e n=>t.keep b o e (λq=>n<|x.iV b q) λD H q=>n<|i.wD D H b q,λU U e=>e,Q)
theorem HInv.yT(i:HInv w hB fr os obs ρ P s)(t:iz fr X s.heap h')(x:Out s.heap ρ P X)(hs:∀b,P b ->P' b)(hn:∀b,P' b ->P b\/(s.heap.get? b=aC/\∃o,h'.get? b=ah o)):
 HInv w hB fr os obs ρ P' {s with heap:=h'}:=by
 have frB:∀b o,hB.get? b=ah o ->∀e∈fr,e.frame≠ah b:=λb o e en D q=>by refine cj (uD i.wB en D) λL oL hf hL U=>?_;rw[hf]at q;cases q;rw[hL]at e;cases e
 have Q:∀b o,hB.get? b=ah o ->h'.get? b=s.heap.get? b:=λb o e=>by refine eN (i.old.there b o e) λo' z=>?_;rw[z];refine t.keep b o' z (λq=>?_) (frB b o e);exact i.hK b o e (x.gr b q)<|x.iV b q
 have m:∀b,P' b ->P b\/s.heap.get? b=aC:=λb q=>(hn b q).imp id (·.1);have L:=tJ i t x m;have SE:∀b,VA ρ b ->P b:=λb zU=>aR zU λp H q=>by rcases q with rfl|rfl;exact(i.view.iV p H).1;exact(i.view.iV p H).2
 refine(λb o e g=>(Q b o e).trans<|i.base b o e g,lN i.old Q,λb o e g q=>?_,λb g=>hs b<|i.gw b g,λb q=>?_,i.wB.of_keeps λb o e hd=>?_,λe D Lf hf=>hs _<|i.wD e D Lf hf,i.vt,?_,i.gens,i.os)
 .rcases m b q with q|q
  .exact i.hK b o e g q
  .have:=i.base b o e g;rw[q]at this;cases this
 .rcases hn b q with q|q
  .refine eN (i.there b q) λo z=>?_;exact t.l9 b o z
  .exact q.2
 .by_cases q:X b
  .refine f7 (x.fld b q) λo' vs z y=>?_;rw[e]at z;cases z;exact absurd y<|hd vs
  .refine eN (t.slots b o e q) λsl z=>?_;exact(bM _ z rfl)
 .refine(i.view.len,λj o p e q=>?_,λp H=>(hs _ (i.view.iV p H).1,hs _ (i.view.iV p H).2),i.view.apart,i.view.gr);have H:=aT q;have u:VA ρ p.1:=(bM p H<|.inl rfl);have G:VA ρ p.2:=(bM p H<|.inr rfl);exact(i.view.at_ j o p e q).mono L (λU z=>t.keep _ _ z (λq=>x.va _ q u) λen D q=>i.vt en D _ q u) (λU z=>t.keep _ _ z (λq=>x.va _ q G) λen D q=>i.vt en D _ q G)
theorem Out.no(x:Out h ρ P X)(e:h.get? b=ah o)(hd:∀vs,o.data≠ .fields vs):¬X b:=λq=>by refine f7 (x.fld b q) λQ vs z y=>?_;rw[e]at z;cases z;exact hd vs y
theorem yg.yT(i:HInv w hB fr os obs ρ P s)(l:yg (w.params,s.heap,ρ,P) env loc)(t:iz fr X s.heap h')(x:Out s.heap ρ P X)(hs:∀b,P b ->P' b)(hn:∀b,P' b ->P b\/s.heap.get? b=aC):yg (w.params,h',ρ,P') env loc:=by
 have L:=tJ i t x hn;have cell:∀c o v,s.heap.get? c=ah o ->o.data= .cell v ->∃Q,h'.get? c=ah Q/\Q.data= .cell v:=λc o v e d=>by refine eN (t.slots c o e (x.no e λvs q=>by rw[d]at q;cases q)) λsl z=>?_;exact(bM _ z d)
 refine cH λGq D=>?_;(refine aR (l.ns) λm U rl=>?_;obtain⟨o,es,ep,ho,hd,r⟩:=U);refine eN (t.slots _ o ho (x.no ho λvs q=>by rw[hd]at q;cases q)) λsl z=>?_;refine D ?_;refine((bM m (gn _ es ep z hd r) λy v e=>?_),hs _ l.jV,l.lj,l.ml,λn c hc=>?_,l.inj)
 .refine aR (rl y v e) λu a ru=>?_;refine(bM u ?_<|R.mono L _ _ ru);rcases a with a|⟨k,c,o,b,d,e⟩
  .exact .inl a
  .refine aR (cell c o _ d e) λQ j G=>?_;exact .inr<|gJ k c Q b j G
 .refine cH λGq D=>?_;refine fF (l.cells n c hc) λa1 a2 a3 a4 H o a5 a6=>?_;refine aR (cell c o _ a5 a6) λQ j G=>?_;refine D ?_;exact(fG (hs _ a1) a2 a3 a4 H Q j G)
theorem eH.yT(y:eH fr Y ρ₀ ρ mV P Q h)(t:iz fr X h h')(m:∀b,X b ->Q.get? b=aC)(u:∀b,P b ->P' b)(j:∀b,P' b ->P b\/h.get? b=aC):eH fr Y ρ₀ ρ mV P' Q h' :=by
 have U:∀b o,Q.get? b=ah o ->¬X b:=λb o e q=>by rw[m b q]at e;cases e
 refine(λb o e n q f g=>t.keep b o (y.keep b o e n q f g) (U b o e) f,λb o e n q g=>?_,λb o e=>let⟨G,z⟩:=y.l9 b o e;t.l9 b G z,y.pre,λb p=>u b<|y.sub b p,λb p=>?_,y.oJ)
 .refine eN (y.slots b o e n q g) λsl z=>?_;refine eN (t.slots b _ z<|U b o e) λH D=>?_;exact(H,D)
 .exact(j b p).elim (y.new b) λz=>.inr<|y.back z
end
section
variable{F:Fx} {vX st:St} {ρ₀:List (aA×aA)} {mV:aA ->Prop} {s₀ s:aS} {x:Ex} {e:aK} {outer:List vK} {E:aK ->aS ->Prop}
theorem yw.move(U:Inv F vX ρ₀ mV s₀)(I:Inv F st ρ P s)(y:eH F.fr (Own F.env) ρ₀ ρ mV P s₀.heap s.heap)(z:NP (F.fw s ρ P) s₀.heap fl x a oe vs)(t:iz F.fr X s.heap h')(hX:∀b,X b ->b=a\/(P b/\¬VA ρ b/\s₀.heap.get? b=aC/\∃o vs,s.heap.get? b=ah o/\o.data= .fields vs))(T:aA ->Prop)(hT:∀b,T b ->s.heap.get? b=aC/\∃o,h'.get? b=ah o)(e1:h'.get? a=ah H)(e2:H.cls=oe.cls)(e3:H.dict=oe.dict)(e4:H.data= .fields vs')(e5:vs'.size=vs.size)(G:XTr (F.w.params,h',ρ,λb=>P b\/T b) s₀.heap a vs' m):yw F ρ₀ mV s₀.heap m x st (.ref a) {s with heap:=h'}:=by
 have Q:∀b,X b ->P b/\¬VA ρ b/\s₀.heap.get? b=aC/\∃o vs,s.heap.get? b=ah o/\o.data= .fields vs:=λb q=>by
  rcases hX b q with rfl|q
  .exact(Aj z.iV z.va z.new _ _ z.at_ z.dat)
  .exact q
 have D:∀b,X b ->¬Grows b:=λb q g=>by obtain⟨o,e⟩:=U.there b<|U.gw b g;rw[(Q b q).2.2.1]at e;cases e
 have O:Out s.heap ρ P X:=(λb q=>(Q b q).1,λb q=>(Q b q).2.1,D,λb q=>(Q b q).2.2.2);have u:∀b,P b ->P b\/T b:=λb q=>.inl q;have j:∀b,(P b\/T b)->P b\/s.heap.get? b=aC:=λb q=>q.imp id λq=>(hT b q).1;have L:=tJ (P' :=λb=>P b\/T b) I.toHInv t O j;refine(ρ,λb=>P b\/T b,a,H,vs',rfl,(I.toHInv.yT t O u λb q=>q.imp id<|hT b,I.loc.yT I.toHInv t O u j),y.yT t (λb q=>(Q b q).2.2.1) u j,(e1,e2.trans z.cls,e4,e5▸z.sz,z.new,z.va,.inl z.iV,?_,G));rcases z.att with q|⟨dx,es,n,q1,q2,q3,q4⟩
 .exact .inl q
 .exact .inr (qo dx es n (e3.trans q1) (L.keep _ _ q2 q3) (L.not q2 q3)<|RA.mono L _ _ q4)
theorem Ct(D8:F.A.frames=ah F.fr)(hf:F.fr=F.env::outer)(hL:F.env.frame=ah F.env.locals)(abC:Inv F vX ρ₀ mV s₀)(Nc:fl=aC\/fl=ah .none\/fl=ah (rawInt F.env.locals))(p:yw F ρ₀ mV s₀.heap fl x st e s):wpAny F.M F.A (noteFrame e F.env) (λU s' =>yw F ρ₀ mV s₀.heap (ah<|rawInt F.env.locals) x st e s') E s:=by
 refine cH λGq kq=>?_;obtain⟨ρ,P,a,oe,vs,rfl,I,y,z⟩:=p;refine kq ?_;have hin:∀{o:gy} {ws:Array aK} {b:aA},s.heap.get? b=ah o ->o.data= .fields ws ->∀en∈F.fr,en.frame≠ah b:=λe d en he q=>by refine cH λGq kq=>?_;refine x5 (uD I.wB en he) λL o' hf' U JG hd' =>?_;refine kq ?_;rw[hf']at q;cases q;rw[e]at JG;cases JG;exact hd' _ d
 have entry:∀(H:dR) (X:aA ->Prop) (head:aK) (D:Bool),iz F.fr X s.heap H ->(∀b,X b ->b≠a ->(P b/\¬VA ρ b/\s₀.heap.get? b=aC/\∃o vs,s.heap.get? b=ah o/\o.data= .fields vs))->X a ->
  H.get? a=ah oe ->H.FunFrames F.hB F.fr ->
  wpAny F.M F.A (do let f<-frameOf F.env;let pl<-entryPlaceOf F.env.locals D;let b<-yu head f .none (rawInt F.env.locals) .none pl;setField (.ref a) 1 b)
   (λU s' =>yw F ρ₀ mV s₀.heap (ah<|rawInt F.env.locals) x st (.ref a) s') E {s with heap:=H}:=by
  intro H X head D t hX hXa ha UT;refine ak<|wpAny_frameOf_fun (s:={s with heap:=H}) (hf▸D8) (hf▸UT) hL λQ G=>?_;refine ak<|wpAny_entryPlaceOf λpl hpl=>?_;unfold yu newFields;refine ak<|m5 ?_<|hpl.sizeOk5 _ _ _ _ _;rw[<-hf]at G;have DA:iz F.fr X s.heap Q:=t.trans<|.of_slots G;have Nf:Q.get? a=ah oe:=(G.2.1 a λm=>by refine aR (List.mem_filterMap.mp m) λen he q=>?_;exact hin z.at_ z.dat en he q).trans ha
  let tb:gy:={cls:=.type "traceback",dict:=aC,data:=.fields ([head,.ref F.env.locals,.none,rawInt F.env.locals,.none]++(if pl.isEmpty then bU 6 dU else pl)).toArray};have j:=bD (h:=Q) tb Nf;refine rH j z.dat z.sz ?_;have U3:Q.objs.size≠a:=nS<|bR Nf;have SH:iz F.fr X s.heap (Q.push tb):=DA.trans<|.keeps λb o e=>bD _ e;have Zd:iz F.fr X s.heap ((Q.push tb).update a (j9 (·.setIfInBounds 1 (cg Q.objs.size)))):=SH.trans<|.fields _ j z.dat hXa;have hT:((Q.push tb).update a (j9 (·.setIfInBounds 1 (cg Q.objs.size)))).get? Q.objs.size=ah tb:=(cv _ _<|gu U3).trans<|bb Q rfl;have R5:s.heap.get? Q.objs.size=aC:=by
   cases q:s.heap.get? Q.objs.size with
   |none=>rfl
   |some o=>refine eN (DA.l9 _ _ q) λo' w=>?_;exact absurd (bR w)<|eK _
  have dat:=rK z.dat (·.setIfInBounds 1 (cg Q.objs.size));have SE:∀b,VA ρ b ->P b:=λb zU=>aR zU λp hp q=>by rcases q with rfl|rfl;exact(I.view.iV p hp).1;exact(I.view.iV p hp).2
  refine yw.move (s:=s) (vs' :=vs.setIfInBounds 1<|cg Q.objs.size) (T:=λb=>b=Q.objs.size) abC I y z Zd (λb q=>?_) (λb q=>?_) (bQ _ j<|oN dat) (Obj.cls_mapFields _ _) ?_ dat (by simp) ?_
  .by_cases w:b=a
   .exact .inl w
   .exact .inr (hX b q w)
  .subst q;exact(R5,_,hT)
  .obtain⟨_,_,dd,_⟩:=oe;cases dd<;>rfl
  .refine(Q.objs.size,tb,_,by simp[z.sz],U3,y.back R5,λq=>?_,.inr rfl,hT,rfl,by simp);refine eN (I.there _<|SE _ q) λo w=>?_;rw[R5]at w;cases w
 unfold noteFrame;simp only[hL];rcases Nc with rfl|rfl|rfl
 .refine ak (kQ z.at_ z.dat z.tr ?_);rw[if_neg 'd'];exact entry s.heap (λb=>b=a) _ _ .refl (λb q n=>absurd q n) rfl z.at_ I.wB
 .refine cH λGq kq=>?_;obtain⟨T,oT,ts,h1,U3,R5,hTv,hTP,hT,u,h3⟩:=z.tr;refine kq ?_;refine ak<|kQ z.at_ z.dat h1 ?_;rw[if_pos<|show(cg T !=dU)=aj from by simp];refine ak<|kQ hT u h3 ?_;rw[if_neg<|show¬((dU==rawInt F.env.locals)=aj)from by simp[rawInt]];refine ak<|rH hT u (Array.getElem?_eq_some_iff.mp h3).1 ?_;refine entry (s.heap.update T (j9 (·.setIfInBounds 3 dU))) (λb=>b=a\/b=T) _ _ (.fields _ hT u<|.inr rfl) (λb q n=>?_) (.inl rfl) ((cv _ _ U3).trans z.at_) (I.wB.of_keeps λb o e hd=>?_)
  .rcases q with q|rfl
   .exact absurd q n
   .exact(hTP,hTv,R5,_,_,hT,u)
  .refine(o,(cv _ _ λq=>?_).trans e,rfl);subst q;rw[hT]at e;cases e;exact hd _ u
 .refine cH λGq kq=>?_;obtain⟨T,oT,ts,h1,U3,R5,hTv,hTP,hT,u,h3⟩:=z.tr;refine kq ?_;refine ak<|kQ z.at_ z.dat h1 ?_;rw[if_pos<|show(cg T !=dU)=aj from by simp];refine ak<|kQ hT u h3 ?_;rw[if_pos<|show(rawInt F.env.locals==rawInt F.env.locals)=aj from by simp];exact ay (ρ,P,a,oe,vs,rfl,I,y,z)
theorem oh(m:Inv F vX ρ₀ mV s₀)(p:yw F ρ₀ mV s₀.heap (ah f) x st e s):wpAny F.M F.A (setFlight e fr) (λU s' =>yw F ρ₀ mV s₀.heap (ah<|fr.elim .none λf=>rawInt f) x st e s') E s:=by
 refine cH λGq kq=>?_;obtain⟨ρ,P,a,oe,vs,rfl,I,y,z⟩:=p;obtain⟨T,oT,ts,h1,u,G,D,j,hT,Q,h3⟩:=z.tr;refine kq ?_;unfold setFlight;refine ak<|kQ z.at_ z.dat h1 ?_;rw[if_pos<|show(cg T !=dU)=aj from by simp];have H:=(Array.getElem?_eq_some_iff.mp h3).1;refine rH hT Q H ?_;have dat:=rK Q (·.setIfInBounds 3 (fr.elim dU λf=>rawInt f));refine yw.move (s:=s) (X:=λb=>b=T) (T:=λU=>False) m I y z (.fields _ hT Q rfl) (λb q=>?_) (λb q=>q.elim) ((cv _ _ u).trans z.at_) rfl rfl z.dat rfl ?_
 .subst q;exact .inr<|Aj j D G _ _ hT Q
 .exact(T,_,_,h1,u,G,D,.inl j,bQ _ hT<|oN dat,dat,by simp[H])
end
structure Cx (A:fR) (fr:List vK) (d:Nat):Prop where
 frames:A.frames=ah fr
 depth:A.depth+d<recursionLimit
 units:A.units+50*d<cLine
 handled:3<=d ->A.handled=aC
noncomputable def RB(σ:jQ):List (aF×V)->List (aF×aK)->Prop
 |[],l=>l=[]
 |(n,v)::r,l=>∃u H,l=(n,u)::H/\R σ v u/\RB σ r H
theorem RB.mono(x:σ.Le τ):∀{l:List (aF×V)} {u:List (aF×aK)},RB σ l u ->RB τ l u
 |[],_,h=>h
 |(n,v)::r,_,h=>let⟨u,H,e,a,b⟩:=h;(u,H,e,R.mono x _ _ a,b.mono x)
theorem RB.names:∀{l:List (aF×V)} {u:List (aF×aK)},RB σ l u ->u.map (·.1)=l.map (·.1)
 |[],_,h=>by cases h;rfl
 |(n,v)::r,_,h=>by(refine cj h λu U H a b=>?_;subst H);simp[b.names]
theorem RB.look:∀{l:List (aF×V)} {u:List (aF×aK)} {x:aF} {v:V},RB σ l u ->l.lookup x=ah v ->∃y,u.lookup x=ah y/\R σ v y
 |[],_,_,_,_,e=>by cases e
 |(n,U)::r,_,x,v,h,e=>by
  (refine cj h λu D H a b=>?_;subst H);rw[cw]at e⊢;cases q:x==n with
  |true=>rw[q]at e;cases e;exact(bM u rfl a)
  |false=>rw[q]at e;exact b.look e
inductive Oc where
 |ok (v:V)
 |exc (x:Ex)
noncomputable def FV.oc:FV ->Oc
 | .ret v=>.ok v
 | .exc x=>.exc x
 |_=>.ok .none
def OcR(w:dC)(ρ:List (aA×aA))(P:aA ->Prop)(h:dR)(o:Oc)(r:rJ)(s' :aS):Prop:=match o with
 | .ok v=>∃u,r= .ok (.ret u)/\R (w.params,s'.heap,ρ,P) v u
 | .exc x=>∃a H vs,r= .error (.ref a)/\NP (w.params,s'.heap,ρ,P) h (ah .none) x a H vs
inductive PF (w:dC) (hB:dR) (fr:List vK) (os:ey) (ρ:List (aA×aA)) (P:aA ->Prop) (h:dR) (v:Oc) (cS:List O) (r:rJ) (s' :aS):Prop
 |mk (cO:List (aA×aA)) (P' :aA ->Prop) (i:HInv w hB fr os cS cO P' s') (x:eH fr kP ρ cO P P' h s'.heap) (o:OcR w cO P' h v r s'):PF w hB fr os ρ P h v cS r s'
theorem PF.go{w:dC}{hB:dR}{fr:List vK}{os:ey}{ρ:List (aA×aA)}{P:aA ->Prop}{h:dR}{v:Oc}{cS:List O}{r:rJ}{s' :aS}(E:PF w hB fr os ρ P h v cS r s'){D:Prop}(G:∀(H:List (aA×aA)) (P' :aA ->Prop) (i:HInv w hB fr os cS H P' s') (x:eH fr kP ρ H P P' h s'.heap) (o:OcR w H P' h v r s'),D):D:=PF.rec (motive:=λU=>D) G E
def FN(prog:jt)(BS:dC ->dR ->Prop)(f:aA)(d:Nat)(args:List V)(D:List (aF×V))(obs:List O)(v:Oc)(cS:List O):Prop:=
 ∀w hB fr A os ρ P s,BS w hB ->Cx A fr d ->HInv w hB fr os obs ρ P s ->∀H U,RL (w.params,s.heap,ρ,P) args H ->RB (w.params,s.heap,ρ,P) D U ->
  codeAny (model prog w) A (.call (.ref f) (H,U)) (PF w hB fr os ρ P s.heap v cS) s
section
variable{M:yC} {A:fR} {c:Code} {s:aS} {w:dC} {hB hp:dR} {fr:List vK} {os:ey} {ρ:List (aA×aA)} {P:aA ->Prop} {cS:List O} {Q:rJ ->aS ->Prop}
theorem PF.use(h:codeAny M A c (PF w hB fr os ρ P hp (.ok v) cS) s)(k:∀H P' s' u,HInv w hB fr os cS H P' s' ->eH fr kP ρ H P P' hp s'.heap ->R (w.params,s'.heap,H,P') v u ->Q (.ok<|.ret u) s'):codeAny M A c Q s:=
 eR h λr s' z=>by obtain⟨H,P',i,x,u,rfl,q⟩:=z;exact k _ _ _ _ i x q
theorem PF.SF(h:codeAny M A c (PF w hB fr os ρ P hp (.ok .none) cS) s)(k:∀H P' s',HInv w hB fr os cS H P' s' ->eH fr kP ρ H P P' hp s'.heap ->Q (.ok<|.ret .none) s'):codeAny M A c Q s:=
 PF.use h λU U U u i x q=>(show u= .none from q)▸k _ _ _ i x
end
theorem uY{kindOf:aF ->Option oP}:∀{binds:List (aF×aK)} {m:aF ->Option aK} {x:aF},x∉binds.map (·.1)->bindL kindOf binds m x=m x
 |[],_,_,_=>rfl
 |(n,v)::r,m,x,h=>by
  rw[bw,l0,not_or]at h;show bindL kindOf r _ x=_;rw[uY h.2];split
  .exact if_neg h.1
  .rfl
theorem uZ{kindOf:aF ->Option oP}:∀{binds:List (aF×aK)} {m:aF ->Option aK} {x:aF},x∉binds.map (·.1)->bindC kindOf binds m x=m x
 |[],_,_,_=>rfl
 |(n,v)::r,m,x,h=>by
  rw[bw,l0,not_or]at h;show bindC kindOf r _ x=_;rw[uZ h.2];split
  .rfl
  .exact if_neg h.1
theorem kj{kindOf:aF ->Option oP}:∀{binds:List (aF×aK)} {m:aF ->Option aK} {x:aF} {u:aK},(binds.map (·.1)).Nodup ->binds.lookup x=ah u ->kindOf x=ah .local ->bindL kindOf binds m x=ah u
 |[],_,_,_,_,e,_=>by cases e
 |(n,v)::r,m,x,u,H,e,U=>by
  rw[bw,Mm]at H;rw[cw]at e;show bindL kindOf r _ x=_;cases q:x==n with
  |true=>
   rw[q]at e;cases e;have q:=beq_iff_eq.mp q;subst q;rw[uY H.1,if_pos U,if_pos rfl]
  |false=>rw[q]at e;exact kj H.2 e U
theorem w0{kindOf:aF ->Option oP}:∀{binds:List (aF×aK)} {m:aF ->Option aK} {x:aF} {u:aK},(binds.map (·.1)).Nodup ->binds.lookup x=ah u ->kindOf x=ah .cell ->bindC kindOf binds m x=ah u
 |[],_,_,_,_,e,_=>by cases e
 |(n,v)::r,m,x,u,H,e,U=>by
  rw[bw,Mm]at H;rw[cw]at e;show bindC kindOf r _ x=_;cases q:x==n with
  |true=>
   rw[q]at e;cases e;have q:=beq_iff_eq.mp q;subst q;rw[uZ H.1,if_neg (by rw[U];decide),if_pos rfl]
  |false=>rw[q]at e;exact w0 H.2 e U
structure Xe (F:Fx) (BS:dC ->dR ->Prop) (sc:cJ) (d:Nat):Prop where
 bs:BS F.w F.hB
 scope:F.env.scope=sc
 kind:sc.kind= .function
 glob:F.env.globals=mainGlobals
 bi:F.env.builtins=builtinsNs
 cx:Cx F.A F.fr d
 cell:∀x,sc.names.lookup x=ah .cell ->(F.env.cells.lookup x).isSome=aj
 frame:F.env.frame=ah F.env.locals
 fr:∃outer,F.fr=F.env::outer
theorem Gy{l:List (aF×aA)}(h:l.Pairwise λx y=>x.2≠y.2){n D:aF}{c:aA}(a:(n,c)∈l)(b:(D,c)∈l):n=D:=by
 induction h with
 |nil=>cases a
 |cons E _ G=>
  rcases List.mem_cons.mp a with H|H<;>rcases List.mem_cons.mp b with U|U
  .rw[<-U]at H;exact(AA H).1
  .exact absurd (by rw[<-H]) (E _ U)
  .exact absurd (by rw[<-U]) (E _ H)
  .exact G H U
theorem FN.zz{prog:jt}{BS:dC ->dR ->Prop}{f:aA}{d:Nat}{args:List V}{kw:List (aF×V)}{obs cS:List O}{v:Oc}{ab:List (aF×V)}{body:List cn}{sc:cJ}{nm:List aF}(hb:∀w hB,BS w hB ->∃fd o,hB.get? f=ah o/\o.data= .func fd/\fd.body= .stmts body/\fd.scope=sc/\fd.closure=[]/\fd.globals=mainGlobals/\fd.builtins=builtinsNs/\
  (∃c oc vs t,fd.code= .ref c/\hB.get? c=ah oc/\oc.data= .fields vs/\vs[1]? =ah (.str fd.qualname t)/\¬Grows c)/\hB.NoLimit/\
  ∀s us ks par ρ P,(∀b o,hB.get? b=ah o ->¬Grows b ->s.heap.get? b=ah o)->RL (par,s.heap,ρ,P) args us ->RB (par,s.heap,ρ,P) kw ks ->∀(M:yC) (A:fR) (E:aK ->aS ->Prop) (Q:List (aF×aK)->aS ->Prop),(∀binds s',(∀b o,s.heap.get? b=ah o ->s'.heap.get? b=ah o)->s'.gens=s.gens ->s'.os=s.os ->binds.map (·.1)=nm ->(∀x v,ab.lookup x=ah v ->∃y,binds.lookup x=ah y/\R (par,s.heap,ρ,P) v y)->Q binds s')->wpAny M A (bindArgs fd (us,ks)) Q E s)(hf:¬Grows f)(hnd:nm.Nodup)(Yh:∀x∈nm,sc.names.lookup x=ah .local\/sc.names.lookup x=ah .cell)(hk:sc.kind= .function)(Yd:sc.isCoroutine=ao)(aaC:sc.isGenerator=ao)(h:∀F,F.prog=prog ->Xe F BS sc d ->∃fl ke,dc F body (ab,obs) fl ke/\fl.oc=v/\ke.obs=cS):
 FN prog BS f (d+1) args kw obs v cS:=by
 intro w hB fr A os ρ P s0 Bj hC I0 us ks Uy UP;obtain⟨fd,o,ho,aaK,U0,UD,CV,hgl,hbi,⟨c,oc,vs,t,hc1,Ye,hc3,hc4,hc5⟩,D6,HC⟩:=hb w hB Bj;refine qB (by have:=hC.depth;exact qU this<|by omega) (I0.base _ _ ho hf) aaK (by rw[UD];exact Yd) (by rw[UD];exact aaC) U0 (c,oc,vs,t,hc1,I0.base _ _ Ye hc5,hc3,hc4)<|HC s0 us ks w.params ρ P I0.base Uy UP _ _ _ _ λbinds s kp hgs P1 X5 hlk=>?_;have I:=I0.keeps (s' :=s) kp (by rw[hgs];exact I0.gens) P1;have Hy:s.heap.NoLimit:=by (refine aR D6 λmc tA q=>?_;obtain⟨o',es,ep,e1,r⟩:=tA);exact(mc,(o',es,ep,I.base _ _ e1 (by unfold Grows;decide),r),q)
 have aaL:∀x∈binds,sc.names.lookup x.1=ah .local\/sc.names.lookup x.1=ah .cell:=λx hx=>Yh x.1 (by rw[<-X5];exact iJ hx);have L0:jQ.Le (w.params,s0.heap,ρ,P) (w.params,s.heap,ρ,P):=jh kp;rw[CV,hgl,hbi,UD];refine BL hk (λx hx=>(aaL x hx).imp id λq=>(q,BO _ _ _<|.inl q)) λenv he a7 x=>?_;have CR:=x.toInCall.same;have ER:=x.toInCall.keep;have K6:env.locals=s.heap.objs.size:=by subst he;rfl
 have D7:env.frame=ah env.locals:=by subst he;rfl
 have P5:env.scope=sc:=by subst he;rfl
 have aaF:env.globals=mainGlobals:=by subst he;rfl
 have aaG:env.builtins=builtinsNs:=by subst he;rfl
 have UU:env.cells=cellsFrom (s.heap.objs.size+1) sc.names []:=by subst he;rfl
 refine(Hy.keeps ER,Js ?_);have xR:∀b,(b=env.locals\/∃n,env.cells.lookup n=ah b)->s.heap.get? b=aC:=λb hb=>by
  have:s.heap.objs.size<=b:=by
   rcases hb with rfl|⟨n,hn⟩
   .rw[K6];exact aJ _
   .have:=x.above n b<|eD hn;rw[K6]at this;exact cN this
  cases q:s.heap.get? b with
  |none=>rfl
  |some o=>exact absurd (bR q)<|Nat.not_lt.mpr this
 let P' :aA ->Prop:=λb=>P b\/b=env.locals\/∃n,env.cells.lookup n=ah b;have hP' :∀b,P' b ->P b\/s.heap.get? b=aC:=λb hb=>hb.imp id<|xR b;have L:jQ.Le (w.params,s.heap,ρ,P) (w.params,a7.heap,ρ,P'):=(rfl,λb o e U=>ER b o e,λU U e=>e,hP');have SE:∀b,VA ρ b ->P b:=λb zU=>aR zU λp hp q=>by rcases q with rfl|rfl;exact(I.view.iV p hp).1;exact(I.view.iV p hp).2
 have Fs:∀b,s.heap.get? b=aC ->¬VA ρ b:=λb e q=>by refine eN (I.there b<|SE b q) λo z=>?_;rw[e]at z;cases z
 have Qa:∀b,s.heap.get? b=aC ->¬Grows b:=λb e q=>by refine eN (I.there b<|I.gw b q) λo z=>?_;rw[e]at z;cases z
 let F:Fx:=(prog,w,hB,env,env::fr,A.deeper env,os);obtain⟨fl,ke,hx,hv,aaz⟩:=h F rfl (Bj,P5,hk,aaF,aaG,(AO hC.frames,by show A.depth+1+d<_;have:=hC.depth;exact qU this<|by omega,by show A.units+3+50*d<_;have:=hC.units;exact qU this<|by omega,λh=>hC.handled<|by exact ba h),λy hy=>by show(env.cells.lookup y).isSome=aj;rw[UU];exact BO _ _ _<|.inl hy,D7,fr,rfl)
 refine uM CR λUG tk CR=>?_;have rf:s.heap.get? env.locals=aC:=xR _<|.inl rfl;have base:∀b o,hB.get? b=ah o ->s.heap.get? b=aC ->Grows b:=λb o e q=>by apply gZ;intro g;have:=I.base b o e g;rw[q]at this;cases this
 have IH:HInv w hB (env::fr) os obs ρ P' a7:=by
  refine(λb o e g=>ER _ _<|I.base b o e g,I.old.step_keeps ER,λb o e g q=>?_,λb g=>.inl<|I.gw b g,λb q=>?_,?_,λe he Lf P7=>?_,λe he Lf P7=>?_,?_,?_,?_)
  .rcases hP' b q with q|q
   .exact I.hK b o e g q
   .exact g (base b o e q)
  .rcases q with q|rfl|⟨n,hn⟩
   .refine eN (I.there b q) λo z=>?_;exact(o,ER _ _ z)
   .refine bl (x.toInCall.ns) λo U U z U=>?_;exact(o,z)
   .refine aR (x.cell n b hn) λo z U=>?_;exact(o,z)
  .refine(by rw[P5,hk];decide,?_,I.wB.of_keeps λb o e U=>(o,ER _ _ e,rfl));refine ji (x.toInCall.ns) λo es ep z hd U=>?_;refine(env.locals,o,D7,?_,z,λvs q=>by rw[hd]at q;cases q);cases q:hB.get? env.locals with
   |none=>rfl
   |some o' =>exact absurd (base _ _ q rf)<|Qa _ rf
  .rcases List.mem_cons.mp he with rfl|he
   .rw[D7]at P7;cases P7;exact .inr<|.inl rfl
   .exact .inl (I.wD e he Lf P7)
  .rcases List.mem_cons.mp he with rfl|he
   .rw[D7]at P7;cases P7;exact Fs _ rf
   .exact I.vt e he Lf P7
  .exact(I.view.len,λi o p e q=>(I.view.at_ i o p e q).mono L (λU z=>ER _ _ z) (λU z=>ER _ _ z),λp hp=>(.inl (I.view.iV p hp).1,.inl (I.view.iV p hp).2),I.view.apart,I.view.gr)
  .rw[CR];exact I.gens
  .rw[CR];exact I.os
 have IL:yg (w.params,a7.heap,ρ,P') env ab:=by
  refine((_,x.toInCall.ns,λy u e=>?_),.inr<|.inl rfl,Fs _ rf,Qa _ rf,λn c hc=>?_,λn n' c a b=>Gy x.apart (eD a)<|eD b)
  .refine aR (hlk y u e) λu' e' r=>?_;refine(u',?_,R.mono L _ _<|R.mono L0 _ _ r);have hm:y∈nm:=by rw[<-X5];exact iJ (eD e')
   have CU:env.kindOf y=sc.names.lookup y:=by show env.scope.names.lookup y=_;rw[P5]
   rcases Yh y hm with q|q
   .exact .inl (CU.trans q,kj (by rw[X5];exact hnd) e'<|CU.trans q)
   .refine eN (Option.isSome_iff_exists.mp (show(env.cells.lookup y).isSome=aj by rw[UU];exact BO _ _ _<|.inl q)) λc hc=>?_;refine aR (x.cell y c hc) λo z hd=>?_;refine .inr (.inl<|CU.trans q,c,o,hc,z,?_);rw[hd,w0 (by rw[X5];exact hnd) e'<|CU.trans q]
  .refine(.inr<|.inr (n,hc),Fs _<|xR _<|.inr (n,hc),λq=>?_,Qa _<|xR _<|.inr (n,hc),_,x.cell n c hc);have:=x.above n c<|eD hc;rw[q]at this;exact eK _ this
 have vf:Inv F (ab,obs) ρ P' a7:=(IH,IL);have back:∀b,a7.heap.get? b=aC ->s.heap.get? b=aC:=λb e=>by
  cases q:s.heap.get? b with
  |none=>rfl
  |some o=>have:=ER b o q;rw[e]at this;cases this
 have GG:∀b o,s.heap.get? b=ah o ->¬Own env b:=λb o e q=>by have:=xR b q;rw[e]at this;cases this
 have S:∀{D:List (aA×aA)} {j:aA ->Prop} {zV:dR},eH F.fr (Own F.env) ρ D P' j a7.heap zV ->eH fr kP ρ D P j s0.heap zV:=λG=>by
  refine eH.trans (eH.of_keeps kp) (λb o e n U hf g=>G.keep b o (ER b o e) n (GG b o e) (λen he qe=>?_) g,λb o e n U g=>G.slots b o (ER b o e) n (GG b o e) g,λb o e=>G.l9 b o<|ER b o e,G.pre,λb p=>G.sub b<|.inl p,λb p=>?_,λp hp=>?_)
  .rcases List.mem_cons.mp he with he|he
   .subst he;rw[D7]at qe;cases qe;rw[rf]at e;cases e
   .exact hf en he qe
  .exact(G.new b p).elim (hP' b) λz=>.inr<|back b z
  .exact(G.oJ p hp).imp id λzU=>fk zU λa b=>(back _ a,back _ b)
 have H:∀{D:List (aA×aA)} {j:aA ->Prop} {fW:aS},Inv F ke D j fW ->HInv w hB fr os cS D j fW:=λjj=>
  have m:=jj.toHInv
  aaz▸(m.base,m.old,m.hK,m.gw,m.there,m.wB.2.2,λe he=>m.wD e<|.tail _ he,λe he=>m.vt e<|.tail _ he,m.view,m.gens,m.os)
 refine aq (hx ρ P' a7 vf) (λf fW z=>?_) (λe fW z=>?_)
 .obtain⟨D,j,jj,G,q⟩:=z;subst hv;cases fl with
  |next=>cases q;exact(D,j,H jj,S G,.none,rfl,pD)
  |brk=>cases q;exact(D,j,H jj,S G,.none,rfl,pD)
  |cont=>cases q;exact(D,j,H jj,S G,.none,rfl,pD)
  |ret u=>(refine aR q λy tA r=>?_;subst tA);exact(D,j,H jj,S G,y,rfl,r)
  |exc x=>exact q.elim
 .obtain⟨x,rfl,fl,Nc,p⟩:=z;subst hv;unfold leaving;refine ak<|aq (Ct (F:=F) (outer:=fr) (AO hC.frames) rfl D7 vf Nc p) (λU jT ZR=>?_) i3;refine aq (oh (F:=F) vf ZR) (λU so Gr=>?_) i3;obtain⟨D,j,a,oe,vs,rfl,jj,G,z⟩:=Gr;exact(D,j,H jj,S G,a,oe,vs,rfl,z.back λb q=>Option.eq_none_iff_forall_ne_some.mpr λo e=>by have:=kp b o e;rw[back b q]at this;cases this)
theorem FN.of_body(m:∀w hB,BS w hB ->∃fd o,hB.get? f=ah o/\o.data= .func fd/\fd.body= .stmts body/\fd.scope=sc/\fd.closure=[]/\fd.globals=mainGlobals/\fd.builtins=builtinsNs/\
 (∃c oc vs t,fd.code= .ref c/\hB.get? c=ah oc/\oc.data= .fields vs/\vs[1]? =ah (.str fd.qualname t)/\¬Grows c)/\hB.NoLimit/\
 ∀s us G par ρ P,(∀b o,hB.get? b=ah o ->¬Grows b ->s.heap.get? b=ah o)->RL (par,s.heap,ρ,P) args us ->RB (par,s.heap,ρ,P) kw G ->∃binds,BindsTo s fd (us,G) binds/\RB (par,s.heap,ρ,P) ab binds)(hf:¬Grows f)(u:(ab.map (·.1)).Nodup)(Yh:∀x∈ab.map (·.1),sc.names.lookup x=ah .local\/sc.names.lookup x=ah .cell)(hk:sc.kind= .function)(j:sc.isCoroutine=ao)(D:sc.isGenerator=ao)(h:∀F,F.prog=prog ->Xe F BS sc d ->∃fl H,dc F body (ab,obs) fl H/\fl.oc=v/\H.obs=cS):FN prog BS f (d+1) args kw obs v cS:=
 FN.zz (nm:=ab.map (·.1)) (λw hB q=>by
  obtain⟨fd,o,h1,h2,h3,h4,h5,h6,h7,h8,h9,m⟩:=m w hB q;exact(fd,o,h1,h2,h3,h4,h5,h6,h7,h8,h9,λs us G par ρ P a b c M A E Q k=>by refine aR (m s us G par ρ P a b c) λx y z=>?_;exact y M A E Q<|k x s (λU U e=>e) rfl rfl z.names (λU U e=>z.look e))) hf u Yh hk j D h
section
variable{F:Fx} {st st₁ aN st₃:St} {ρ cO ρ₁:List (aA×aA)} {P P' bN:aA ->Prop} {s s' a7:aS}
theorem Inv.after(I:Inv F st ρ P s)(H:HInv F.w F.hB F.fr F.os cS cO P' s')(x:eH F.fr kP ρ cO P P' s.heap s'.heap):Inv F (st.loc,cS) cO P' s' :=by
 have L:=I.toHInv.le x pV;have nv:∀b o,s.heap.get? b=ah o ->¬VA ρ b ->¬VA cO b:=λb o e n zU=>aR zU λp hp q=>by
  rcases x.oJ p hp with z|⟨z1,z2⟩
  .exact n (bM p z q)
  .rcases q with rfl|rfl
   .rw[z1]at e;cases e
   .rw[z2]at e;cases e
 refine cH λGq D=>?_;(refine aR (I.loc.ns) λm j rl=>?_;obtain⟨o,es,ep,ho,hd,r⟩:=j);refine eN (x.slots _ o ho I.loc.lj (λq=>q) I.loc.ml) λsl z=>?_;refine D ?_;refine(H,((bM m (gn _ es ep z hd r) λy v e=>?_),x.sub _ I.loc.jV,nv _ _ ho I.loc.lj,I.loc.ml,λn c hc=>?_,I.loc.inj))
 .refine aR (rl y v e) λu a ru=>?_;refine(bM u ?_<|R.mono L _ _ ru);rcases a with a|⟨k,c,o,b,d,e⟩
  .exact .inl a
  .refine cH λGq D=>?_;refine uP (I.loc.cells _ _ b) λU G U E U=>?_;refine eN (x.slots c o d G (λq=>q) E) λsl z=>?_;refine D ?_;exact .inr<|gJ k c _ b z e
 .refine cH λGq D=>?_;refine fF (I.loc.cells n c hc) λa1 G a3 E Q o a5 a6=>?_;refine eN (x.slots c o a5 G (λq=>q) E) λsl z=>?_;refine D ?_;exact(fG (x.sub _ a1) (nv _ _ a5 G) a3 E Q _ z a6)
def PO(F:Fx)(ρ:List (aA×aA))(P:aA ->Prop)(h:dR)(o:Oc)(Q:St)(u:aK)(s' :aS):Prop:=∃v,o= .ok v/\PV F ρ P h v Q u s'
inductive PE (F:Fx) (ρ:List (aA×aA)) (P:aA ->Prop) (h:dR) (o:Oc) (ke:St) (e:aK) (s' :aS):Prop
 |mk (x:Ex) (q:o= .exc x) (cO:List (aA×aA)) (P' :aA ->Prop) (a:aA) (oe:gy) (vs:Array aK) (w:e= .ref a) (i:Inv F ke cO P' s') (y:eH F.fr kP ρ cO P P' h s'.heap) (z:NP (F.fw s' cO P') h (ah .none) x a oe vs):PE F ρ P h o ke e s'
theorem PO.trans(x:eH F.fr kP ρ ρ₁ P bN Q a7.heap)(h:PO F ρ₁ bN a7.heap o H u s'):PO F ρ P Q o H u s' :=let⟨v,q,z⟩:=h;(v,q,z.trans x)
theorem PE.trans(x:eH F.fr kP ρ ρ₁ P bN Q a7.heap)(h:PE F ρ₁ bN a7.heap o H u s'):PE F ρ P Q o H u s' :=
 let⟨D,q,cO,P',a,U,vs,e,i,y,z⟩:=h;(D,q,cO,P',a,U,vs,e,i,x.trans y,z.back λb w=>x.back w)
def vg(F:Fx)(e:aW)(st:St)(o:Oc)(Q:St):Prop:=
 ∀ρ P s,Inv F st ρ P s ->wpAny F.M F.A (eval e F.env) (PO F ρ P s.heap o Q) (PE F ρ P s.heap o Q) s
theorem vg.ev(h:vg F e st (.ok v) st₁):EV F e st v st₁:=λρ P s I=>aq (h ρ P s I) (λu s' Q=>aR Q λH q z=>by cases q;exact z) λU U z=>by obtain⟨x,q,_⟩:=z;cases q
theorem EV.evo(h:EV F e st v st₁):vg F e st (.ok v) st₁:=λρ P s I=>aq (h ρ P s I) (λu s' z=>(bM v rfl z)) i4
noncomputable def notStar:aW ->Bool
 | .Starred .. =>ao
 |_=>aj
theorem cC(h:notStar e=aj):starEach (e::r) env=(ao,eval e env)::starEach r env:=by cases e<;>first|rfl|cases h
inductive PL (F:Fx) (ρ:List (aA×aA)) (P:aA ->Prop) (h:dR) (vs:List V) (ke:St) (us:List aK) (s' :aS):Prop
 |mk (cO:List (aA×aA)) (P' :aA ->Prop) (i:Inv F ke cO P' s') (x:eH F.fr kP ρ cO P P' h s'.heap) (r:RL (F.fw s' cO P') vs us):PL F ρ P h vs ke us s'
theorem PL.go(D:PL F ρ P h vs Q us s'){H:Prop}(E:∀(cO:List (aA×aA)) (P' :aA ->Prop) (i:Inv F Q cO P' s') (x:eH F.fr kP ρ cO P P' h s'.heap) (r:RL (F.fw s' cO P') vs us),H):H:=PL.rec (motive:=λU=>H) E D
def vE(F:Fx)(es:List aW)(st:St)(vs:List V)(Q:St):Prop:=
 ∀H ρ P s,Inv F st ρ P s ->wpAny F.M F.A (spliced<|backTo H<|starEach es F.env) (PL F ρ P s.heap vs Q) (λU U=>False) s
theorem vE.nil:vE F [] st [] st:=λQ ρ P s I=>d6 (ρ,P,I,.refl,rfl)
theorem vE.cons{e:aW}{r:List aW}{v:V}{vs:List V}(hs:notStar e=aj)(he:EV F e st v st₁)(hr:vE F r st₁ vs aN):vE F (e::r) st (v::vs) aN:=λm ρ P s I=>by rw[cC hs];refine cA<|aq (he ρ P s I) (λu a7 j=>j.go λρ₁ bN H D G=>?_) i3;exact aq (hr m ρ₁ bN a7 H) (λus fW j=>j.go λU y z Q E=>(U,y,z,D.trans Q,u,us,rfl,R.mono (H.toHInv.le Q pV) _ _ G,E)) i3
noncomputable def named:iu ->Bool
 |(ah _,_,_)=>aj
 |_=>ao
theorem wh:∀{Q:List iu},Q.all named=aj ->(backToKw pos<|keywordEach Q env).all (·.1.isSome)=aj/\(backToKw pos<|keywordEach Q env).any (·.1.isNone)=ao
 |[],_=>(rfl,rfl)
 |(ah n,e,p)::r,h=>by rw[cD,aw]at h;have H:=wh (pos:=pos) (env:=env) h.2;exact(by show(aj&&_)=aj;rw[qC];exact H.1,by show(ao||_)=ao;rw[qD];exact H.2)
 |(aC,e,p)::r,h=>by cases h
inductive Xa (F:Fx) (ρ:List (aA×aA)) (P:aA ->Prop) (h:dR) (vs:List (aF×V)) (ns:List aF) (ke:St) (us:List aK) (s' :aS):Prop
 |mk (cO:List (aA×aA)) (P' :aA ->Prop) (i:Inv F ke cO P' s') (x:eH F.fr kP ρ cO P P' h s'.heap) (r:RB (F.fw s' cO P') vs (ns.zip us)):Xa F ρ P h vs ns ke us s'
theorem Xa.go(D:Xa F ρ P h vs ns Q us s'){H:Prop}(E:∀(cO:List (aA×aA)) (P' :aA ->Prop) (i:Inv F Q cO P' s') (x:eH F.fr kP ρ cO P P' h s'.heap) (r:RB (F.fw s' cO P') vs (ns.zip us)),H):H:=Xa.rec (motive:=λU=>H) E D
def JH(F:Fx)(D:List iu)(st:St)(vs:List (aF×V))(H:St):Prop:=
 ∀Q ρ P s,Inv F st ρ P s ->
  wpAny F.M F.A (evalAll ((backToKw Q<|keywordEach D F.env).map (·.2))) (Xa F ρ P s.heap vs ((backToKw Q<|keywordEach D F.env).filterMap (·.1)) H) (λU U=>False) s
theorem JH.nil:JH F [] st [] st:=λQ ρ P s I=>er (ρ,P,I,.refl,rfl)
theorem JH.cons{n:aF}{e:aW}{kp:si}{r:List iu}{v:V}{vs:List (aF×V)}(he:EV F e st v st₁)(hr:JH F r st₁ vs aN):JH F ((ah n,e,kp)::r) st ((n,v)::vs) aN:=λm ρ P s I=>by refine wpAny_evalAll_cons (ak<|aq (he ρ P s I) (λu a7 j=>j.go λρ₁ bN H D G=>ak<|dm<|ay ?_) i3);exact aq (hr m ρ₁ bN a7 H) (λus fW j=>j.go λU y z Q E=>(U,y,z,D.trans Q,u,_,rfl,R.mono (H.toHInv.le Q pV) _ _ G,E)) i3
def dM(F:Fx)(f:aK)(args:List V)(D:List (aF×V))(st:St)(o:Oc)(Q:St):Prop:=
 ∀ρ P s H U,Inv F st ρ P s ->RL (F.fw s ρ P) args H ->RB (F.fw s ρ P) D U ->
  (∃k,(k=yE\/k=oG\/k=qI)/\gh F.M s.heap (keeperOf f) k)/\wpAny F.M F.A (call f H U) (PO F ρ P s.heap o Q) (PE F ρ P s.heap o Q) s
theorem x2(u:keywords.all (·.1.isSome)=aj)(h:wpAny M A (spliced []) (λvs a7=>wpAny M A (evalAll (keywords.map (·.2))) (λy H=>Q (vs,(keywords.filterMap (·.1)).zip y) H) E a7) E s):wpAny M A (evalArgs f aj [] keywords) Q E s:=by unfold evalArgs;show wpAny M A (spliced []>>=_) Q E s;refine ak<|aq h (λvs a7 G=>?_) λU U x=>x;refine ak<|ay<|bo ?_;simp only[u,if_true];refine ak<|aq G (λy H D=>?_) λU U x=>x;exact ak<|ay<|ay D
theorem IE(G:args.all notStar=aj)(hk:kws.all named=aj)(ha:vE F args st vs st₁)(hkw:JH F kws st₁ kv aN)(hc:dM F f (first++vs) kv aN o st₃)(I:Inv F st ρ P s)(r0:RL (F.fw s ρ P) first Q):wpAny F.M F.A (callWith pos f Q (backTo pos (starEach args F.env)) (backToKw pos (keywordEach kws F.env))) (PO F ρ P s.heap o st₃) (PE F ρ P s.heap o st₃) s:=by
 have K:=wh (pos:=pos) (env:=F.env) hk
 have y:(backTo pos (starEach args F.env)).any (·.1)=ao:=by
  clear ha hc
  induction args with
  |nil=>rfl
  |cons e r ih=>
   rw[cD,aw]at G
   rw[cC G.1]
   show(ao||_)=ao
   rw[qD];exact ih G.2
 have E:wpAny F.M F.A (spliced (backTo pos (starEach args F.env))) (λus a7=>wpAny F.M F.A (evalAll ((backToKw pos (keywordEach kws F.env)).map (·.2)))
  (λks U=>((∃k,(k=yE\/k=oG\/k=qI)/\gh F.M U.heap (keeperOf f) k)/\wpAny F.M F.A (call f (Q++us) (((backToKw pos (keywordEach kws F.env)).filterMap (·.1)).zip ks)) (PO F ρ P s.heap o st₃) (PE F ρ P s.heap o st₃) U))
  (PE F ρ P s.heap o st₃) a7) (PE F ρ P s.heap o st₃) s:=by
  refine aq (ha pos ρ P s I) (λus a7 zU=>zU.go λρ₁ bN j D FX=>?_) i4
  refine aq (hkw pos ρ₁ bN a7 j) (λks U zU=>zU.go λm mU jj H A7=>?_) i4
  have r0' :=RL.mono (I.toHInv.le (D.trans H) pV) _ _ r0
  have r1' :=RL.mono (j.toHInv.le H pV) _ _ FX
  refine fk (hc m mU U (Q++us) _ jj (r0'.append r1') A7) λh1 h2=>?_
  exact⟨h1,aq h2 (λu s' z=>z.trans (D.trans H)) λe s' z=>z.trans (D.trans H)⟩
 refine jC (P:=λh=>∃k,(k=yE\/k=oG\/k=qI)/\gh F.M h (keeperOf f) k) (by rw[y,K.2];rfl) (λh z=>z) ?_
 cases args with
 |nil=>exact x2 K.1 E
 |cons e r=>
  rw[cD,aw]at G
  rw[cC G.1]at E⊢
  exact iQ K.1 E
noncomputable def notAttr:aW ->Bool
 | .Attribute .. =>ao
 |_=>aj
theorem vg.call(hn:notAttr Q=aj)(G:args.all notStar=aj)(hk:kws.all named=aj)(hf:EV F Q st (.val f) st₁)(ha:vE F args st₁ vs aN)(y:JH F kws aN m st₃)(hc:dM F f vs m st₃ o U):vg F (.Call Q args kws pos) st o U:=λρ P s I=>by
 have he:eval (.Call Q args kws pos) F.env=(do callWith pos (<-eval Q F.env) [] (backTo pos<|starEach args F.env) (backToKw pos<|keywordEach kws F.env)):=by cases Q<;>first|rfl|cases hn
 rw[he];refine ak<|aq (hf ρ P s I) (λu a7 j=>j.go λρ₁ bN E H D=>?_) i4;cases D;exact aq (IE (first:=[]) G hk ha y hc E rfl) (λu s' z=>z.trans H) λe s' z=>z.trans H
def GM(F:Fx)(ov:V)(name:aF)(st:St)(f:aK):Prop:=
 ∀(pl:Sem Bool) ρ P s u,Inv F st ρ P s ->R (F.fw s ρ P) ov u ->∀E,wpAny F.M F.A (getMethod u name pl) (λr s' =>r=(f,[u])/\(∀b o,s.heap.get? b=ah o ->s'.heap.get? b=ah o)/\s'.gens=s.gens/\s'.os=s.os) E s
noncomputable def f5:aW ->Bool
 | .Call (.Name ..) [] [] _=>ao
 |_=>aj
theorem iO(h:f5 o=aj):attributeBase o name env t=t:=by
 revert h;cases o with
 |Call f args kws pos=>
  cases f with
  |Name x p=>
   cases args with
   |nil=>
    cases kws with
    |nil=>exact λh=>ftQ h
    |cons=>exact λU=>rfl
   |cons=>exact λU=>rfl
  |_=>exact λU=>rfl
 |_=>exact λU=>rfl
theorem vg.Pn(hb:f5 ob=aj)(D:args.all notStar=aj)(y:decide (args.length<30)=aj)(m:(j.endLine==pos.line)=aj)(he:EV F ob st ov st₁)(hg:GM F ov name st₁ f)(ha:vE F args st₁ vs aN)(hc:dM F f (ov::vs) [] aN o st₃):vg F (.Call (.Attribute ob name j) args [] pos) st o st₃:=λρ P s I=>by
 have U:(backTo pos<|starEach args F.env).all (λx=>!x.1)=aj:=by
  clear ha hc y;induction args with
  |nil=>rfl
  |cons e r ih=>
   rw[cD,aw]at D;rw[cC D.1];show(aj&&_)=aj;rw[qC];exact ih D.2
 have US:methodCallForm (args.length+([]:List iu).length) (backTo pos<|starEach args F.env) (backToKw pos<|keywordEach [] F.env)=aj:=by unfold methodCallForm;rw[U];show(aj&&aj&&decide (args.length+0+0<30))=aj;simpa using y
 have P0:methodCallPos aj ob F.env j pos=pure pos:=by unfold methodCallPos;simp[m]
 rw[nR,iO hb];refine ak<|aq (he ρ P s I) (λu a7 zU=>zU.go λρ₁ bN H E G=>?_) i4;refine ak<|dm ?_;unfold methodCall;rw[US];refine ak<|bo<|aq (hg _ ρ₁ bN a7 u H G _) (λr fW zU=>j7 zU λhr hk hg' JG=>?_) i3;subst hr;have jj:=H.keeps hk hg' JG;have Q:eH F.fr kP ρ₁ ρ₁ bN bN a7.heap fW.heap:=.of_keeps hk;refine ak<|m4 P0 ?_;refine aq (IE (first:=[ov]) (kws:=[]) D rfl ha .nil hc jj (u,[],rfl,R.mono (H.toHInv.le Q pV) _ _ G,rfl)) (λu s' z=>z.trans<|E.trans Q) λe s' z=>z.trans<|E.trans Q
theorem dM.fn(G:BS F.w F.hB)(hC:Cx F.A F.fr d)(h:FN F.prog BS f d args kw st.obs o cS)(hf:∃o fd,F.hB.get? f=ah o/\o.data= .func fd)(hg:¬Grows f):dM F (.ref f) args kw st o (st.loc,cS):=λρ P s m ks I ra rk=>by
 refine f7 hf λob fd E hd=>?_;have Q:=I.base _ _ E hg;refine((bM (.frame) (.inl rfl)<|(mB (part:=aC) Q).andThen<|fY<|by rw[hd]),dP<|eR (h F.w F.hB F.fr F.A F.os ρ P s G hC I.toHInv m ks ra rk) λr s' j=>j.go λcO P' H x q=>?_);have y:=I.after H x;cases o with
 |ok v=>(refine aR q λu D ru=>?_;subst D);exact(bM v rfl (cO,P',y,x,ru))
 |exc e=>(refine bl q λa oe vs U z=>?_;subst U);exact(e,rfl,cO,P',a,oe,vs,rfl,y,x,z)
end
section
variable{F:Fx} {st st₁ aN st₃:St} {ρ cO ρ₁:List (aA×aA)} {P P' bN:aA ->Prop} {s s' a7:aS}
theorem EX.RV(Q:TV F t st q st₁)(H:q=aj)(U:dc F b st₁ fl aN):EX F (.If t b c pos) st fl aN:=EX.ite Q (by rw[H];exact U)
theorem EX.ifF(Q:TV F t st q st₁)(H:q=ao)(U:dc F c st₁ fl aN):EX F (.If t b c pos) st fl aN:=EX.ite Q (by rw[H];exact U)
theorem TV.not(h:TV F x st b st₁):TV F (.UnaryOp .Not x pos) st (!b) st₁:=λρ P s I=>
 Xh (aq (h ρ P s I) (λu s' Q=>Q.go λcO P' q i x=>(cO,P',by rw[q],i,x)) i3)
def TL(F:Fx)(H:BoolOp)(xs:List aW)(st:St)(b:Bool)(Q:St):Prop:=
 ∀ρ P s,Inv F st ρ P s ->wpAny F.M F.A (allTrue H xs F.env) (PB F ρ P s.heap b Q) (λU U=>False) s
theorem TV.bool(h:TL F Q xs st b st₁):TV F (.BoolOp Q xs pos) st b st₁:=λρ P s I=>wpAny_isTrue_BoolOp<|h ρ P s I
theorem PB.trans(x:eH F.fr kP ρ ρ₁ P bN Q a7.heap)(h:PB F ρ₁ bN a7.heap b H u s'):PB F ρ P Q b H u s' :=
 let⟨cO,P',q,i,y⟩:=h;(cO,P',q,i,x.trans y)
theorem TL.and_nil:TL F .And [] st aj st:=λρ P s I=>wpAny_allTrue_And_nil (ρ,P,rfl,I,.refl)
theorem TL.or_nil:TL F .Or [] st ao st:=λρ P s I=>wpAny_allTrue_Or_nil (ρ,P,rfl,I,.refl)
theorem TL.abt(h:TV F x st q st₁)(G:q=aj)(E:TL F .And r st₁ b aN):TL F .And (x::r) st b aN:=λρ P s I=>
 Jq (aq (h ρ P s I) (λu a7 D=>D.go λρ₁ bN e H Q=>by subst e;subst G;exact aq (E ρ₁ bN a7 H) (λU U z=>z.trans Q) i3) i3)
theorem TL.abu(h:TV F x st q st₁)(D:q=ao):TL F .And (x::r) st ao st₁:=λρ P s I=>
 Jq (aq (h ρ P s I) (λu a7 U=>U.go λρ₁ bN e H Q=>by subst e;subst D;exact(ρ₁,bN,rfl,H,Q)) i3)
theorem TL.orT(h:TV F x st q st₁)(D:q=aj):TL F .Or (x::r) st aj st₁:=λρ P s I=>
 JI (aq (h ρ P s I) (λu a7 U=>U.go λρ₁ bN e H Q=>by subst e;subst D;exact(ρ₁,bN,rfl,H,Q)) i3)
theorem TL.orF(h:TV F x st q st₁)(G:q=ao)(E:TL F .Or r st₁ b aN):TL F .Or (x::r) st b aN:=λρ P s I=>
 JI (aq (h ρ P s I) (λu a7 D=>D.go λρ₁ bN e H Q=>by subst e;subst G;exact aq (E ρ₁ bN a7 H) (λU U z=>z.trans Q) i3) i3)
theorem EV.RV(E:TV F t st q st₁)(G:q=aj)(h:EV F a st₁ v aN):EV F (.IfExp t a c pos) st v aN:=λρ P s I=>
 wpAny_IfExp (aq (E ρ P s I) (λu a7 D=>D.go λρ₁ bN e H Q=>by subst e;subst G;exact aq (h ρ₁ bN a7 H) (λU U z=>z.trans Q) i3) i3)
theorem EV.ifF(E:TV F t st q st₁)(G:q=ao)(h:EV F c st₁ v aN):EV F (.IfExp t a c pos) st v aN:=λρ P s I=>
 wpAny_IfExp (aq (E ρ P s I) (λu a7 D=>D.go λρ₁ bN e H Q=>by subst e;subst G;exact aq (h ρ₁ bN a7 H) (λU U z=>z.trans Q) i3) i3)
noncomputable def nZ:aW ->Bool
 | .UnaryOp .Not _ _| .BoolOp .. | .IfExp .. | .Compare .. =>ao
 |_=>aj
set_option tactic.hygienic true in
theorem oV (h : nZ e = aj) : isTrue e env whole = (do let v ← whole; standAt e.pos; holding [v] (truthy v)) := by
  cases e <;> first | rfl | (cases h; done) | skip
  rename_i Q _ _
  cases Q <;> first | rfl | cases h
def PT(F:Fx)(s:aS)(b:Bool)(u:Bool)(s' :aS):Prop:=u=b/\(∀a o,s.heap.get? a=ah o ->s'.heap.get? a=ah o)/\s'.gens=s.gens/\s'.os=s.os
def sF(F:Fx)(st:St)(v:V)(b:Bool):Prop:=∀ρ P s u,Inv F st ρ P s ->R (F.fw s ρ P) v u ->wpAny F.M F.A (truthy u) (PT F s b) (λU U=>False) s
theorem TV.val(E:nZ e=aj)(h:EV F e st v st₁)(D:sF F st₁ v b):TV F e st b st₁:=λρ P s I=>by rw[oV E];refine ak<|aq (h ρ P s I) (λu a7 (ρ₁,bN,Q,H,r)=>ak<|dm<|bo<|aq (D ρ₁ bN a7 u Q r) (λb U (e,k,g,o)=>?_) i3) i3;exact(ρ₁,bN,e,Q.keeps k g o,H.trans<|.of_keeps k)
noncomputable def Bf:Option O ->Option (List V)
 |some (.list l)=>ah l
 |_=>aC
theorem zK(h:Bf o=ah l):o=ah (.list l):=by
 cases o with
 |none=>cases h
 |some o=>cases o with
  |list Q=>exact dG h▸rfl
  |_=>cases h
noncomputable def fj(st:St):V ->Option (List V)
 | .lst l=>ah l
 | .ref i=>Bf st.obs[i]?
 |_=>aC
theorem kC(I:Inv F st ρ P s)(h:fj st v=ah l)(r:R (F.fw s ρ P) v u):∃a xs,u= .ref a/\s.heap.IsList a xs/\RL (F.fw s ρ P) l xs.toList:=by
 cases v with
 |lst G=>cases h;refine e7 r λa o xs n e g c d p q=>?_;exact(ek a xs e (pw o g c n d) q)
 |ref i=>
  (refine aR r λp D Q=>?_;subst Q);have E:=zK h;refine cH λy H=>?_;refine jW (I.view.at_ i _ p E D) λU xs n g q=>?_;refine H ?_;exact(ek p.1 xs rfl (pw _ g rfl n rfl) q)
 |_=>cases h
theorem qM(r:R σ (.tup l) u):∃a xs,u= .ref a/\IsTup σ.h a xs/\RL σ l xs.toList:=by refine e7 r λa o xs n e g c d p q=>?_;exact(ek a xs e (pw o g c n d) q)
theorem RL.size{xs:Array aK}(h:RL σ l xs.toList):xs.size=l.length:=by rw[<-h.length,dh]
theorem RL.emp{xs:Array aK}(h:RL σ l xs.toList):(!xs.isEmpty)= !l.isEmpty:=by
 have:=h.size;cases l with
 |nil=>have:xs.size=0:=this;simp[N6,this]
 |cons a l=>simp[N6,this]
theorem sF.none:sF F st .none ao:=λρ P s u I r=>by cases r;exact truthy_none (rfl,λU U e=>e,rfl,rfl)
theorem sF.bool:sF F st (.bool b) b:=λρ P s u I r=>by cases r;exact m1<|cy rfl (λU U e=>e) rfl rfl
theorem sF.int:sF F st (.int i) (i !=0):=λρ P s u I r=>by(refine eN r λt Q=>?_;subst Q);exact YB (rfl,λU U e=>e,rfl,rfl)
theorem sF.str(h:x.length<=2^24):sF F st (.str x) (x.length !=0):=λρ P s u I r=>by obtain⟨t,rfl⟩:=r;refine BP (by lia)<|cy ?_ (λU U e=>e) rfl rfl;cases x.length<;>rfl
theorem sF.lst(H:fj st v=ah l)(h:l.length<=2^24):sF F st v (!l.isEmpty):=λρ P s u I r=>by (refine cj (kC I H r) λa E Q D q=>?_;subst Q);have:=q.size;exact wpAny_truthy_list D (by lia)<|cy q.emp (λU U e=>e) rfl rfl
theorem sF.tup(h:l.length<=2^24):sF F st (.tup l) (!l.isEmpty):=λρ P s u I r=>by (refine cj (qM r) λa D Q H q=>?_;subst Q);have:=q.size;exact truthy_tuple H (by omega) (q.emp,λU U e=>e,rfl,rfl)
theorem Inv.nq(I:Inv F st ρ P s){b:aA}(h:s.heap.get? b=aC):¬P b:=λq=>by refine eN (I.there b q) λo e=>?_;rw[h]at e;cases e
theorem de(h:dR):h.get? h.objs.size=aC:=by
 cases q:h.get? h.objs.size with
 |none=>rfl
 |some o=>exact absurd (bR q)<|eK _
theorem bI(h:dR)(o:gy):∀b ob,h.get? b=ah ob ->(h.push o).get? b=ah ob:=λb ob e=>bD _ e
theorem CJ(par:aB)(h:dR)(o:gy):jQ.Le (par,h,ρ,P) (par,h.push o,ρ,P):=jh<|bI h o
theorem nN(I:Inv F st ρ P s)(r:RL (F.fw s ρ P) l us):R (F.w.params,s.heap.push {cls:=.type "list",data:=.seq us.toArray},ρ,P) (.lst l) (.ref s.heap.objs.size):=
 (e8 _ _ us.toArray 0 rfl (bb _ rfl) rfl rfl (I.nq<|de _)<|by simpa using RL.mono (CJ _ _ _) _ _ r)
theorem Au(I:Inv F st ρ P s)(r:RL (F.fw s ρ P) l us):R (F.w.params,s.heap.push {cls:=.type "tuple",data:=.seq us.toArray},ρ,P) (.tup l) (.ref s.heap.objs.size):=
 (e8 _ _ us.toArray 0 rfl (bb _ rfl) rfl rfl (I.nq<|de _)<|by simpa using RL.mono (CJ _ _ _) _ _ r)
theorem EV.tuple(h:vE F es st l st₁)(D:l.length<=2^24):EV F (.Tuple es k pos) st (.tup l) st₁:=λρ P s I=>
 wpAny_Tuple (aq (h pos ρ P s I) (λE a7 U=>U.go λρ₁ bN Q H r=>(by rw[r.length];exact D,ρ₁,bN,Q.keeps (s' :={a7 with heap:=_}) (bI _ _) rfl rfl,H.trans<|.of_keeps<|bI _ _,Au Q r)) i3)
theorem EV.list(h:vE F es st l st₁)(D:l.length<=2^24):EV F (.List es pos) st (.lst l) st₁:=λρ P s I=>
 Ru (aq (h pos ρ P s I) (λE a7 U=>U.go λρ₁ bN Q H r=>(by rw[r.length];exact D,ρ₁,bN,Q.keeps (s' :={a7 with heap:=_}) (bI _ _) rfl rfl,H.trans<|.of_keeps<|bI _ _,nN Q r)) i3)
theorem CK(k:∀b ob,s.heap.get? b=ah ob ->D.get? b=ah ob)(H:s.heap.get? p.1=aC)(Q:s.heap.get? p.2=aC):jQ.Le (F.fw s ρ P) (F.w.params,D,ρ++[p],λb=>P b\/b=p.1\/b=p.2):=
 (rfl,λb o e U=>k b o e,λi q e=>by
  show(ρ++_)[i]? =_;rw[bK (List.getElem?_eq_some_iff.mp e).1];exact e,λb q=>by
  refine q.imp id λq=>?_;rcases q with rfl|rfl
  .exact H
  .exact Q)
theorem Inv.grow(I:Inv F st ρ P s)(k:∀b ob,s.heap.get? b=ah ob ->h'.get? b=ah ob)(n1:s.heap.get? p.1=aC)(n2:s.heap.get? p.2=aC)(t1:∃ob,h'.get? p.1=ah ob)(t2:∃ob,h'.get? p.2=ah ob)(ho:mJ (F.w.params,h',ρ++[p],λb=>P b\/b=p.1\/b=p.2) p o)(ht:s'.heap=h')(hg:s'.gens=s.gens)(P1:s'.os=s.os):Inv F (st.loc,st.obs++[o]) (ρ++[p]) (λb=>P b\/b=p.1\/b=p.2) s' /\eH F.fr kP ρ (ρ++[p]) P (λb=>P b\/b=p.1\/b=p.2) s.heap s'.heap:=by
 subst ht;have E:∀b,(b=p.1\/b=p.2)->s.heap.get? b=aC:=λb q=>by rcases q with rfl|rfl;exact n1;exact n2
 have pre:∀(i:Nat) q,ρ[i]? =ah q ->(ρ++[p])[i]? =ah q:=λi q e=>by rw[bK (List.getElem?_eq_some_iff.mp e).1];exact e
 have S:eH F.fr kP ρ (ρ++[p]) P (λb=>P b\/b=p.1\/b=p.2) s.heap s'.heap:=
  (λb ob e U U U U=>k b ob e,λb ob e U U U=>(ob.slots,k b ob e),λb ob e=>(ob,k b ob e),pre,λb q=>.inl q,λb q=>q.imp id<|E b,λq Q=>by
   rcases List.mem_append.mp Q with Q|Q
   .exact .inl Q
   .rw[i9]at Q;subst Q;exact .inr (n1,n2))
 have L:jQ.Le (F.w.params,s.heap,ρ,P) (F.w.params,s'.heap,ρ++[p],λb=>P b\/b=p.1\/b=p.2):=I.toHInv.le S pV;have D:ρ.length=st.obs.length:=I.view.len;have SE:∀b,VA ρ b ->P b:=λb zU=>aR zU λq Q z=>by rcases z with rfl|rfl;exact(I.view.iV q Q).1;exact(I.view.iV q Q).2
 have there:∀b,P b ->b≠p.1/\b≠p.2:=λb q=>(λz=>I.nq n1<|z▸q,λz=>I.nq n2<|z▸q);have H:∀b ob,s.heap.get? b=ah ob ->¬VA ρ b ->¬VA (ρ++[p]) b:=λb ob e n zU=>aR zU λq Q z=>by
  rcases List.mem_append.mp Q with Q|Q
  .exact n (bM q Q z)
  .rw[i9]at Q;subst Q;have:=E b z;rw[this]at e;cases e
 refine(((λb ob e g=>k _ _<|I.base b ob e g,I.old.step_keeps k,λb ob e g q=>?_,λb g=>.inl<|I.gw b g,λb q=>?_,I.wB.of_keeps λb ob e U=>(bM ob (k _ _ e) rfl),λe he Lf hf=>.inl<|I.wD e he Lf hf,λe he Lf hf=>?_,(?_,λi ob q e1 e2=>?_,λq Q=>?_,λi j q r e1 e2 P4=>?_,λq Q=>?_),by rw[hg];exact I.gens,P1.trans I.os),?_),S)
 .rcases q with q|q
  .exact I.hK b ob e g q
  .have:=I.base b ob e g;rw[E b q]at this;cases this
 .rcases q with q|rfl|rfl
  .refine eN (I.there b q) λob e=>?_;exact(ob,k _ _ e)
  .exact t1
  .exact t2
 .refine eN (I.there Lf<|I.wD e he Lf hf) λob e' =>?_;exact H Lf ob e'<|I.vt e he Lf hf
 .simp[D]
 .by_cases hi:i<ρ.length
  .have Lr:st.obs[i]? =ah ob:=by rwa [bK<|D▸hi]at e1
   have Nw:ρ[i]? =ah q:=by rwa [bK hi]at e2
   exact(I.view.at_ i ob q Lr Nw).mono L (λU z=>k _ _ z) λU z=>k _ _ z
  .have G:i=ρ.length:=by
    have:=(List.getElem?_eq_some_iff.mp e2).1;simp at this;lia
   subst G;rw[bW]at e2;cases e2;rw[D,bW]at e1;cases e1;exact ho
 .rcases List.mem_append.mp Q with Q|Q
  .exact(.inl (I.view.iV q Q).1,.inl (I.view.iV q Q).2)
  .rw[i9]at Q;subst Q;exact(.inr<|.inl rfl,.inr<|.inr rfl)
 .have mid:∀(i:Nat) q,(ρ++[p])[i]? =ah q ->(i<ρ.length/\ρ[i]? =ah q)\/(i=ρ.length/\q=p):=λi q e=>by
   by_cases hi:i<ρ.length
   .rw[bK hi]at e;exact .inl (hi,e)
   .have G:i=ρ.length:=by
     have:=(List.getElem?_eq_some_iff.mp e).1;simp at this;omega
    subst G;rw[bW]at e;cases e;exact .inr (rfl,rfl)
  rcases mid i q e1 with⟨h1,e3⟩|⟨h1,rfl⟩<;>rcases mid j r e2 with⟨h2,e4⟩|⟨h2,rfl⟩
  .exact I.view.apart i j q r e3 e4 P4
  .have Q:=I.view.iV q<|aT e3;exact(cy ((there _ Q.1).1) ((there _ Q.1).2) ((there _ Q.2).1)<|(there _ Q.2).2)
  .have hr:=I.view.iV r<|aT e4;exact(cy (λz=>(there _ hr.1).1 z.symm) (λz=>(there _ hr.2).1 z.symm) (λz=>(there _ hr.1).2 z.symm) (λz=>(there _ hr.2).2 z.symm))
  .exact absurd (h1.trans h2.symm) P4
 .have gN:=λb e g=>I.nq e<|I.gw b g;rcases List.mem_append.mp Q with Q|Q
  .exact I.view.gr q Q
  .rw[i9]at Q;subst Q;exact(gN _ n1,gN _ n2)
 .refine cH λGq kq=>?_;refine aR (I.loc.ns) λm hn rl=>?_;refine eN (I.there _ I.loc.jV) λoL eL=>?_;refine kq ?_;refine((bM m (hn.keeps k) λy v e=>?_),.inl I.loc.jV,H _ _ eL I.loc.lj,I.loc.ml,λn c hc=>?_,I.loc.inj)
  .refine aR (rl y v e) λu a ru=>?_;refine(bM u ?_<|R.mono L _ _ ru);rcases a with a|⟨kk,c,o,b,d,e⟩
   .exact .inl a
   .exact .inr (gJ kk c o b (k _ _ d) e)
  .refine cH λGq kq=>?_;refine fF (I.loc.cells n c hc) λa1 a2 a3 a4 AV o a5 a6=>?_;refine kq ?_;exact(fG (.inl a1) (H _ _ a5 a2) a3 a4 AV o (k _ _ a5) a6)
theorem EV.KJ(h:vE F es st l st₁)(u:l.length<=2^24):EV F (.List es pos) st (.ref st₁.obs.length) (st₁.loc,st₁.obs++[.list l]):=λρ P s I=>
 Ru (aq (h pos ρ P s I) (λD a7 G=>G.go λρ₁ bN Q U r=>(by rw[r.length];exact u,by have k:=bI a7.heap {cls:=.type "list",data:=.seq D.toArray};have at_:(a7.heap.push {cls:=.type "list",data:=.seq D.toArray}).get? a7.heap.objs.size=ah _:=bb _ rfl;have n:=de a7.heap;refine fk (Q.grow (s' :={a7 with heap:=a7.heap.push {cls:=.type "list",data:=.seq D.toArray} }) (p:=(a7.heap.objs.size,a7.heap.objs.size)) (o:=.list l) k n n (_,at_) (_,at_) (mu rfl D.toArray 0 at_<|RL.mono (CK k n n) _ _<|show RL (F.fw a7 ρ₁ bN) l D.toArray.toList by simpa using r) rfl rfl rfl) λE H=>?_;exact(_,_,E,U.trans H,(a7.heap.objs.size,a7.heap.objs.size),by rw[<-Q.view.len];exact bW,rfl))) i3)
end
noncomputable def nK(a:Option eF)(b:Option (List eF)):Option (List eF):=match a,b with
 |some d,ah Q=>ah (d::Q)
 |_,_=>aC
mutual
noncomputable def V.data:V ->Option eF
 | .none=>ah .none
 | .bool b=>ah (.bool b)
 | .int i=>ah (.int i)
 | .str x=>ah (.str x)
 | .tup l=>(V.gV l).map .tuple
 | .lst l=>(V.gV l).map .list
 |_=>dW
noncomputable def V.gV:List V ->Option (List eF)
 |[]=>ah []
 |v::r=>nK (V.data v)<|V.gV r
end
mutual
theorem R.reads:∀(v:V) (u:aK) (d:eF),R σ v u ->V.data v=ah d ->∃D,Reads σ.h u d D
 | .none,_,_,h,e=>by cases h;cases e;exact(_,.none)
 | .bool b,_,_,h,e=>by cases h;cases e;exact(_,.bool b)
 | .int i,_,_,h,e=>by(refine eN h λt U=>?_;subst U);cases e;exact(_,.int i t)
 | .str x,_,_,h,e=>by(refine eN h λt U=>?_;subst U);cases e;exact(_,.str x t)
 | .tup l,_,d,h,e=>by
  (refine e7 h λa o xs n H g c j p r=>?_;subst H);cases q:V.gV l with
  |none=>have e:(V.gV l).map _=ah d:=e;rw[q]at e;cases e
  |some Q=>have e:(V.gV l).map _=ah d:=e;rw[q]at e;cases e;refine eN (RL.reads l _ Q r q) λD z=>?_;exact(_,.tuple g c j z)
 | .lst l,_,d,h,e=>by
  (refine e7 h λa o xs n H g c j p r=>?_;subst H);cases q:V.gV l with
  |none=>have e:(V.gV l).map _=ah d:=e;rw[q]at e;cases e
  |some Q=>have e:(V.gV l).map _=ah d:=e;rw[q]at e;cases e;refine eN (RL.reads l _ Q r q) λD z=>?_;exact(_,.list g c j z)
 | .obj _ _,_,_,_,e=>by cases e
 | .ref _,_,_,_,e=>by cases e
 | .val _,_,_,_,e=>by cases e
 | .dq,_,_,_,e=>by cases e
 | .ky _ _,_,_,_,e=>by cases e
theorem RL.reads {σ:jQ}:∀(l:List V) (m:List aK) (Q:List eF),RL σ l m ->V.gV l=ah Q ->∃D,ReadsAll σ.h m Q D
 |[],_,_,h,e=>by cases h;cases e;exact(_,.nil)
 |v::r,_,_,h,e=>by
  (refine cj h λy ys E a b=>?_;subst E);have e:nK (V.data v) (V.gV r)=ah _:=e;cases q:V.data v with
  |none=>rw[q]at e;cases e
  |some d=>
   cases G:V.gV r with
   |none=>rw[q,G]at e;cases e
   |some Q=>
    rw[q,G]at e;cases e;refine eN (R.reads v y d a q) λD z=>?_;refine eN (RL.reads r ys Q b G) λbs z' =>?_;exact(_,.cons z z')
end
section
variable{F:Fx} {st st₁ aN st₃:St} {ρ cO ρ₁:List (aA×aA)} {P P' bN:aA ->Prop} {s s' a7:aS}
theorem lG.Q1:lG F st .Add (.int a) (.int b) (.int<|a+b):=λρ P s D U I H Q=>by obtain⟨t,rfl⟩:=H;obtain⟨u,rfl⟩:=Q;exact add_int<|.tok _ iX
theorem lG.Zn:lG F st .Sub (.int a) (.int b) (.int<|a -b):=λρ P s D U I H Q=>by obtain⟨t,rfl⟩:=H;obtain⟨u,rfl⟩:=Q;exact sub_int<|.tok _ iX
theorem lG.aaj(h:IntMulOk a b):lG F st .Mult (.int a) (.int b) (.int<|a*b):=λρ P s D U I H Q=>by obtain⟨t,rfl⟩:=H;obtain⟨u,rfl⟩:=Q;exact mul_int (.tok _ iX) h
theorem lG.abc(h:b≠0)(U:Builtin.divisionGoesByPylong a b=ao):lG F st .FloorDiv (.int a) (.int b) (.int<|a.fdiv b):=λρ P s E D I H Q=>by obtain⟨t,rfl⟩:=H;obtain⟨u,rfl⟩:=Q;exact floordiv_int h (.tok _ iX)<|.inl U
theorem lG.aak(h:b≠0):lG F st .Mod (.int a) (.int b) (.int<|a.fmod b):=λρ P s D U I H Q=>by obtain⟨t,rfl⟩:=H;obtain⟨u,rfl⟩:=Q;exact mod_int' h<|.tok _ iX
theorem lG.LY(h:x.length+y.length<=2^24):lG F st .Add (.str x) (.str y) (.str<|x++y):=λρ P s D U I H Q=>by obtain⟨t,rfl⟩:=H;obtain⟨u,rfl⟩:=Q;exact add_str (λt k=>.tok _ kI) h
theorem lG.aai(h:Sf x n):lG F st .Mult (.str x) (.int n) (.str<|sP x n):=λρ P s D U I H Q=>by obtain⟨t,rfl⟩:=H;obtain⟨u,rfl⟩:=Q;exact SB.mul h λt k=>.tok _ kI
theorem ES.Q1:ES F st .Add (.int a) (.int b) (.int<|a+b):=λρ P s D U I H Q=>by obtain⟨t,rfl⟩:=H;obtain⟨u,rfl⟩:=Q;exact iadd_int<|.tok _ iX
theorem ES.LY(h:x.length+y.length<=2^24):ES F st .Add (.str x) (.str y) (.str<|x++y):=λρ P s D U I H Q=>by obtain⟨t,rfl⟩:=H;obtain⟨u,rfl⟩:=Q;exact iadd_str (λt k=>.tok _ kI) h
theorem lG.abw(ha:fj st a=ah l)(hb:fj st b=ah m)(h:l.length+m.length<=2^24):lG F st .Add a b (.lst<|l++m):=λρ P s ua ub I ra rb=>by
 refine cH λGq kq=>?_;(refine cj (kC I ha ra) λx u Q hx rx=>?_;subst Q);(refine cj (kC I hb rb) λy G Q hy ry=>?_;subst Q);(refine x6 (id hx) λH ho hc n hd=>?_;obtain⟨cls,dd,data,sl⟩:=H);(refine x6 (id hy) λH U E n2 D=>?_;obtain⟨abf,j,data2,z⟩:=H);refine kq ?_;simp only at hc hd E D;subst hc hd E D;have e:u++G=(u.toList++G.toList).toArray:=by simp
 have:=rx.size;have:=ry.size;refine concat_meets (bM _ ho rfl) (bM _ U rfl) Yy seq_list_add yA yq (xe _ _) (list_addW x y u G n n2 dd j sl z (by show _<=2^24;lia)) (ho,U,?_);rw[e];exact(cy (bI _ _) rfl rfl<|nN I<|rx.append ry)
theorem dO.eqI:dO F st .Eq (.int a) (.int b) (a==b):=λρ P s D U I H Q=>by obtain⟨t,rfl⟩:=H;obtain⟨u,rfl⟩:=Q;exact PySem.P.eq_int<|.tok s.toks eV
theorem dO.XR:dO F st .NotEq (.int a) (.int b) (a !=b):=λρ P s D U I H Q=>by obtain⟨t,rfl⟩:=H;obtain⟨u,rfl⟩:=Q;exact PySem.P.ne_int<|.tok s.toks eV
theorem dO.ltI:dO F st .Lt (.int a) (.int b) (decide<|a<b):=λρ P s D U I H Q=>by obtain⟨t,rfl⟩:=H;obtain⟨u,rfl⟩:=Q;exact PySem.P.lt_int<|.tok s.toks eV
theorem dO.leI:dO F st .LtE (.int a) (.int b) (decide<|a<=b):=λρ P s D U I H Q=>by obtain⟨t,rfl⟩:=H;obtain⟨u,rfl⟩:=Q;exact PySem.P.le_int<|.tok s.toks eV
theorem dO.gtI:dO F st .Gt (.int a) (.int b) (decide<|a>b):=λρ P s D U I H Q=>by obtain⟨t,rfl⟩:=H;obtain⟨u,rfl⟩:=Q;exact Ju<|.tok s.toks eV
theorem dO.geI:dO F st .GtE (.int a) (.int b) (decide<|a>=b):=λρ P s D U I H Q=>by obtain⟨t,rfl⟩:=H;obtain⟨u,rfl⟩:=Q;exact PySem.P.ge_int<|.tok s.toks eV
theorem dO.eqS:dO F st .Eq (.str x) (.str y) (x==y):=λρ P s D U I H Q=>by obtain⟨t,rfl⟩:=H;obtain⟨u,rfl⟩:=Q;exact YF<|.tok s.toks eV
theorem dO.inS:dO F st .In (.str y) (.str x) (!(tx x y 0 x.length 1).isEmpty):=λρ P s D U I H Q=>by obtain⟨t,rfl⟩:=H;obtain⟨u,rfl⟩:=Q;exact in_str<|.tok s.toks eV
theorem dO.aac:dO F st .NotIn (.str y) (.str x) (!(!(tx x y 0 x.length 1).isEmpty)):=λρ P s D U I H Q=>by obtain⟨t,rfl⟩:=H;obtain⟨u,rfl⟩:=Q;exact notIn_str<|.tok s.toks eV
theorem dO.Ym(j:F.A.units+64<cLine)(ha:a.data=ah H)(m:b.data=ah Q)(sa:dQ H=aj)(u:dQ Q=aj):dO F st .Eq a b (bA H Q):=λρ P s G E I z y=>by refine eN (R.reads a G H z ha) λas D=>?_;refine eN (R.reads b E Q y m) λbs U=>?_;exact eq_dataH D U sa u j<|.tok s.toks eV
theorem dO.neD(j:F.A.units+64<cLine)(ha:a.data=ah H)(m:b.data=ah Q)(sa:dQ H=aj)(u:dQ Q=aj):dO F st .NotEq a b (!bA H Q):=λρ P s G E I z y=>by refine eN (R.reads a G H z ha) λas D=>?_;refine eN (R.reads b E Q y m) λbs U=>?_;exact ne_dataH D U sa u j<|.tok s.toks eV
noncomputable def V.isNone:V ->Bool
 | .none=>aj
 | .val u=>u== .none
 |_=>ao
theorem R.isNone(r:R σ v u):(u==dU)=v.isNone:=by
 cases v with
 |none=>cases r;rfl
 |bool b=>cases r;rfl
 |int i=>(refine eN r λt H=>?_;subst H);rfl
 |str x=>(refine eN r λt H=>?_;subst H);rfl
 |tup l=>(refine om r λa o y n Q U=>?_;subst Q);rfl
 |lst l=>(refine om r λa o y n Q U=>?_;subst Q);rfl
 |obj C a=>(refine Ah r λa o y es n D U=>?_;subst D);rfl
 |ref i=>(refine aR r λp U G=>?_;subst G);rfl
 |val u=>cases r;rfl
 |dq=>(refine bl r λa o vs E U=>?_;subst E);rfl
 |ky a b=>(refine om r λq t u w Q U=>?_;subst Q);rfl
theorem dO.isN:dO F st .Is a .none a.isNone:=λρ P s D U I H Q=>by cases Q;exact is_none<|.tok s.toks (by rw[R.isNone H];exact eV)
theorem dO.aar:dO F st .IsNot a .none (!a.isNone):=λρ P s D U I H Q=>by cases Q;exact isNot_none<|.tok s.toks (by rw[R.isNone H];exact eV)
theorem dO.isT:dO F st .Is (.val<|.type x) (.val<|.type y) (x==y):=λρ P s D U I H Q=>by
 cases H;cases Q;show wpAny _ _ (do return Ew (<-isSame (.type x) (.type y))) _ _ _;have:isSame (.type x) (.type y)=pure ((cz x==cz y)):=rfl;rw[this];refine ak<|ay<|ay<|.tok s.toks ?_;have:(cz x==cz y)=(x==y):=by
  by_cases h:x=y
  .subst h;simp
  .rw[show(x==y)=ao from beq_eq_false_iff_ne.mpr h,beq_eq_false_iff_ne];intro q;cases q;exact h rfl
 rw[this];exact eV
theorem dO.aaq:dO F st .IsNot (.val<|.type x) (.val<|.type y) (x !=y):=λρ P s D U I H Q=>by
 cases H;cases Q;show wpAny _ _ (do return Ew (!(<-isSame (.type x) (.type y)))) _ _ _;have:isSame (.type x) (.type y)=pure ((cz x==cz y)):=rfl;rw[this];refine ak<|ay<|ay<|.tok s.toks ?_;have:(!(cz x==cz y))=(x !=y):=by
  by_cases h:x=y
  .subst h;simp
  .rw[show(x !=y)=aj from bne_iff_ne.mpr h,dk,beq_eq_false_iff_ne];intro q;cases q;exact h rfl
 rw[this];exact eV
end
noncomputable def lP:aW ->Bool
 | .Slice .. =>ao
 |_=>aj
theorem sq(h:lP e=aj):subscripted e ao o i=operate [o,i] (getItem o i):=by cases e<;>first|rfl|cases h
section
variable{F:Fx} {st st₁ aN st₃ ko:St} {ρ cO ρ₁:List (aA×aA)} {P P' bN:aA ->Prop} {s s' a7:aS}
def Ay(F:Fx)(st:St)(o i v:V):Prop:=∀ρ P s Q H,Inv F st ρ P s ->R (F.fw s ρ P) o Q ->R (F.fw s ρ P) i H ->
 ∃T id,s.TypeIs Q T/\typeLookup (.type T) "__getitem__"=pure (ah<|.builtin id)/\wpAny F.M F.A (getItem Q H) (PK F ρ P s v) (λU U=>False) s
theorem EV.item(hn:lP slice=aj)(ho:EV F Q st o st₁)(hi:EV F slice st₁ i aN)(h:Ay F aN o i v):EV F (.Subscript Q slice pos) st v aN:=λρ P s I=>
 Ry (EV.two (C:=λH j y=>wpAny F.M F.A (subscriptTail Q slice j y) (PV F ρ P s.heap v aN) (λU U=>False) H) ho hi I λE G H j y D x ra m=>by refine cH λGq kq=>?_;refine cj (h E G H j y D ra m) λT id hT hl hg=>?_;refine kq ?_;exact tail_any hT hl (aq hg (λu s' z=>(z.pv D).trans x) i3) (sq hn))
noncomputable def place(k:Int)(n:Nat):Option Nat:=if 0<=k then(if k.toNat<n then ah k.toNat else aC)else if 0<=k+n then ah (k+n).toNat else aC
theorem DO(h:place k n=ah j):seqIndex? k n=ah j/\j<n:=by
 unfold place at h;split at h
 .split at h
  .cases h;rename_i H Q;exact(by unfold seqIndex?;simp[H,show¬k<0 by lia];omega,Q)
  .cases h
 .split at h
  .cases h;rename_i H Q;exact(seqIndex_neg (by exact Tw (Int.not_le.mp H) (by omega)) (by exact Tw Q (by omega)),by omega)
  .cases h
theorem Ay.tup(Q:place k l.length=ah j)(m:l[j]? =ah v)(hl:l.length<=2^24):Ay F st (.tup l) (.int k) v:=λρ P s uo ui I u y=>by
 (refine cj (qM u) λa xs H D r=>?_;subst H);(refine eN y λt U=>?_;subst U);refine aR (r.get m) λx z G=>?_;refine fk (DO Q) λh1 h2=>?_;have hs:=r.size;have E: -(2^63)<=k/\k<2^63:=by
  unfold place at Q;split at Q
  .split at Q
   .exact(by lia,by lia)
   .cases Q
  .split at Q
   .exact(by lia,by lia)
   .cases Q
 refine(ek ("tuple") _ (IsTup.typeIs D) slot_tuple_getitem.lookup<|getItem_tuple D E.1 E.2 (by rw[hs];exact h1) (by rw[<-di];exact z)<|.tok s.toks G)
theorem Ay.lst(ho:fj st o=ah l)(Q:place k l.length=ah j)(m:l[j]? =ah v)(hl:l.length<=2^24):Ay F st o (.int k) v:=λρ P s uo ui I y z=>by
 (refine cj (kC I ho y) λa xs H D r=>?_;subst H);(refine eN z λt U=>?_;subst U);refine aR (r.get m) λx u G=>?_;have hs:=r.size;refine(ek ("list") _ D.typeIs slot_list_getitem.lookup ?_);unfold place at Q;split at Q
 .split at Q
  .cases Q;rename_i E h1;exact wpAny_getItem_list D E (by lia) (by rw[<-di];exact u)<|.tok s.toks G
  .cases Q
 .split at Q
  .cases Q;rename_i E h1;exact wpAny_getItem_list_neg D (by exact Tw (Int.not_le.mp E) (by omega)) (by lia) (by lia) (by rw[<-di,hs];exact u) (.tok s.toks G)
  .cases Q
def sI(F:Fx)(e:Option aW)(st:St)(v:Option Int)(Q:St):Prop:=match e,v with
 |none,aC=>Q=st
 |some e,ah i=>EV F e st (.int i) Q
 |_,_=>False
def Ba(v:Option Int)(u:aK):Prop:=match v with
 |none=>u= .none
 |some i=>∃t,u= .int i t
inductive W' (F:Fx) (ρ:List (aA×aA)) (P:aA ->Prop) (h:dR) (v:Option Int) (ke:St) (u:aK) (s' :aS):Prop
 |mk (cO:List (aA×aA)) (P' :aA ->Prop) (i:Inv F ke cO P' s') (x:eH F.fr kP ρ cO P P' h s'.heap) (r:Ba v u):W' F ρ P h v ke u s'
theorem W'.go(D:W' F ρ P h v Q u s'){H:Prop}(E:∀(cO:List (aA×aA)) (P' :aA ->Prop) (i:Inv F Q cO P' s') (x:eH F.fr kP ρ cO P P' h s'.heap) (r:Ba v u),H):H:=W'.rec (motive:=λU=>H) E D
theorem sI.run(h:sI F e st v st₁)(I:Inv F st ρ P s):wpAny F.M F.A (evalPart e F.env) (W' F ρ P s.heap v st₁) (λU U=>False) s:=by
 cases e with
 |none=>cases v with
  |none=>cases h;rw[evalPart_none];exact ay (ρ,P,I,.refl,rfl)
  |some i=>exact h.elim
 |some e=>cases v with
  |none=>exact h.elim
  |some i=>rw[evalPart_some];exact aq (h ρ P s I) (λu s' (cO,P',Q,x,t,e)=>(cO,P',Q,x,t,e)) i3
def NU(F:Fx)(st:St)(o:V)(lo hi sp:Option Int)(v:V):Prop:=∀ρ P s Q a D H vs,Inv F st ρ P s ->R (F.fw s ρ P) o Q ->s.heap.get? a=ah {cls:=.type "slice",data:=.fields #[D,H,vs]}->Ba lo D ->Ba hi H ->Ba sp vs ->
 ∃T id,s.TypeIs Q T/\typeLookup (.type T) "__getitem__"=pure (ah<|.builtin id)/\wpAny F.M F.A (getItem Q<|.ref a) (PK F ρ P s v) (λU U=>False) s
theorem pN{lo hi sp:Option aW}:∃Q,subscripted (.Slice lo hi sp p) ao o i=operate Q (getItem o i):=by cases sp<;>exact(_,rfl)
theorem EV.slice{lo hi sp:Option aW}(ho:EV F y st o st₁)(hl:sI F lo st₁ l aN)(hu:sI F hi aN u st₃)(hp:sI F sp st₃ t ko)(h:NU F ko o l u t v):EV F (.Subscript y (.Slice lo hi sp p) pos) st v ko:=λρ P s I=>by refine Ry (aq (ho ρ P s I) (λuo a7 G=>G.go λρ₁ bN E mP r=>wpAny_Slice ?_) i3);refine aq (hl.run E) (λvl fW G=>G.go λyK mU jj AR pl=>?_) i3;refine aq (hu.run jj) (λvu jT G=>G.go λabP sG jX m pu=>?_) i3;refine aq (hp.run jX) (λvs Q G=>G.go λH U nP j ps=>?_) i3;have k:=bI Q.heap {cls:=.type "slice",data:=.fields #[vl,vu,vs]};have X:=(AR.trans m).trans j;have D:=nP.keeps (s' :={Q with heap:=Q.heap.push {cls:=.type "slice",data:=.fields #[vl,vu,vs]} }) k rfl rfl;have X' :eH F.fr kP ρ₁ H bN U a7.heap (Q.heap.push {cls:=.type "slice",data:=.fields #[vl,vu,vs]}):=X.trans<|.of_keeps k;refine cH λGq kq=>?_;refine cj (h H U _ uo Q.heap.objs.size vl vu vs D (R.mono (E.toHInv.le X' pV) _ _ r) (bb _ rfl) pl pu ps) λT id hT hl' hg=>?_;refine eN (pN (lo:=lo) (hi:=hi) (sp:=sp) (p:=p) (o:=uo) (i:=.ref Q.heap.objs.size)) λops hs=>?_;refine kq ?_;exact tail_any hT hl' (aq hg (λu s' z=>(z.pv D).trans<|mP.trans X') i3) hs
noncomputable def pick{Q:Type}(l:List Q)(lo hi sp:Option Int):List Q:=(sliceRange (sliceBounds lo hi sp l.length).1 (sliceBounds lo hi sp l.length).2.1 (sliceBounds lo hi sp l.length).2.2).filterMap (l[·]?)
theorem RL.Bb(h:RL σ l us):∀Q:List Nat,RL σ (Q.filterMap (l[·]?)) (Q.filterMap (us[·]?))
 |[]=>rfl
 |i::r=>by
  rw[EJ,EJ];cases e:l[i]? with
  |none=>
   have:us[i]? =aC:=by rw[iC]at e⊢;rw[h.length];exact e
   rw[this];exact RL.Bb h r
  |some v=>
   refine aR (h.get e) λx U H=>?_;rw[U];exact(ek x _ rfl H<|RL.Bb h r)
theorem rj(h:Ba v u):IsPart u v:=by
 cases v with
 |none=>cases h;exact .none
 |some i=>obtain⟨t,rfl⟩:=h;exact .int i t
theorem NU.lst{o:V}{l:List V}{lo hi sp:Option Int}(u:fj st o=ah l)(j:sp≠ah 0)(y:l.length<=2^24):NU F st o lo hi sp (.lst<|pick l lo hi sp):=λρ P s uo a vl m vs I D z pl pu E=>by
 (refine cj (kC I u D) λb H Q U r=>?_;subst Q);have G:=r.size;refine(ek ("list") _ U.typeIs slot_list_getitem.lookup<|wpAny_getItem_list_slice U (uQ _ z rfl rfl) (rj pl) (rj pu) (rj E) j ?_ (by show _<=2^24;exact G▸y));have e:slicePick H lo hi sp=(pick H.toList lo hi sp).toArray:=by unfold slicePick pick;simp
 rw[e];exact(cy (bI _ _) rfl rfl<|nN I (by unfold pick;rw[r.length];exact r.Bb _))
noncomputable def DN(v:Option Int)(u:aK):Option (Int×Tok):=match v,u with
 |some i,.int _ t=>ah (i,t)
 |_,_=>aC
theorem zo(h:Ba v u):u=partValue (DN v u)/\(DN v u).map (·.1)=v:=by
 cases v with
 |none=>cases h;exact(rfl,rfl)
 |some i=>obtain⟨t,rfl⟩:=h;exact(rfl,rfl)
theorem NU.str{x:aF}{lo hi:Option Int}(z:x.length<=2^24):NU F st (.str x) lo hi aC (.str<|dX x lo hi):=λρ P s uo a U H vs I D j pl pu E=>by
 obtain⟨t,rfl⟩:=D;obtain⟨el,y⟩:=zo pl;obtain⟨m,G⟩:=zo pu;cases E;refine(ek ("str") _ (fQ _ _ _) PySem.F.slot_str_getitem.lookup<|wpAny_getItem_str_slice (l:=DN lo U) (u:=DN hi H) (st:=aC) (uQ _ j rfl (by show XA #[U,H,_]=_;rw[<-el,<-m];rfl)) rfl ?_);have e:slicePicked x (DN lo U) (DN hi H) aC=abM lo hi 1 x.length:=by unfold slicePicked;rw[y,G];rfl
 unfold sliceMade;rw[e];have:∀Q k,PK F ρ P s (.str<|dX x lo hi) (.str (dX x lo hi) Q) {s with toks:=k}:=λQ k=>.tok _ kI;unfold dX at this⊢;refine post_val_or_str (?_,λQ k=>this Q k);exact ai (Txt.slice_le x lo hi) z
end
section
variable{F:Fx} {st st₁ aN st₃:St} {ρ cO ρ₁:List (aA×aA)} {P P' bN:aA ->Prop} {s s' a7:aS}
theorem Inv.set{b:aA}(I:Inv F st ρ P s)(hp:ρ[i]? =ah p)(hb:b=p.1\/b=p.2)(Q:gB b s.heap s'.heap)(hd:∃ob,s'.heap.get? b=ah ob)(ho:mJ (F.w.params,s'.heap,ρ,P) p o')(hg:s'.gens=s.gens)(P1:s'.os=s.os):Inv F (st.loc,st.obs.set i o') ρ P s' /\eH F.fr kP ρ ρ P P s.heap s'.heap:=by
 have H:=aT hp;have hbV:VA ρ b:=(bM p H hb);have G:P b:=by rcases hb with rfl|rfl;exact(I.view.iV p H).1;exact(I.view.iV p H).2
 have hbG:¬Grows b:=by rcases hb with rfl|rfl;exact(I.view.gr p H).1;exact(I.view.gr p H).2
 have L:jQ.Le (F.w.params,s.heap,ρ,P) (F.w.params,s'.heap,ρ,P):=fO Q G;have ne:∀a,¬VA ρ a ->a≠b:=λa h q=>h<|q▸hbV;have S:eH F.fr kP ρ ρ P P s.heap s'.heap:=(λa o e n U U U=>(Q.2 a<|ne a n).trans e,λa o e n U U=>(o.slots,(Q.2 a<|ne a n).trans e),λa o e=>by
  by_cases q:a=b
  .subst q;exact hd
  .exact(o,(Q.2 a q).trans e),λU U e=>e,λU q=>q,λU q=>.inl q,λU q=>.inl q)
 have bB:∀a o,F.hB.get? a=ah o ->a≠b:=λa o e q=>by subst q;exact I.hK a o e hbG G
 refine(((λa o e g=>(Q.2 a<|bB a o e).trans<|I.base a o e g,lN I.old λa o e=>Q.2 a<|bB a o e,I.hK,I.gw,λa q=>?_,?_,I.wD,I.vt,(?_,λj o q e1 e2=>?_,I.view.iV,I.view.apart,I.view.gr),by rw[hg];exact I.gens,P1.trans I.os),?_),S)
 .refine eN (I.there a q) λo e=>?_;exact S.l9 a o e
 .refine(I.wB:s.heap.FunFrames F.hB F.fr)|>λfr=>?_;have key:∀{l:List vK},(∀e∈l,e∈F.fr)->s.heap.FunFrames F.hB l ->s'.heap.FunFrames F.hB l:=by
   intro l;induction l with
   |nil=>intro _ _;trivial
   |cons e r ih=>
    intro H (hk,(L',o,hf,hn,JG,hdd),hr);exact(hk,(L',o,hf,hn,(Q.2 L'<|ne L'<|I.vt e (H e<|.head _) L' hf).trans JG,hdd),ih (λx hx=>H x<|.tail _ hx) hr)
  exact key (λe he=>he) fr
 .simp[I.view.len]
 .by_cases D:j=i
  .subst D;have sv:j<st.obs.length:=by have:=(List.getElem?_eq_some_iff.mp e1).1;simpa using this
   rw[m9 sv]at e1;cases e1;have:p=q:=by have Nw:ρ[j]? =ah q:=e2;rw[hp]at Nw;exact dG Nw
   exact this▸ho
  .rw[Dq λz=>D z.symm]at e1;have ap:=I.view.apart j i q p e2 hp D;have n1:q.1≠b:=by rcases hb with rfl|rfl;exact ap.1;exact ap.2.1
   have n2:q.2≠b:=by rcases hb with rfl|rfl;exact ap.2.2.1;exact ap.2.2.2
   exact(I.view.at_ j o q e1 e2).mono L (λU z=>(Q.2 _ n1).trans z) λU z=>(Q.2 _ n2).trans z
 .refine aR (I.loc.ns) λm hn rl=>?_;refine((bM m (hn.sameBut Q<|ne _ I.loc.lj) λy v e=>?_),I.loc.jV,I.loc.lj,I.loc.ml,λn c hc=>?_,I.loc.inj)
  .refine aR (rl y v e) λu a ru=>?_;refine(bM u ?_<|R.mono L _ _ ru);rcases a with a|⟨kk,c,o,b',d,e⟩
   .exact .inl a
   .exact .inr (gJ kk c o b' ((Q.2 c<|ne c (I.loc.cells _ _ b').2.1).trans d) e)
  .refine fF (I.loc.cells n c hc) λa1 a2 a3 a4 E o a5 a6=>?_;exact(fG a1 a2 a3 a4 E o ((Q.2 c<|ne c a2).trans a5) a6)
structure KB (K:hJ) (hB:dR):Prop where
 vr:K.In hB
 no:∀p∈K,¬Grows p.1
theorem Inv.rh{K:hJ}(k:KB K F.hB)(I:Inv F st ρ P s):K.In s.heap:=λa o e=>I.base _ _ (k.vr a o e) (k.no _<|mj e)
 where mj {a:aA} {o:gy}:∀{l:hJ},l.lookup a=ah o ->(a,o)∈l
 |[],h=>by cases h
 |(y,d)::r,h=>by
  rw[cw]at h;cases q:a==y with
  |true=>rw[q]at h;cases h;rw[beq_iff_eq.mp q];exact .head _
  |false=>rw[q]at h;exact .tail _<|mj h
noncomputable def DR:Option O ->Option (aA×List (aF×V))
 |some (.inst C a)=>ah (C,a)
 |_=>aC
theorem zC(h:DR o=ah (C,a)):o=ah (.inst C a):=by
 cases o with
 |none=>cases h
 |some o=>cases o with
  |inst H Q=>cases h;rfl
  |_=>cases h
noncomputable def objOf(st:St):V ->Option (aA×List (aF×V))
 | .obj C a=>ah (C,a)
 | .ref i=>DR st.obs[i]?
 |_=>aC
theorem iG(I:Inv F st ρ P s)(h:objOf st v=ah (C,a))(r:R (F.fw s ρ P) v u):∃x ox D es n,u= .ref x/\InstAt s.heap x ox C (ah<|dictOf es n)/\ox.dict=ah D/\RA (F.fw s ρ P) a es:=by
 cases v with
 |obj C' a' =>
  cases h;refine cH λj H=>?_;obtain⟨x,ox,D,es,n,e,g,c,G,E,U,p,m,r⟩:=r;refine H ?_;exact(pn x ox D es n e (g,c,G,by rw[E];exact U) E r)
 |ref i=>
  (refine aR r λp y Q=>?_;subst Q);have z:=zC h;refine cH λj H=>?_;refine jW (I.view.at_ i _ p z y) λg es n U q=>?_;refine H ?_;exact(pn p.1 _ p.2 es n rfl (g,rfl,rfl,U) rfl q)
 |_=>cases h
theorem RA.find:∀{a:List (aF×V)} {es:List dK},RA σ a es ->(match a.lookup name with
 |some v=>∃e,es.find? (·.key.isStr name)=ah e/\R σ v e.val
 |none=>es.find? (·.key.isStr name)=aC)/\es.any (·.refKey)=ao
 |[],_,h=>by cases h;exact(rfl,rfl)
 |(n,v)::r,_,h=>by
  refine cH λm G=>?_;(refine lT h λy z t Q U j D E=>?_;subst Q);refine G ?_;have H:=RA.find (name:=name) E;have u:y.key.isStr name=(name==n):=by
   rw[U];show(n==name)=(name==n);by_cases q:n=name
   .subst q;rfl
   .rw[beq_eq_false_iff_ne.mpr q,beq_eq_false_iff_ne.mpr<|gu q]
  refine(?_,?_)
  .rw[cw,List.find?_cons,u];cases q:name==n with
   |true=>exact(y,rfl,D)
   |false=>exact H.1
  .rw[yD,H.2,yG];unfold DictEntry.refKey;rw[U]
def nQ(F:Fx)(st:St)(o:V)(name:aF)(v:V):Prop:=∀ρ P s u,Inv F st ρ P s ->R (F.fw s ρ P) o u ->wpAny F.M F.A (getAttr u name aj) (PK F ρ P s v) (λU U=>False) s
theorem EV.attr{name:aF}(G:f5 Q=aj)(E:EV F Q st o st₁)(h:nQ F st₁ o name v):EV F (.Attribute Q name pos) st v st₁:=λρ P s I=>by refine abO (aq (E ρ P s I) (λu a7 D=>D.go λρ₁ bN H U r=>aq (h ρ₁ bN a7 u H r) (λy s' z=>(z.pv H).trans U) i3) i3) ?_;show(do let o<-attributeBase Q name F.env (eval Q F.env);_)=_;rw[iO G]
noncomputable def V.pg:V ->Bool
 | .val _=>ao
 |_=>aj
theorem R.handed(h:v.pg=aj)(r:R σ v u):handedIn u=aj:=by
 cases v with
 |none=>cases r;rfl
 |bool b=>cases r;rfl
 |int i=>(refine eN r λt H=>?_;subst H);rfl
 |str x=>(refine eN r λt H=>?_;subst H);rfl
 |tup l=>(refine om r λa o y n Q U=>?_;subst Q);rfl
 |lst l=>(refine om r λa o y n Q U=>?_;subst Q);rfl
 |obj C a=>(refine Ah r λa o y es n D U=>?_;subst D);rfl
 |ref i=>(refine aR r λp U G=>?_;subst G);rfl
 |val u=>cases h
 |dq=>(refine bl r λa o vs E U=>?_;subst E);rfl
 |ky a b=>(refine om r λq t u w Q U=>?_;subst Q);rfl
structure Jo (K:hJ) (C:aA):Prop where
 ga:findIn K (.ref C) "__getattribute__"=ah (ah<|.builtin "object.__getattribute__")
 gx:findIn K (.ref C) "__getattr__"=ah aC
 hd:(clsIn K C).any (·.hasDict)=aj
 sa:findIn K (.ref C) "__setattr__"=ah (ah<|.builtin "object.__setattr__")
 po:plainOver K C=aj
theorem findObj_data{K:hJ}(hd:(clsIn K C).any (·.hasDict)=aj)(H:findIn K (.ref C) name=ah aC)(Q:getL name es=ah (ah v)):findObj K C (ah<|dictOf es n) name=ah (.value v):=by refine aR (vF hd) λE D U=>?_;unfold findObj;rw[D,hM,H,hM];simp only[hM];unfold W.ownOf;rw[U,if_pos rfl];simp only[lookIn_dict,Q,hM]
theorem nQ.data{K:hJ}{o v:V}{C:aA}{a:List (aF×V)}{name:aF}(k:KB K F.hB)(c:Jo K C)(hc:findIn K (.ref C) name=ah aC)(z:objOf st o=ah (C,a))(y:a.lookup name=ah v)(j:v.pg=aj):nQ F st o name v:=λρ P s u I r=>by
 refine cH λGq G=>?_;(refine ej (iG I z r) λx ox dx es n Q hI hd E=>?_;subst Q);have h:=RA.find (name:=name) E;rw[y]at h;(refine fk h λH U=>?_;obtain⟨e,he,D⟩:=H);refine G ?_;have m:getL name es=ah (ah e.val):=by unfold getL;rw[he]
 exact get_value (I.rh k) hI c.ga (findObj_data c.hd hc m) (R.handed j D)<|.tok _ D
noncomputable def kz(name:aF)(v:V):List (aF×V)->List (aF×V)
 |[]=>[(name,v)]
 |(n,w)::r=>if name==n then(n,v)::r else(n,w)::kz name v r
theorem RA.put(H:R σ v u):∀{a:List (aF×V)} {es:List dK},RA σ a es ->RA σ (kz name v a) (putL name (dv σ.par name) (.str name t) u es)
 |[],_,h=>by cases h;exact(lU _ _ t rfl rfl rfl H rfl)
 |(n,w)::r,_,h=>by
  (refine lT h λy m D Q U G z E=>?_;subst Q);have j:y.key.isStr name=(name==n):=by
   rw[U];show(n==name)=(name==n);by_cases q:n=name
   .subst q;rfl
   .rw[beq_eq_false_iff_ne.mpr q,beq_eq_false_iff_ne.mpr<|gu q]
  show RA σ (if name==n then _ else _) (if y.key.isStr name then _ else _);rw[j];cases q:name==n with
  |true=>exact(lU _ _ D rfl U G H E)
  |false=>exact(lU y _ D rfl U G z<|RA.put H E)
theorem RA.len:∀{a:List (aF×V)} {es:List dK},RA σ a es ->es.length=a.length
 |[],_,h=>by cases h;rfl
 |(n,w)::r,_,h=>by(refine lT h λy U D Q G u E H=>?_;subst Q);simp[H.len]
theorem S'{K:hJ}{i:Nat}{C:aA}{a:List (aF×V)}{name:aF}{v:V}{u D:aK}(k:KB K F.hB)(c:Jo K C)(ht:takerIn K C name=ah aC)(ho:st.obs[i]? =ah (.inst C a))(hz:(kz name v a).length<=1000)(I:Inv F st ρ P s)(ru:R (F.fw s ρ P) (.ref i) u)(rv:R (F.fw s ρ P) v D){E:aK ->aS ->Prop}:
 wpAny F.M F.A (setAttr u name D) (λU s' =>Inv F (st.loc,st.obs.set i<|.inst C<|kz name v a) ρ P s' /\eH F.fr kP ρ ρ P P s.heap s'.heap) E s:=by
 (refine aR ru λp j y=>?_;subst y);refine jW (I.view.at_ i _ p ho j) λg es n G q=>?_;have hI:InstAt s.heap p.1 (instObj C p.2) C (ah<|dictOf es n):=(g,rfl,rfl,G);have X:=I.rh k;refine Xk X hI c.sa<|osa_open (s:={s with toks:=s.toks+1}) X hI c.po ht λb=>?_;refine aR (vF c.hd) λcd hc hd' =>?_;refine ak<|ay<|ak<|ak<|gG g<|ak<|ED (s:={s with toks:=s.toks+1}) (yy X hc) ?_;rw[hd'];refine ay (a:=ah p.2)<|ak<|ay<|ak ?_;skip;refine ak<|ak<|yk<|ay<|ak<|Jp<|ak<|gG G ?_;dsimp only;have cc:(!es.toArray.any (·.key.isStr name)&&es.toArray.any (·.refKey))=ao:=by rw[<-mC,<-mC,show es.toArray.toList=es by simp,(RA.find (name:=name) q).2,N5]
 rw[Jt,cc];have e:=putName_dict name (dv F.w.params name) (.str name<|s.toks+1) D es n;have Q:=gR s.heap p.2<|vv name (dv F.w.params name) (.str name<|s.toks+1) D;have H:(s.heap.update p.2<|vv name (dv F.w.params name) (.str name<|s.toks+1) D).get? p.2=ah (dictOf (putL name (dv F.w.params name) (.str name<|s.toks+1) D es)<|putN name es n):=by rw[bQ _ G (by rw[e];rfl),e]
 have m:p.1≠p.2:=λz=>by rw[z,G]at g;cases g
 have rq:=q.put (name:=name) (t:=s.toks+1) rv;refine Xf G ?_;refine ak<|Xg H (Xl (by rw[JA,sizeLine_eq,rq.len];exact(ai hz 'd'))) ?_;refine ay ?_;have hP:=(I.view.iV p<|aT j).2;exact I.set (s' :={s with heap:=_,toks:=_}) j (.inr rfl) Q (_,H) (mu ((Q.2 _ m).trans g) _ _ H<|RA.mono (fO Q hP) _ _ rq) rfl rfl
end
structure bS (F:Fx) (K:hJ) (sc:cJ) (d:Nat):Prop where
 kb:KB K F.hB
 scope:F.env.scope=sc
 kind:sc.kind= .function
 glob:F.env.globals=mainGlobals
 bi:F.env.builtins=builtinsNs
 cx:Cx F.A F.fr d
 cell:∀x,sc.names.lookup x=ah .cell ->(F.env.cells.lookup x).isSome=aj
 top:∃mg mb,F.hB.Ns mainGlobals mg/\F.hB.Ns builtinsNs mb/\(∀x:aF,x≠"__name__"->mb x=bootBuiltins x)
 lim:F.hB.NoLimit
structure sd (F:Fx):Prop where
 frame:F.env.frame=ah F.env.locals
 fr:∃outer,F.fr=F.env::outer
section
variable{F:Fx} {K:hJ} {sc:cJ} {d:Nat} {st st₁ aN st₃:St} {ρ cO ρ₁:List (aA×aA)} {P P' bN:aA ->Prop} {s s' a7:aS}
theorem bS.ok(X:bS F K sc d):∃mg mb,yh F mg mb/\∀x:aF,x≠"__name__"->mb x=bootBuiltins x:=
 let⟨mg,mb,g,b,t⟩:=X.top;(mg,mb,(by rw[X.scope];exact X.kind,X.glob,X.bi,g,b,X.cx.frames,X.lim),t)
theorem bS.kindOf(X:bS F K sc d)(x:aF):F.env.kindOf x=sc.names.lookup x:=by show F.env.scope.names.lookup x=_;rw[X.scope]
theorem bS.qj(X:bS F K sc d):F.env.scope.kind= .function:=by rw[X.scope];exact X.kind
theorem bS.units(X:bS F K sc d)(h:2<=d):F.A.units+64<cLine:=by have:=X.cx.units;lia
theorem bS.pZ(X:bS F K sc d)(h:3<=d):F.A.handled=aC:=X.cx.handled h
noncomputable def bV(x:aF):Bool:=!(x==("__debug__":aF))&& !(x==("__classdict__":aF))&& !(x==("__name__":aF))
theorem bV.C7(h:bV x=aj):(x==("__debug__":aF))=ao/\(x==("__classdict__":aF))=ao/\x≠"__name__":=by simp only[bV,aw,dk]at h;exact(h.1.1,h.1.2,λq=>by rw[q]at h;simp at h)
theorem EV.loc(X:bS F K sc d)(H:st.loc.lookup x=ah v)(Q:bV x=aj):EV F (.Name x pos) st v st:=
 let⟨_,_,O,_⟩:=X.ok;EV.name O H (bV.C7 Q).1 (bV.C7 Q).2.1
theorem EV.glo(X:bS F K sc d)(U:sc.names.lookup x=ah .globalImplicit)(Q:nsIn K mainGlobals x=ah (ah u))(H:bV x=aj):EV F (.Name x pos) st (.val u) st:=
 let⟨_,_,O,_⟩:=X.ok;EV.global O ((X.kindOf x).trans U) (Mh X.kb.vr O.g Q) (bV.C7 H).1
theorem EV.bui(X:bS F K sc d)(U:sc.names.lookup x=ah .globalImplicit)(H:nsIn K mainGlobals x=ah dW)(D:bootBuiltins x=ah u)(Q:bV x=aj):EV F (.Name x pos) st (.val u) st:=
 let⟨_,_,O,t⟩:=X.ok;EV.builtin O ((X.kindOf x).trans U) (BN X.kb.vr O.g H) ((t x (bV.C7 Q).2.2).trans D) (bV.C7 Q).1
noncomputable def stK:Option oP ->Bool
 |some .local|some .cell=>aj
 |_=>ao
theorem J5(h:stK o=aj):o=ah .local\/o=ah .cell:=by
 cases o with
 |none=>cases h
 |some k=>cases k<;>first|cases h;done|exact .inl rfl|exact .inr rfl
noncomputable def dp(sc:cJ)(x:aF):Bool:=stK<|sc.names.lookup x
theorem bS.store(X:bS F K sc d)(h:dp sc x=aj):qx F.env x:=by
 unfold qx;rw[X.kindOf];rcases J5 h with q|q
 .exact .inl q
 .exact .inr (q,X.cell x q)
inductive PA (F:Fx) (ρ:List (aA×aA)) (P:aA ->Prop) (h:dR) (ke:St) {α:Type} (u:α) (s' :aS):Prop
 |mk (cO:List (aA×aA)) (P' :aA ->Prop) (i:Inv F ke cO P' s') (x:eH F.fr (Own F.env) ρ cO P P' h s'.heap):PA F ρ P h ke u s'
theorem PA.go(D:PA F ρ P h Q u s'){H:Prop}(E:∀(cO:List (aA×aA)) (P' :aA ->Prop) (i:Inv F Q cO P' s') (x:eH F.fr (Own F.env) ρ cO P P' h s'.heap),H):H:=PA.rec (motive:=λU=>H) E D
def sJ(F:Fx)(t:aW)(st:St)(v:V)(Q:St):Prop:=∀ρ P s u,Inv F st ρ P s ->R (F.fw s ρ P) v u ->
 wpAny F.M F.A (assign t F.env u) (PA F ρ P s.heap Q) (λU U=>False) s
theorem sJ.name(X:bS F K sc d)(h:dp sc x=aj):sJ F (.Name x pos) st v ((x,v)::st.loc,st.obs):=λρ P s u I r=>
 assign_Name (aq (Internal.store X.qj (X.store h) I r) (λU s' Q=>fk Q λi x=>(ρ,P,i,x)) i3)
theorem sJ.attr{name:aF}(X:bS F K sc d)(he:EV F o st (.ref i) st₁)(c:Jo K C)(m:takerIn K C name=ah dW)(ho:st₁.obs[i]? =ah (.inst C a))(hz:(kz name v a).length<=1000):sJ F (.Attribute o name pos) st v (st₁.loc,st₁.obs.set i<|.inst C<|kz name v a):=λρ P s u I r=>by rw[Mj];refine ak<|bo<|aq (he ρ P s I) (λuo a7 G=>G.go λρ₁ bN E Q z=>ak<|dm<|ak<|bo ?_) i3;refine aq (S' X.kb c m ho hz E z<|R.mono (I.toHInv.le Q pV) _ _ r) (λU y G=>fk G λD H=>?_) i3;exact λΓ p j=>by rw[yp];exact(ρ₁,bN,D,(Q.trans H).up)
noncomputable def qz(F:Fx):List aW ->St ->List V ->St ->Prop
 |[],st,vs,Q=>vs=[]/\Q=st
 |t::r,st,vs,Q=>∃v H st₁,vs=v::H/\sJ F t st v st₁/\qz F r st₁ H Q
theorem qz.nil:qz F [] st [] st:=(rfl,rfl)
theorem qz.cons{t:aW}{r:List aW}{v:V}{vs:List V}(h:sJ F t st v st₁)(Q:qz F r st₁ vs aN):qz F (t::r) st (v::vs) aN:=(gn v vs st₁ rfl h Q)
theorem eQ(h:notStar t=aj):assignEach (t::r) env=(ao,assign t env)::assignEach r env:=by cases t<;>first|rfl|cases h
theorem kH:∀{Q:List aW},Q.all notStar=aj ->(assignEach Q env).length=Q.length/\(assignEach Q env).findIdx? (·.1)=aC
 |[],_=>(rfl,rfl)
 |t::r,h=>by rw[cD,aw]at h;rw[eQ h.1];have:=kH (env:=env) h.2;exact(by simp[this.1],by rw[List.findIdx?_cons];simp[this.2])
theorem Inv.ue(I:Inv F st ρ P s)(x:eH F.fr (Own F.env) ρ cO P P' s.heap Q):jQ.Le (F.fw s ρ P) (F.w.params,Q,cO,P'):=I.toHInv.le x I.TJ
theorem qz.run:∀{j:List aW} {st Q:St} {vs:List V} {ρ P s us},j.all notStar=aj ->qz F j st vs Q ->Inv F st ρ P s ->RL (F.fw s ρ P) vs us ->
 wpAny F.M F.A (assignInOrder ((assignEach j F.env).map (·.2)) us) (PA F ρ P s.heap Q) (λU U=>False) s
 |[],st,Q,vs,ρ,P,s,us,_,h,I,r=>by(refine fk h λAQ tA=>?_;subst AQ;subst tA);cases r;exact ay (ρ,P,I,.refl)
 |t::j,st,Q,vs,ρ,P,s,us,hn,h,I,r=>by refine cH λGq kq=>?_;(refine ji h λv vs' st₁ m h1 h2=>?_;subst m);(refine cj r λy ys Sl ry ZC=>?_;subst Sl);refine kq ?_;rw[cD,aw]at hn;rw[eQ hn.1];refine ak<|bo<|aq (h1 ρ P s y I ry) (λU a7 zU=>zU.go λρ₁ bN z H=>?_) i3;exact aq (qz.run hn.2 h2 z<|RL.mono (I.ue H) _ _ ZC) (λU fW zU=>zU.go λD G u E=>(D,G,u,H.trans E)) i3
theorem oi(e:vp h.objs.size h Q):∀b o,h.get? b=ah o ->Q.get? b=ah o:=λb o q=>e b o (iA<|bR q) q
theorem sJ.tuple(X:bS F K sc d)(hd:3<=d)(m:y.all notStar=aj)(hl:y.length=l.length)(h:qz F y st l st₁):sJ F (.Tuple y k pos) st (.tup l) st₁:=λρ P s u I r=>by refine cH λGq kq=>?_;(refine cj (qM r) λa xs G ht q=>?_;subst G);refine fk (kH (env:=F.env) m) λh1 h2=>?_;refine kq ?_;refine vk (X.pZ hd) ht (by rw[h1,hl,q.size]) h2 λh' he=>?_;have z:=oi he;have I' :=I.keeps (s' :={s with heap:=h'}) z rfl rfl;exact aq (qz.run m h I'<|RL.mono (jh z) _ _ q) (λU j zU=>zU.go λQ D E H=>(Q,D,E,(eH.of_keeps z).trans H)) i3
theorem lg(h:gm e=aj):swapsWithSole [t] e l env=pure ao:=nX h
theorem EX.asg(hn:notStar t=aj)(hc:gm e=aj)(m:swappedStores [t] e F.env=pure dW)(he:EV F e st v st₁)(ha:sJ F t st₁ v aN):EX F (.Assign [t] e pos) st .next aN:=λρ P s I=>by refine NW (aq (he ρ P s I) (λu a7 z=>z.go λρ₁ bN y D r=>?_) i4) (lg hc) m;rw[eQ hn];show wpAny _ _ (mW t F.env u) _ _ _;exact aq (ha ρ₁ bN a7 u y r) (λU j z=>z.go λQ E G H=>(Q,E,G,D.up.trans H,rfl)) i4
noncomputable def Cu:aW ->Bool
 | .Tuple .. | .List .. =>ao
 |_=>aj
theorem ia(h:Cu t=aj):swappedStores [t] e env=pure dW:=by cases t<;>first|rfl|cases h
noncomputable def Kt:aW ->Bool
 | .Tuple .. =>ao
 |_=>aj
theorem pM(h:Kt e=aj):swappedStores [t] e env=pure dW:=by
 cases Q:Cu t with
 |true=>exact ia Q
 |false=>cases t<;>first|cases Q;done|(cases e<;>first|rfl|cases h)
theorem EX.swap(X:bS F K sc d)(hd:3<=d)(hc:gm e=aj)(hw:swappedStores [.Tuple ts k tp] e F.env=pure (ah names))(hn:names.all (dp sc)=aj)(hl:names.length=l.length)(he:EV F e st (.tup l) st₁):EX F (.Assign [.Tuple ts k tp] e pos) st .next (names.zip l++st₁.loc,st₁.obs):=λρ P s I=>by
 refine Assign_Tuple_swapped (aq (he ρ P s I) (λu a7 z=>z.go λρ₁ bN E Q r=>?_) i4) (lg hc) hw;(refine cj (qM r) λa xs G ht q=>?_;subst G);have key:∀(j:List aF) (vs:List V) (us:List aK) ρ P s,j.all (dp sc)=aj ->j.length=vs.length ->∀loc obs,Inv F (loc,obs) ρ P s ->RL (F.fw s ρ P) vs us ->
  wpAny F.M F.A (assignInOrder (j.map λn=>bindName F.env n) us) (λU s' =>Inv F ((j.zip vs).reverse++loc,obs) ρ P s' /\eH F.fr (Own F.env) ρ ρ P P s.heap s'.heap) (λU U=>False) s:=by
  intro j;induction j with
  |nil=>intro vs us ρ P s _ hv loc obs I r;cases vs with|nil=>cases r;exact ay (I,.refl)|cons _ _=>cases hv
  |cons n j ih=>
   intro vs us ρ P s hs hv loc obs I r;cases vs with
   |nil=>cases hv
   |cons v vs=>
    (refine cj r λy ys G ry ZC=>?_;subst G);rw[cD,aw]at hs;refine ak<|bo<|abG<|aq (Internal.store X.qj (X.store hs.1) I ry) (λU a7 z=>fk z λE Q=>?_) i3;refine aq (ih vs ys ρ P a7 hs.2 (pK hv) _ _ E<|RL.mono (I.ue Q) _ _ ZC) (λU m z=>fk z λH D=>(?_,Q.trans D)) i3;rw[E7,lY,dj];exact H
 have xQ:names.length=xs.size:=by rw[hl,q.size]
 rw[xQ];refine unpackItems_tuple (X.pZ hd) ht λh' hx=>?_;have kk:=oi hx;have I' :=E.keeps (s' :={a7 with heap:=h'}) kk rfl rfl;refine aq (key names.reverse l.reverse xs.toList.reverse ρ₁ bN _ (by rw[List.all_reverse];exact hn) (by simp[hl]) st₁.loc st₁.obs I'<|RL.mono (jh kk) _ _ q.rev) (λU m z=>fk z λH D=>(ρ₁,bN,?_,Q.up.trans<|(eH.of_keeps kk).trans D,rfl)) i4;have e:(names.reverse.zip l.reverse).reverse=names.zip l:=by rw[EE,<-List.reverse_zipWith hl,List.reverse_reverse,<-EE]
 rw[e]at H;exact H
end
section
variable{F:Fx} {K:hJ} {sc:cJ} {d:Nat} {st st₁ aN st₃:St} {ρ cO ρ₁:List (aA×aA)} {P P' bN:aA ->Prop} {s s' a7:aS}
def BI(F:Fx)(st:St)(f:aK)(args:List V)(v:V):Prop:=∀ρ P s Q,Inv F st ρ P s ->RL (F.fw s ρ P) args Q ->wpAny F.M F.A (call f Q []) (PK F ρ P s v) (λU U=>False) s
noncomputable def nA:aK ->Bool
 | .ref _=>ao
 |_=>aj
theorem eZ(Q:nA f=aj):gh M h (keeperOf f) .machine:=by cases f<;>first|exact fY rfl|cases Q
theorem dM.bi(D:nA f=aj)(h:BI F st f args v):dM F f args [] st (.ok v) st:=λρ P s Q E I U H=>by cases H;exact((bM (.machine) (.inr<|.inl rfl)<|eZ D),aq (h ρ P s Q I U) (λu s' z=>(bM v rfl<|z.pv I)) i4)
theorem RL.one(h:RL σ [v] us):∃u,us=[u]/\R σ v u:=by(refine cj h λu H Q r e=>?_;subst Q);cases e;exact(bM u rfl r)
theorem RL.two(h:RL σ [v,w] us):∃u Q,us=[u,Q]/\R σ v u/\R σ w Q:=by(refine cj h λu E H r e=>?_;subst H);(refine aR (e.one) λQ U D=>?_;subst U);exact(ek u Q rfl r D)
theorem BI.aap(h:x.length<=2^24):BI F st (.builtin "len") [.str x] (.int x.length):=λρ P s U I r=>by (refine uN (r.one) λu H t Q=>?_;subst H;subst Q);exact PySem.P.len_str (by lia)<|.tok _ iX
theorem BI.Pw(E:fj st v=ah l)(h:l.length<=2^24):BI F st (.builtin "len") [v] (.int l.length):=λρ P s j I r=>by refine cH λm D=>?_;(refine aR (r.one) λu H U=>?_;subst H);(refine cj (kC I E U) λa z Q y q=>?_;subst Q);refine D ?_;have G:=q.size;exact call_len_list y (by lia) (by rw[G];exact .tok _ iX)
theorem BI.aao(h:l.length<=2^24):BI F st (.builtin "len") [.tup l] (.int l.length):=λρ P s y I r=>by (refine aR (r.one) λu H U=>?_;subst H);(refine cj (qM U) λa G Q E q=>?_;subst Q);have D:=q.size;exact len_tuple E (by omega) (by rw[D];exact .tok _ iX)
theorem BI.chr(E:0<=i)(D:i<=1114111):BI F st (.builtin "chr") [.int i] (.str ⟨#[i.toNat]⟩):=λρ P s U I r=>by (refine uN (r.one) λu H t Q=>?_;subst H;subst Q);exact PySem.P.chr_of_int (by rw[ka,decide_eq_false_iff_not,decide_eq_false_iff_not];exact(by lia,by lia))<|.tok _ kI
theorem BI.aat:BI F st (.type "int") [.int i] (.int i):=λρ P s U I r=>by(refine uN (r.one) λu H t Q=>?_;subst H;subst Q);exact call_int_int<|.tok s.toks iX
theorem BI.Zo(h:i.natAbs.log2<1920):BI F st (.type "str") [.int i] (.str<|aa<|toString i):=λρ P s U I r=>by(refine uN (r.one) λu H t Q=>?_;subst H;subst Q);exact BQ h<|.tok _ kI
theorem BI.Zh:BI F st (.type "type") [.int i] (.val<|.type "int"):=λρ P s U I r=>by(refine uN (r.one) λu H t Q=>?_;subst H;subst Q);exact call_type_of (Rv _ _ _) 'd'<|.tok s.toks Di
theorem BI.Zg:BI F st (.type "type") [.str x] (.val<|.type "str"):=λρ P s U I r=>by(refine uN (r.one) λu H t Q=>?_;subst H;subst Q);exact call_type_of (fQ _ _ _) 'd'<|.tok s.toks Di
theorem BI.aas:BI F st (.builtin "isinstance") [.str x,.val<|.type "str"] (.bool aj):=λρ P s D I r=>by(refine cj (r.two) λu E H Q U=>?_;subst H;obtain⟨t,rfl⟩:=Q);cases U;exact IsiPair.str_str<|PK.tok s.toks eV
theorem BI.max2(D:F.A.handled=aC):BI F st (.builtin "max") [.int a,.int b] (.int<|max a b):=λρ P s E I r=>by
 (refine oo (r.two) λu G U H z Q=>?_;subst U;obtain⟨t,rfl⟩:=H;subst Q);refine max_two_ints D λj y k=>(cy k rfl rfl ?_);split
 .rename_i q;rw[jZ<|by exact Tw q (by omega)];exact iX
 .rename_i q;rw[vJ<|by exact Tw (Int.not_lt.mp q) (by omega)];exact iX
noncomputable def intsOf:List V ->Option (List Int)
 |[]=>ah []
 | .int i::r=>(intsOf r).map (i::·)
 |_=>aC
theorem RL.ints:∀{us:List aK} {ns:List Int},RL σ l us ->intsOf l=ah ns ->IntsAre us ns:=by
 induction l with
 |nil=>intro us ns h e;cases h;cases e;exact .nil
 |cons v r H=>
  intro us ns h e;obtain⟨y,D,rfl,Q,b⟩:=h;cases v with
  |int i=>
   obtain⟨t,rfl⟩:=Q;obtain⟨E,U,rfl⟩:=Option.map_eq_some_iff.mp e;exact .cons i t (H b U)
  |_=>cases e
theorem BI.aal(hh:F.A.handled=aC)(E:fj st v=ah l)(hi:intsOf l=ah ns)(z:m∈ns)(hb:∀a∈ns,a<=m):BI F st (.builtin "max") [v] (.int m):=λρ P s us I r=>by
 (refine aR (r.one) λu U r' =>?_;subst U);(refine cj (kC I E r') λa xs H hl q=>?_;subst H);have y:=q.ints hi;refine eN (y.allInts.items) λQ e=>?_;have D:ns=Q.toList.map (·.1):=by rw[<-y.numsOf,<-nums_intItems,<-e]
 have G:0<Q.size:=by have:0<ns.length:=List.length_pos_of_mem z;rw[D,ax,dh]at this;exact this
 have e' :xs=intItems Q:=by rw[<-e]
 rw[e']at hl;refine max_intList hh hl G λv h' tk E hk=>?_;(refine eN (intItems_at E) λt U=>?_;subst U);refine fk (argBest_gt (numAt Q)<|Q.size -1) λh1 h2=>?_;have g1:numAt Q (argBest (λi j=>decide<|numAt Q i>numAt Q j) (Q.size -1))∈ns:=by rw[D,numAt_eq];exact getD_mem (by rw[ax,dh];omega)
 have g2:∀a∈ns,a<=numAt Q (argBest (λi j=>decide<|numAt Q i>numAt Q j) (Q.size -1)):=λa ha=>by rw[D]at ha;(refine aR (mem_getD ha) λj hj H=>?_;subst H);rw[ax,dh]at hj;rw[<-numAt_eq];exact h2 j (by exact Nat.le_pred_of_lt hj)
 have:=Int.le_antisymm (g2 m z)<|hb _ g1;refine(hk,rfl,rfl,?_);rw[this];exact iX
theorem BI.tup(G:fj st v=ah l)(h:l.length<=2^24):BI F st (.type "tuple") [v] (.tup l):=λρ P s m I r=>by (refine aR (r.one) λu H E=>?_;subst H);(refine cj (kC I G E) λa D Q z q=>?_;subst Q);have y:=q.size;refine call_tuple_list z (λU k=>?_) (by show _<=2^24;exact y▸h);have j:=I.keeps (s' :={s with heap:=U}) k rfl rfl;have:=Au j (show RL (F.fw {s with heap:=U} ρ P) l D.toList from RL.mono (jh k) _ _ q);exact(cy (λb o e=>bI _ _ _ _<|k b o e) rfl rfl (by simpa using this))
theorem GM.str{x name:aF}{id:String}(Q:Slot "str" name id)(H:typeOf (.builtin id)=pure (.type "method_descriptor")):GM F (.str x) name st (.builtin id):=λpl ρ P s u I r E=>by obtain⟨t,rfl⟩:=r;exact jY (fQ _ _ _) gq Q H kl<|AP rfl<|AP (λU U e=>e) (AP rfl rfl)
theorem Dj:∀(l:List (aF×Tok)),RL σ (l.map λp=>V.str p.1) (strValues l)
 |[]=>rfl
 |(x,t)::r=>(ek (.str x t) _ rfl kI<|Dj r)
theorem Jh(h:l.map (·.1)=Q):RL σ (Q.map V.str) (strValues l):=by have:=Dj (σ:=σ) l;rw[<-h,cK];exact this
theorem PK.xE(I:Inv F st ρ P s)(h:l.map (·.1)=Q):PK F ρ P s (.lst<|Q.map V.str) (.ref s.heap.objs.size) {s with heap:=s.heap.push {cls:=.type "list",data:=.seq (strValues l).toArray},toks:=k}:=
 (cy (bI _ _) rfl rfl<|nN I<|Jh h)
theorem BI.split(z:(y.length==0)=ao)(j:x.length<=2^24)(m:(partsBetween x (occurrences x y 0 x.length<|x.length+1) y.length).length<=2^24):BI F st (.builtin "str.split") [.str x,.str y] (.lst<|(aO x y).map V.str):=λρ P s us I r=>by
 (refine oo (r.two) λU U G E u D=>?_;subst G;obtain⟨t,rfl⟩:=E;subst D);cases Q:(decide (x.length<y.length)||decide (strKind x<strKind y))
 .cases H:(occurrences x y 0 x.length<|x.length+1).isEmpty
  .refine kJ jk (fQ _ _ _) lX (lB _ _) (meets_str_split_sep x y t u Q z H j m) ?_;show wants _ _ _ {s with toks:=_,heap:=s.heap.push {cls:=.type "list",data:=.seq (strsFrom s.toks<|partsBetween x (occurrences x y 0 x.length<|x.length+1) y.length).toArray} };rw[strsFrom_eq];exact PK.xE I<|(numbered_texts _ _).trans ((if_neg<|ne_true_of_eq_false Q).trans<|if_neg<|ne_true_of_eq_false H).symm
  .exact kJ jk (fQ _ _ _) lX (lB _ _) (meets_str_split_not_found x y t u Q z H) (PK.xE (l:=[(x,t)]) (k:=s.toks) I ((if_neg<|ne_true_of_eq_false Q).trans<|if_pos H).symm)
 .exact kJ jk (fQ _ _ _) lX (lB _ _) (meets_str_split_cannot_occur x y t u Q) (PK.xE (l:=[(x,t)]) (k:=s.toks) I (if_pos Q).symm)
theorem BI.count:BI F st (.builtin "str.count") [.str x,.str y] (.int<|dY x y):=λρ P s E I r=>by (refine oo (r.two) λU U D H u Q=>?_;subst D;obtain⟨t,rfl⟩:=H;subst Q);exact SC.count<|.tok _ iX
theorem BI.strip(h:x.length<=2^24):BI F st (.builtin "str.strip") [.str x,.str y] (.str<|iq x y):=λρ P s E I r=>by (refine oo (r.two) λU U D H u Q=>?_;subst D;obtain⟨t,rfl⟩:=H;subst Q);exact SC.stripChars (λG k=>.tok _ kI) h
theorem Cb:∀{D:List aF} {us:List aK},RL σ (D.map V.str) us ->∃l:List (aF×Tok),us=strValues l/\l.map (·.1)=D
 |[],_,h=>by cases h;exact(bM [] rfl rfl)
 |y::D,_,h=>by (refine cj h λu E Q H b=>?_;subst Q;obtain⟨t,rfl⟩:=H);(refine aR (Cb b) λl U Q=>?_;subst U;subst Q);exact(bM ((y,t)::l) rfl rfl)
theorem BI.join(z:fj st v=ah (E.map V.str))(H:gb x E=aj):BI F st (.builtin "str.join") [.str x,v] (.str<|aY x E):=λρ P s m I r=>by
 (refine cj (r.two) λU U Q D y=>?_;subst Q;obtain⟨t,rfl⟩:=D);(refine cj (kC I z y) λa u Q G q=>?_;subst Q);(refine aR (Cb q) λl e Q=>?_;subst Q);have j:u=(strValues l).toArray:=by rw[<-e]
 rw[j]at G;unfold gb at H;rw[dk]at H;exact kJ js (fQ _ _ _) PySem.F.entry_str_join (PySem.F.args_str_join_2 _ _) (meets_str_join_list x t a l H) (G,post_join l (joinFit_length H,λt' k=>.tok _ kI))
theorem GM.append(G:st.obs[i]? =ah (.list l)):GM F (.ref i) "append" st (.builtin "list.append"):=λpl ρ P s u I r E=>by refine cH λz H=>?_;(refine aR r λp D Q=>?_;subst Q);refine jW (I.view.at_ i _ p G D) λU y n g q=>?_;refine H ?_;exact getMethod_list_append g rfl rfl<|cy rfl (λU U e=>e) rfl rfl
theorem dM.append(ho:st.obs[i]? =ah (.list l))(hl:l.length<=2^24):dM F (.builtin "list.append") [.ref i,v] [] st (.ok .none) (st.loc,st.obs.set i<|.list<|l++[v]):=λρ P s us ks I ra m=>by cases m;refine cH λGq kq=>?_;(refine cj (ra.two) λU Q u G j=>?_;subst u;obtain⟨p,y,rfl⟩:=G);refine jW (I.view.at_ i _ p ho y) λe1 E n g q=>?_;refine kq ?_;refine((bM (.machine) (.inr<|.inl rfl)<|eZ rfl),?_);have hs:=q.size;refine kJ Xj (bM _ g rfl) Se (Xm _ _) (list_append p.1 E n Q (by show _<=2^24;omega)) (g,?_);have H:=gR s.heap p.1<|dJ λx=>x.push Q;have D:(s.heap.update p.1<|dJ λx=>x.push Q).get? p.1=ah (.type "list",aC,.seq (E.push Q)<|if(E.push Q).size==E.size then n else n+1,#[]):=bQ _ g rfl;have hP:=(I.view.iV p<|aT y).1;refine fk (I.set (s' :={s with heap:=_,toks:=s.toks}) (o' :=.list<|l++[v]) y (.inl rfl) H (_,D) (mu e1 _ _ D (by rw[rM];exact RL.mono (fO H hP) _ _<|q.snoc j)) rfl rfl) λI' z=>?_;exact(bM (.none) rfl (ρ,P,I',z,pD))
end
section
variable{F:Fx} {K:hJ} {sc:cJ} {d:Nat} {st st₁ aN st₃:St} {ρ cO ρ₁:List (aA×aA)} {P P' bN:aA ->Prop} {s s' a7:aS}
noncomputable def ef:List (aF×V)->List (aF×V)->Prop
 |[],_=>True
 |(x,v)::r,l=>l.lookup x=ah v/\ef r l
theorem ef.get:∀{Q l:List (aF×V)},ef Q l ->∀x v,Q.lookup x=ah v ->l.lookup x=ah v
 |[],_,_,_,_,e=>by cases e
 |(y,w)::r,l,h,x,v,e=>by
  rw[cw]at e;cases q:x==y with
  |true=>rw[q]at e;cases e;rw[beq_iff_eq.mp q];exact h.1
  |false=>rw[q]at e;exact h.2.get x v e
theorem Inv.less{loc:List (aF×V)}(I:Inv F st ρ P s)(h:ef loc st.loc):Inv F (loc,st.obs) ρ P s:=
 (I.toHInv,let⟨m,H,Q⟩:=I.loc.ns;((m,H,λx v e=>Q x v<|h.get x v e),I.loc.jV,I.loc.lj,I.loc.ml,I.loc.cells,I.loc.inj))
theorem dc.less{b:List cn}{fl:FV}{loc:List (aF×V)}(h:dc F b st fl st₁)(H:ef loc st₁.loc):dc F b st fl (loc,st₁.obs):=λρ P s I=>
 aq (h ρ P s I) (λf s' (cO,P',Q,x,r)=>(cO,P',Q.less H,x,r)) λe s' (x,q,f,D,cO,P',a,U,vs,E,Q,y,z)=>(x,q,f,D,cO,P',a,U,vs,E,Q.less H,y,z)
theorem dc.from{b:List cn}{fl:FV}{loc:List (aF×V)}(h:dc F b (loc,st.obs) fl st₁)(Q:ef loc st.loc):dc F b st fl st₁:=λρ P s I=>h ρ P s<|I.less Q
theorem su(X:bS F K sc d):interactive F.env=ao:=by unfold interactive;rw[X.qj];rfl
theorem EX.expr{e:aW}{pos:si}{v:V}(X:bS F K sc d)(D:gm e=aj)(h:EV F e st v st₁):EX F (.Expr e pos) st .next st₁:=λρ P s I=>
 wpAny_Expr_any (aq (h ρ P s I) (λu a7 U=>U.go λρ₁ bN H Q r=>(ρ₁,bN,H,Q.up,rfl)) i4) (su X) (nX D)
theorem EX.three{x y z:aF}{px py pz pos:si}{e:aW}{v:V}(X:bS F K sc d)(h1:dp sc x=aj)(h2:dp sc y=aj)(h3:dp sc z=aj)(he:EV F e st v st₁):
 EX F (.Assign [.Name x px,.Name y py,.Name z pz] e pos) st .next ((z,v)::(y,v)::(x,v)::st₁.loc,st₁.obs):=λρ P s I=>by
 refine wpAny_Assign_three<|aq (he ρ P s I) (λu a7 zU=>zU.go λρ₁ bN E mP r=>?_) i4;refine aq (sJ.name X h1 ρ₁ bN a7 u E r) (λU fW zU=>zU.go λm mU D H=>?_) i4;have r2:=R.mono (E.ue H) _ _ r;refine aq (sJ.name X h2 m mU fW u D r2) (λU jT zU=>zU.go λj sG jX Q=>?_) i4;have r3:=R.mono (D.ue Q) _ _ r2;exact aq (sJ.name X h3 j sG jT u jX r3) (λU so zU=>zU.go λG Jk nP yM=>(G,Jk,nP,((mP.up.trans H).trans Q).trans yM,rfl)) i4
theorem EX.yc{o e:aW}{name:aF}{tp pos:si}{op:eI}{i:Nat}{C:aA}{a:List (aF×V)}{w v c:V}(X:bS F K sc d)(k:Jo K C)(ht:takerIn K C name=ah dW)(he:EV F o st (.ref i) st₁)(hw:nQ F st₁ (.ref i) name w)(hv:EV F e st₁ v aN)(hop:ES F aN op w v c)(ho:aN.obs[i]? =ah (.inst C a))(hz:(kz name c a).length<=1000):
 EX F (.AugAssign (.Attribute o name tp) op e pos) st .next (aN.loc,aN.obs.set i<|.inst C<|kz name c a):=λρ P s I=>by
 refine wpAny_AugAssign_AttributeAny<|aq (he ρ P s I) (λuo a7 zU=>zU.go λρ₁ bN H mP ro=>?_) i4;refine aq (hw ρ₁ bN a7 uo H ro) (λuw fW z=>?_) i4;refine cH λGq kq=>?_;obtain⟨m,mU,u,E,rw⟩:=z.pv H;refine kq ?_;refine aq (hv m mU fW u) (λuv jT zU=>zU.go λj sG G Q rv=>?_) i4;refine aq (hop j sG jT uw uv G (R.mono (u.toHInv.le Q pV) _ _ rw) rv) (λuc so z=>?_) i4;refine cH λGq kq=>?_;obtain⟨y,Jk,nP,D,rc⟩:=z.pv G;refine kq ?_;have ZG:=R.mono (H.toHInv.le ((E.trans Q).trans D) pV) _ _ ro;exact aq (S' X.kb k ht ho hz nP ZG rc) (λU qP zU=>fk zU λqy qK=>(y,Jk,qy,((((mP.trans E).trans Q).trans D).trans qK).up,rfl)) i3
theorem ze{prog:jt}{w:dC}{A:fR}{E:aK ->aS ->Prop}{s:aS}{l:aA}{items:Array aK}{n:Nat}{k:Int}{t:Tok}{v:aK}{Q:Unit ->aS ->Prop}(D:s.heap.get? l=ah (.type "list",aC,.seq items n,#[]))(y:0<=k)(H:k<2^63)(m:k<items.size)(u:Q () {s with heap:=s.heap.update l (dJ (·.setIfInBounds k.toNat v))}):wpAny (model prog w) A (setItem (.ref l) (.int k t) v) Q E s:=by
 have G:s.heap.IsList l items:=(pw _ D rfl n rfl);unfold setItem;try with_reducible refine bo ?_
 first|refine ak (ay ?_)|skip
 refine ak<|wpAny_sequenceKey G.typeIs 'd' ?_;refine ak<|EU (name:=aa "__setitem__") G.typeIs Sa
  (Xi Sa G.typeIs entry_list_setitem ?_<|args_list_setitem _ _ _)
 show wpAny _ _ (YO (.int k t)>>=_) _ _ s;refine ak<|wpAny_listSubscript_int (fitsIndex_of y H) ?_;clear H;obtain⟨j,rfl⟩:=Int.eq_ofNat_of_zero_le y;have z:j<items.size:=by omega
 have U:items[j]? =ah items[j]:=lF z;show wpAny _ _ ((seqItemAt l j>>=λr=>pure (r.map (Prod.mk j ·)))>>=_) _ _ s;refine ak<|ak<|wpAny_seqItemAt D rfl<|ay ?_;rw[U];show wpAny _ _ (setSeqItemAt l j v>>=_) _ _ s;refine ak<|wpAny_setSeqItemAt D rfl ?_;first
  |exact ak (ay<|ay<|bM (.none) rfl<|ay u)
  |exact ay (.none,rfl,ay u)
theorem sJ.item{o e:aW}{pos:si}{v:V}{i j:Nat}{l:List V}(hn:lP e=aj)(he:EV F o st (.ref i) st₁)(hi:EV F e st₁ (.int j) aN)(ho:aN.obs[i]? =ah (.list l))(hj:j<l.length)(hz:l.length<=2^24):
 sJ F (.Subscript o e pos) st v (aN.loc,aN.obs.set i<|.list<|l.set j v):=λρ P s u I r=>by
 rw[PySem.assign_Subscript];refine ak<|bo<|aq (he ρ P s I) (λuo a7 zU=>zU.go λρ₁ bN E D ro=>?_) i3;refine ak<|bo<|aq (hi ρ₁ bN a7 E) (λui H zU=>zU.go λG m U Q ri=>?_) i3;refine ak<|dm<|ak<|bo ?_;have ZG:=R.mono (E.toHInv.le Q pV) _ _ ro;have r' :=R.mono (I.toHInv.le (D.trans Q) pV) _ _ r;refine cH λGq kq=>?_;(refine eN ri λt tA=>?_;subst tA);(refine aR ZG λp hp Sl=>?_;subst Sl);refine jW (U.view.at_ i _ p ho hp) λe1 xs n g q=>?_;refine kq ?_;have hs:=q.size;refine ze g (by exact aL _) (by omega) (by omega) ?_;have y:=gR H.heap p.1 (dJ (·.setIfInBounds j u));have z:(H.heap.update p.1 (dJ (·.setIfInBounds j u))).get? p.1=ah (.type "list",aC,.seq (xs.setIfInBounds j u)<|if(xs.setIfInBounds j u).size==xs.size then n else n+1,#[]):=bQ _ g rfl;have hP:=(U.view.iV p<|aT hp).1;refine fk (U.set (s' :={H with heap:=_}) (o' :=.list<|l.set j v) hp (.inl rfl) y (_,z) (mu e1 _ _ z (by rw[Array.toList_setIfInBounds];exact RL.mono (fO y hP) _ _<|q.set r')) rfl rfl) λI' x' =>?_;exact λΓ pp hΓ=>by rw[yp];exact(G,m,I',((D.trans Q).trans x').up)
theorem EV.Q0{a b:aW}{pos:si}{va vb:V}{l m:List V}(ha:EV F a st va st₁)(hb:EV F b st₁ vb aN)(la:fj aN va=ah l)(lb:fj aN vb=ah m)(hz:l.length+m.length<=2^24):
 EV F (.BinOp a .Add b pos) st (.ref aN.obs.length) (aN.loc,aN.obs++[.list<|l++m]):=λρ P s I=>
 iP (EV.two (C:=λQ ua ub=>wpAny F.M F.A (binaryOp .Add ua ub) (PV F ρ P s.heap (.ref aN.obs.length) (aN.loc,aN.obs++[.list<|l++m])) (λU U=>False) Q) ha hb I λG mU Q ua ub H x ra rb=>by
  (refine cj (kC H la ra) λy E u hx rx=>?_;subst u);(refine cj (kC H lb rb) λz D u hy ry=>?_;subst u);(refine x6 (id hx) λj ho hc n hd=>?_;obtain⟨cls,dd,data,sl⟩:=j);(refine x6 (id hy) λj ho2 Ye n2 hd2=>?_;obtain⟨abf,dd2,data2,sl2⟩:=j);simp only at hc hd Ye hd2;subst hc hd Ye hd2;have e:E++D=(E.toList++D.toList).toArray:=by simp
  have:=rx.size;have:=ry.size;refine concat_meets (bM _ ho rfl) (bM _ ho2 rfl) Yy seq_list_add yA yq (xe _ _) (list_addW y z E D n n2 dd dd2 sl sl2 (by show _<=2^24;lia)) (ho,ho2,?_);rw[e];have k:=bI Q.heap {cls:=.type "list",data:=.seq (E.toList++D.toList).toArray};have at_:(Q.heap.push {cls:=.type "list",data:=.seq (E.toList++D.toList).toArray}).get? Q.heap.objs.size=ah _:=bb _ rfl;have nn:=de Q.heap;refine fk (H.grow (s' :={Q with heap:=Q.heap.push {cls:=.type "list",data:=.seq (E.toList++D.toList).toArray},toks:=Q.toks}) (p:=(Q.heap.objs.size,Q.heap.objs.size)) (o:=.list<|l++m) k nn nn (_,at_) (_,at_) (mu rfl ((E.toList++D.toList).toArray) 0 at_<|RL.mono (CK k nn nn) _ _<|show RL (F.fw Q G mU) (l++m) (E.toList++D.toList).toArray.toList by simpa using rx.append ry) rfl rfl rfl) λjX tC=>?_;exact(_,_,jX,x.trans tC,(Q.heap.objs.size,Q.heap.objs.size),by rw[<-H.view.len];exact bW,rfl))
theorem foldl_rep(u:aK):∀(n:Nat) (Q:Array aK),YK (λU H=>U++H) Q (bU n #[u])=Q++(bU n u).toArray
 |0,Q=>by simp
 |n+1,Q=>by rw[pL,eh,foldl_rep u n];rw[pL];apply Array.ext';simp
theorem Ji{σ:jQ}{v:V}{u:aK}(h:R σ v u):∀n,RL σ (bU n v) (bU n u)
 |0=>rfl
 |n+1=>(ek u _ rfl h<|Ji h n)
theorem GR{prog:jt}{w:dC}{A:fR}{E:aK ->aS ->Prop}{s:aS}{l:aA}{items:Array aK}{k:Nat}{x:Int}{u:Tok}{Q:aK ->aS ->Prop}(H:s.heap.get? l=ah {cls:=.type "list",dict:=aC,data:=.seq items k,slots:=#[]})(z: -(2^63:Int)<=x)(j:x<2^63)(y:items.size*x.toNat<=2^24)(h:Q (.ref s.heap.objs.size) {s with heap:=s.heap.push {cls:=.type "list",data:=.seq<|YK (λG D=>G++D) #[] (bU (if items.isEmpty=aj then 0 else x.toNat) items)} }):
 wpAny (model prog w) A (binaryOp .Mult (.ref l)<|.int x u) Q E s:=
 wpAny_binaryOp_repeat_ref (T:="list") (U:="int") 'd' (bM _ H rfl) (λs' =>Rv s' x u) noFill_list_mul PySem.F.fills_int_mul yB repeat_list PySem.F.slot_int_index.lookup
  (kJ yB (Rv s x u) PySem.F.entry_int_rmul (PySem.F.args_int_rmul_2 _ _) (int___rmul___int_list x u l items k)
   (cy H rfl (bM _ H rfl)<|kJ PySem.F.slot_list_mul (bM _ H rfl) PySem.F.entry_list_mul (PySem.F.args_list_mul_2 _ _)
    (AutoListH.list___mul___list_int_3 l items k x u (by simp[YR];exact⟨by assumption,by assumption⟩) (by lia) (by simp[YN,sizeLine];omega))
    ⟨H,h⟩))
theorem EV.Gf{e r:aW}{lp pos:si}{v:V}{n:Nat}(hs:notStar e=aj)(he:EV F e st v st₁)(hr:EV F r st₁ (.int n) aN)(hn:n<=2^20):EV F (.BinOp (.List [e] lp) .Mult r pos) st (.lst<|bU n v) aN:=λρ P s I=>by
 refine iP<|Ru ?_;rw[cC hs];refine cA<|aq (he ρ P s I) (λu a7 (ρ₁,bN,y,z,m)=>d6 (by show 1<=2^24;exact eJ _,?_)) i3;have k:=bI a7.heap {cls:=.type "list",data:=.seq #[u]};have G:=y.keeps (s' :={a7 with heap:=a7.heap.push {cls:=.type "list",data:=.seq #[u]} }) k rfl rfl;have at_:(a7.heap.push {cls:=.type "list",data:=.seq #[u]}).get? a7.heap.objs.size=ah (.type "list",dW,.seq #[u] 0,#[]):=bb _ rfl;refine aq (hr ρ₁ bN _ G) (λun U (Q,D,E,H,t,hu)=>?_) i3;subst hu;have L:=G.toHInv.le H pV;have QY:=L.keep _ _ at_<|y.nq<|de _;have j:R (F.fw U Q D) v u:=R.mono L _ _<|R.mono (jh k) _ _ m;refine GR QY (by exact aL _) (by lia) (by show 1*_<=_;lia) ?_;have e:(if(#[u]:Array aK).isEmpty=aj then 0 else(n:Int).toNat)=n:=by simp
 rw[e,foldl_rep];have:=nN E<|Ji j n;exact(Q,D,E.keeps (s' :={U with heap:=_,toks:=_}) (bI _ _) rfl rfl,(z.trans<|eH.of_keeps k).trans<|H.trans<|.of_keeps<|bI _ _,by simpa using this)
end
section
variable{F:Fx} {K:hJ} {sc:cJ} {d:Nat} {st st₁ aN st₃:St} {ρ cO ρ₁:List (aA×aA)} {P P' bN:aA ->Prop} {s s' a7:aS}
theorem BI.ZI:BI F st (.type "range") [.int n] (.ky 0 n):=λρ P s D I r=>by (refine uN (r.one) λU H t Q=>?_;subst H;subst Q);exact call_range_1 (bI _ _,rfl,rfl,_,_,_,_,rfl,N2 _ _ _ _ _ _ _,I.nq<|de _)
theorem BI.ZH:BI F st (.type "range") [.int a,.int b] (.ky a b):=λρ P s E I r=>by (refine oo (r.two) λU U D H u Q=>?_;subst D;obtain⟨t,rfl⟩:=H;subst Q);exact call_range_2 (bI _ _,rfl,rfl,_,_,_,_,rfl,N2 _ _ _ _ _ _ _,I.nq<|de _)
noncomputable def itemsOf:V ->Option (List V)
 | .lst l=>ah l
 | .str x=>ah (x.cps.toList.map λc=>.str ⟨#[c]⟩)
 | .ky a b=>ah ((aE (b -a).toNat).map λi=>.int<|a+(i:Nat))
 |_=>aC
noncomputable def oK(σ:jQ)(it:aA)(i:Nat):V ->Prop
 | .lst l=>∃a,σ.h.IsListIter it a i/\R σ (.lst l) (.ref a)
 | .str x=>∃Q t,(Q="str_ascii_iterator"\/Q="str_iterator")/\σ.h.IsStrIter it Q x t i
 | .ky a b=>IsRangeIter σ.h it (a+i) ((b -a).toNat -i:Nat) 1
 |_=>False
noncomputable def ib:V ->Prop
 | .ky a b=>-(2^62)<=a/\a<2^62/\ -(2^62)<=b/\b<2^62
 |_=>True
theorem oK.mono(L:σ.Le τ)(h:τ.h.get? it=σ.h.get? it)(x:oK σ it i v):oK τ it i v:=by
 cases v with
 |lst l=>(refine aR x λa Q q=>?_;obtain⟨o,H,r⟩:=Q);exact(bM a (bM o (h.trans H) r)<|R.mono L _ _ q)
 |str y=>refine C3 x λU t q o H r=>?_;exact(U,t,q,o,h.trans H,r)
 |ky a b=>exact h.trans x
 |_=>exact x.elim
theorem Inv.sD{b:aA}(I:Inv F st ρ P s)(k:∀a o,s.heap.get? a=ah o ->s'.heap.get? a=ah o)(hn:s.heap.get? b=aC)(hs:∃o,s'.heap.get? b=ah o)(hg:s'.gens=s.gens)(D:s'.os=s.os):
 Inv F st ρ (λa=>P a\/a=b) s' /\eH F.fr kP ρ ρ P (λa=>P a\/a=b) s.heap s'.heap:=by
 have Q:=I.keeps k hg D;have E:∀a,(P a\/a=b)->P a\/s.heap.get? a=aC:=λa q=>q.imp id λ(q:a=b)=>by rw[q];exact hn
 have L:jQ.Le (F.w.params,s.heap,ρ,P) (F.w.params,s'.heap,ρ,λa=>P a\/a=b):=(rfl,λa o e U=>k a o e,λU U e=>e,E);refine(((Q.base,Q.old,λa o e g q=>?_,λa g=>.inl<|I.gw a g,λa q=>?_,Q.wB,λe he L hL=>.inl<|I.wD e he L hL,I.vt,(I.view.len,λi o p e q=>(I.view.at_ i o p e q).mono L (λU z=>k _ _ z) (λU z=>k _ _ z),λp G=>(.inl (I.view.iV p G).1,.inl (I.view.iV p G).2),I.view.apart,I.view.gr),Q.gens,Q.os),?_),?_)
 .rcases E a q with q|q
  .exact I.hK a o e g q
  .have:=I.base a o e g;rw[q]at this;cases this
 .rcases q with q|rfl
  .exact Q.there a q
  .exact hs
 .refine aR (I.loc.ns) λm hm j=>?_;refine((bM m (hm.keeps k) λx v e=>?_),.inl I.loc.jV,I.loc.lj,I.loc.ml,λn c hc=>?_,I.loc.inj)
  .refine aR (j x v e) λu a y=>?_;refine(bM u ?_<|R.mono L _ _ y);rcases a with a|⟨kk,c,o,b',d,e⟩
   .exact .inl a
   .exact .inr (gJ kk c o b' (k _ _ d) e)
  .refine cH λGq kq=>?_;refine fF (I.loc.cells n c hc) λa1 a2 a3 a4 H o a5 a6=>?_;refine kq ?_;exact(fG (.inl a1) a2 a3 a4 H o (k _ _ a5) a6)
 .exact(λa o e U U U U=>k a o e,λa o e U U U=>(o.slots,k a o e),λa o e=>(o,k a o e),λU U e=>e,λU q=>.inl q,E,λU q=>.inl q)
theorem Inv.v3(I:Inv F st ρ P s)(hP:P it)(hV:¬VA ρ it)(hO:¬Own F.env it)(hG:¬Grows it)(hF:∀e∈F.fr,e.frame≠ah it)(k:∀a o,a≠it ->s.heap.get? a=ah o ->s'.heap.get? a=ah o)(ht:∃o,s'.heap.get? it=ah o)(hg:s'.gens=s.gens)(G:s'.os=s.os):Inv F st ρ P s' /\eH F.fr (λb=>b=it) ρ ρ P P s.heap s'.heap:=by
 have L:jQ.Le (F.w.params,s.heap,ρ,P) (F.w.params,s'.heap,ρ,P):=(rfl,λa o e n=>k a o (λq=>n<|q▸hP) e,λU U e=>e,λU q=>.inl q);have nB:∀a o,F.hB.get? a=ah o ->a≠it:=λa o e q=>I.hK a o e (q▸hG)<|q▸hP;have va:∀p∈ρ,p.1≠it/\p.2≠it:=λp H=>(λq=>hV<|bM p H<|.inl q.symm,λq=>hV<|bM p H<|.inr q.symm);refine(((λa o e g=>k _ _ (nB a o e)<|I.base a o e g,lN I.old λa o e=>?_,I.hK,I.gw,λa q=>?_,?_,I.wD,I.vt,(I.view.len,λi o p e q=>?_,I.view.iV,I.view.apart,I.view.gr),by rw[hg];exact I.gens,G.trans I.os),?_),?_)
 .refine eN (I.old.there a o e) λo' z=>?_;rw[z];exact k _ _ (nB a o e) z
 .by_cases z:a=it
  .rw[z];exact ht
  .refine eN (I.there a q) λo e=>?_;exact(o,k _ _ z e)
 .have E:∀{l:List vK},(∀e∈l,e∈F.fr)->s.heap.FunFrames F.hB l ->s'.heap.FunFrames F.hB l:=by
   intro l;induction l with
   |nil=>intro _ _;trivial
   |cons e r ih=>
    intro hm (hk,(L',o,hf,hn,y,j),hr);exact(hk,(L',o,hf,hn,k _ _ (λz=>hF e (hm e<|.head _)<|z▸hf) y,j),ih (λx hx=>hm x<|.tail _ hx) hr)
  exact E (λe he=>he) I.wB
 .have H:=va p<|aT q;exact(I.view.at_ i o p e q).mono L (λU z=>k _ _ H.1 z) λU z=>k _ _ H.2 z
 ·(refine aR (I.loc.ns) λm D rl=>?_;obtain⟨o,es,ep,ho,r⟩:=D);refine((bM m (br o es ep (k _ _ (λz=>hO<|.inl z.symm) ho) r) (λx v e=>?_)),I.loc.jV,I.loc.lj,I.loc.ml,λn c hc=>?_,I.loc.inj)
  .refine aR (rl x v e) λu a ru=>?_;refine(bM u ?_<|R.mono L _ _ ru);rcases a with a|⟨kk,c,o,b',d,e⟩
   .exact .inl a
   .exact .inr (gJ kk c o b' (k _ _ (λz=>hO<|.inr (_,z▸b')) d) e)
  .refine fF (I.loc.cells n c hc) λa1 a2 a3 a4 Q o a5 a6=>?_;exact(fG a1 a2 a3 a4 Q o (k _ _ (λz=>hO<|.inr (_,z▸hc)) a5) a6)
 .exact(λa o e U x U U=>k _ _ x e,λa o e U x U=>(o.slots,k _ _ x e),λa o e=>by
   by_cases z:a=it
   .rw[z];exact ht
   .exact(o,k _ _ z e),λU U e=>e,λU q=>q,λU q=>.inl q,λU q=>.inl q)
theorem Hc(par:aB)(h:dR)(o:gy):jQ.Le (par,h,ρ,P) (par,h.push o,ρ,λa=>P a\/a=h.objs.size):=
 (rfl,λb Q e U=>bI h o b Q e,λU U e=>e,λb q=>q.imp id λ(z:b=h.objs.size)=>by rw[z];exact de _)
theorem MT(I:Inv F st ρ P s)(y:itemsOf v=ah vs)(hz:ib v)(r:R (F.fw s ρ P) v u):wpAny F.M F.A (pyIter u) (λw s' =>∃ob,w= .ref s.heap.objs.size/\s' ={s with heap:=s.heap.push ob}/\(s.heap.push ob).get? s.heap.objs.size=ah ob/\oK (F.fw s' ρ λa=>P a\/a=s.heap.objs.size) s.heap.objs.size 0 v) E s:=by
 cases v with
 |lst l=>
  refine cH λGq U=>?_;(refine e7 r λa o G n Q g c d p q=>?_;subst Q);refine U ?_;refine R' (pw o g c n d) (_,rfl,rfl,bb _ rfl,a,(uQ _ (bb _ rfl) rfl rfl),R.mono (Hc _ _ _) _ _<|show R (F.fw s ρ P) (.lst l) (.ref a)from(e8 a o G n rfl g c d p q))
 |str x=>
  (refine eN r λt H=>?_;subst H);cases D:x.cps.all (·<128)with
  |true=>exact wpAny_pyIter_ascii D (_,rfl,rfl,bb _ rfl,_,t,.inl rfl,_,bb _ rfl,rfl,rfl)
  |false=>exact wpAny_pyIter_wide D (_,rfl,rfl,bb _ rfl,_,t,.inr rfl,_,bb _ rfl,rfl,rfl)
 |ky a b=>
  refine cH λGq U=>?_;(refine qm r λq t w x Q g p=>?_;subst Q);refine j7 hz λh1 m j z=>?_;refine U ?_;refine wpAny_pyIter_range g (small_one h1 m j z)<|rA _ rfl rfl (bb _ rfl) ?_;show _=ah _;rw[bb _ rfl,rangeSize_one];have:(if a<b then b -a else 0)=(((b -a).toNat -0:Nat):Int):=by split<;>lia
  rw[this];simp
 |_=>cases y
theorem MK(hv:itemsOf v=ah vs)(z:vs[i]? =ah x)(hP:P it)(h:oK (F.fw s ρ P) it i v):wpAny F.M F.A (pyNext<|.ref it) (λr s' =>∃u,r=ah u/\gB it s.heap s'.heap/\(∃o,s'.heap.get? it=ah o)/\s'.gens=s.gens/\s'.os=s.os/\oK (F.fw s' ρ P) it (i+1) v/\R (F.fw s' ρ P) x u) E s:=by
 cases v with
 |lst l=>
  cases hv;refine cH λGq G=>?_;refine aR h λa H hR=>?_;have hR' :=hR;refine e7 hR' λa' ob xs n e g c d p q=>?_;refine G ?_;obtain rfl:a=a' :=by cases e;rfl
  refine aR (q.get z) λu hu ru=>?_;refine wpAny_pyNext_list_item H (pw ob g c n d) (by rw[<-di];exact hu) λh' Q U=>?_;have L:jQ.Le (F.fw s ρ P) (F.w.params,h',ρ,P):=fO U hP;refine(u,rfl,U,let⟨o,m,_⟩:=Q;(o,m),rfl,rfl,(a,Q,R.mono L _ _ hR),R.mono L _ _ ru)
 |str y=>
  cases hv;refine cH λGq G=>?_;refine f7 h λty t hty H=>?_;rw[bF]at z;(refine aR (Option.map_eq_some_iff.mp z) λc hc D=>?_;subst D);refine G ?_;rw[di]at hc;rcases hty with rfl|rfl
  .exact wpAny_pyNext_ascii_item H hc λh' Q U=>(_,rfl,U,let⟨o,m,_⟩:=Q;(o,m),rfl,rfl,(_,t,.inl rfl,Q),kI)
  .exact wpAny_pyNext_wide_item H hc λh' Q U=>(_,rfl,U,let⟨o,m,_⟩:=Q;(o,m),rfl,rfl,(_,t,.inr rfl,Q),kI)
 |ky a b=>
  cases hv;rw[bF]at z;refine cH λGq G=>?_;(refine aR (Option.map_eq_some_iff.mp z) λj hj D=>?_;subst D);(refine eN (List.getElem?_eq_some_iff.mp hj) λsv tA=>?_;subst tA);refine G ?_;rw[bJ]at sv;rw[E8];refine wpAny_pyNext_range_item h (by omega) λh' Q U=>(El _ rfl U (_,Q) rfl rfl ?_ iX);have e1:a+(i:Int)+1=a+((i+1:Nat):Int):=by(simp+arith only[ei,fV,gH];done)
  have e2:(((b -a).toNat -i:Nat):Int) -1=(((b -a).toNat -(i+1):Nat):Int):=(qJ<|JK sv).symm;rw[e1,e2]at Q;exact Q
 |_=>cases hv
theorem VB(u:F.A.handled=aC)(G:itemsOf v=ah vs)(D:vs[i]? =aC)(h:oK (F.fw s ρ P) it i v):wpAny F.M F.A (pyNext<|.ref it) (λr s' =>r=aC/\(∀a o,a≠it ->s.heap.get? a=ah o ->s'.heap.get? a=ah o)/\s'.gens=s.gens/\s'.os=s.os) E s:=by
 cases v with
 |lst l=>
  cases G;refine cH λGq z=>?_;obtain⟨a,Q,a',ob,xs,n,e,g,c,d,p,q⟩:=h;refine z ?_;obtain rfl:a=a' :=by cases e;rfl
  refine wpAny_pyNext_list_end u Q (pw ob g c n d) ?_ λm H=>(cy rfl (λa o ne e=>H a o ne e) rfl rfl);rw[iC]at D;rw[vM,q.size];exact D
 |str y=>
  cases G;refine cH λGq z=>?_;obtain⟨ty,t,j,Q⟩:=h;refine z ?_;rw[iC,ax,dh]at D;have U:y.cps[i]? =aC:=by rw[vM];exact D
  rcases j with rfl|rfl
  .exact wpAny_pyNext_ascii_end u Q U λm H=>(cy rfl (λa o ne e=>H a o ne e) rfl rfl)
  .exact wpAny_pyNext_wide_end u Q U λm H=>(cy rfl (λa o ne e=>H a o ne e) rfl rfl)
 |ky a b=>
  cases G;rw[iC,ax,bJ]at D;exact wpAny_pyNext_range_end u h (by omega) λm H=>(cy rfl (λa o ne e=>H a o ne e) rfl rfl)
 |_=>cases G
end
theorem eH.kn(x:eH fr X ρ ρ₁ P bN h U)(y:eH fr Y ρ₁ Q bN D U H)(hy:∀b,Y b ->X b\/h.get? b=aC):eH fr X ρ Q P D h H:=by
 have m:∀b o,h.get? b=ah o ->¬VA ρ b ->¬VA ρ₁ b:=λb o e n zU=>aR zU λp j q=>by
  rcases x.oJ p j with z|⟨G,E⟩
  .exact n (bM p z q)
  .rcases q with rfl|rfl
   .rw[G]at e;cases e
   .rw[E]at e;cases e
 have nY:∀b o,h.get? b=ah o ->¬X b ->¬Y b:=λb o e n q=>by
  rcases hy b q with z|z
  .exact n z
  .rw[z]at e;cases e
 refine(λb o e n q f g=>y.keep b o (x.keep b o e n q f g) (m b o e n) (nY b o e q) f g,λb o e n q g=>?_,λb o e=>let⟨o',z⟩:=x.l9 b o e;y.l9 b o' z,λi p e=>y.pre i p<|x.pre i p e,λb p=>y.sub b<|x.sub b p,λb p=>?_,λp j=>?_)
 .refine eN (x.slots b o e n q g) λsl z=>?_;refine eN (y.slots b _ z (m b o e n) (nY b o e q) g) λu z' =>?_;exact(u,z')
 .exact(y.new b p).elim (x.new b) λz=>.inr<|x.back z
 .rcases y.oJ p j with z|⟨G,E⟩
  .exact x.oJ p z
  .exact .inr (x.back G,x.back E)
noncomputable def gF(F:Fx)(t:aW)(b:List cn):List V ->St ->FV ->St ->Prop
 |[],st,U,Q=>U= .next/\Q=st
 |v::vs,st,U,Q=>∃st₁ H aN,sJ F t st v st₁/\dc F b st₁ H aN/\match H with
  | .next| .cont=>gF F t b vs aN U Q
  | .brk=>U= .next/\Q=aN
  | .ret v=>U= .ret v/\Q=aN
  | .exc _=>False
section
variable{F:Fx} {K:hJ} {sc:cJ} {d:Nat} {st st₁ aN st₃:St} {ρ cO ρ₁:List (aA×aA)} {P P' bN:aA ->Prop} {s s' a7:aS}
structure Apart (F:Fx) (ρ:List (aA×aA)) (P:aA ->Prop) (it:aA):Prop where
 p:P it
 v:¬VA ρ it
 o:¬Own F.env it
 g:¬Grows it
 f:∀e∈F.fr,e.frame≠ah it
theorem Apart.step(a:Apart F ρ P it)(x:eH F.fr X ρ cO P P' h E)(e:h.get? it=ah ob):Apart F cO P' it:=
 (x.sub _ a.p,λQ=>aR Q λp D q=>by
  rcases x.oJ p D with z|⟨U,H⟩
  .exact a.v (bM p z q)
  .rcases q with rfl|rfl
   .rw[U]at e;cases e
   ·(rw[H]at e;cases e),a.o,a.g,a.f)
theorem Inv.fresh(I:Inv F st ρ P s)(n:s.heap.get? it=aC):¬VA ρ it/\¬Own F.env it/\¬Grows it/\∀e∈F.fr,e.frame≠ah it:=by
 have Q:=I.nq n;refine(λU=>aR U λp H q=>?_,λq=>Q<|I.TJ _ q,λg=>Q<|I.gw _ g,λe D q=>Q<|I.wD e D _ q);rcases q with rfl|rfl
 .exact Q (I.view.iV p H).1
 .exact Q (I.view.iV p H).2
theorem oK.there(h:oK σ it i v):∃o,σ.h.get? it=ah o:=by
 cases v with
 |lst l=>(refine aR h λa Q U=>?_;obtain⟨o,H,_⟩:=Q);exact(o,H)
 |str y=>refine C3 h λD t U o H U=>?_;exact(o,H)
 |ky a b=>exact(_,h)
 |_=>exact h.elim
theorem Inv.ig(I:Inv F st ρ P s)(a:Apart F ρ P it)(k:∀a o,a≠it ->s.heap.get? a=ah o ->s'.heap.get? a=ah o)(hg:s'.gens=s.gens)(P1:s'.os=s.os):Inv F st ρ (λb=>P b/\b≠it) s' :=by
 have L:jQ.Le (F.w.params,s.heap,ρ,P) (F.w.params,s'.heap,ρ,λb=>P b/\b≠it):=(rfl,λb o e n=>k b o (λq=>n<|q▸a.p) e,λU U e=>e,λU q=>.inl q.1);have nB:∀b o,F.hB.get? b=ah o ->b≠it:=λb o e q=>I.hK b o e (q▸a.g)<|q▸a.p;have va:∀p∈ρ,p.1≠it/\p.2≠it:=λp Q=>(λq=>a.v<|bM p Q<|.inl q.symm,λq=>a.v<|bM p Q<|.inr q.symm);refine((λb o e g=>k _ _ (nB b o e)<|I.base b o e g,lN I.old λb o e=>?_,λb o e g q=>I.hK b o e g q.1,λb g=>(I.gw b g,λq=>a.g<|q▸g),λb q=>?_,?_,λe E L hL=>(I.wD e E L hL,λq=>a.f e E<|q▸hL),I.vt,(I.view.len,λi o p e q=>?_,λp Q=>(((I.view.iV p Q).1,(va p Q).1),((I.view.iV p Q).2,(va p Q).2)),I.view.apart,I.view.gr),by rw[hg];exact I.gens,P1.trans I.os),?_)
 .refine eN (I.old.there b o e) λo' z=>?_;rw[z];exact k _ _ (nB b o e) z
 .refine eN (I.there b q.1) λo e=>?_;exact(o,k _ _ q.2 e)
 .have j:∀{l:List vK},(∀e∈l,e∈F.fr)->s.heap.FunFrames F.hB l ->s'.heap.FunFrames F.hB l:=by
   intro l;induction l with
   |nil=>intro _ _;trivial
   |cons e r ih=>
    intro hm (hk,(L',o,hf,hn,JG,hdd),hr);exact(hk,(L',o,hf,hn,k _ _ (λz=>a.f e (hm e<|.head _)<|z▸hf) JG,hdd),ih (λx hx=>hm x<|.tail _ hx) hr)
  exact j (λe E=>E) I.wB
 .have Q:=va p<|aT q;exact(I.view.at_ i o p e q).mono L (λU z=>k _ _ Q.1 z) λU z=>k _ _ Q.2 z
 .refine cH λGq y=>?_;(refine aR (I.loc.ns) λm G rl=>?_;obtain⟨o,es,ep,ho,r⟩:=G);refine y ?_;refine((bM m (br o es ep (k _ _ (λz=>a.o<|.inl z.symm) ho) r) (λx v e=>?_)),(I.loc.jV,λq=>a.o<|.inl q.symm),I.loc.lj,I.loc.ml,λn c hc=>?_,I.loc.inj)
  .refine aR (rl x v e) λu b ru=>?_;refine(bM u ?_<|R.mono L _ _ ru);rcases b with b|⟨kk,c,o,b',d,e⟩
   .exact .inl b
   .exact .inr (gJ kk c o b' (k _ _ (λz=>a.o<|.inr (_,z▸b')) d) e)
  .refine cH λGq y=>?_;refine fF (I.loc.cells n c hc) λa1 a2 a3 a4 H o a5 a6=>?_;refine y ?_;have D:c≠it:=λz=>a.o<|.inr (_,z▸hc);exact(fG (a1,D) a2 a3 a4 H o (k _ _ D a5) a6)
theorem eH.ig(x:eH fr X ρ cO P P' h H)(n:h.get? it=aC)(E:¬P it)(k:∀a o,a≠it ->H.get? a=ah o ->Q.get? a=ah o):eH fr X ρ cO P (λb=>P' b/\b≠it) h Q:=by
 have ne:∀b o,h.get? b=ah o ->b≠it:=λb o e q=>by rw[q,n]at e;cases e
 exact(λb o e a c f g=>k _ _ (ne b o e)<|x.keep b o e a c f g,λb o e a c g=>let⟨U,z⟩:=x.slots b o e a c g;(U,k _ _ (ne b o e) z),λb o e=>let⟨D,z⟩:=x.l9 b o e;(D,k _ _ (ne b o e) z),x.pre,
  λb p=>(x.sub b p,λq=>E<|q▸p),λb p=>x.new b p.1,x.oJ)
inductive Xd (F:Fx) (t:aW) (body:List cn) (vs:List V) (fl:FV) (aN:St) (ρ:List (aA×aA)) (P:aA ->Prop) (h:dR) (it:aA) (v:V) (n:Nat) (s' :aS):Prop
 |mk (cO:List (aA×aA)) (P' :aA ->Prop) (ke:St) (i:Nat) (I:Inv F ke cO P' s') (x:eH F.fr (Own F.env) ρ cO P P' h s'.heap) (a:Apart F cO P' it) (at_:oK (F.fw s' cO P') it i v) (f:gF F t body (vs.drop i) ke fl aN) (hi:i<=vs.length) (hn:n=vs.length -i):Xd F t body vs fl aN ρ P h it v n s'
theorem EX.for{iter:aW}(X:bS F K sc d)(hd:3<=d)(hs:∀env x,foldedSetIterable iter env x=pure x)(he:EV F iter st v st₁)(hv:itemsOf v=ah vs)(hz:ib v)(hl:gF F (.Name x px) body vs st₁ fl aN):EX F (.For (.Name x px) iter body [] pos) st fl aN:=λρ P s I=>by
 refine wpAny_For (aq (he ρ P s I) (λu a7 zU=>zU.go λρ₁ bN vf mP r=>?_) i4) (hs _);refine aq (MT vf hv hz r) (λw fW zU=>mq zU λob hw wy hit at_=>?_) i3;subst hw wy;have n:=de a7.heap;have k:=bI a7.heap ob;refine fk (vf.sD (s' :={a7 with heap:=a7.heap.push ob}) (b:=a7.heap.objs.size) k n (_,hit) rfl rfl) λjj AR=>?_;refine j7 (vf.fresh n) λf1 f2 f3 f4=>?_;refine codeAny_forLoop (Xd F (.Name x px) body vs fl aN ρ P s.heap a7.heap.objs.size v)
  (λn s' h=>?_) vs.length (_,_,_,0,jj,(mP.trans AR).up,(.inr rfl,f1,f2,f3,f4),at_,by simpa using hl,bH _,rfl)
 obtain⟨cO,P',ke,i,I',X',a',at',hF,hi,hn⟩:=h;have xR:s.heap.get? a7.heap.objs.size=aC:=mP.back<|de _;cases hx:vs[i]? with
 |none=>
  refine aq (VB (X.pZ hd) hv hx at') (λr jT zU=>j7 zU λhr k3 g3 o3=>?_) i3;subst hr;refine gc ?_;have:vs.drop i=[]:=AN<|List.getElem?_eq_none_iff.mp hx;rw[this]at hF;(refine fk hF λAQ D=>?_;subst AQ;subst D);exact(cO,_,I'.ig a' k3 g3 o3,X'.ig xR (I.nq xR) k3,rfl)
 |some u=>
  refine aq (MK hv hx a'.p at') (λr jT (w,hr,sb,ht,g3,o3,QY,r3)=>?_) i3;subst hr;refine fk (I'.v3 a'.p a'.v a'.o a'.g a'.f (λa o ne e=>(sb.2 a ne).trans e) ht g3 o3) λjX tC=>?_;have Rl:=X'.kn tC λb q=>.inr (by rw[q];exact xR);have sv:i<vs.length:=(List.getElem?_eq_some_iff.mp hx).1;have hdr:vs.drop i=u::vs.drop (i+1):=by rw[lI sv];rw[(List.getElem?_eq_some_iff.mp hx).2]
  rw[hdr]at hF;refine ji hF λko Vx Ca hA hB hF=>?_;refine aq (hA cO P' jT w jX r3) (λU z zU=>zU.go λSk Jk nP G=>?_) i4;have Rk:=Rl.trans G;refine eN (QY.there) λXQ t3=>?_;have H:=a'.step G t3;have t4:z.heap.get? a7.heap.objs.size=ah XQ:=G.keep _ _ t3 a'.v a'.o a'.f a'.g;have at4:=QY.mono (jX.ue G) (show z.heap.get? _=jT.heap.get? _ by rw[t4];exact t3.symm);refine aq (hB Sk Jk z nP) (λf qP zU=>zU.go λQ m qy E q=>?_) λe qP zU=>zU.go λex q U U U=>by subst q;exact hF.elim
  have j:=Rk.trans E;have WJ:=H.step E t4;have t5:qP.heap.get? a7.heap.objs.size=ah XQ:=E.keep _ _ t4 H.v H.o H.f H.g;have WL:=at4.mono (nP.ue E) (show qP.heap.get? _=z.heap.get? _ by rw[t5];exact t4.symm);cases Vx with
  |next=>cases q;exact(vs.length -(i+1),Yn ‹_› sv,Q,m,Ca,i+1,qy,j,WJ,WL,hF,sv,rfl)
  |cont=>cases q;exact(vs.length -(i+1),Yn ‹_› sv,Q,m,Ca,i+1,qy,j,WJ,WL,hF,sv,rfl)
  |brk=>cases q;(refine fk hF λAQ D=>?_;subst AQ;subst D);exact(Q,m,qy,j,rfl)
  |ret y=>(refine aR q λuy D ry=>?_;subst D);(refine fk hF λAQ D=>?_;subst AQ;subst D);exact(Q,m,qy,j,uy,rfl,ry)
  |exc _=>exact hF.elim
end
section
variable{F:Fx} {K:hJ} {sc:cJ} {d:Nat} {st st₁ aN st₃:St} {ρ cO ρ₁:List (aA×aA)} {P P' bN:aA ->Prop} {s s' a7 s₀:aS}
theorem Ud(D8:F.A.frames=ah F.fr)(Y:sd F)(H:Inv F st₁ ρ P s₀)(h:PX F ρ P s₀.heap fl G e s'):notedBy F.M F.A F.env (λe s' =>cameBackBy F.M F.A F.env (PX F ρ P s₀.heap fl G) e s') e s' :=by refine cH λGq m=>?_;obtain⟨x,rfl,f,hf,p⟩:=h;refine eN (Y.fr) λj ho=>?_;refine m ?_;show wpAny _ _ (noteFrame e F.env) _ _ s';refine aq (Ct D8 ho Y.frame H hf p (E:=λU U=>False)) (λU fW Q=>?_) i4;show cameBackBy _ _ _ _ _ _;unfold cameBackBy;have D:=Q;refine cH λGq m=>?_;obtain⟨cO,P',a,oe,vs,rfl,I',y,z⟩:=Q;refine bl (z.tr) λT oT ts h1 U=>?_;refine m ?_;refine ak<|kQ z.at_ z.dat h1 ?_;rw[if_neg<|show¬((cg T==dU)=aj)from by simp];refine aq (oh (fr:=F.env.frame) (E:=PX F ρ P s₀.heap (.exc x) G) H D) (λU jT u=>?_) i3;refine(x,rfl,_,?_,u);rw[Y.frame];exact .inr<|.inr rfl
noncomputable def WHn(F:Fx)(t:aW)(b:List cn):Nat ->St ->FV ->St ->Prop
 |0,_,_,_=>False
 |n+1,st,U,Q=>∃q st₁,TV F t st q st₁/\if q=aj then∃H aN,dc F b st₁ H aN/\(match H with
  | .next| .cont=>WHn F t b n aN U Q
  | .brk=>U= .next/\Q=aN
  | .ret v=>U= .ret v/\Q=aN
  | .exc x=>U= .exc x/\Q=aN)
  else U= .next/\Q=st₁
def WH(F:Fx)(t:aW)(b:List cn)(st:St)(fl:FV)(Q:St):Prop:=∃n,WHn F t b n st fl Q
theorem WH.done(h:TV F t st q st₁)(Q:q=ao):WH F t b st .next st₁:=(1,q,st₁,h,by rw[Q];exact(rfl,rfl))
theorem WH.next(h:TV F t st q st₁)(H:q=aj)(U:dc F b st₁ .next aN)(Q:WH F t b aN fl st₃):WH F t b st fl st₃:=let⟨n,z⟩:=Q;(n+1,q,st₁,h,by rw[H];exact(f' _ _ U z))
theorem WH.cont(h:TV F t st q st₁)(H:q=aj)(U:dc F b st₁ .cont aN)(Q:WH F t b aN fl st₃):WH F t b st fl st₃:=let⟨n,z⟩:=Q;(n+1,q,st₁,h,by rw[H];exact(f' _ _ U z))
theorem WH.brk(h:TV F t st q st₁)(Q:q=aj)(H:dc F b st₁ .brk aN):WH F t b st .next aN:=(1,q,st₁,h,by rw[Q];exact(f' _ _ H (rfl,rfl)))
theorem WH.ret(h:TV F t st q st₁)(Q:q=aj)(H:dc F b st₁ (.ret v) aN):WH F t b st (.ret v) aN:=(1,q,st₁,h,by rw[Q];exact(f' _ _ H (rfl,rfl)))
theorem WH.exc(h:TV F t st q st₁)(Q:q=aj)(H:dc F b st₁ (.exc x) aN):WH F t b st (.exc x) aN:=(1,q,st₁,h,by rw[Q];exact(f' _ _ H (rfl,rfl)))
inductive WhI (F:Fx) (t:aW) (b:List cn) (fl:FV) (st₃:St) (ρ:List (aA×aA)) (P:aA ->Prop) (h:dR) (n:Nat) (s' :aS):Prop
 |mk (cO:List (aA×aA)) (P' :aA ->Prop) (ke:St) (I:Inv F ke cO P' s') (x:eH F.fr (Own F.env) ρ cO P P' h s'.heap) (w:WHn F t b n ke fl st₃):WhI F t b fl st₃ ρ P h n s'
theorem EX.while(X:bS F K sc d)(Y:sd F)(h:WH F t b st fl st₃):EX F (.While t b [] pos) st fl st₃:=λρ P s I=>by
 obtain⟨n,hn⟩:=h;refine wpAny_While<|codeAny_whileLoop (WhI F t b fl st₃ ρ P s.heap) (λn s' h=>?_) n (ρ,P,st,I,.refl,hn);obtain⟨cO,P',ke,I',X',hW⟩:=h;cases n with
 |zero=>exact hW.elim
 |succ n=>
  obtain⟨q,st₁,hT,hB⟩:=hW;refine aq (hT cO P' s' I') (λu a7 zU=>zU.go λρ₁ bN hu G mP=>?_) i4;subst hu;have E:=X'.trans mP.up;cases u with
  |false=>
   rw[if_neg 'd']at hB⊢;obtain⟨rfl,rfl⟩:=hB;exact gc (ρ₁,bN,G,E,rfl)
  |true=>
   rw[if_pos rfl]at hB⊢;obtain⟨j,aN,hb,hr⟩:=hB;refine aq (hb ρ₁ bN a7 G) (λf fW zU=>zU.go λQ U D m q=>?_) λe fW z=>?_
   .have H:=E.trans m;cases j with
    |next=>cases q;exact(n,fx n,Q,U,aN,D,H,hr)
    |cont=>cases q;exact(n,fx n,Q,U,aN,D,H,hr)
    |brk=>cases q;obtain⟨rfl,rfl⟩:=hr;exact(Q,U,D,H,rfl)
    |ret v=>obtain⟨y,rfl,r⟩:=q;obtain⟨rfl,rfl⟩:=hr;exact(Q,U,D,H,y,rfl,r)
    |exc x=>exact q.elim
   .obtain⟨x,rfl,r⟩:=id z;obtain⟨rfl,rfl⟩:=hr;exact Ud X.cx.frames Y I<|PX.trans (a7:=a7) E z
end
theorem pB:∀(names:List (aF×oP)) (Q:List (aF×aA)),(∀x∈names,x.2= .free ->(env.cells.lookup x.1).isSome=aj)->(∀n c,Q.lookup n=ah c ->env.cells.lookup n=ah c)->
 ∃cl,(forIn names Q λ(x:aF×oP) (r:List (aF×aA))=>if(x.2==oO)=aj then(do let a<-cellOf env x.1;pure (fB ((x.1,a)::r)):Sem (ForInStep<|List<|aF×aA))else pure (fB r))=(pure cl:Sem (List<|aF×aA))/\(∀n c,cl.lookup n=ah c ->env.cells.lookup n=ah c)/\
  (∀n,(Q.lookup n).isSome=aj ->(cl.lookup n).isSome=aj)/\∀x∈names,x.2= .free ->(cl.lookup x.1).isSome=aj
 |[],Q,_,E=>(rA Q rfl E (λU h=>h) (λx H=>by cases H))
 |(n,k)::r,Q,y,E=>by
  rw[Mp];by_cases z:k= .free
  .subst z;obtain⟨c,hc⟩:=Option.isSome_iff_exists.mp<|y _ (.head _) rfl;have e:cellOf env n=pure c:=by unfold cellOf;rw[hc]
   refine cH λGq u=>?_;obtain⟨cl,h1,h2,G,j⟩:=pB r ((n,c)::Q) (λx H=>y x<|.tail _ H) λm c' h=>by
    rw[cw]at h;cases q:m==n with
    |true=>rw[q]at h;cases h;rw[beq_iff_eq.mp q];exact hc
    |false=>rw[q]at h;exact E m c' h
   refine u ?_;refine(rA cl ?_ h2 (λm h=>G m (by rw[cw];cases(m==n)<;>first|rfl|exact h)) (λx H D=>?_))
   .show(cellOf env n>>=_)>>=_=_;rw[e];exact h1
   .rcases List.mem_cons.mp H with rfl|H
    .exact G n (by rw[jL];rfl)
    .exact j x H D
  .refine cH λGq u=>?_;obtain⟨cl,h1,h2,G,j⟩:=pB r Q (λx H=>y x<|.tail _ H) E;refine u ?_;refine(rA cl ?_ h2 G λx H D=>?_)
   .have:(k==oO)=ao:=by simpa using z
    simp only[this];exact h1
   .rcases List.mem_cons.mp H with rfl|H
    .exact absurd D z
    .exact j x H D
theorem BC(h:∀x∈scope.names,x.2= .free ->(env.cells.lookup x.1).isSome=aj):∃cl,closureFor scope env=pure cl/\(∀n c,cl.lookup n=ah c ->env.cells.lookup n=ah c)/\∀x∈scope.names,x.2= .free ->(cl.lookup x.1).isSome=aj:=by refine cH λG Q=>?_;refine mq (pB scope.names [] h λU U h=>by cases h) λcl E D U H=>?_;refine Q ?_;refine(uQ cl ?_ D H);unfold closureFor;exact congrArg (λm:Sem (List<|aF×aA)=>m>>=λr=>pure r) E
noncomputable def jF(scope sc:cJ):cJ:={scope with names:=scope.names.map λ(n,k)=>if(k== .free&&sc.kind== .function&&sc.names.lookup n==ah .cell)then(n,.cell)else(n,k)}
theorem Cj(h:env.scope=sc):relabel scope env=jF scope sc:=by subst h;rfl
noncomputable def dT(scope sc:cJ):Bool:=(scope.kind== .function)&&scope.names.all λ(n,k)=>k != .cell&&(k != .local||scope.names.lookup n==ah .local)&&(k != .free||sc.names.lookup n==ah .cell||sc.names.lookup n==ah .free)
def yi(F:Fx)(t:aW)(st:St)(v:V)(Q:St):Prop:=∀ρ P s u,Inv F st ρ P s ->R (F.fw s ρ P) v u ->
 wpAny F.M F.A (assign t F.env u) (λU s' =>Inv F Q ρ P s' /\eH F.fr (λb=>b=F.env.locals) ρ ρ P P s.heap s'.heap) (λU U=>False) s
def W6(F:Fx)(H:List aW)(st:St)(q:Bool)(Q:St):Prop:=match H with
 |[]=>q=aj/\Q=st
 |[c]=>TV F c st q Q
 |_=>False
noncomputable def iY(F:Fx)(t:aW)(D:List aW)(E:aW):List V ->St ->List V ->St ->Prop
 |[],st,H,Q=>H=[]/\Q=st
 |v::vs,st,H,Q=>∃st₁ q aN,yi F t st v st₁/\W6 F D st₁ q aN/\if q=aj then∃y st₃ U,EV F E aN y st₃/\H=y::U/\iY F t D E vs st₃ U Q else iY F t D E vs aN H Q
section
variable{F:Fx} {K:hJ} {sc:cJ} {d:Nat} {st st₁ aN st₃:St} {ρ cO ρ₁:List (aA×aA)} {P P' bN:aA ->Prop} {s s' a7 s₀:aS}
theorem xn(H:F.env.scope.kind= .function)(hk:F.env.kindOf x=ah .local)(I:Inv F st ρ P s)(r:R (F.fw s ρ P) v u):wpAny F.M F.A (storeName F.env x u) (λU s' =>Inv F ((x,v)::st.loc,st.obs) ρ P s' /\eH F.fr (λb=>b=F.env.locals) ρ ρ P P s.heap s'.heap) E s:=by
 refine aR (I.loc.ns) λm hn rl=>?_;refine ij hk hn (λh' G Q=>?_) (by rw[H];rfl);have hd:∃z,h'.get? F.env.locals=ah z/\∀vs,z.data≠ .fields vs:=by refine cH λGq j=>?_;refine ji G λo es ep ho hd U=>?_;refine j ?_;exact(bM o ho (λvs q=>by rw[hd]at q;cases q))
 have L:jQ.Le (F.fw s ρ P) (F.w.params,h',ρ,P):=fO Q I.loc.jV;refine((HInv.own (s' :={s with heap:=h',toks:=s.toks+1}) I.toHInv Q I.loc.jV I.loc.lj I.loc.ml hd rfl rfl,((_,G,λy v' e=>?_),I.loc.jV,I.loc.lj,I.loc.ml,λn c hc=>?_,I.loc.inj)),sY Q rfl (let⟨z,a,_⟩:=hd;(z,a)))
 .by_cases q:y=x
  .subst q;rw[jL]at e;cases e;exact(bM u (.inl (hk,by simp))<|R.mono L _ _ r)
  .rw[jf q]at e;refine aR (rl y v' e) λu' l ru=>?_;refine(bM u' ?_<|R.mono L _ _ ru);rcases l with⟨a,b⟩|⟨a,c,o,b,d,e⟩
   .exact .inl (a,by simp[q,b])
   .exact .inr (gJ a c o b ((Q.2 c (I.loc.cells _ _ b).2.2.1).trans d) e)
 .refine cH λGq j=>?_;refine fF (I.loc.cells n c hc) λa1 a2 a3 a4 D o a5 a6=>?_;refine j ?_;exact(fG a1 a2 a3 a4 D o ((Q.2 c a3).trans a5) a6)
noncomputable def isLocal(sc:cJ)(x:aF):Bool:=sc.names.lookup x==ah .local
theorem bS.loc(X:bS F K sc d)(h:isLocal sc x=aj):F.env.kindOf x=ah .local:=by rw[X.kindOf];exact eq_of_beq h
theorem yi.name(X:bS F K sc d)(h:isLocal sc x=aj):yi F (.Name x pos) st v ((x,v)::st.loc,st.obs):=λρ P s u I r=>
 assign_Name (xn X.qj (X.loc h) I r)
theorem yi.Zj(X:bS F K sc d)(hd:3<=d)(h:isLocal sc x=aj)(h' :isLocal sc y=aj):yi F (.Tuple [.Name x px,.Name y py] k pos) st (.tup [v,w]) ((y,w)::(x,v)::st.loc,st.obs):=λρ P s u I r=>by
 refine cH λGq kq=>?_;(refine cj (qM r) λa xs m ht q=>?_;subst m);refine kq ?_;refine vk (X.pZ hd) ht (by rw[q.size];rfl) rfl λh' he=>?_;have kk:=oi he;have I' :=I.keeps (s' :={s with heap:=h'}) kk rfl rfl;refine cH λGq kq=>?_;refine cj ((RL.mono (jh kk) _ _ q).two) λace acd e G E=>?_;refine kq ?_;rw[e];refine ak<|bo<|aq (assign_Name<|xn X.qj (X.loc h) I' G) (λU D zU=>fk zU λj Q=>?_) i3;have L:jQ.Le (F.fw {s with heap:=h'} ρ P) (F.w.params,D.heap,ρ,P):=I'.toHInv.le Q λb q=>by rw[q];exact I'.loc.jV
 refine ak<|bo<|aq (assign_Name<|xn X.qj (X.loc<|by assumption) j<|R.mono L _ _ E) (λU jT zU=>fk zU λz H=>?_) i3;exact ay (z,(eH.of_keeps kk).trans<|Q.trans H)
end
end Internal
section
set_option backward.match.sparseCases true
namespace Internal
section
variable{F:Fx} {K:hJ} {sc:cJ} {d:Nat} {st st₁ aN st₃:St} {ρ cO ρ₁:List (aA×aA)} {P P' bN:aA ->Prop} {s s' a7 s₀:aS}
theorem HInv.ig{os:ey}(I:HInv w hB fr os obs ρ P s)(ap:P it)(av:¬VA ρ it)(ag:¬Grows it)(af:∀e∈fr,e.frame≠ah it)(k:∀a o,a≠it ->s.heap.get? a=ah o ->s'.heap.get? a=ah o)(hg:s'.gens=s.gens)(E:s'.os=s.os):HInv w hB fr os obs ρ (λb=>P b/\b≠it) s' :=by
 have L:jQ.Le (w.params,s.heap,ρ,P) (w.params,s'.heap,ρ,λb=>P b/\b≠it):=(rfl,λb o e n=>k b o (λq=>n<|q▸ap) e,λU U e=>e,λU q=>.inl q.1);have y:∀b o,hB.get? b=ah o ->b≠it:=λb o e q=>I.hK b o e (q▸ag)<|q▸ap;have va:∀p∈ρ,p.1≠it/\p.2≠it:=λp Q=>(λq=>av<|bM p Q<|.inl q.symm,λq=>av<|bM p Q<|.inr q.symm);refine(λb o e g=>k _ _ (y b o e)<|I.base b o e g,lN I.old λb o e=>?_,λb o e g q=>I.hK b o e g q.1,λb g=>(I.gw b g,λq=>ag<|q▸g),λb q=>?_,?_,λe H L hL=>(I.wD e H L hL,λq=>af e H<|q▸hL),I.vt,(I.view.len,λi o p e q=>?_,λp Q=>(((I.view.iV p Q).1,(va p Q).1),((I.view.iV p Q).2,(va p Q).2)),I.view.apart,I.view.gr),by rw[hg];exact I.gens,E.trans I.os)
 .obtain⟨o',z⟩:=I.old.there b o e;rw[z];exact k _ _ (y b o e) z
 .obtain⟨o,e⟩:=I.there b q.1;exact(o,k _ _ q.2 e)
 .have D:∀{l:List vK},(∀e∈l,e∈fr)->s.heap.FunFrames hB l ->s'.heap.FunFrames hB l:=by
   intro l;induction l with
   |nil=>intro _ _;trivial
   |cons e r ih=>
    intro j (hk,(L',o,m,hn,G,u),hr);exact(hk,(L',o,m,hn,k _ _ (λz=>af e (j e<|.head _)<|z▸m) G,u),ih (λx hx=>j x<|.tail _ hx) hr)
  exact D (λe H=>H) I.wB
 .have Q:=va p<|aT q;exact(I.view.at_ i o p e q).mono L (λU z=>k _ _ Q.1 z) λU z=>k _ _ Q.2 z
theorem HInv.sD{os:ey}(I:HInv w hB fr os obs ρ P s)(k:∀a o,s.heap.get? a=ah o ->s'.heap.get? a=ah o)(u:s.heap.get? b=aC)(G:∃o,s'.heap.get? b=ah o)(y:s'.gens=s.gens)(H:s'.os=s.os):HInv w hB fr os obs ρ (λa=>P a\/a=b) s' :=by
 have Q:=I.keeps k (by rw[y];exact I.gens) H;have E:∀a,(P a\/a=b)->P a\/s.heap.get? a=aC:=λa q=>q.imp id λ(q:a=b)=>by rw[q];exact u
 have L:jQ.Le (w.params,s.heap,ρ,P) (w.params,s'.heap,ρ,λa=>P a\/a=b):=(rfl,λa o e U=>k a o e,λU U e=>e,E);refine(Q.base,Q.old,λa o e g q=>?_,λa g=>.inl<|I.gw a g,λa q=>?_,Q.wB,λe j L m=>.inl<|I.wD e j L m,I.vt,(I.view.len,λi o p e q=>(I.view.at_ i o p e q).mono L (λU z=>k _ _ z) (λU z=>k _ _ z),λp D=>(.inl (I.view.iV p D).1,.inl (I.view.iV p D).2),I.view.apart,I.view.gr),Q.gens,Q.os)
 .rcases E a q with q|q
  .exact I.hK a o e g q
  .have:=I.base a o e g;rw[q]at this;cases this
 .rcases q with q|rfl
  .exact Q.there a q
  .exact G
theorem eH.sD(k:∀a o,h.get? a=ah o ->H.get? a=ah o)(Q:h.get? b=aC):eH fr kP ρ ρ P (λa=>P a\/a=b) h H:=
 (λa o e U U U U=>k a o e,λa o e U U U=>(o.slots,k a o e),λa o e=>(o,k a o e),λU U e=>e,λU q=>.inl q,λa q=>q.imp id λ(q:a=b)=>by rw[q];exact Q,λU q=>.inl q)
theorem oK.cls(h:oK σ it i v):∃o T,σ.h.get? it=ah o/\o.cls= .type T/\(["enumerate","zip","dict_itemiterator","dict_reverseitemiterator","odict_iterator","itertools.zip_longest","itertools.pairwise"].contains T)=ao:=by
 cases v with
 |lst l=>(refine aR h λa Q U=>?_;obtain⟨o,H,D,_⟩:=Q);exact(ek o _ H D 'd')
 |str y=>obtain⟨E,t,q,o,H,D,_⟩:=h;rcases q with rfl|rfl<;>exact(ek o _ H D 'd')
 |ky a b=>exact(ek _ _ h rfl 'd')
 |_=>exact h.elim
theorem Gz (G : s.heap.get? it = ah o) (D : o.cls = .type T) (u : (["enumerate", "zip", "dict_itemiterator", "dict_reverseitemiterator", "odict_iterator", "itertools.zip_longest", "itertools.pairwise"].contains T) = ao) (h : Q () s) : wpAny (model prog w) A (letOwnedTupleGo H (.ref it) v) Q E s := by
  have U : wpAny (model prog w) A (do
      let (.ref r, .ref a) := Prod.mk (cg it) v | (pure () : Sem Unit)
      let o ← load r
      match o.cls, o.data with
      | .type n, .fields vs =>
        if (["enumerate", "zip", "dict_itemiterator", "dict_reverseitemiterator", "odict_iterator", "itertools.zip_longest", "itertools.pairwise"].contains n && vs[0]? == ah (rawInt a)) = aj then
          rule "for.unpacks-the-owned-tuple"
          updateField r 0 .none
      | _, _ => pure ()) Q E s := by
    cases v with
    | ref a =>
      refine ak (vh G ?_)
      obtain ⟨cls, z, data, y⟩ := o
      simp only at D
      subst D
      cases data with
      | fields vs => simp only [u]; exact ay h
      | _ => exact ay h
    | _ => exact ay h
  cases H with
  | Tuple a b c => exact U
  | List a b => exact U
  | _ => exact ay h
theorem Fy(h:W6 F Q st q st₁)(I:Inv F st ρ P s):wpAny F.M F.A (forIn Q aj λc r=>if r=aj then do let ok<-isTrue c F.env (eval c F.env);pure (fB ok)else pure (fB r)) (PB F ρ P s.heap q st₁) E s:=by
 match Q,h with
 |[],h=>obtain⟨rfl,rfl⟩:=h;exact wpAny_tests_nil (ρ,P,rfl,I,.refl)
 |[c],h=>exact wpAny_tests_one (aq (h ρ P s I) i3 i4)
 |_::_::_,h=>exact h.elim
theorem nL{prog:jt}{w:dC}{A:fR}{R:rJ ->aS ->Prop}{elt Q iter:aW}{ifs:List aW}{scope:cJ}{pos:si}{it acc:aK}{env:vK}(I:Nat ->aS ->Prop)(turn:∀n s,I n s ->wpAny (model prog w) A (pyNext it) (λr a7=>match r with
  |none=>R (.ok .next) a7
  |some v=>wpAny (model prog w) A (letOwnedTupleGo Q it v) (λU D=>wpAny (model prog w) A (assign Q env v) (λU y=>
   wpAny (model prog w) A (forIn ifs aj λc r=>if r=aj then do let ok<-isTrue c env (eval c env);pure (fB ok)else pure (fB r)) (λok H=>
    if ok=aj then wpAny (model prog w) A (eval elt env) (λx u=>
     wpAny (model prog w) A (call (.builtin "list.append") [acc,x]) (λU G=>∃m,m<n/\I m G) (λU U=>False) u) (λU U=>False) H
    else∃m,m<n/\I m H) (λU U=>False) y) (λU U=>False) D) (λU U=>False) a7) (λU U=>False) s)(n:Nat)(h:I n s):
 codeAny (model prog w) A (.compLoop (.ListComp elt [(Q,iter,ifs,0)] scope pos) 0 it acc env) R s:=by
 refine codeAny_loop rfl I (λn s hI=>?_) n h;show wpAny _ A ((compTurn (.ListComp elt [(Q,iter,ifs,0)] scope pos) 0 it acc env).onRaise (λx=>do noteFrame x env;theTreesLotGoes x)) _ _ s;refine wpAny_noted ?_;rw[compTurn_list];refine ak<|dm<|ak<|aq (turn n s hI) (λr a7 j=>?_) λU U E=>E.elim;cases r with
 |none=>exact ay j
 |some v=>
  refine ak<|aq j (λU D Ux=>?_) λU U E=>E.elim;refine ak<|aq Ux (λU y zV=>ak<|aq zV (λok H z=>?_) λU U E=>E.elim) λU U E=>E.elim;cases ok with
  |false=>exact ay (rfl,z)
  |true=>
   exact ak<|ak<|aq z (λx u PQ=>ak<|aq PQ (λU G aav=>ay<|ay (rfl,aav)) λU U E=>E.elim) λU U E=>E.elim
theorem D2(h:oK (F.fw s ρ P) it i v)(D:Q (.ref it) s):wpAny F.M F.A (pyIter<|.ref it) Q E s:=by
 cases v with
 |lst l=>refine aR h λa H U=>?_;exact wpAny_pyIter_listiter H D
 |str y=>
  refine f7 h λu t G H=>?_;rcases G with rfl|rfl
  .exact wpAny_pyIter_striter_ascii H D
  .exact wpAny_pyIter_striter_wide H D
 |ky a b=>exact wpAny_pyIter_rangeiter h D
 |_=>exact h.elim
end
end Internal
end
namespace Internal
section
variable{F:Fx} {K:hJ} {sc:cJ} {d:Nat} {st st₁ aN st₃:St} {ρ cO ρ₁:List (aA×aA)} {P P' bN:aA ->Prop} {s s' a7 s₀:aS}
noncomputable def Fx.comp(F:Fx)(scope:cJ)(cl:List (aF×aA))(C:aA):Fx:={F with env:=compEnvC scope cl C F.env}
inductive CB (F:Fx) (ρ:List (aA×aA)) (P:aA ->Prop) (h:dR) (loc:List (aF×V)) (obs:List O) (out:List V) (acc:aK) (C:aA) (r:rJ) (s' :aS):Prop
 |mk (e:r= .ok .next) (cO:List (aA×aA)) (P' :aA ->Prop) (I:Inv F (loc,obs) cO P' s') (x:eH F.fr kP ρ cO P P' h s'.heap) (q:R (F.fw s' cO P') (.lst out) acc) (a:Apart F cO P' C) (n:h.get? C=aC) (m:∃m,s'.heap.Ns C m):CB F ρ P h loc obs out acc C r s'
inductive CmI (F G:Fx) (t:aW) (ifs:List aW) (elt:aW) (vs out:List V) (aN:St) (ρ:List (aA×aA)) (P:aA ->Prop) (h:dR) (it D:aA) (v:V) (n:Nat) (s' :aS):Prop
 |mk (cO:List (aA×aA)) (P' :aA ->Prop) (ke:St) (i:Nat) (done rest:List V) (xs:Array aK) (nn:Nat) (I:Inv G ke cO P' s') (x:eH F.fr kP ρ cO P P' h s'.heap) (a:Apart G cO P' it) (b:Apart G cO P' D) (at_:oK (F.fw s' cO P') it i v)
  (gD:s'.heap.get? D=ah (.type "list",aC,.seq xs nn,#[])) (rD:RL (F.fw s' cO P') done xs.toList) (f:iY G t ifs elt (vs.drop i) ke rest aN) (o:out=done++rest) (dl:done.length<=i) (hi:i<=vs.length) (hn:n=vs.length -i):CmI F G t ifs elt vs out aN ρ P h it D v n s'
noncomputable def f6(scope sc:cJ)(x:aF):Bool:=(sc.names.lookup x==ah .cell||sc.names.lookup x==ah .free)&&((jF scope sc).names.lookup x==ah .cell||(jF scope sc).names.lookup x==ah .free)&&scope.names.any λ(n,k)=>n==x&&k== .free
def BA(F:Fx)(scope:cJ)(cl:List (aF×aA)):Prop:=
 closureFor scope F.env=pure cl/\(∀n c,cl.lookup n=ah c ->F.env.cells.lookup n=ah c)/\∀x∈scope.names,x.2= .free ->(cl.lookup x.1).isSome=aj
theorem bS.comp{scope:cJ}(X:bS F K sc d)(Q:dT scope sc=aj)(U:BA F scope cl):bS (F.comp scope cl C) K (jF scope sc) d:=by
 unfold dT at Q;rw[aw]at Q;refine(X.kb,Cj X.scope,eq_of_beq Q.1,X.glob,X.bi,X.cx,λx u=>?_,X.top,X.lim);have y:=eD u;(refine aR (List.mem_map.mp y) λH D e=>?_;obtain⟨n,k⟩:=H);have E:=List.all_eq_true.mp Q.2 _ D;simp only[aw]at E;by_cases q:(k==oO&&sc.kind== .function&&sc.names.lookup n==ah .cell)=aj
 .simp only[q,if_true]at e;cases e;rw[aw,aw]at q;have:k= .free:=eq_of_beq q.1.1;subst this;exact U.2.2 _ D rfl
 .have z:(Prod.mk n k)=(Prod.mk x NameKind.cell):=by
   have G:(k==oO&&sc.kind== .function&&sc.names.lookup n==ah .cell)=ao:=by simpa using q
   simp only[G]at e;exact e
  cases z;have:=E.1.1;simp at this
theorem wZ{elt t iter:aW}(X:bS F K sc d)(hd:3<=d)(UD:dT scope sc=aj)(CV:BA F scope cl)(hv:itemsOf v=ah vs)(hz:ib v)(hlen:vs.length<=2^24)(aH:List (aF×V))(Hx:ef aH st₁.loc)(D8:aH.all (λp=>f6 scope sc p.1)=aj)(HA:∀C,iY (F.comp scope cl C) t ifs elt vs (aH,st₁.obs) out aN)(I:Inv F st₁ ρ P s)(r:R (F.fw s ρ P) v u):wpAny F.M F.A (pyIter u) (λit fW=>wpAny F.M F.A (newList []) (λacc Q=>wpAny F.M F.A (newFunctionEnv scope F.env.globals cl [] F.env.qual aC .none<|ah F.env) (λcenv so=>
 codeAny F.M F.A (.compStart (.ListComp elt [(t,iter,ifs,0)] scope pos) 0 it acc {cenv with scope:=relabel scope F.env}) (CB F ρ P s.heap st₁.loc aN.obs out acc cenv.locals) so) E Q) E fW) E s:=by
 have K4:=UD;unfold dT at K4;rw[aw]at K4;have HB:∀x∈scope.names,x.2≠ .cell:=λx hx q=>by have:=List.all_eq_true.mp K4.2 _ hx;obtain⟨n,k⟩:=x;simp only at q;subst q;simp at this
 refine aq (MT I hv hz r) (λw fW zU=>mq zU λob hw wy j at_=>?_) λU U z=>z;subst hw wy;refine m5<|Me HB (by intro y hy;simp at hy) (λH CT UE=>?_) (eq_of_beq K4.1);dsimp only at CT UE j at_⊢;generalize hH1:s.heap.push ob=H1 at CT UE j at_⊢;generalize Hz:s.heap.objs.size=it at at_ j⊢;have RO:s.heap.get? it=aC:=Hz▸de _;have k1:∀b o,s.heap.get? b=ah o ->H1.get? b=ah o:=hH1▸bI _ _;generalize hH2:H1.push {cls:=.type "list",dict:=aC,data:=.seq ([]:List aK).toArray}=H2 at CT UE⊢;generalize hD:H1.objs.size=D;have nD:H1.get? D=aC:=hD▸de _;have k2:∀b o,H1.get? b=ah o ->H2.get? b=ah o:=hH2▸bI _ _;have atD:H2.get? D=ah (.type "list",aC,.seq #[] 0,#[]):=by rw[<-hH2,<-hD];exact bb _ rfl
 generalize hC:H2.objs.size=C at CT UE⊢;have nC:H2.get? C=aC:=hC▸de _;have XS:∀b o,H2.get? b=ah o ->b≠C:=λb o e q=>by rw[q,nC]at e;cases e
 have k3:∀b o,H2.get? b=ah o ->H.get? b=ah o:=λb o e=>UE.extBut b o (XS b o e)<|bD _ e;have A1:=I.toHInv.sD (s' :={s with heap:=H1}) (b:=it) k1 RO (_,j) rfl rfl;have A2:=A1.sD (s' :={s with heap:=H2}) (b:=D) k2 nD (_,atD) rfl rfl;refine cH λGq kq=>?_;refine bl (id CT) λoC eC epC atC rC=>?_;refine kq ?_;have A3:=A2.sD (s' :={s with heap:=H,toks:=s.toks+([]:List (aF×aK)).length}) (b:=C) k3 nC (_,atC) rfl rfl;have S3:eH F.fr kP ρ ρ P (λa=>((P a\/a=it)\/a=D)\/a=C) s.heap H:=((eH.sD (fr:=F.fr) (ρ:=ρ) (P:=P) k1 RO).trans<|.sD k2 nD).trans<|.sD k3 nC;have L3:jQ.Le (F.fw s ρ P) (F.w.params,H,ρ,λa=>((P a\/a=it)\/a=D)\/a=C):=I.toHInv.le S3 pV;have IX:∀b,H1.get? b=aC ->s.heap.get? b=aC:=λb e=>by cases q:s.heap.get? b with|none=>rfl|some o=>rw[k1 b o q]at e;cases e
 have IW:∀b,H2.get? b=aC ->H1.get? b=aC:=λb e=>by cases q:H1.get? b with|none=>rfl|some o=>rw[k2 b o q]at e;cases e
 have XT:=IX _ nD;have nC0:=IX _<|IW _ nC;refine cH λGq kq=>?_;refine j7 (I.fresh RO) λi1 i2 i3 i4=>?_;refine j7 (I.fresh XT) λd1 d2 d3 d4=>?_;refine j7 (I.fresh nC0) λc1 c2 c3 c4=>?_;refine kq ?_;have K7:it≠D:=λq=>by rw[q]at j;rw[nD]at j;cases j
 have P2:it≠C:=XS _ _<|k2 _ _ j;have hDC:D≠C:=XS _ _ atD;have TK:∀b,Own (F.comp scope cl C).env b ->b=C\/Own F.env b:=λb q=>by
  rcases q with q|⟨n,q⟩
  .exact .inl q
  .exact .inr (.inr (n,CV.2.1 n b q))
 have LI:yg (F.w.params,H,ρ,λa=>((P a\/a=it)\/a=D)\/a=C) (F.comp scope cl C).env aH:=by
  refine aR (I.loc.ns) λm hm rl=>?_;refine((_,CT,λx w e=>?_),.inr rfl,c1,c3,λn c hc=>?_,λn n' c a b=>I.loc.inj n n' c (CV.2.1 _ _ a)<|CV.2.1 _ _ b)
  .refine aR (rl x w<|Hx.get x w e) λy l ry=>?_;refine(y,.inr ?_,R.mono L3 _ _ ry);have hk:=List.all_eq_true.mp D8 _<|eD e;simp only[f6,aw,gO,beq_iff_eq]at hk;have R3:(F.comp scope cl C).env.kindOf x=ah .cell\/(F.comp scope cl C).env.kindOf x=ah .free:=by
    show(relabel scope F.env).names.lookup x=_\/(relabel scope F.env).names.lookup x=_;rw[Cj X.scope];exact hk.1.2
   rcases l with⟨a,_⟩|⟨_,c,o,b,e',f⟩
   .rw[X.kindOf]at a;rcases hk.1.1 with q|q<;>rw[a]at q<;>cases q
   .refine cH λGq kq=>?_;(refine aR (List.any_eq_true.mp hk.2) λAQ hn hnk=>?_;obtain⟨n,kk⟩:=AQ);simp only[aw,beq_iff_eq]at hnk;(refine fk hnk λAQ tA=>?_;subst AQ;subst tA);refine eN (Option.isSome_iff_exists.mp<|CV.2.2 _ hn rfl) λc' Yg=>?_;refine kq ?_;have:=CV.2.1 _ _ Yg;rw[b]at this;cases this;exact(R3,c,o,Yg,k3 _ _<|k2 _ _<|k1 _ _ e',f)
  .refine cH λGq kq=>?_;refine fF (I.loc.cells n c<|CV.2.1 _ _ hc) λa1 a2 a3 a4 AV o a5 a6=>?_;refine kq ?_;have e5:=k2 _ _<|k1 _ _ a5;exact(.inl<|.inl<|.inl a1,a2,XS _ _ e5,a4,AV,o,k3 _ _ e5,a6)
 have IC:Inv (F.comp scope cl C) (aH,st₁.obs) ρ (λa=>((P a\/a=it)\/a=D)\/a=C) {s with heap:=H,toks:=s.toks+([]:List (aF×aK)).length}:=(A3,LI);have atI:oK (F.fw {s with heap:=H,toks:=s.toks+([]:List (aF×aK)).length} ρ (λa=>((P a\/a=it)\/a=D)\/a=C)) it 0 v:=by
  refine oK.mono (σ:=(F.w.params,H1,ρ,λa=>P a\/a=it)) (rfl,λb o e n=>k3 _ _<|k2 _ _ e,λU U e=>e,λb q=>?_) ?_ at_
  .rcases q with(q|q)|q
   .exact .inl q
   .exact .inr (q▸nD)
   .exact .inr (q▸IW _ nC)
  .show H.get? it=H1.get? it;rw[j];exact k3 _ _<|k2 _ _ j
 have AI:Apart (F.comp scope cl C) ρ (λa=>((P a\/a=it)\/a=D)\/a=C) it:=(.inl<|.inl<|.inr rfl,i1,λq=>(TK _ q).elim P2 i2,i3,i4);have AD:Apart (F.comp scope cl C) ρ (λa=>((P a\/a=it)\/a=D)\/a=C) D:=(.inl<|.inr rfl,d1,λq=>(TK _ q).elim hDC d2,d3,d4);have loop:∀Q:aS,Q={s with heap:=H,toks:=s.toks+([]:List (aF×aK)).length}->
  codeAny F.M F.A (.compLoop (.ListComp elt [(t,iter,ifs,0)] scope pos) 0 (.ref it) (.ref D) (F.comp scope cl C).env) (CB F ρ P s.heap st₁.loc aN.obs out (.ref D) C) Q:=by
  intro Q UB;subst UB;refine nL (CmI F (F.comp scope cl C) t ifs elt vs out aN ρ P s.heap it D v)
   (λn s' h=>?_) vs.length (ρ,_,_,0,[],out,#[],0,IC,S3,AI,AD,atI,k3 _ _ atD,rfl,by simpa using HA C,rfl,aJ _,bH _,rfl)
  refine cH λGq kq=>?_;obtain⟨cO,P',ke,i,done,rest,xs,nn,I',X',a',b',at',gD,rD,hF,ho,P6,hi,hn⟩:=h;refine kq ?_;cases hx:vs[i]? with
  |none=>
   refine aq (VB (F:=F.comp scope cl C) (X.pZ hd) hv hx at') (λr Q zU=>j7 zU λhr kk g3 o3=>?_) λU U z=>z;subst hr;have:vs.drop i=[]:=AN<|List.getElem?_eq_none_iff.mp hx;rw[this]at hF;refine cH λGq kq=>?_;(refine fk hF λAQ tA=>?_;subst AQ;subst tA);rw[cb]at ho;subst ho;have gD' :Q.heap.get? D=ah _:=kk _ _ (gu K7) gD;have H1' :=I'.toHInv.ig a'.p a'.v a'.g a'.f kk g3 o3;have T1:=X'.ig RO (I.nq RO) kk;have H2' :=H1'.ig (it:=D) (b'.p,gu K7) b'.v b'.g b'.f (λU U U e=>e) rfl rfl;have T2:=T1.ig XT (I.nq XT) λU U U e=>e;have I'' :Inv F (st₁.loc,_) cO _ Q:=I.after H2' T2;have cP:=I'.loc.jV;have cV:=I'.loc.lj;have cG:=I'.loc.ml;(refine aR (I'.loc.ns) λm tA U=>?_;obtain⟨mo,mes,mep,mg,mr⟩:=tA);refine kq ?_;refine(rfl,cO,_,I'',T2,?_,(((cP,gu P2),gu hDC),cV,c2,cG,c4),nC0,?_)
   .refine(D,_,xs,nn,rfl,gD',rfl,rfl,λq=>q.2 rfl,?_);refine RL.mono (σ:=F.fw s' cO P') (τ:=F.fw Q cO λb=>(P' b/\b≠it)/\b≠D) (rfl,λb o e n=>kk b o (λq=>n<|q▸a'.p) e,λU U e=>e,λU q=>.inl q.1.1) _ _ rD
   .exact(m,mo,mes,mep,kk _ _ (gu P2) mg,mr)
  |some y=>
   refine aq (MK (F:=F.comp scope cl C) hv hx a'.p at') (λr Q (w,hr,sb,ht,g3,o3,QY,r3)=>?_) λU U z=>z;subst hr;refine fk (I'.v3 a'.p a'.v a'.o a'.g a'.f (λa o ne e=>(sb.2 a ne).trans e) ht g3 o3) λjX tC=>?_;have Rl:=X'.kn tC λb q=>.inr (by rw[q];exact RO);have gD3:Q.heap.get? D=ah _:=(sb.2 D<|gu K7).trans gD;have rD3:RL ((F.comp scope cl C).fw Q cO P') done xs.toList:=RL.mono (I'.toHInv.le tC λb q=>q▸a'.p) _ _ rD;have sv:i<vs.length:=(List.getElem?_eq_some_iff.mp hx).1;have hdr:vs.drop i=y::vs.drop (i+1):=by rw[lI sv];rw[(List.getElem?_eq_some_iff.mp hx).2]
   rw[hdr]at hF;refine cH λGq kq=>?_;obtain⟨ko,aci,Ca,hA,hT,hF⟩:=hF;obtain⟨oI,TI,gI,cI,nI⟩:=QY.cls;refine kq ?_;refine Gz gI cI nI ?_;refine aq (hA cO P' Q w jX r3) (λU so zU=>fk zU λnP yM=>?_) λU U z=>z.elim;have L4:=jX.toHInv.le yM λb q=>q▸jX.loc.jV;have XR:∀{cO P'} {it:aA},Apart (F.comp scope cl C) cO P' it ->it≠(F.comp scope cl C).env.locals:=λz q=>z.o<|.inl q;have Rk:=Rl.kn yM λb q=>.inr (by rw[q];exact nC0);have Yu:=a'.step yM gI;have Yv:=b'.step yM gD3;have Yl:so.heap.get? it=ah oI:=yM.keep _ _ gI a'.v (XR a') a'.f a'.g;have gD4:=yM.keep _ _ gD3 b'.v (XR b') b'.f b'.g;have at4:=QY.mono L4 (show so.heap.get? _=Q.heap.get? _ by rw[Yl];exact gI.symm);have rD4:=RL.mono L4 _ _ rD3;refine aq (Fy (F:=F.comp scope cl C) hT nP) (λu qP zU=>zU.go λMr W9 hu qy qK=>?_) λU U z=>z;subst hu;have L5:=nP.toHInv.le qK pV;have Mb:=Rk.trans qK;have W0:=Yu.step qK Yl;have W2:=Yv.step qK gD4;have Yk:qP.heap.get? it=ah oI:=qK.keep _ _ Yl Yu.v (λq=>q) Yu.f Yu.g;have gD5:=qK.keep _ _ gD4 Yv.v (λq=>q) Yv.f Yv.g;have WL:=at4.mono L5 (show qP.heap.get? _=so.heap.get? _ by rw[Yk];exact Yl.symm);have rD5:=RL.mono L5 _ _ rD4;cases u with
   |false=>
    rw[if_neg 'd']at hF⊢;exact(vs.length -(i+1),Yn ‹_› sv,Mr,W9,Ca,i+1,done,rest,xs,nn,qy,Mb,W0,W2,WL,gD5,rD5,hF,ho,by exact ba P6,sv,rfl)
   |true=>
    rw[if_pos rfl]at hF⊢;refine cH λGq kq=>?_;obtain⟨z,S5,Tq,hE,rfl,hF⟩:=hF;refine kq ?_;refine aq (hE Mr W9 qP qy) (λuz G zU=>zU.go λyJ Jj Es yL rz=>?_) λU U z=>z.elim;have L6:=qy.toHInv.le yL pV;have Jf:=Mb.trans yL;have aI6:=W0.step yL Yk;have Ri:=W2.step yL gD5;have gI6:G.heap.get? it=ah oI:=yL.keep _ _ Yk W0.v (λq=>q) W0.f W0.g;have gD6:=yL.keep _ _ gD5 W2.v (λq=>q) W2.f W2.g;have at6:=WL.mono L6 (show G.heap.get? _=qP.heap.get? _ by rw[gI6];exact Yk.symm);have rD6:=RL.mono L6 _ _ rD5;have hs:=rD6.size;refine kJ Xj (_,gD6,rfl) Se (Xm _ _) (list_append D xs nn uz (by show _<=2^24;exact qn4 P6 sv hlen (ar hs)<|by omega)) (gD6,?_);have hsm:=gR G.heap D<|dJ λx=>x.push uz;have hat:(G.heap.update D<|dJ λx=>x.push uz).get? D=ah (.type "list",aC,.seq (xs.push uz)<|if(xs.push uz).size==xs.size then nn else nn+1,#[]):=bQ _ gD6 rfl;obtain⟨Rn,So⟩:=Es.v3 (s' :={G with heap:=G.heap.update D<|dJ λx=>x.push uz,toks:=G.toks}) Ri.p Ri.v Ri.o Ri.g Ri.f (λa o ne e=>(hsm.2 a ne).trans e) (_,hat) rfl rfl;have L7:=Es.toHInv.le So λb q=>q▸Ri.p;have abx:=Jf.kn So λb q=>.inr (by rw[q];exact XT);exact(vs.length -(i+1),Yn ‹_› sv,yJ,Jj,S5,i+1,done++[z],Tq,_,_,Rn,abx,aI6,Ri,at6.mono L7<|hsm.2 _ K7,hat,by rw[rM];exact(RL.mono L7 _ _ rD6).snoc (R.mono L7 _ _ rz),hF,by rw[ho];simp,by simp;omega,sv,rfl)
 refine codeAny_compStart_list ?_ ?_
 .exact loop _ rfl
 .exact D2 (F:=F.comp scope cl C) atI (loop _ rfl)
end
section
variable{F:Fx} {K:hJ} {sc:cJ} {d:Nat} {st st₁ aN st₃:St} {ρ cO ρ₁:List (aA×aA)} {P P' bN:aA ->Prop} {s s' a7 s₀:aS}
noncomputable def aab(scope:cJ):Bool:=scope.names.all λ(n,k)=>k != .free
noncomputable def iF(scope sc:cJ):Bool:=scope.names.all λ(n,k)=>k != .free||sc.names.lookup n==ah .cell
theorem uR(X:bS F K sc d)(h:iF scope sc=aj):∃cl,BA F scope cl:=BC λx H Q=>by have:=List.all_eq_true.mp h _ H;obtain⟨n,k⟩:=x;simp only at Q;subst Q;simp only[bne_self_eq_false,qD,beq_iff_eq]at this;exact X.cell _ this
theorem pX(h:dT scope sc=aj):scope.kind= .function/\∀x∈scope.names,x.2= .local ->scope.names.lookup x.1=ah .local:=by unfold dT at h;rw[aw]at h;refine(eq_of_beq h.1,λx U Q=>?_);have:=List.all_eq_true.mp h.2 _ U;obtain⟨n,k⟩:=x;simp only at Q;subst Q;simp only[aw]at this;have H:=this.1.2;simp at H;exact H
theorem EV.comp{elt t iter:aW}(X:bS F K sc d)(hd:3<=d)(Q:dT scope sc=aj)(hof:iF scope sc=aj)(hs:∀env x,foldedSetIterable iter env x=pure x)(he:EV F iter st v st₁)(hv:itemsOf v=ah vs)(hz:ib v)(hlen:vs.length<=2^24)(aH:List (aF×V))(G:ef aH st₁.loc)(D8:aH.all (λp=>f6 scope sc p.1)=aj)(HA:∀cl C,bS (F.comp scope cl C) K (jF scope sc) d ->iY (F.comp scope cl C) t ifs elt vs (aH,st₁.obs) out aN):EV F (.ListComp elt [(t,iter,ifs,0)] scope pos) st (.lst out) (st₁.loc,aN.obs):=λρ P s I=>by obtain⟨cl,y⟩:=uR X hof;rw[eval_ListComp];refine Eu (use:=dW) (cl:=cl) rfl (hs _) y.1 (pX Q).1 (pX Q).2<|aq (he ρ P s I) (λu a7 zU=>zU.go λρ₁ bN D z r=>?_) i4;refine aq (wZ (E:=λU U=>False) (pos:=pos) X hd Q y hv hz hlen aH G D8 (λC=>HA cl C<|X.comp Q y) D r) (λit fW zV=>aq zV (λacc jT Hs=>aq Hs (λH so j=>eR j λr s' h=>?_) i4) i4) i4;refine cH λGq kq=>?_;obtain⟨rfl,cO,P',I',x',ra,ap,nC,m,hm⟩:=h;refine kq ?_;refine(bM m hm λh' RX=>?_);have k:∀a o,a≠H.locals ->s'.heap.get? a=ah o ->h'.get? a=ah o:=λa o n e=>(RX.2 a n).trans e;have I'' :=I'.ig (s' :={s' with heap:=h'}) ap k rfl rfl;refine(cO,_,I'',z.trans<|x'.ig nC (D.nq nC) k,?_);exact R.mono (σ:=F.fw s' cO P') (τ:=F.fw {s' with heap:=h'} cO λb=>P' b/\b≠H.locals) (rfl,λb o e n=>k b o (λq=>n<|q▸ap.p) e,λU U e=>e,λU q=>.inl q.1) _ _ ra
theorem vW(X:bS F K sc d):swapsWith (.ListComp Q gens scope pos) (ah<|.Name x px) ln F.env=pure ((F.env.blockKind== .function)&&(sc.names.lookup x==ah .local)&&px.line==pos.line&& !(scope.names.any λ(n,k)=>n==x&&(k== .local||k== .cell))):=by rw[<-X.kindOf];rfl
theorem EX.Dg{G t iter:aW}(X:bS F K sc d)(hd:3<=d)(D:dT scope sc=aj)(hof:iF scope sc=aj)(hs:∀env x,foldedSetIterable iter env x=pure x)(hx:isLocal sc x=aj)(UK:(px.line==pos.line&& !(scope.names.any λ(n,k)=>n==x&&(k== .local||k== .cell)))=aj)(he:EV F iter st v st₁)(hv:itemsOf v=ah vs)(hz:ib v)(hlen:vs.length<=2^24)(aH:List (aF×V))(Hx:ef aH st₁.loc)(D8:aH.all (λp=>f6 scope sc p.1)=aj)(HA:∀cl C,bS (F.comp scope cl C) K (jF scope sc) d ->iY (F.comp scope cl C) t ifs G vs (aH,st₁.obs) out aN):EX F (.Assign [.Name x px] (.ListComp G [(t,iter,ifs,0)] scope pos) ap) st .next ((x,.lst out)::st₁.loc,aN.obs):=λρ P s I=>by
 refine eN (uR X hof) λcl CV=>?_;have hsw:swapsWith (.ListComp G [(t,iter,ifs,0)] scope pos) (ah<|.Name x px) ap.line F.env=pure aj:=by
  rw[vW X];have h1:F.env.blockKind= .function:=by unfold Sj;rw[X.qj];rfl
  unfold isLocal at hx;rw[h1,hx];rw[aw]at UK;rw[UK.1,UK.2];rfl
 rw[exec_Assign_Name_used _ _ _ _ hsw];refine ak<|dm<|ak ?_;show wpAny _ F.A (do let _<-comprehension (.ListComp G [(t,iter,ifs,0)] scope pos) scope F.env _ (newList []) ao (eval iter F.env) (ah<|mW (dg x px) F.env)) _ _ s;refine ak<|aq (Eu (use:=ah<|mW (dg x px) F.env) (Q:=λU s' =>PS F ρ P s.heap .next ((x,.lst out)::st₁.loc,aN.obs) .next s') (E:=PX F ρ P s.heap .next ((x,.lst out)::st₁.loc,aN.obs)) (cl:=cl) rfl (hs _) CV.1 (pX D).1 (pX D).2
  (aq (he ρ P s I) (λu a7 zU=>zU.go λρ₁ bN z mP r=>?_) i4)) (λU s' hq=>ay<|ay hq) λU U e=>e
 refine aq (wZ (E:=λU U=>False) (pos:=pos) X hd D CV hv hz hlen aH Hx D8 (λC=>HA cl C<|X.comp D CV) z r) (λit fW zV=>aq zV (λacc jT Hs=>aq Hs (λy so PQ=>eR PQ λr s' h=>?_) i4) i4) i4;refine cH λGq kq=>?_;obtain⟨rfl,cO,P',I',x',ra,ap,nC,m,hm⟩:=h;refine kq ?_;refine aq (assign_Name<|xn X.qj (X.loc hx) I' ra) (λU j zU=>fk zU λjj H=>?_) i3;have Mc:eH F.fr (Own F.env) cO cO P' P' s'.heap j.heap:=H.weaken λb q=>.inl q;refine cH λGq kq=>?_;refine bl hm λmo mes mep mg mr=>?_;refine kq ?_;have nO:y.locals≠F.env.locals:=λq=>ap.o<|.inl q;have mg2:=H.keep _ _ mg ap.v nO ap.f ap.g;refine(bM m (br mo mes mep mg2 mr) λh' RX=>?_);have k:∀a o,a≠y.locals ->j.heap.get? a=ah o ->h'.get? a=ah o:=λa o n e=>(RX.2 a n).trans e;have ap2:=ap.step H mg;exact(cO,_,jj.ig (s' :={j with heap:=h'}) ap2 k rfl rfl,mP.up.trans<|(x'.up.trans Mc).ig nC (z.nq nC) k,rfl)
end
theorem Cx.sub(c:Cx A fr (d+1))(hd:Q.depth<=A.depth+1)(H:Q.units<=A.units+40)(D:Q.frames=A.frames)(U:Q.handled=A.handled):Cx Q fr d:=
 (D.trans c.frames,by have:=c.depth;exact MH this hd<|by omega,by have:=c.units;exact MH this H<|by omega,λh=>U.trans<|c.handled<|by exact ba h)
section
variable{F:Fx} {K:hJ} {sc:cJ} {d:Nat} {st st₁ aN st₃:St} {ρ cO ρ₁:List (aA×aA)} {P P' bN:aA ->Prop} {s s' a7 s₀:aS}
theorem RA.shadow(r:RA σ a es)(h:a.lookup name=aC):shadowIn (ah<|dictOf es n) name=ah ao:=by
 have:=RA.find (name:=name) r;rw[h]at this;unfold shadowIn;simp only[lookIn_dict];have e:getL name es=ah aC:=by unfold getL;rw[this.1,this.2];rfl
 rw[e];rfl
theorem GM.inst(k:KB K F.hB)(H:findIn K (.ref C) "__getattribute__"=ah (ah<|.builtin "object.__getattribute__"))(m:findIn K (.ref C) "__getattr__"=ah aC)(hf:findIn K (.ref C) name=ah (ah<|.ref f))(y:typeIn K (.ref f)=ah (.type "function"))(z:objOf st o=ah (C,a))(j:a.lookup name=aC):GM F o name st (.ref f):=λpl ρ P s u I r E=>by refine cH λGq G=>?_;(refine ej (iG I z r) λx ox dx es n Q hI hd D=>?_;subst Q);refine G ?_;exact method_fn (I.rh k) hI H m hf y (D.shadow j)<|cy rfl (λU U e=>e) rfl rfl
def Dk(F:Fx)(st:St)(o:V)(name:aF)(v:V)(Q:St):Prop:=∀ρ P s u,Inv F st ρ P s ->R (F.fw s ρ P) o u ->wpAny F.M F.A (getAttr u name aj) (PV F ρ P s.heap v Q) (λU U=>False) s
theorem EV.WK{name:aF}(G:f5 Q=aj)(E:EV F Q st o st₁)(h:Dk F st₁ o name v aN):EV F (.Attribute Q name pos) st v aN:=λρ P s I=>by refine abO (aq (E ρ P s I) (λu a7 D=>D.go λρ₁ bN U H r=>aq (h ρ₁ bN a7 u U r) (λy s' z=>z.trans H) i3) i3) ?_;show(do let o<-attributeBase Q name F.env (eval Q F.env);_)=_;rw[iO G]
theorem nQ.cls(k:KB K F.hB)(Q:readsIn K C (.type "type")=aj)(e:findCls K (.ref C) (.type "type") name=ah (.val<|.str x t)):nQ F st (.val<|.ref C) name (.str x):=λρ P s u I r=>by cases r;exact cls_value (I.rh k) Q e rfl<|.tok _ kI
theorem Bg(X:K.In h)(H:makesIn K C=aj):gh F.M h (keeperOf<|.ref C) .machine:=by have Y:=makes_of (M:=F.M) X H;obtain⟨⟨oc,E,z,D,U,y,u,G⟩,Q,base,self,top,call,typ⟩:=Y;unfold keeperOf;refine(mB (part:=aC) U).andThen ?_;dsimp only;refine call.andThen ?_;exact fY (by simp)
theorem dM.make(k:KB K F.hB)(G:BS F.w F.hB)(hC:Cx F.A F.fr (d+1))(m:makesIn K C=aj)(hi:findIn K (.ref C) "__init__"=ah (ah<|.ref fI))(hf:typeIn K (.ref fI)=ah (.type "function"))(h:FN F.prog BS fI d (.ref st.obs.length::args) kw (st.obs++[.inst C []]) (.ok .none) cS):dM F (.ref C) args kw st (.ok<|.ref st.obs.length) (st.loc,cS):=λρ P s u z I ra rk=>by
 refine((bM (.machine) (.inr<|.inl rfl)<|Bg (I.rh k) m),dP ?_);obtain⟨Q,g,dr,t,os⟩:=s;refine make_core (makes_of (I.rh k) m) (ew (I.rh k) hi) (λself=>bind_fn (I.rh k) self hf) (.inl rfl) ?_;have j:((Q.push emptyDict).push<|instObj C Q.objs.size).get? (Q.objs.size+1)=ah (instObj C Q.objs.size):=by heap_get
 have E:((Q.push emptyDict).push<|instObj C Q.objs.size).get? Q.objs.size=ah emptyDict:=by heap_get
 have kp:∀b o,Q.get? b=ah o ->((Q.push emptyDict).push<|instObj C Q.objs.size).get? b=ah o:=λb o e=>bI _ _ _ _<|bI _ _ _ _ e;have n1:Q.get? (Q.objs.size+1)=aC:=by
  cases q:Q.get? (Q.objs.size+1)with
  |none=>rfl
  |some o=>exact absurd (bR q)<|Nat.not_lt.mpr<|pE _
 have n2:Q.get? Q.objs.size=aC:=de Q;obtain⟨U,D⟩:=I.grow (s' :=((Q.push emptyDict).push<|instObj C Q.objs.size,g,dr,t,os)) (p:=(Q.objs.size+1,Q.objs.size)) (o:=.inst C []) kp n1 n2 (_,j) (_,E) (mu j [] 0 E rfl) rfl rfl rfl;have L:=I.toHInv.le D pV;have y:R (F.fw (((Q.push emptyDict).push<|instObj C Q.objs.size,g,dr,t,os):aS) (ρ++[(Q.objs.size+1,Q.objs.size)]) λb=>P b\/b=Q.objs.size+1\/b=Q.objs.size) (.ref st.obs.length) (.ref<|Q.objs.size+1):=
  (bM (Q.objs.size+1,Q.objs.size) (by show(ρ++_)[_]? =_;rw[<-I.view.len];exact bW) rfl)
 have hA:Cx (F.A.under<|.builtin "type.__call__" (.ref C::u,z)) F.fr d:=hC.sub (show F.A.depth+1<=F.A.depth+1 from aJ _) (show F.A.units+1<=F.A.units+40 from iS 'd' _) rfl rfl;refine PF.SF (h F.w F.hB F.fr _ F.os _ _ _ G hA U.toHInv (.ref (Q.objs.size+1)::u) z (ek _ _ rfl y<|RL.mono L _ _ ra)<|rk.mono L) λcO P' s' H x=>?_;refine(Nz rfl (.ref st.obs.length) rfl (cO,P',?_,D.trans x,R.mono (U.toHInv.le x pV) _ _ y));exact U.after H x
end
noncomputable section
noncomputable abbrev PR:jt:=Hd.PR
noncomputable def addrs:List Nat:=[2,3,4,48,49,62,63,89,90,92,93,94,119,120,360,366,367,373,374,380,381,394,395,536,542,543,544,550,551,596,597,649,655,656,662,663,664,692,693,699,700,721,722,728,729,731,732,737,743,744,750,751,752,758,759,772,773,779,780,786,787,793,794,796,797,816,817,823,824,830,831,837,838,851,852,858,859,861,862,872,873,879,880,886,887,891,892,896,897,901,902,906,907,911,912,918,919,925,926,932,933,937,938]
noncomputable def KK(P:aB):hJ:=addrs.map λa=>(a,((Hd.tc P)[a]?).getD (.none,aC,.plain,#[]))
def BG(w:dC)(h:dR):Prop:=∀a o,(Hd.tc w.params)[a]? =ah o ->h.get? a=ah o
theorem ny{f:Nat ->gy}:∀{l:List Nat},(l.map λa=>(a,f a)).lookup a=ah o ->a∈l/\o=f a
 |[],h=>by cases h
 |b::r,h=>by
  rw[bw,cw]at h;cases q:a==b with
  |true=>rw[q]at h;cases h;have:=beq_iff_eq.mp q;subst this;exact(.head _,rfl)
  |false=>rw[q]at h;have:=ny h;exact(.tail _ this.1,this.2)
theorem Cr(P:aB):(Hd.tc P).length=939:='k'
theorem jH:addrs.all (λa=>decide (a<939)&&decide (a≠746)&&decide (a≠868))=aj:='k'
theorem oZ(x:BG w h):KB (KK w.params) h:=by
 refine(λa o e=>?_,λp U=>?_)
 ·(refine fk (ny e) λD H=>?_;subst H);have:=List.all_eq_true.mp jH a D;simp only[aw,decide_eq_true_eq]at this;have E:a<(Hd.tc w.params).length:=by rw[Cr];exact this.1.1
  refine x a _ ?_;rw[az E];rfl
 ·(refine aR (List.mem_map.mp U) λa G Q=>?_;subst Q);have:=List.all_eq_true.mp jH a G;simp only[aw,decide_eq_true_eq]at this;exact λg=>by rcases g with g|g;exact this.1.2 g;exact this.2 g
noncomputable def isS(v:Option aK)(x:aF):Bool:=match v with
 |some (.str q _)=>q==x
 |_=>ao
theorem KY(h:isS v x=aj):∃t,v=ah (.str x t):=by
 cases v with
 |none=>cases h
 |some v=>cases v with
  |str q t=>exact(t,eq_of_beq h▸rfl)
  |_=>cases h
noncomputable def Ie(o:Option gy):Option (Array aK):=match o with
 |some (_,_,.fields vs,_)=>ah vs
 |_=>aC
theorem Ac(h:Ie o=ah vs):∃c,o=ah c/\c.data= .fields vs:=by
 cases o with
 |none=>cases h
 |some o=>
  obtain⟨cl,U,d,H⟩:=o;cases d with
  |fields Q=>exact(_,rfl,congrArg XA<|dG h)
  |_=>cases h
noncomputable def codeAt(K:hJ)(c:aA)(ql:String):Bool:=match Ie (K.lookup c)with
 |some vs=>isS vs[1]? (aa ql)
 |none=>ao
theorem ow{K:hJ}(h:codeAt K c ql=aj):∃oc vs t,K.lookup c=ah oc/\oc.data= .fields vs/\vs[1]? =ah (.str (aa ql) t):=by
 unfold codeAt at h;cases e:Ie (K.lookup c)with
 |none=>rw[e]at h;cases h
 |some vs=>
  rw[e]at h;refine aR (Ac e) λo U H=>?_;refine eN (KY h) λt Q=>?_;exact(gn o vs t U H Q)
structure BS (w:dC) (hB:dR):Prop where
 says:BG w hB
 top:∃mg mb,hB.Ns mainGlobals mg/\hB.Ns builtinsNs mb/\∀x:aF,x≠"__name__"->mb x=bootBuiltins x
 lim:hB.NoLimit
noncomputable def eA:cn ->List cn
 | .FunctionDef _ _ b _ _ _ _ _ _ _=>b
 |_=>[]
noncomputable def aQ:cn ->cJ
 | .FunctionDef _ _ _ _ _ _ sc _ _ _=>sc
 |_=>default
noncomputable def CO:cn ->Bool
 | .FunctionDef .. =>aj
 |_=>ao
theorem xX{st:cn}(h:CO st=aj):(Hd.Br st ql gl df kd pm cd).body= .stmts (eA st)/\(Hd.Br st ql gl df kd pm cd).scope=aQ st/\(Hd.Br st ql gl df kd pm cd).closure=[]/\
 (Hd.Br st ql gl df kd pm cd).globals=gl/\(Hd.Br st ql gl df kd pm cd).builtins=builtinsNs/\(Hd.Br st ql gl df kd pm cd).code=cd/\(Hd.Br st ql gl df kd pm cd).qualname=aa ql:=by
 cases st<;>first|exact(jG rfl rfl rfl rfl rfl rfl rfl)|cases h
noncomputable abbrev dB:=FN PR BS
theorem FN.cu{f c:aA}{d:Nat}{st:cn}{ql:String}{df kd pm:aK}{args:List V}{kw ab:List (aF×V)}{obs cS:List O}{v:Oc}(hl:∀P,(KK P).lookup f=ah (Hd.iN st ql df kd pm<|.ref c))(hc:∀P,codeAt (KK P) c ql=aj)(hd:(CO st&&((aQ st).kind== .function)&& !(aQ st).isCoroutine&& !(aQ st).isGenerator&&ab.all (λx=>(aQ st).names.lookup x.1==ah .local||(aQ st).names.lookup x.1==ah .cell)&&decide ((ab.map (·.1)).Nodup)&&decide (f≠746)&&decide (f≠868))=aj)(hb:∀P σ us E,RL σ args us ->RB σ kw E ->∃binds,(∀S,peek (KK P) S (bindArgs (Hd.Br st ql 3 df kd pm<|.ref c) (us,E))=ah binds)/\RB σ ab binds)(h:∀F,F.prog=PR ->BS F.w F.hB ->bS F (KK F.w.params) (aQ st) d ->sd F ->∃fl Q,dc F (eA st) (ab,obs) fl Q/\fl.oc=v/\Q.obs=cS):dB f (d+1) args kw obs v cS:=by
 simp only[aw,dk,decide_eq_true_eq,beq_iff_eq]at hd;refine cH λGq y=>?_;(refine fk hd λu h8=>?_;obtain⟨⟨⟨⟨⟨⟨h1,m⟩,h3⟩,h4⟩,h5⟩,h6⟩,h7⟩:=u);refine uO (xX (ql:=ql) (gl:=3) (df:=df) (kd:=kd) (pm:=pm) (cd:=.ref c) h1) λb1 b2 b3 b4 b5 b6 b7=>?_;refine y ?_;have H:∀{a P} {o:gy},(KK P).lookup a=ah o ->¬Grows a:=λe=>by refine fk (ny e) λhm U=>?_;have:=List.all_eq_true.mp jH _ hm;simp only[aw,decide_eq_true_eq]at this;exact λg=>by rcases g with g|g;exact this.1.2 g;exact this.2 g
 have gf:¬Grows f:=λg=>by rcases g with g|g;exact h7 g;exact h8 g
 have j:∀x∈ab.map (·.1),(aQ st).names.lookup x=ah .local\/(aQ st).names.lookup x=ah .cell:=λx hx=>by (refine aR (List.mem_map.mp hx) λp z G=>?_;subst G);have:=List.all_eq_true.mp h5 p z;simpa using this
 refine FN.of_body (sc:=aQ st) (ab:=ab) (body:=eA st) (λw hB D=>?_) gf h6 j m h3 h4 λF z X=>?_
 .have kb:=oZ D.says;refine cH λGq y=>?_;refine ji (ow<|hc w.params) λoc vs t e1 e2 e3=>?_;refine y ?_;refine(_,_,kb.vr _ _<|hl w.params,rfl,b1,b2,b3,b4,b5,(c,oc,vs,t,b6,kb.vr _ _ e1,e2,by rw[b7];exact e3,H e1),D.lim,λs us E par ρ P hk ra rk=>?_);refine aR (hb w.params _ us E ra rk) λbinds h1 m=>?_;have X:(KK w.params).In s.heap:=λa o e=>hk a o (kb.vr a o e)<|H e;exact(bM binds (kp_binds X h1) m)
 .have kb:=oZ X.bs.says;refine uM (h F z X.bs (kb,X.scope,X.kind,X.glob,X.bi,X.cx,X.cell,X.bs.top,X.bs.lim) (X.frame,X.fr)) λfl Q q=>?_;exact(Lw fl Q q)
theorem aaR(P:aB):(KK P).lookup 63=ah (Hd.iN (Hd.f0 4) "_index" .none .none (.str (aa "io") 371)<|.ref 62):='k'
theorem abh(P:aB):codeAt (KK P) 62 "_index"=aj:='k'
theorem aaQ(P:aB):(KK P).lookup 90=ah (Hd.iN (Hd.f1 6 1) "IOBase.__new__" .none .none (.str (aa "io") 371)<|.ref 89):='k'
theorem abg(P:aB):codeAt (KK P) 89 "IOBase.__new__"=aj:='k'
theorem Vw(P:aB):(KK P).lookup 367=ah (Hd.iN (Hd.f1 10 1) "StringIO.__init__" (.ref 360) .none (.str (aa "io") 371)<|.ref 366):='k'
theorem Wt(P:aB):codeAt (KK P) 366 "StringIO.__init__"=aj:='k'
theorem Vv(P:aB):(KK P).lookup 374=ah (Hd.iN (Hd.f1 10 2) "StringIO.__translated" .none .none (.str (aa "io") 371)<|.ref 373):='k'
theorem Ws(P:aB):codeAt (KK P) 373 "StringIO.__translated"=aj:='k'
theorem Vu(P:aB):(KK P).lookup 381=ah (Hd.iN (Hd.f1 10 3) "StringIO.__check" .none .none (.str (aa "io") 371)<|.ref 380):='k'
theorem Wr(P:aB):codeAt (KK P) 380 "StringIO.__check"=aj:='k'
theorem Nt(P:aB):(KK P).lookup 395=ah (Hd.iN (Hd.f1 10 5) "StringIO.__line" .none .none (.str (aa "io") 371)<|.ref 394):='k'
theorem NH(P:aB):codeAt (KK P) 394 "StringIO.__line"=aj:='k'
theorem Nr(P:aB):(KK P).lookup 543=ah (Hd.iN (Hd.f1 10 25) "StringIO.read" (.ref 536) .none (.str (aa "io") 371)<|.ref 542):='k'
theorem NG(P:aB):codeAt (KK P) 542 "StringIO.read"=aj:='k'
theorem Vt(P:aB):(KK P).lookup 551=ah (Hd.iN (Hd.f1 10 26) "StringIO.readline" (.ref 544) .none (.str (aa "io") 371)<|.ref 550):='k'
theorem Wq(P:aB):codeAt (KK P) 550 "StringIO.readline"=aj:='k'
theorem Vs(P:aB):(KK P).lookup 656=ah (Hd.iN (Hd.f1 20 0) "shlex.__init__" (.ref 649) .none (.str (aa "cpy313.shlex") 1087)<|.ref 655):='k'
theorem Wo(P:aB):codeAt (KK P) 655 "shlex.__init__"=aj:='k'
theorem Vr(P:aB):(KK P).lookup 663=ah (Hd.iN (Hd.f1 20 1) "shlex.punctuation_chars" .none .none (.str (aa "cpy313.shlex") 1087)<|.ref 662):='k'
theorem Wn(P:aB):codeAt (KK P) 662 "shlex.punctuation_chars"=aj:='k'
theorem Ic(P:aB):(KK P).lookup 693=ah (Hd.iN (Hd.f1 20 5) "shlex.get_token" .none .none (.str (aa "cpy313.shlex") 1087)<|.ref 692):='k'
theorem ID(P:aB):codeAt (KK P) 692 "shlex.get_token"=aj:='k'
theorem Nq(P:aB):(KK P).lookup 700=ah (Hd.iN (Hd.f1 20 6) "shlex.read_token" .none .none (.str (aa "cpy313.shlex") 1087)<|.ref 699):='k'
theorem NF(P:aB):codeAt (KK P) 699 "shlex.read_token"=aj:='k'
theorem Vq(P:aB):(KK P).lookup 722=ah (Hd.iN (Hd.f1 20 9) "shlex.__iter__" .none .none (.str (aa "cpy313.shlex") 1087)<|.ref 721):='k'
theorem Wm(P:aB):codeAt (KK P) 721 "shlex.__iter__"=aj:='k'
theorem Ib(P:aB):(KK P).lookup 729=ah (Hd.iN (Hd.f1 20 10) "shlex.__next__" .none .none (.str (aa "cpy313.shlex") 1087)<|.ref 728):='k'
theorem IB(P:aB):codeAt (KK P) 728 "shlex.__next__"=aj:='k'
theorem Vp(P:aB):(KK P).lookup 744=ah (Hd.iN (Hd.f0 21) "split" (.ref 737) .none (.str (aa "cpy313.shlex") 1087)<|.ref 743):='k'
theorem Wk(P:aB):codeAt (KK P) 743 "split"=aj:='k'
theorem Vo(P:aB):(KK P).lookup 751=ah (Hd.iN (Hd.f0 22) "join" .none .none (.str (aa "cpy313.shlex") 1087)<|.ref 750):='k'
theorem Wj(P:aB):codeAt (KK P) 750 "join"=aj:='k'
theorem Np(P:aB):(KK P).lookup 759=ah (Hd.iN (Hd.f0 25) "quote" .none .none (.str (aa "cpy313.shlex") 1087)<|.ref 758):='k'
theorem Wi(P:aB):codeAt (KK P) 758 "quote"=aj:='k'
theorem Vn(P:aB):(KK P).lookup 773=ah (Hd.iN (Hd.f1 27 0) "NannyNag.__init__" .none .none (.str (aa "cpy313.tabnanny") 1255)<|.ref 772):='k'
theorem Wh(P:aB):codeAt (KK P) 772 "NannyNag.__init__"=aj:='k'
theorem Vm(P:aB):(KK P).lookup 780=ah (Hd.iN (Hd.f1 27 1) "NannyNag.get_lineno" .none .none (.str (aa "cpy313.tabnanny") 1255)<|.ref 779):='k'
theorem Wg(P:aB):codeAt (KK P) 779 "NannyNag.get_lineno"=aj:='k'
theorem Vl(P:aB):(KK P).lookup 787=ah (Hd.iN (Hd.f1 27 2) "NannyNag.get_msg" .none .none (.str (aa "cpy313.tabnanny") 1255)<|.ref 786):='k'
theorem Wf(P:aB):codeAt (KK P) 786 "NannyNag.get_msg"=aj:='k'
theorem Vk(P:aB):(KK P).lookup 794=ah (Hd.iN (Hd.f1 27 3) "NannyNag.get_line" .none .none (.str (aa "cpy313.tabnanny") 1255)<|.ref 793):='k'
theorem We(P:aB):codeAt (KK P) 793 "NannyNag.get_line"=aj:='k'
theorem Vj(P:aB):(KK P).lookup 817=ah (Hd.iN (Hd.f1 28 1) "Whitespace.__init__" .none .none (.str (aa "cpy313.tabnanny") 1255)<|.ref 816):='k'
theorem Wd(P:aB):codeAt (KK P) 816 "Whitespace.__init__"=aj:='k'
theorem Vi(P:aB):(KK P).lookup 824=ah (Hd.iN (Hd.f1 28 2) "Whitespace.longest_run_of_spaces" .none .none (.str (aa "cpy313.tabnanny") 1255)<|.ref 823):='k'
theorem Wc(P:aB):codeAt (KK P) 823 "Whitespace.longest_run_of_spaces"=aj:='k'
theorem Vh(P:aB):(KK P).lookup 831=ah (Hd.iN (Hd.f1 28 3) "Whitespace.indent_level" .none .none (.str (aa "cpy313.tabnanny") 1255)<|.ref 830):='k'
theorem Wb(P:aB):codeAt (KK P) 830 "Whitespace.indent_level"=aj:='k'
theorem Vg(P:aB):(KK P).lookup 838=ah (Hd.iN (Hd.f1 28 4) "Whitespace.equal" .none .none (.str (aa "cpy313.tabnanny") 1255)<|.ref 837):='k'
theorem Wa(P:aB):codeAt (KK P) 837 "Whitespace.equal"=aj:='k'
theorem Ia(P:aB):(KK P).lookup 852=ah (Hd.iN (Hd.f1 28 6) "Whitespace.less" .none .none (.str (aa "cpy313.tabnanny") 1255)<|.ref 851):='k'
theorem Iz(P:aB):codeAt (KK P) 851 "Whitespace.less"=aj:='k'
theorem Vf(P:aB):(KK P).lookup 859=ah (Hd.iN (Hd.f1 28 7) "Whitespace.not_less_witness" .none .none (.str (aa "cpy313.tabnanny") 1255)<|.ref 858):='k'
theorem V'(P:aB):codeAt (KK P) 858 "Whitespace.not_less_witness"=aj:='k'
theorem Ve(P:aB):(KK P).lookup 873=ah (Hd.iN (Hd.f0 29) "format_witnesses" .none .none (.str (aa "cpy313.tabnanny") 1255)<|.ref 872):='k'
theorem VZ(P:aB):codeAt (KK P) 872 "format_witnesses"=aj:='k'
theorem Vd(P:aB):(KK P).lookup 880=ah (Hd.iN (Hd.f0 31) "_law_columns" .none .none (.str (aa "law_mq0429_01") 1423)<|.ref 879):='k'
theorem VY(P:aB):codeAt (KK P) 879 "_law_columns"=aj:='k'
theorem Vc(P:aB):(KK P).lookup 887=ah (Hd.iN (Hd.f0 32) "_law_turned" .none .none (.str (aa "law_mq0429_01") 1423)<|.ref 886):='k'
theorem VX(P:aB):codeAt (KK P) 886 "_law_turned"=aj:='k'
theorem H7(P:aB):(KK P).lookup 892=ah (Hd.iN (Hd.f0 33) "_law_spelled" .none .none (.str (aa "law_mq0429_01") 1423)<|.ref 891):='k'
theorem Iy(P:aB):codeAt (KK P) 891 "_law_spelled"=aj:='k'
theorem Vb(P:aB):(KK P).lookup 897=ah (Hd.iN (Hd.f0 34) "_law_plain" .none .none (.str (aa "law_mq0429_01") 1423)<|.ref 896):='k'
theorem VW(P:aB):codeAt (KK P) 896 "_law_plain"=aj:='k'
theorem Nn(P:aB):(KK P).lookup 902=ah (Hd.iN (Hd.f0 35) "_law_row" .none .none (.str (aa "law_mq0429_01") 1423)<|.ref 901):='k'
theorem ND(P:aB):codeAt (KK P) 901 "_law_row"=aj:='k'
theorem Nm(P:aB):(KK P).lookup 907=ah (Hd.iN (Hd.f0 36) "_law_left" .none .none (.str (aa "law_mq0429_01") 1423)<|.ref 906):='k'
theorem NC(P:aB):codeAt (KK P) 906 "_law_left"=aj:='k'
theorem Va(P:aB):(KK P).lookup 912=ah (Hd.iN (Hd.f0 37) "_law_complaint" .none .none (.str (aa "law_mq0429_01") 1423)<|.ref 911):='k'
theorem VV(P:aB):codeAt (KK P) 911 "_law_complaint"=aj:='k'
theorem U'(P:aB):(KK P).lookup 919=ah (Hd.iN (Hd.f0 38) "_law_built" .none .none (.str (aa "law_mq0429_01") 1423)<|.ref 918):='k'
theorem VU(P:aB):codeAt (KK P) 918 "_law_built"=aj:='k'
theorem H6(P:aB):(KK P).lookup 926=ah (Hd.iN (Hd.f0 39) "_law_judged" .none .none (.str (aa "law_mq0429_01") 1423)<|.ref 925):='k'
theorem Iw(P:aB):codeAt (KK P) 925 "_law_judged"=aj:='k'
theorem U9(P:aB):(KK P).lookup 933=ah (Hd.iN (Hd.f0 40) "_law_read" .none .none (.str (aa "law_mq0429_01") 1423)<|.ref 932):='k'
theorem VT(P:aB):codeAt (KK P) 932 "_law_read"=aj:='k'
theorem U8(P:aB):(KK P).lookup 938=ah (Hd.iN (Hd.f0 41) "law" .none .none (.str (aa "law_mq0429_01") 1423)<|.ref 937):='k'
theorem VS(P:aB):codeAt (KK P) 937 "law"=aj:='k'
end
def SEQ(F:Fx)(f:FV)(r:List cn)(st:St)(fl:FV)(Q:St):Prop:=match f with
 | .next=>dc F r st fl Q
 |f=>fl=f/\Q=st
namespace W
section
variable{F:Fx} {K:hJ} {sc:cJ} {d:Nat} {st st₁ aN st₃ ko:St} {l:List (aF×V)} {o fi me oH:List O}
theorem cons{x:cn}{r:List cn}{f fl:FV}(Q:EX F x st f st₁)(H:SEQ F f r st₁ fl aN):dc F (x::r) st fl aN:=by
 cases f with
 |next=>exact dc.cons Q H
 |brk=>obtain⟨rfl,rfl⟩:=H;exact dc.stop Q rfl
 |cont=>obtain⟨rfl,rfl⟩:=H;exact dc.stop Q rfl
 |ret v=>obtain⟨rfl,rfl⟩:=H;exact dc.stop Q rfl
 |exc x=>obtain⟨rfl,rfl⟩:=H;exact dc.stop Q rfl
theorem asg(X:bS F K sc d)(Q:dp sc x=aj)(U:gm e=aj)(H:EV F e (l,o) v (l,fi)):EX F (.Assign [.Name x px] e pos) (l,o) .next ((x,v)::l,fi):=
 let⟨_,_,O,_⟩:=X.ok;EX.assign O (X.store Q) H U
theorem aug(X:bS F K sc d)(H:dp sc x=aj)(U:bV x=aj)(E:l.lookup x=ah a)(G:EV F e (l,o) b (l,fi))(D:ES F (l,fi) Q a b c):EX F (.AugAssign (.Name x px) Q e pos) (l,o) .next ((x,c)::l,fi):=
 let⟨_,_,O,_⟩:=X.ok;EX.aug O (X.store H) E (bV.C7 U).2.1 G D
theorem fn{BS:dC ->dR ->Prop}(X:bS F K sc (e+d))(D:F.prog=PR)(hB:BS F.w F.hB)(E:(K.lookup f).any (λo=>match o.data with| .func _=>aj|_=>ao)=aj)(h:FN PR BS f e args U o v fi):dM F (.ref f) args U (l,o) v (l,fi):=by obtain⟨Q,H,u⟩:=vF E;have G:Cx F.A F.fr e:=(X.cx.frames,by have:=X.cx.depth;exact qU this<|by omega,by have:=X.cx.units;exact qU this<|by omega,λh=>X.cx.handled<|by exact j5 h (by omega));refine dM.fn (BS:=BS) hB G (D▸h) (Q,?_)<|X.kb.no _<|Inv.rh.mj H;obtain⟨_,_,y,_⟩:=Q;cases y<;>first|exact(_,X.kb.vr _ _ H,rfl)|cases u
theorem make(X:bS F K sc (e+1+d))(U:F.prog=PR)(hB:BS F.w F.hB)(D:makesIn K C=aj)(hi:findIn K (.ref C) "__init__"=ah (ah<|.ref Q))(E:typeIn K (.ref Q)=ah (.type "function"))(h:FN PR BS Q e (.ref o.length::args) H (o++[.inst C []]) (.ok .none) cS):dM F (.ref C) args H (l,o) (.ok<|.ref o.length) (l,cS):=by have G:Cx F.A F.fr (e+1):=(X.cx.frames,by have:=X.cx.depth;exact qU this<|by omega,by have:=X.cx.units;exact qU this<|by omega,λh=>X.cx.handled<|by exact j5 h (by omega));exact dM.make (st:=(l,o)) X.kb hB G D hi E<|U▸h
theorem neg(h:EV F x st (.int i) st₁):EV F (.UnaryOp .USub x pos) st (.int (-i)) st₁:=λρ P s I=>by refine UnaryOp_ (aq (h ρ P s I) (λu D G=>G.go λU E H Q r=>?_) i3);obtain⟨t,rfl⟩:=r;exact YE<|PV.trans Q<|(PK.tok (F:=F) _ iX).pv H
theorem LW(X:bS F K sc d)(y:gm e=aj)(H:EV F e (l,o) v (l,fi))(u:EV F ob (l,fi) (.ref i) (l,me))(c:Jo K C)(U:takerIn K C name=ah dW)(G:me[i]? =ah (.inst C a))(E:kz name v a=Q)(hz:fX Q.length 1000=aj)(D:me.set i (.inst C Q)=oH):EX F (.Assign [.Attribute ob name z] e pos) (l,o) .next (l,oH):=by subst E D;exact EX.asg rfl y (ia rfl) H<|sJ.attr X u c U G<|ae hz
theorem yc(X:bS F K sc d)(k:Jo K C)(G:takerIn K C name=ah dW)(j:EV F ob (l,o) (.ref i) (l,fi))(D:nQ F (l,fi) (.ref i) name w)(E:EV F e (l,fi) v (l,me))(Q:ES F (l,me) U w v c)(z:me[i]? =ah (.inst C a))(y:kz name c a=H)(hz:fX H.length 1000=aj)(u:me.set i (.inst C H)=oH):EX F (.AugAssign (.Attribute ob name m) U e pos) (l,o) .next (l,oH):=by subst y u;exact EX.yc X k G j D E Q z<|ae hz
theorem LU{i j:Nat}(X:bS F K sc d)(u:lP U=aj)(m:gm e=aj)(D:EV F e (l,o) v (l,fi))(z:EV F ob (l,fi) (.ref i) (l,me))(hi:EV F U (l,me) (.int c) (l,oH))(H:c=(j:Int))(G:oH[i]? =ah (.list xs))(y:j<xs.length)(hz:xs.length<=2^24)(E:oH.set i (.list<|xs.set j v)=Q):EX F (.Assign [.Subscript ob U tp] e pos) (l,o) .next (l,Q):=by subst E H;exact EX.asg rfl m (ia rfl) D<|sJ.item u z hi G y hz
end
end W
section
variable{F:Fx} {K:hJ} {sc:cJ} {d:Nat} {st st₁ aN st₃ ko:St} {l:List (aF×V)} {o fi me oH:List O}
theorem GM.split:GM F (.str x) "split" st (.builtin "str.split"):=GM.str jk PySem.F.type_str_split
theorem GM.join:GM F (.str x) "join" st (.builtin "str.join"):=GM.str js mX
theorem GM.strip:GM F (.str x) "strip" st (.builtin "str.strip"):=GM.str PySem.F.slot_str_strip PySem.F.type_str_strip
theorem GM.count:GM F (.str x) "count" st (.builtin "str.count"):=GM.str PySem.F.slot_str_count PySem.F.type_str_count
theorem GM.find:GM F (.str x) "find" st (.builtin "str.find"):=GM.str yz PySem.F.type_str_find
theorem dO.aaW:dO F st .Eq (.str x) .none ao:=λρ P s D U I H Q=>by obtain⟨t,rfl⟩:=H;cases Q;exact EqNone.eq_str_none<|.tok s.toks eV
theorem dO.aaX:dO F st .Eq .none (.str x) ao:=λρ P s D U I H Q=>by obtain⟨t,rfl⟩:=Q;cases H;exact EqNone.eq_none_str<|.tok s.toks eV
theorem dO.aaY:dO F st .Eq .none .none aj:=λρ P s D U I H Q=>by cases Q;cases H;exact EqNone.eq_none_none<|.tok s.toks eV
theorem dO.inT(z:F.A.units+64<cLine)(m:b.data=ah (.tuple xs))(j:a.data=ah Q)(c1:cT xs=aj)(c2:Q.canLay0=aj)(hd:min (dw xs) Q.depth<=60):dO F st .In a b (xs.any λy=>bA y Q):=λρ P s E D I u G=>by obtain⟨as,U⟩:=R.reads b D _ G m;obtain⟨bs,H⟩:=R.reads a E _ u j;exact SeqAt.in_tuple_reads U H c1 c2 (by exact MH hd z (by omega)) (.tok s.toks eV)
theorem lG.pow10{k:Nat}(h:k<=100):lG F st .Pow (.int 10) (.int k) (.int<|10^k):=λρ P s G E I H Q=>by
 obtain⟨t,rfl⟩:=H;obtain⟨u,rfl⟩:=Q;by_cases U:k=0
 .subst U;exact abZ 'd' 'd' (by exact .tok _ iX)
 .refine abY (by exact aL _) (by simp;omega) 'd' 'd' ?_ ?_
  .have D:mZ 10=4:=by decide+kernel
   rw[D];unfold abN;have y:(400:Int)<=PySem.bitsLine:=by decide+kernel
   simp only[decide_eq_true_eq]
   push_cast
   lia
  .rw[gY];exact .tok _ iX
noncomputable def As(x y:aF)(i j:Int):Int:=match occurrences x y (fromIndex x.length i) (min (fromIndex x.length j) x.length) 1 with|k::_=>(k:Int)|[]=>-1
theorem qc(x y:aF)(i j:Int)(t u v q:Tok):Gives («str.find» ([.str x t,.str y u,.int i v,.int j q],[])) (.int<|As x y i j):=by
 show Gives (match occurrences x y (fromIndex x.length i) (min (fromIndex x.length j) x.length) 1 with|k::_=>retInt k|[]=>(do rule "str.find.not-found";retInt (-1))) _;unfold As;cases occurrences x y (fromIndex x.length i) (min (fromIndex x.length j) x.length) 1 with
 |nil=>exact .rule (.of_eq rfl)
 |cons k _=>exact .of_eq rfl
theorem BI.Vy:BI F st (.builtin "str.find") [.str x,.str y,.int i,.int j] (.int<|As x y i j):=λρ P s G I r=>by obtain⟨_,_,rfl,⟨t,rfl⟩,_,_,rfl,⟨u,rfl⟩,E⟩:=r;(refine oo (RL.two E) λU U D H w Q=>?_;subst D;obtain⟨v,rfl⟩:=H;subst Q);exact call_gives yz (fQ _ _ _) PySem.F.entry_str_find (PySem.F.args_str_find_4 _ _ _ _) (qc x y i j t u v w)<|.tok _ iX
def BK(F:Fx)(e:aW)(st:St)(v:V)(Q:St):Prop:=
 ∀ρ P s,Inv F st ρ P s ->0<s.toks ->wpAny F.M F.A (eval e F.env) (λu H=>PV F ρ P s.heap v Q u H/\0<H.toks) (λU U=>False) s
theorem BK.loc(X:bS F K sc d)(j:st.loc.lookup x=ah v)(hp:bV x=aj):BK F (.Name x pos) st v st:=λρ P s I G=>by
 refine cH λGq z=>?_;refine f7 (X.ok) λU U O U=>?_;refine vC (bV.C7 hp) λhd hc U=>?_;refine aR (I.loc.ns) λm hn r=>?_;refine aR (r x v j) λu l E=>?_;refine z ?_;refine vi ?_ hd;rcases l with⟨Q,hm⟩|⟨Q,c,o,D,y,H⟩
 .exact gg O.kind Q hn hm ((PK.tok (F:=F) s.toks E).pv I,G)
 .rcases Q with Q|Q
  .exact sM O.kind Q D (bM o y H) ((PK.tok (F:=F) s.toks E).pv I,G)
  .exact sL O.kind Q D (bM o y H) ((PK.tok (F:=F) s.toks E).pv I,G) hc
theorem zg(hu:u≠0)(hv:v≠0)(G:u≠v)(D:(y==z)=ao)(hb:x.length+(x.length+1)*z.length<=16777216)(hq:∀m k,s.toks<=k ->Q (.str (bX x y z) m) {s with toks:=k}):wpAny (model prog w) A (call (.builtin "str.replace") [.str x t,.str y u,.str z v]) Q E s:=by
 have hl:tooLong (x.length+(occurrences x y 0 x.length<|x.length+1).length*z.length)=ao:=by have h1:=jr x y 0 x.length<|x.length+1;have h2:(occurrences x y 0 x.length<|x.length+1).length*z.length<=(x.length+1)*z.length:=dy _ h1;unfold tooLong sizeLine;exact decide_eq_false (by omega)
 refine call_gives lz (fQ _ _ _) PySem.F.entry_str_replace (PySem.F.args_str_replace_3 _ _ _)
  (gives_str_replace x y z t u v λU=>(cy (by simp[hu,hv]) (by simp[G]) D hl)) ?_
 have H:=hq;unfold bX at H;cases j:((occurrences x y 0 x.length<|x.length+1).isEmpty||(y.length==0&&z.length==0))
 .rw[j]at H;simp only[cQ,if_false]at H⊢;exact(fits_replaced y hb,H _ _<|pE _)
 .rw[j]at H;simp only[if_true]at H⊢;exact H t s.toks<|aJ _
theorem BK.Gf(hb:f5 ob=aj)(U:(H.endLine==pos.line)=aj)(he:BK F ob st (.str x) st₁)(hyz:(y==z)=ao)(hl:x.length+(x.length+1)*z.length<=16777216):BK F (.Call (.Attribute ob "replace" H) [.Constant (.str y) k1 p1,.Constant (.str z) k2 p2] [] pos) st (.str<|bX x y z) st₁:=λρ P s I ht=>by
 have G:methodCallPos aj ob F.env H pos=pure pos:=by unfold methodCallPos;simp[U]
 rw[nR,iO hb];refine ak<|aq (he ρ P s I ht) (λw Q ((m,bN,j,D,E),h1)=>?_) i4;obtain⟨t,rfl⟩:=E;refine ak<|dm ?_;unfold methodCall;rw[show methodCallForm (([fZ (jP y) k1 p1,fZ (jP z) k2 p2]:List aW).length+([]:List iu).length) (backTo pos<|starEach [.Constant (.str y) k1 p1,.Constant (.str z) k2 p2] F.env) (backToKw pos<|keywordEach [] F.env)=aj from rfl];refine ak<|bo ?_;refine jY (id:="str.replace") (fQ _ _ _) gq lz vG kl ?_;refine ak<|m4 G ?_;refine jC (P:=λh=>gh F.M h (keeperOf<|.builtin "str.replace") .machine) rfl (λh z=>(bM _ (.inr<|.inl rfl) z)) ?_;refine iQ rfl<|cA ?_;show wpAny _ _ (eval (.Constant (.str y) k1 p1) F.env) _ _ _;refine dZ<|cA ?_;show wpAny _ _ (eval (.Constant (.str z) k2 p2) F.env) _ _ _;refine dZ<|d6<|er ?_;refine(eZ rfl,?_);refine zg (u:=Q.toks) (v:=Q.toks+1) (by show Q.toks≠0;exact nS h1) (by show Q.toks+1≠0;exact λk=>RM (ar k)<|by omega) (by show Q.toks≠Q.toks+1;exact λk=>RM (ar k.symm)<|by omega) hyz hl λt' k hk=>(?_,?_)
 .exact PV.trans D ((PK.tok (F:=F) (v:=.str<|bX x y z) k kI).pv j)
 .show 0<k;have:Q.toks+1+1<=k:=hk;exact qU this (by omega)
theorem EV.Je(j:BK F e st (.str y) st₁)(h:x.length+y.length<=2^24):EV F (.BinOp (.Constant (.str x) k p) .Add e pos) st (.str<|x++y) st₁:=λρ P s I=>by refine iP (dZ ?_);have m:=I.keeps (s' :={s with toks:=s.toks+1}) (λU U e=>e) rfl rfl;refine aq (j ρ P _ m<|eJ _) (λu E ((D,G,H,Q,t,z),_)=>?_) i3;subst z;exact add_str (λt k=>PV.trans Q<|(PK.tok (F:=F) k kI).pv H) h
theorem LJ:bootBuiltins "len"=ah (.builtin "len"):='k'
theorem LG:bootBuiltins "str"=ah (.type "str"):='k'
theorem uX:bootBuiltins "ValueError"=ah (.type "ValueError"):='k'
end
section
variable(P:aB)
theorem D' :nsIn (KK P) mainGlobals "quote"=ah (ah<|.ref 759):='k'
end
theorem tZ(f:Q ->H)(l:List Q)(lo hi sp:Option Int):pick (l.map f) lo hi sp=(pick l lo hi sp).map f:=by unfold pick;rw[ax,List.map_filterMap];congr 1;funext i;rw[bF]
theorem Ab{Q:Type}(l:List Q)(a k:Nat):((aE k).map (a+·)).filterMap (l[·]?)=(l.drop a).take k:=by have:=pick_run l.toArray a k;simp only[jN]at this;exact this
theorem lM(l:List Q)(lo hi:Option Int):pick l lo hi aC=(l.drop<|lo.elim 0<|clipAt l.length).take (hi.elim l.length (clipAt l.length) -lo.elim 0 (clipAt l.length)):=by unfold pick;rw[Sb];exact(congrArg (N1 _)<|abH _ _).trans (Ab ..)
theorem zt(l:List Q)(lo hi:Option Int):(pick l lo hi aC).length<=l.length:=by rw[lM];exact((Jz _ _).trans<|JB _ _).length_le
theorem qV(l:List Q):pick l aC (ah (-1)) aC=l.dropLast:=by rw[lM,BX];exact congrArg (λk=>l.take k) (clipAt_neg _ 1<|aJ 1)
theorem DP(l:List Q):pick l (ah (-1)) aC aC=l.drop (l.length -1):=by rw[lM,<-show clipAt l.length (-1)=l.length -1 from clipAt_neg _ 1 (aJ 1)];exact AK (by rw[mK];exact aJ _)
theorem wa(l:List Q)(k:Nat):pick l aC (ah (k:Int)) aC=l.take k:=by rw[lM,List.take_eq_take_min (i:=k),<-clipAt_nat];rfl
theorem zr(l:List Q):pick l aC aC (ah (-1))=l.reverse:=by unfold pick;rw[krv_bounds];show(sliceRange ((l.length:Int) -1) (-1) (-1)).filterMap (l[·]?)=_;rw[krv_sliceRange,krv_range,List.filterMap_reverse];have:=krv_all l.toArray;simp only[jN]at this;exact congrArg List.reverse this
noncomputable abbrev S(l:List Nat):aF:=⟨l.toArray⟩
theorem kZ(l m:List Nat):S l++S m=S (l++m):=by show Str.mk _=_;simp
theorem fA(l:List Nat):(S l).length=l.length:=by show l.toArray.size=_;simp
theorem ve(x:aF):S x.cps.toList=x:=by cases x;simp
theorem W7(h:S l=S m):l=m:=by have:=congrArg (λx:aF=>x.cps.toList) h;simpa using this
theorem NS(l m:List Nat):(S l==S m)=(l==m):=by
 by_cases h:l=m
 .subst h;simp
 .rw[beq_eq_false_iff_ne.mpr h,beq_eq_false_iff_ne.mpr λq=>h<|W7 q]
theorem Cc(l:List Nat)(lo hi:Option Int):dX (S l) lo hi=S (pick l lo hi aC):=by
 have H:strSliceIndices lo hi 1 (S l).length=(aE<|hi.elim l.length (clipAt l.length) -lo.elim 0 (clipAt l.length)).map (lo.elim 0 (clipAt l.length)+·):=by rw[fA];refine Si (b:=sliceRange (sliceBounds lo hi aC l.length).1 (sliceBounds lo hi aC l.length).2.1 (sliceBounds lo hi aC l.length).2.2) (by cases lo<;>cases hi<;>rfl) ?_;rw[Sb];exact abH _ _
 rw[lM];have Q:hi.elim l.length (clipAt l.length)<=l.length:=by
  cases hi with
  |none=>exact aJ _
  |some i=>exact Int.toNat_le.mpr<|Int.max_le.mpr (aL _,Int.min_le_right _ _)
 unfold dX;rw[H,ax,bJ];revert Q;generalize hi.elim l.length (clipAt l.length)=b;generalize lo.elim 0 (clipAt l.length)=a;intro Q;by_cases h:b -a=l.length
 .rw[if_pos (by rw[fA,h];simp)];have e:=gQ Q<|h▸Jw b a;refine congrArg S (((Jz _ _).trans<|JB _ _).eq_of_length ?_).symm;rw[dA,mK,h,<-e,h,e];exact Xv _
 .rw[if_neg (by rw[fA];simp[h])];exact congrArg S<|(congrArg (λf=>N1 f _) (funext λi=>jN)).trans (Ab ..)
section
variable{F:Fx} {K:hJ} {sc:cJ} {d:Nat} {st st₁ aN st₃ ko:St} {l:List (aF×V)} {o fi me oH:List O}
theorem sI.no:sI F aC st aC st:=rfl
theorem sI.yes(h:EV F e st (.int i) st₁):sI F (ah e) st (ah i) st₁:=h
theorem BI.split1(Q:(y.length==0)=ao)(H:x.length<=2^20):BI F st (.builtin "str.split") [.str x,.str y] (.lst<|(aO x y).map V.str):=
 BI.split Q (by exact(ai H 'd')) (by rw[lH];have:=jr x y 0 x.length<|x.length+1;lia)
end
section
variable{F:Fx} {K:hJ} {sc:cJ} {d:Nat} {st st₁ aN st₃ ko:St} {l aH:List (aF×V)} {o fi me oH obs:List O}
theorem kT(x y z:aF):(bX x y z).length<=x.length+(x.length+1)*z.length:=by
 unfold bX;split
 .exact a9 ..
 .have h:=jr x y 0 x.length<|x.length+1;have Q:(glued y<|partsBetween x (occurrences x y 0 x.length<|x.length+1) y.length).length=x.length:=by rw[StrLaws.glued_between_self]
  rw[size_glued,lH,lE]at Q;rw[size_glued,lH,lE];have H:(occurrences x y 0 x.length<|x.length+1).length*z.length<=(x.length+1)*z.length:=dy _ h;exact rS H (ar Q) (by omega)
theorem BK.rep(E:f5 ob=aj)(Q:(H.endLine==pos.line)=aj)(D:BK F ob st (.str x) st₁)(U:(y==z)=ao)(hz:decide (z.length<=16)=aj)(hl:x.length<=100000):BK F (.Call (.Attribute ob "replace" H) [.Constant (.str y) k1 j,.Constant (.str z) m u] [] pos) st (.str<|bX x y z) st₁:=
 BK.Gf E Q D U (by have G:=of_decide_eq_true hz;have h2:(x.length+1)*z.length<=(x.length+1)*16:=kM _ G;lia)
theorem EV.less{loc:List (aF×V)}(h:EV F e st v st₁)(U:ef loc st₁.loc):EV F e st v (loc,st₁.obs):=λρ P s I=>
 aq (h ρ P s I) (λu G H=>H.go λQ D E x r=>(Q,D,E.less U,x,r)) i3
theorem TV.less(h:TV F e st b st₁)(U:ef loc st₁.loc):TV F e st b (loc,st₁.obs):=λρ P s I=>
 aq (h ρ P s I) (λu G H=>H.go λQ D q E x=>(Q,D,q,E.less U,x)) i3
theorem iY.map(a g:D ->V)(X:bS F K sc d)(H:isLocal sc x=aj)(U:∀v,ef aH ((x,v)::aH)):∀vs:List D,(∀v∈vs,EV F Q ((x,a v)::aH,obs) (g v) ((x,a v)::aH,obs))->iY F (.Name x px) [] Q (vs.map a) (aH,obs) (vs.map g) (aH,obs)
 |[],_=>(rfl,rfl)
 |v::vs,h=>(gn _ aj _ (yi.name X H) (rfl,rfl) (by rw[if_pos rfl];exact(gn (g v) (aH,obs) (vs.map g) (EV.less (h v<|.head _)<|U _) rfl<|iY.map a g X H U vs λw E=>h w<|.tail _ E)))
theorem iY.flt(p:D ->Bool)(a g:D ->V)(X:bS F K sc d)(Q:isLocal sc x=aj)(H:∀v,ef aH ((x,v)::aH)):∀vs:List D,(∀v∈vs,TV F c ((x,a v)::aH,obs) (p v) ((x,a v)::aH,obs)/\(p v=aj ->EV F U ((x,a v)::aH,obs) (g v) ((x,a v)::aH,obs)))->iY F (.Name x px) [c] U (vs.map a) (aH,obs) ((vs.filter p).map g) (aH,obs)
 |[],_=>(rfl,rfl)
 |v::vs,h=>by
  have E:=iY.flt (px:=px) p a g X Q H vs λw u=>h w<|.tail _ u;refine fk (h v<|.head _) λG y=>?_;cases q:p v with
  |true=>
   rw[List.filter_cons_of_pos q];exact(gn _ aj _ (yi.name X Q) (q▸G:TV F c _ aj _) (by rw[if_pos rfl];exact(gn (g v) (aH,obs) _ (EV.less (y q)<|H _) rfl E)))
  |false=>
   rw[List.filter_cons_of_neg (by rw[q];decide)];exact(gn _ ao (aH,obs) (yi.name X Q) (TV.less (st₁:=((x,a v)::aH,obs)) (q▸G:TV F c _ ao _) (H _):TV F c _ ao _) (by rw[if_neg 'd'];exact E))
theorem iY.T7(a b:H ->V)(g:H ->V)(X:bS F K sc d)(hd:3<=d)(D:isLocal sc x=aj)(U:isLocal sc y=aj)(E:∀v w,ef aH ((y,w)::(x,v)::aH)):∀vs:List H,(∀v∈vs,EV F Q ((y,b v)::(x,a v)::aH,obs) (g v) ((y,b v)::(x,a v)::aH,obs))->iY F (.Tuple [.Name x px,.Name y u] k z) [] Q (vs.map λv=>.tup [a v,b v]) (aH,obs) (vs.map g) (aH,obs)
 |[],_=>(rfl,rfl)
 |v::vs,h=>(gn _ aj _ (yi.Zj X hd D U) (rfl,rfl) (by rw[if_pos rfl];exact(gn (g v) (aH,obs) (vs.map g) (EV.less (h v<|.head _)<|E _ _) rfl<|iY.T7 a b g X hd D U E vs λw G=>h w<|.tail _ G)))
theorem EV.uS{E iter:aW}(a g:z ->V)(xs:List z)(aH:List (aF×V))(X:bS F K sc d)(hd:3<=d)(Q:(dT scope sc&&iF scope sc&&isLocal (jF scope sc) y&&aH.all (λp=>f6 scope sc p.1))=aj)(m:∀env x,foldedSetIterable iter env x=pure x)(he:EV F iter (l,o) v (l,o))(j:itemsOf v=ah (xs.map a))(hz:ib v)(U:xs.length<=2^24)(H:ef aH l)(hl:∀v,ef aH ((y,v)::aH))(D:∀G,bS G K (jF scope sc) d ->G.prog=F.prog ->G.w=F.w ->G.hB=F.hB ->∀c∈xs,EV G E ((y,a c)::aH,o) (g c) ((y,a c)::aH,o)):EV F (.ListComp E [(.Name y py,iter,[],0)] scope pos) (l,o) (.lst<|xs.map g) (l,o):=by simp only[aw]at Q;exact EV.comp (aN:=(aH,o)) X hd Q.1.1.1 Q.1.1.2 m he j hz (by rw[ax];exact U) aH H Q.2 λcl C u=>iY.map a g u Q.1.2 hl xs λc hc=>D _ u rfl rfl rfl c hc
theorem EV.Iq{G iter c:aW}{y:aF}{j:si}{scope:cJ}{pos:si}{v:V}{u:Type}(p:u ->Bool)(a g:u ->V)(xs:List u)(aH:List (aF×V))(X:bS F K sc d)(hd:3<=d)(Q:(dT scope sc&&iF scope sc&&isLocal (jF scope sc) y&&aH.all (λp=>f6 scope sc p.1))=aj)(hs:∀env x,foldedSetIterable iter env x=pure x)(he:EV F iter (l,o) v (l,o))(m:itemsOf v=ah (xs.map a))(hz:ib v)(D:xs.length<=2^24)(H:ef aH l)(hl:∀v,ef aH ((y,v)::aH))(E:∀U,bS U K (jF scope sc) d ->U.prog=F.prog ->U.w=F.w ->U.hB=F.hB ->∀x∈xs,TV U c ((y,a x)::aH,o) (p x) ((y,a x)::aH,o)/\(p x=aj ->EV U G ((y,a x)::aH,o) (g x) ((y,a x)::aH,o))):
 EV F (.ListComp G [(.Name y j,iter,[c],0)] scope pos) (l,o) (.lst<|(xs.filter p).map g) (l,o):=by
 simp only[aw]at Q;exact EV.comp (aN:=(aH,o)) X hd Q.1.1.1 Q.1.1.2 hs he m hz (by rw[ax];exact D) aH H Q.2 λcl C z=>iY.flt p a g z Q.1.2 hl xs λc hc=>E _ z rfl rfl rfl c hc
theorem EX.I9{E iter:aW}{x y:aF}{px j ap:si}{scope:cJ}{pos:si}{v:V}{u:Type}(a g:u ->V)(xs:List u)(aH:List (aF×V))(X:bS F K sc d)(hd:3<=d)(Q:(dT scope sc&&iF scope sc&&isLocal (jF scope sc) y&&aH.all (λp=>f6 scope sc p.1)&&isLocal sc x&&(px.line==pos.line&& !(scope.names.any λ(n,k)=>n==x&&(k== .local||k== .cell))))=aj)(hs:∀env x,foldedSetIterable iter env x=pure x)(he:EV F iter (l,o) v (l,o))(m:itemsOf v=ah (xs.map a))(hz:ib v)(U:xs.length<=2^24)(H:ef aH l)(hl:∀v,ef aH ((y,v)::aH))(D:∀G,bS G K (jF scope sc) d ->G.prog=F.prog ->G.w=F.w ->G.hB=F.hB ->∀c∈xs,EV G E ((y,a c)::aH,o) (g c) ((y,a c)::aH,o)):
 EX F (.Assign [.Name x px] (.ListComp E [(.Name y j,iter,[],0)] scope pos) ap) (l,o) .next ((x,.lst<|xs.map g)::l,o):=by
 rw[aw,aw,aw,aw,aw]at Q;exact EX.Dg (aN:=(aH,o)) X hd Q.1.1.1.1.1 Q.1.1.1.1.2 hs Q.1.2 Q.2 he m hz (by rw[ax];exact U) aH H Q.1.1.2 λcl C z=>iY.map a g z Q.1.1.1.2 hl xs λc hc=>D _ z rfl rfl rfl c hc
theorem EX.I8{G iter c:aW}{x y:aF}{px j ap:si}{scope:cJ}{pos:si}{v:V}{u:Type}(p:u ->Bool)(a g:u ->V)(xs:List u)(aH:List (aF×V))(X:bS F K sc d)(hd:3<=d)(Q:(dT scope sc&&iF scope sc&&isLocal (jF scope sc) y&&aH.all (λp=>f6 scope sc p.1)&&isLocal sc x&&(px.line==pos.line&& !(scope.names.any λ(n,k)=>n==x&&(k== .local||k== .cell))))=aj)(hs:∀env x,foldedSetIterable iter env x=pure x)(he:EV F iter (l,o) v (l,o))(m:itemsOf v=ah (xs.map a))(hz:ib v)(D:xs.length<=2^24)(H:ef aH l)(hl:∀v,ef aH ((y,v)::aH))(E:∀U,bS U K (jF scope sc) d ->U.prog=F.prog ->U.w=F.w ->U.hB=F.hB ->∀x∈xs,TV U c ((y,a x)::aH,o) (p x) ((y,a x)::aH,o)/\(p x=aj ->EV U G ((y,a x)::aH,o) (g x) ((y,a x)::aH,o))):
 EX F (.Assign [.Name x px] (.ListComp G [(.Name y j,iter,[c],0)] scope pos) ap) (l,o) .next ((x,.lst<|(xs.filter p).map g)::l,o):=by
 rw[aw,aw,aw,aw,aw]at Q;exact EX.Dg (aN:=(aH,o)) X hd Q.1.1.1.1.1 Q.1.1.1.1.2 hs Q.1.2 Q.2 he m hz (by rw[ax];exact D) aH H Q.1.1.2 λcl C z=>iY.flt p a g z Q.1.1.1.2 hl xs λc hc=>E _ z rfl rfl rfl c hc
end
mutual
inductive Fz (n:Nat) (ex:List O):V ->V ->Prop
 |none:Fz n ex .none .none
 |bool (b:Bool):Fz n ex (.bool b) (.bool b)
 |int (i:Int):Fz n ex (.int i) (.int i)
 |str (x:aF):Fz n ex (.str x) (.str x)
 |val (u:aK):Fz n ex (.val u) (.val u)
 |ky (a b:Int):Fz n ex (.ky a b) (.ky a b)
 |dq:Fz n ex .dq .dq
 |tup {l Q:List V}:ET n ex l Q ->Fz n ex (.tup l) (.tup Q)
 |lst {l Q:List V}:ET n ex l Q ->Fz n ex (.lst l) (.lst Q)
 |obj {C:aA} {a U:List (aF×V)}:xc n ex a U ->Fz n ex (.obj C a) (.obj C U)
 |ref {i:Nat}:i<n ->Fz n ex (.ref i) (.ref i)
 |list {j:Nat} {l Q:List V}:ex[j]? =ah (.list l)->ET n ex l Q ->Fz n ex (.ref<|n+j) (.lst Q)
 |inst {j:Nat} {C:aA} {a U:List (aF×V)}:ex[j]? =ah (.inst C a)->xc n ex a U ->Fz n ex (.ref<|n+j) (.obj C U)
inductive ET (n:Nat) (ex:List O):List V ->List V ->Prop
 |nil:ET n ex [] []
 |cons {v H:V} {l Q:List V}:Fz n ex v H ->ET n ex l Q ->ET n ex (v::l) (H::Q)
inductive xc (n:Nat) (ex:List O):List (aF×V)->List (aF×V)->Prop
 |nil:xc n ex [] []
 |cons {x:aF} {v H:V} {l Q:List (aF×V)}:Fz n ex v H ->xc n ex l Q ->xc n ex ((x,v)::l) ((x,H)::Q)
end
noncomputable def Rp(n:Nat)(ex:List O):O ->Prop
 | .inst _ a=>xc n ex a a
 | .list l=>ET n ex l l
section
variable{par:aB} {h:dR} {ρ:List (aA×aA)} {P:aA ->Prop} {obs ex:List O}
def Left(ρ:List (aA×aA))(P:aA ->Prop)(n:Nat)(b:aA):Prop:=P b/\¬VA (ρ.drop n) b
theorem Df(w:View (par,h,ρ,P) (obs++ex))(e:ex[j]? =ah o):∃p,ρ[obs.length+j]? =ah p/\mJ (par,h,ρ,P) p o/\VA (ρ.drop obs.length) p.1/\VA (ρ.drop obs.length) p.2:=by
 have H:=w.len;have U:=(List.getElem?_eq_some_iff.mp e).1;have Q:obs.length+j<ρ.length:=by have:ρ.length=(obs++ex).length:=H;rw[this,aD];exact qU U (by omega)
 refine(rA (ρ[obs.length+j]) (az Q) (w.at_ _ o _ (by rw[bG<|by exact a9 ..];rw[show obs.length+j -obs.length=j by exact O'];exact e) (az Q)) ?_ ?_)
 .exact(bM _ (aT (show(ρ.drop obs.length)[j]? =ah _ by rw[gA];exact az Q)) (.inl rfl))
 .exact(bM _ (aT (show(ρ.drop obs.length)[j]? =ah _ by rw[gA];exact az Q)) (.inr rfl))
abbrev MV(σ τ:jQ)(v Q:V):Prop:=∀u,R σ v u ->R τ Q u
abbrev ML(σ τ:jQ)(l Q:List V):Prop:=∀u,RL σ l u ->RL τ Q u
abbrev MA(σ τ:jQ)(l Q:List (aF×V)):Prop:=∀u,RA σ l u ->RA τ Q u
noncomputable abbrev tS(par:aB)(h:dR)(ρ:List (aA×aA))(P:aA ->Prop)(n:Nat):jQ:=(par,h,ρ.take n,Left ρ P n)
theorem Bn:MV (par,h,ρ,P) (tS par h ρ P n) (.ky a b) (.ky a b):=λu r=>by refine qm r λq t y z e g p=>?_;exact(Io q t y z e g λk=>p k.1)
theorem HH:MV (par,h,ρ,P) (tS par h ρ P n) .dq .dq:=λu r=>by refine mn r λa o vs e g c d z p=>?_;exact(pq a o vs e g c d z λk=>p k.1)
theorem Bm(U:ML (par,h,ρ,P) (tS par h ρ P n) l H):MV (par,h,ρ,P) (tS par h ρ P n) (.tup l) (.tup H):=λu r=>by refine e7 r λa o Q k e g c d p q=>?_;exact(e8 a o Q k e g c d (λk=>p k.1) (U _ q))
theorem Bq(U:ML (par,h,ρ,P) (tS par h ρ P n) l H):MV (par,h,ρ,P) (tS par h ρ P n) (.lst l) (.lst H):=λu r=>by refine e7 r λa o Q k e g c d p q=>?_;exact(e8 a o Q k e g c d (λk=>p k.1) (U _ q))
theorem Bp(D:MA (par,h,ρ,P) (tS par h ρ P n) a j):MV (par,h,ρ,P) (tS par h ρ P n) (.obj C a) (.obj C j):=λu r=>by obtain⟨y,H,G,es,k,e,g,c,U,z,E,p,Q,q⟩:=r;exact(iH y H G es k e g c U z E (λk=>p k.1) (λk=>Q k.1) (D _ q))
theorem Bo(hi:i<n):MV (par,h,ρ,P) (tS par h ρ P n) (.ref i) (.ref i):=λu r=>
 aR r λp e Q=>bM p (by show(ρ.take n)[_]? =_;rw[ja,if_pos hi];exact e) Q
theorem xT(w:View (par,h,ρ,P) (obs++ex))(e:ex[j]? =ah (.list l))(y:ML (par,h,ρ,P) (tS par h ρ P obs.length) l G):MV (par,h,ρ,P) (tS par h ρ P obs.length) (.ref<|obs.length+j) (.lst G):=λu r=>by refine aR r λp e1 z=>?_;refine mq (Df w e) λD m E H v2=>?_;refine jW E λU Q k g q=>?_;exact(e8 D.1 _ Q k (z.trans<|congrArg (λp:aA×aA=>cg p.1) (dG<|Si (Eq.symm e1) m)) g rfl rfl (λk=>k.2 H) (y _ q))
theorem xU(w:View (par,h,ρ,P) (obs++ex))(e:ex[j]? =ah (.inst C a))(E:MA (par,h,ρ,P) (tS par h ρ P obs.length) a a'):MV (par,h,ρ,P) (tS par h ρ P obs.length) (.ref<|obs.length+j) (.obj C a'):=λu r=>by refine aR r λp m y=>?_;refine mq (Df w e) λQ z D U H=>?_;refine jW D λg es k G q=>?_;exact(iH Q.1 _ Q.2 es k (y.trans<|congrArg (λp:aA×aA=>cg p.1) (dG<|Si (Eq.symm m) z)) g rfl rfl rfl G (λk=>k.2 U) (λk=>k.2 H) (E _ q))
theorem xV(D:MV (par,h,ρ,P) (tS par h ρ P n) v H)(E:ML (par,h,ρ,P) (tS par h ρ P n) l U):ML (par,h,ρ,P) (tS par h ρ P n) (v::l) (H::U):=λu r=>
 cj r λy Q e a b=>ek y Q e (D _ a)<|E _ b
theorem uC(D:MV (par,h,ρ,P) (tS par h ρ P n) v H)(E:MA (par,h,ρ,P) (tS par h ρ P n) l U):MA (par,h,ρ,P) (tS par h ρ P n) ((x,v)::l) ((x,H)::U):=λu r=>
 lT r λy Q t e k G a b=>lU y Q t e k G (D _ a)<|E _ b
theorem Fz.run(w:View (par,h,ρ,P) (obs++ex))(f:Fz obs.length ex v Q):MV (par,h,ρ,P) (tS par h ρ P obs.length) v Q:=
 Fz.rec (motive_1:=λv Q U=>MV (par,h,ρ,P) (tS par h ρ P obs.length) v Q) (motive_2:=λl H U=>ML (par,h,ρ,P) (tS par h ρ P obs.length) l H) (motive_3:=λl H U=>MA (par,h,ρ,P) (tS par h ρ P obs.length) l H)
  (λU r=>r) (λU U r=>r) (λU U r=>r) (λU U r=>r) (λU U r=>r) (λU U=>Bn) HH (λU=>Bm) (λU=>Bq) (λU=>Bp) (λD=>Bo D) (λe U=>xT w e) (λe U=>xU w e) (λU r=>r) (λU U=>xV) (λU r=>r) (λU U=>uC) f
theorem ET.run(w:View (par,h,ρ,P) (obs++ex))(f:ET obs.length ex v Q):ML (par,h,ρ,P) (tS par h ρ P obs.length) v Q:=
 ET.rec (motive_1:=λv Q U=>MV (par,h,ρ,P) (tS par h ρ P obs.length) v Q) (motive_2:=λl H U=>ML (par,h,ρ,P) (tS par h ρ P obs.length) l H) (motive_3:=λl H U=>MA (par,h,ρ,P) (tS par h ρ P obs.length) l H)
  (λU r=>r) (λU U r=>r) (λU U r=>r) (λU U r=>r) (λU U r=>r) (λU U=>Bn) HH (λU=>Bm) (λU=>Bq) (λU=>Bp) (λD=>Bo D) (λe U=>xT w e) (λe U=>xU w e) (λU r=>r) (λU U=>xV) (λU r=>r) (λU U=>uC) f
theorem xc.run(w:View (par,h,ρ,P) (obs++ex))(f:xc obs.length ex v Q):MA (par,h,ρ,P) (tS par h ρ P obs.length) v Q:=
 xc.rec (motive_1:=λv Q U=>MV (par,h,ρ,P) (tS par h ρ P obs.length) v Q) (motive_2:=λl H U=>ML (par,h,ρ,P) (tS par h ρ P obs.length) l H) (motive_3:=λl H U=>MA (par,h,ρ,P) (tS par h ρ P obs.length) l H)
  (λU r=>r) (λU U r=>r) (λU U r=>r) (λU U r=>r) (λU U r=>r) (λU U=>Bn) HH (λU=>Bm) (λU=>Bq) (λU=>Bp) (λD=>Bo D) (λe U=>xT w e) (λe U=>xU w e) (λU r=>r) (λU U=>xV) (λU r=>r) (λU U=>uC) f
end
theorem VA.take(h:VA (ρ.take n) b):VA ρ b:=let⟨p,Q,q⟩:=h;(p,j' Q,q)
theorem VA.dropped(h:VA (ρ.drop n) b):VA ρ b:=let⟨p,Q,q⟩:=h;(p,o4 Q,q)
theorem HInv.drop{os:ey}(I:HInv w hB fr os (obs++ex) ρ P s)(hz:∀o∈obs,Rp obs.length ex o):HInv w hB fr os obs (ρ.take obs.length) (Left ρ P obs.length) s:=by
 have W:=I.view;have hlen:ρ.length=obs.length+ex.length:=by have:ρ.length=(obs++ex).length:=W.len;rw[this,aD]
 refine(I.base,I.old,λb o e g q=>I.hK b o e g q.1,λb g=>(I.gw b g,λH=>aR H λp E q=>?_),λb q=>I.there b q.1,I.wB,λe y L m=>(I.wD e y L m,λq=>I.vt e y L m q.dropped),λe y L m q=>I.vt e y L m q.take,(?_,λi o p Q e2=>?_,λp E=>?_,λi j p q Q e2 P4=>?_,λp E=>W.gr p<|j' E),I.gens,I.os)
 .have:=W.gr p<|o4 E;rcases q with rfl|rfl
  .exact this.1 g
  .exact this.2 g
 .show(ρ.take _).length=_;rw[dA];lia
 .have u:i<obs.length:=(List.getElem?_eq_some_iff.mp Q).1;have Nw:ρ[i]? =ah p:=by
   have:(ρ.take obs.length)[i]? =ah p:=e2;rw[ja,if_pos u]at this;exact this
  have oa:=W.at_ i o p (by rw[bK u];exact Q) Nw;have z:=hz o<|aT Q;cases o with
  |inst C a=>refine jW oa λg es n g2 q=>?_;exact(g,es,n,g2,xc.run W z _ q)
  |list l=>refine jW oa λg xs n g2 q=>?_;exact(g,xs,n,g2,ET.run W z _ q)
 .obtain⟨i,u,e⟩:=List.mem_iff_getElem.mp E;have e0:(ρ.take obs.length)[i]? =ah p:=by rw[az u,e]
  have G:i<obs.length:=by rw[dA]at u;lia
  rw[ja,if_pos G]at e0;have iV:=W.iV p<|aT e0;have U:∀q∈ρ.drop obs.length,p.1≠q.1/\p.1≠q.2/\p.2≠q.1/\p.2≠q.2:=λq D=>by
   obtain⟨j,hj,e'⟩:=List.mem_iff_getElem.mp D;have Q:(ρ.drop obs.length)[j]? =ah q:=by rw[az hj,e']
   rw[gA]at Q;exact W.apart i (obs.length+j) p q e0 Q (by exact λk=>XM G (ar k.symm)<|by omega)
  refine((iV.1,λH=>aR H λq D z=>?_),(iV.2,λH=>aR H λq D z=>?_))
  .have:=U q D;rcases z with z|z;exact this.1 z;exact this.2.1 z
  .have:=U q D;rcases z with z|z;exact this.2.2.1 z;exact this.2.2.2 z
 .have g:∀{i p},(ρ.take obs.length)[i]? =ah p ->ρ[i]? =ah p:=λ{i p} e=>by
   rw[ja]at e;split at e
   .exact e
   .cases e
  exact W.apart i j p q (g Q) (g e2) P4
theorem eH.drop(x:eH fr X ρ₀ ρ H P Q h)(E:ρ₀.length=n)(ap:∀(i j:Nat) p q,ρ[i]? =ah p ->ρ[j]? =ah q ->i≠j ->p.1≠q.1)(th:∀b,H b ->∃o,Q.get? b=ah o):eH fr X ρ₀ (ρ.take n) H (Left ρ P n) Q h:=by
 refine(x.keep,x.slots,x.l9,λi p e=>?_,λb p=>(x.sub b p,λm=>aR m λq D z=>?_),λb p=>x.new b p.1,λp hp=>x.oJ p<|j' hp)
 .rw[ja,if_pos (by rw[<-E];exact(List.getElem?_eq_some_iff.mp e).1)];exact x.pre i p e
 .obtain⟨j,hj,e'⟩:=List.mem_iff_getElem.mp D;have u:(ρ.drop n)[j]? =ah q:=by rw[az hj,e']
  rw[gA]at u;obtain⟨o,U⟩:=th b p;rcases x.oJ q (o4 D)with y|⟨y1,y2⟩
  .obtain⟨k,G,e2⟩:=List.mem_iff_getElem.mp y;have e3:=x.pre k q (by rw[az G,e2]);exact ap k (n+j) q q e3 u (by exact λk=>ZO G (ar E) (ar k.symm)<|by omega) rfl
  .rcases z with rfl|rfl
   .rw[y1]at U;cases U
   .rw[y2]at U;cases U
noncomputable def abE(n:Nat)(ex:List O):Oc ->Oc ->Prop
 | .ok v,.ok H=>Fz n ex v H
 | .exc x,.exc Q=>x=Q/\xc n ex x.att x.att
 |_,_=>False
theorem FN.drop{BS:dC ->dR ->Prop}(h:FN prog BS f d args kw obs v (cS++ex))(hl:obs.length=cS.length)(hz:∀o∈cS,Rp cS.length ex o)(Q:abE cS.length ex v U):FN prog BS f d args kw obs U cS:=by
 intro w hB fr A os ρ P s E hC I us ks ra rk;refine eR (h w hB fr A os ρ P s E hC I us ks ra rk) λr s' zU=>zU.go λm P' H x q=>?_;have W:=H.view;refine(_,_,H.drop hz,x.drop (by have:=I.view.len;rw[<-hl];exact this) (λi j p q a b c=>(W.apart i j p q a b c).1) I.there,?_);cases v with
 |ok v=>
  cases U with
  |ok U=>(refine aR q λu D ru=>?_;subst D);exact(bM u rfl<|Fz.run W Q _ ru)
  |exc x' =>exact Q.elim
 |exc y=>
  cases U with
  |ok U=>exact Q.elim
  |exc x' =>
   obtain⟨rfl,Q⟩:=Q;obtain⟨a,oe,vs,rfl,z⟩:=q;refine(br a oe vs rfl (z.at_,z.cls,z.dat,z.sz,z.new,λq=>z.va q.take,(z.iV,λq=>z.va q.dropped),?_,?_))
   .rcases z.att with q|⟨dx,es,n,q1,q2,q3,q4⟩
    .exact .inl q
    .exact .inr (qo dx es n q1 q2 (λk=>q3 k.1) (xc.run W Q _ q4))
   .refine mn (z.tr) λT oT ts t1 t2 t3 G t5 t6=>?_;exact(pq T oT ts t1 t2 t3 (λq=>G q.take) (t5,λq=>G q.dropped) t6)
end Internal
section
set_option backward.match.sparseCases true
namespace Internal
noncomputable def jB(kd:aF ->Option oP)(H:List aW):List aF:=H.filterMap fun
 | .Name U Q=>if kd U==ah NameKind.local&&Q.line==(H.head?.map (·.pos.line)).getD 0 then ah U else aC
 |_=>aC
noncomputable def FF(Q vs:List aW)(sc:cJ):Option (Option<|List aF):=
 if(!(Q.length==2||Q.length==3)||vs.length !=Q.length)=aj then ah aC else
 if(vs.any λ| .Starred .. =>aj|_=>ao)=aj then ah aC else
 if((jB (sc.names.lookup ·) Q).length !=Q.length||(jB (sc.names.lookup ·) Q).eraseDups.length !=(jB (sc.names.lookup ·) Q).length)=aj then ah aC else
 if vs.all (foldedForSure 8)=aj then ah aC else
 if vs.all (constantsAlone 8)=aj then aC else ah (ah (jB (sc.names.lookup ·) Q))
section
variable{F:Fx} {K:hJ} {sc:cJ} {d:Nat} {st st₁ aN st₃ ko:St} {l aH:List (aF×V)} {o fi me oH obs:List O}
theorem bS.blockKind(X:bS F K sc d):F.env.blockKind= .function:=by unfold Sj;rw[X.qj];rfl
theorem Hi[Decidable c](h:(if c then a else b)=x):(c/\a=x)\/(¬c/\b=x):=Decidable.byCases (λq=>.inl (q,(if_pos q).symm.trans h)) λq=>.inr (q,(if_neg q).symm.trans h)
theorem J2(X:bS F K sc d)(h:FF Q vs sc=ah r):swappedStores [.Tuple Q k H] (.Tuple vs E U) F.env=pure r:=by
 have D:(λx=>sc.names.lookup x)=F.env.kindOf:=funext λx=>(X.kindOf x).symm;unfold FF at h;rw[D]at h;have e:swappedStores [.Tuple Q k H] (.Tuple vs E U) F.env=(
  if(!(Q.length==2||Q.length==3)||vs.length !=Q.length||F.env.blockKind != .function)=aj then pure aC else
  if(vs.any λ| .Starred .. =>aj|_=>ao)=aj then pure aC else
  if((jB F.env.kindOf Q).length !=Q.length||(jB F.env.kindOf Q).eraseDups.length !=(jB F.env.kindOf Q).length)=aj then pure aC else
  if vs.all (foldedForSure 8)=aj then pure aC else
  if vs.all (constantsAlone 8)=aj then(do unsupported "assign.tuple-of-constant-expressions:order-of-the-stores";pure (ah<|jB F.env.kindOf Q))else pure (ah<|jB F.env.kindOf Q):Sem (Option<|List aF)):=by
  unfold swappedStores jB;rfl
 rw[e,X.blockKind];rw[bne_self_eq_false,yG];rcases Hi h with⟨q,h⟩|⟨q,h⟩
 .rw[if_pos q];cases h;rfl
 rw[if_neg q];rcases Hi h with⟨q,h⟩|⟨q,h⟩
 .rw[if_pos q];cases h;rfl
 rw[if_neg q];rcases Hi h with⟨q,h⟩|⟨q,h⟩
 .rw[if_pos q];cases h;rfl
 rw[if_neg q];rcases Hi h with⟨q,h⟩|⟨q,h⟩
 .rw[if_pos q];cases h;rfl
 rw[if_neg q];rcases Hi h with⟨q,h⟩|⟨q,h⟩
 .cases h
 rw[if_neg q];cases h;rfl
namespace W
end W
end
end Internal
end
namespace Internal
section
variable(P:aB)
theorem QF:Jo (KK P) 862:=('k','k','k','k','k')
theorem QG:Jo (KK P) 732:=('k','k','k','k','k')
theorem QH:Jo (KK P) 597:=('k','k','k','k','k')
theorem TH:findCls (KK P) (.ref 862) (.type "type") "S"=ah (.val<|.str " " 1324):='k'
theorem TG:findCls (KK P) (.ref 862) (.type "type") "T"=ah (.val<|.str ⟨[9].toArray⟩ 1325):='k'
end
mutual
noncomputable def sh (n:Nat):V ->V
 | .none=>.none
 | .bool b=>.bool b
 | .int i=>.int i
 | .str x=>.str x
 | .tup l=>.tup (AE n l)
 | .lst l=>.lst (AE n l)
 | .obj C a=>.obj C (zd n a)
 | .ref i=>.ref (n+i)
 | .val v=>.val v
 | .dq=>.dq
 | .ky a b=>.ky a b
noncomputable def AE (n:Nat):List V ->List V
 |[]=>[]
 |v::l=>sh n v::AE n l
noncomputable def zd (n:Nat):List (aF×V)->List (aF×V)
 |[]=>[]
 |(x,v)::l=>(x,sh n v)::zd n l
end
noncomputable def EO(n:Nat):O ->O
 | .inst C a=>.inst C (zd n a)
 | .list l=>.list<|AE n l
noncomputable def Zr(n:Nat)(x:Ex):Ex:=(x.cls,zd n x.att)
noncomputable def OO(n:Nat):Oc ->Oc
 | .ok v=>.ok (sh n v)
 | .exc x=>.exc<|Zr n x
section
variable{par:aB} {h:dR} {ρ ρ₀ ρ₁:List (aA×aA)} {P:aA ->Prop} {n:Nat}
mutual
theorem R.shift (H:ρ₀.length=n):∀(v:V) (u:aK),R (par,h,ρ₀++ρ₁,P) (sh n v) u↔R (par,h,ρ₁,P) v u
 | .none,u=>l4
 | .bool b,u=>l4
 | .int i,u=>l4
 | .str x,u=>l4
 | .tup l,u=>by show(∃a o Q k,u= .ref a/\h.get? a=ah o/\o.cls= .type "tuple"/\o.data= .seq Q k/\¬P a/\RL (par,h,ρ₀++ρ₁,P) (AE n l) Q.toList)↔(∃a o Q k,u= .ref a/\h.get? a=ah o/\o.cls= .type "tuple"/\o.data= .seq Q k/\¬P a/\RL (par,h,ρ₁,P) l Q.toList);simp only[RL.shift H l]
 | .lst l,u=>by show(∃a o Q k,u= .ref a/\h.get? a=ah o/\o.cls= .type "list"/\o.data= .seq Q k/\¬P a/\RL (par,h,ρ₀++ρ₁,P) (AE n l) Q.toList)↔(∃a o Q k,u= .ref a/\h.get? a=ah o/\o.cls= .type "list"/\o.data= .seq Q k/\¬P a/\RL (par,h,ρ₁,P) l Q.toList);simp only[RL.shift H l]
 | .obj C a,u=>by show(∃x U D es k,u= .ref x/\h.get? x=ah U/\U.cls= .ref C/\notCls U=aj/\U.dict=ah D/\h.get? D=ah (dictOf es k)/\¬P x/\¬P D/\RA (par,h,ρ₀++ρ₁,P) (zd n a) es)↔(∃x U D es k,u= .ref x/\h.get? x=ah U/\U.cls= .ref C/\notCls U=aj/\U.dict=ah D/\h.get? D=ah (dictOf es k)/\¬P x/\¬P D/\RA (par,h,ρ₁,P) a es);simp only[RA.shift H a]
 | .ref i,u=>by show(∃p,(ρ₀++ρ₁)[n+i]? =ah p/\u= .ref p.1)↔(∃p,ρ₁[i]? =ah p/\u= .ref p.1);rw[bG<|by(simp+arith only[H];done),show n+i -ρ₀.length=i by rw[H];exact mY ..]
 | .val v,u=>l4
 | .dq,u=>l4
 | .ky a b,u=>l4
theorem RL.shift (H:ρ₀.length=n):∀(l:List V) (u:List aK),RL (par,h,ρ₀++ρ₁,P) (AE n l) u↔RL (par,h,ρ₁,P) l u
 |[],u=>l4
 |v::l,u=>by show(∃x Q,u=x::Q/\R (par,h,ρ₀++ρ₁,P) (sh n v) x/\RL (par,h,ρ₀++ρ₁,P) (AE n l) Q)↔(∃x Q,u=x::Q/\R (par,h,ρ₁,P) v x/\RL (par,h,ρ₁,P) l Q);simp only[R.shift H v,RL.shift H l]
theorem RA.shift (H:ρ₀.length=n):∀(l:List (aF×V)) (u:List dK),RA (par,h,ρ₀++ρ₁,P) (zd n l) u↔RA (par,h,ρ₁,P) l u
 |[],u=>l4
 |(k,v)::l,u=>by show(∃x Q t,u=x::Q/\x.key= .str k t/\x.hash=dv par k/\R (par,h,ρ₀++ρ₁,P) (sh n v) x.val/\RA (par,h,ρ₀++ρ₁,P) (zd n l) Q)↔(∃x Q t,u=x::Q/\x.key= .str k t/\x.hash=dv par k/\R (par,h,ρ₁,P) v x.val/\RA (par,h,ρ₁,P) l Q);simp only[R.shift H v,RA.shift H l]
end
theorem RB.shift(H:ρ₀.length=n):∀(l:List (aF×V)) (u:List (aF×aK)),RB (par,h,ρ₀++ρ₁,P) (zd n l) u↔RB (par,h,ρ₁,P) l u
 |[],u=>l4
 |(k,v)::l,u=>by show(∃x Q,u=(k,x)::Q/\R (par,h,ρ₀++ρ₁,P) (sh n v) x/\RB (par,h,ρ₀++ρ₁,P) (zd n l) Q)↔(∃x Q,u=(k,x)::Q/\R (par,h,ρ₁,P) v x/\RB (par,h,ρ₁,P) l Q);simp only[R.shift H v,RB.shift H l]
theorem mJ.shift(H:ρ₀.length=n):∀(o:O),mJ (par,h,ρ₀++ρ₁,P) p (EO n o)↔mJ (par,h,ρ₁,P) p o
 | .inst C a=>by show(h.get? p.1=ah (instObj C p.2)/\∃es k,h.get? p.2=ah (dictOf es k)/\RA (par,h,ρ₀++ρ₁,P) (zd n a) es)↔(h.get? p.1=ah (instObj C p.2)/\∃es k,h.get? p.2=ah (dictOf es k)/\RA (par,h,ρ₁,P) a es);simp only[RA.shift H a]
 | .list l=>by show(p.2=p.1/\∃Q k,h.get? p.1=ah (.type "list",aC,.seq Q k,#[])/\RL (par,h,ρ₀++ρ₁,P) (AE n l) Q.toList)↔(p.2=p.1/\∃Q k,h.get? p.1=ah (.type "list",aC,.seq Q k,#[])/\RL (par,h,ρ₁,P) l Q.toList);simp only[RL.shift H l]
end
section
variable{w:dC} {hB:dR} {fr:List vK} {os:ey} {iM fi zv:List O} {ρ jc:List (aA×aA)} {P P' :aA ->Prop} {s s' :aS}
theorem A5(Q:n<=ρ.length):ρ=ρ.take n++ρ.drop n:=(jI n ρ).symm
theorem VA.left(h:VA ρ₀ b):VA (ρ₀++ρ₁) b:=let⟨p,Q,q⟩:=h;(p,fT _ Q,q)
theorem VA.right(h:VA ρ₁ b):VA (ρ₀++ρ₁) b:=let⟨p,Q,q⟩:=h;(p,jK _ Q,q)
theorem VA.either(h:VA (ρ₀++ρ₁) b):VA ρ₀ b\/VA ρ₁ b:=let⟨p,Q,q⟩:=h;(List.mem_append.mp Q).imp (λk=>(p,k,q)) λk=>(p,k,q)
theorem HInv.part(I:HInv w hB fr os (iM++fi.map (EO iM.length)) (ρ₀++ρ₁) P s)(Q:ρ₀.length=iM.length):HInv w hB fr os fi ρ₁ P s:=by
 have W:=I.view;have E:ρ₀.length+ρ₁.length=iM.length+fi.length:=by have:(ρ₀++ρ₁).length=(iM++fi.map (EO iM.length)).length:=W.len;simpa using this
 refine(I.base,I.old,I.hK,I.gw,I.there,I.wB,I.wD,λe u L y q=>I.vt e u L y q.right,(?_,λi o p D U=>?_,λp H=>W.iV p<|jK _ H,λi j p q D U G=>?_,λp H=>W.gr p<|jK _ H),I.gens,I.os)
 .show ρ₁.length=fi.length;exact qp2 E Q.symm (by omega)
 .refine(mJ.shift (ρ₀:=ρ₀) (ρ₁:=ρ₁) Q o).mp (W.at_ (ρ₀.length+i) _ p ?_ ?_)
  .rw[bG<|by(rw[Q];simp+arith only;done),Q,show iM.length+i -iM.length=i by exact O',bF,D];rfl
  .show(ρ₀++ρ₁)[_]? =_;rw[bG<|by exact a9 ..,show ρ₀.length+i -ρ₀.length=i by exact O'];exact U
 .refine W.apart (ρ₀.length+i) (ρ₀.length+j) p q ?_ ?_ (by lia)
  .show(ρ₀++ρ₁)[_]? =_;rw[bG<|by exact a9 ..,show ρ₀.length+i -ρ₀.length=i by exact O'];exact D
  .show(ρ₀++ρ₁)[_]? =_;rw[bG<|by exact a9 ..,show ρ₀.length+j -ρ₀.length=j by exact O'];exact U
theorem HInv.whole(I:HInv w hB fr os (iM++fi.map (EO iM.length)) (ρ₀++ρ₁) P s)(hn:ρ₀.length=iM.length)(H:HInv w hB fr os zv jc P' s')(x:eH fr kP ρ₁ jc P P' s.heap s'.heap):HInv w hB fr os (iM++zv.map (EO iM.length)) (ρ₀++jc) P' s' /\eH fr kP (ρ₀++ρ₁) (ρ₀++jc) P P' s.heap s'.heap:=by
 have W:=I.view;have pre:∀(i:Nat) p,(ρ₀++ρ₁)[i]? =ah p ->(ρ₀++jc)[i]? =ah p:=λi p e=>by
  by_cases G:i<ρ₀.length
  .rw[bK G]at e⊢;exact e
  .rw[bG<|by exact dD G]at e⊢;exact x.pre _ _ e
 have S:eH fr kP (ρ₀++ρ₁) (ρ₀++jc) P P' s.heap s'.heap:=(λb o e n q f g=>x.keep b o e (λk=>n k.right) q f g,λb o e n q g=>x.slots b o e (λk=>n k.right) q g,x.l9,pre,x.sub,x.new,λp Q=>by
  rcases List.mem_append.mp Q with Q|Q
  .exact .inl (fT _ Q)
  .exact(x.oJ p Q).imp (λk=>jK _ k) id)
 have L:jQ.Le (w.params,s.heap,ρ₀++ρ₁,P) (w.params,s'.heap,ρ₀++jc,P'):=I.le S pV;have E:∀{i:Nat} {p},ρ₀[i]? =ah p ->(ρ₀++ρ₁)[i]? =ah p:=λ{i p} e=>by rw[bK (List.getElem?_eq_some_iff.mp e).1];exact e
 have at1:∀{i:Nat} {p},ρ₁[i]? =ah p ->(ρ₀++ρ₁)[ρ₀.length+i]? =ah p:=λ{i p} e=>by rw[bG<|by exact a9 ..,show ρ₀.length+i -ρ₀.length=i by exact O'];exact e
 have U:∀(i:Nat) p,ρ₀[i]? =ah p ->∀q∈jc,p.1≠q.1/\p.1≠q.2/\p.2≠q.1/\p.2≠q.2:=λi p e q hq=>by
  have G:=(List.getElem?_eq_some_iff.mp e).1;rcases x.oJ q hq with y|⟨y1,y2⟩
  .obtain⟨k,hk,e2⟩:=List.mem_iff_getElem.mp y;exact W.apart i (ρ₀.length+k) p q (E e) (at1<|by rw[az hk,e2]) (by exact λk=>XM G (ar k.symm)<|by omega)
  .have iV:=W.iV p<|fT _<|aT e;refine eN (I.there _ iV.1) λo1 h1=>?_;refine eN (I.there _ iV.2) λo2 h2=>?_;exact(λz=>by(rw[z,y1]at h1;cases h1),λz=>by(rw[z,y2]at h1;cases h1),λz=>by(rw[z,y1]at h2;cases h2),λz=>by(rw[z,y2]at h2;cases h2))
 refine((H.base,H.old,H.hK,H.gw,H.there,H.wB,H.wD,λe he Lf hL q=>?_,(?_,λi o p e1 e2=>?_,λp Q=>?_,λi j p q e1 e2 P4=>?_,λp Q=>?_),H.gens,H.os),S)
 .rcases q.either with q|q
  .exact I.vt e he Lf hL q.left
  .exact H.vt e he Lf hL q
 .show(ρ₀++jc).length=_;have:jc.length=zv.length:=H.view.len;simp[hn,this]
 .have D:(ρ₀++jc)[i]? =ah p:=e2;by_cases G:i<ρ₀.length
  .rw[bK G]at D;have u:(iM++fi.map (EO iM.length))[i]? =ah o:=by
    rw[bK<|by exact hn▸G]at e1⊢;exact e1
   have oa:=W.at_ i o p u<|E D;have k:∀b,(b=p.1\/b=p.2)->∀m,s.heap.get? b=ah m ->s'.heap.get? b=ah m:=λb hb m e=>by
    have hv:VA (ρ₀++ρ₁) b:=(p,aT<|E D,hb);refine x.keep b m e (λzU=>aR zU λq hq z=>?_) (λq=>q) (λen he q=>I.vt en he b q hv) λg=>?_
    .obtain⟨j,hj,e'⟩:=List.mem_iff_getElem.mp hq;have:=W.apart i (ρ₀.length+j) p q (E D) (at1<|by rw[az hj,e']) (by omega);rcases hb with rfl|rfl<;>rcases z with z|z
     .exact this.1 z
     .exact this.2.1 z
     .exact this.2.2.1 z
     .exact this.2.2.2 z
    .have:=W.gr p<|aT<|E D;rcases hb with rfl|rfl
     .exact this.1 g
     .exact this.2 g
   exact oa.mono L (λm e=>k _ (.inl rfl) m e) λm e=>k _ (.inr rfl) m e
  .rw[bG<|by exact dD G]at D;rw[bG<|by exact rS (ar hn.symm) (dD G) (by omega),bF]at e1;(refine aR (Option.map_eq_some_iff.mp e1) λo' u Sl=>?_;subst Sl);rw[<-hn]at u⊢;exact(mJ.shift (ρ₀:=ρ₀) (ρ₁:=jc) rfl o').mpr (H.view.at_ _ o' p u D)
 .rcases List.mem_append.mp Q with Q|Q
  .have:=W.iV p<|fT _ Q;exact(x.sub _ this.1,x.sub _ this.2)
  .exact H.view.iV p Q
 .have mid:∀(i:Nat) p,(ρ₀++jc)[i]? =ah p ->ρ₀[i]? =ah p\/(ρ₀.length<=i/\jc[i -ρ₀.length]? =ah p):=λi p e=>by
   by_cases G:i<ρ₀.length
   .rw[bK G]at e;exact .inl e
   .rw[bG<|by exact dD G]at e;exact .inr (by exact dD G,e)
  rcases mid i p e1 with a|⟨a1,a⟩<;>rcases mid j q e2 with b|⟨b1,b⟩
  .exact W.apart i j p q (E a) (E b) P4
  .exact U i p a q (aT b)
  .have:=U j q b p<|aT a;exact(λz=>this.1 z.symm,λz=>this.2.2.1 z.symm,λz=>this.2.1 z.symm,λz=>this.2.2.2 z.symm)
  .exact H.view.apart _ _ p q a b λe=>P4<|sbr a1 b1 e
 .rcases List.mem_append.mp Q with Q|Q
  .exact W.gr p (fT _ Q)
  .exact H.view.gr p Q
end
theorem FN.frame{BS:dC ->dR ->Prop}(h:FN prog BS f d args kw fi v zv)(iM:List O):FN prog BS f d (AE iM.length args) (zd iM.length kw) (iM++fi.map (EO iM.length)) (OO iM.length v) (iM++zv.map (EO iM.length)):=by
 intro w hB fr A os ρ P s Bj hC I us ks ra rk;have hl:ρ.length=iM.length+fi.length:=by have:ρ.length=(iM++fi.map (EO iM.length)).length:=I.view.len;simpa using this
 have hs:=A5 (ρ:=ρ) (n:=iM.length) (by(simp+arith only[hl];done));have U:(ρ.take iM.length).length=iM.length:=by rw[dA];lia
 generalize ρ.take iM.length=ρ₀ at hs U;generalize ρ.drop iM.length=ρ₁ at hs;subst hs;have MF:=(RL.shift (ρ₀:=ρ₀) (ρ₁:=ρ₁) U args us).mp ra;have rk' :=(RB.shift (ρ₀:=ρ₀) (ρ₁:=ρ₁) U kw ks).mp rk;refine eR (h w hB fr A os ρ₁ P s Bj hC (I.part U) us ks MF rk') λr s' m=>m.go λQ P' H x q=>?_;refine fk (I.whole U H x) λH' S=>?_;refine(ρ₀++Q,P',H',S,?_);cases v with
 |ok v=>(refine aR q λu j ru=>?_;subst j);exact(bM u rfl<|(R.shift (ρ₀:=ρ₀) (ρ₁:=Q) U v u).mpr ru)
 |exc y=>
  (refine bl q λa oe vs G z=>?_;subst G);have D:∀b,s.heap.get? b=aC ->¬VA ρ₀ b:=λb e m=>aR m λp hp q=>by
   have iV:=I.view.iV p<|fT _ hp;rcases q with rfl|rfl
   .refine eN (I.there _ iV.1) λo E=>?_;rw[e]at E;cases E
   .refine eN (I.there _ iV.2) λo E=>?_;rw[e]at E;cases E
  refine(br a oe vs rfl (z.at_,z.cls,z.dat,z.sz,z.new,λq=>(q.either).elim (D a z.new) z.va,z.iV,?_,?_))
  .rcases z.att with q|⟨dx,es,k,q1,q2,q3,q4⟩
   .refine .inl ?_;show zd _ y.att=[];rw[q];rfl
   .exact .inr (qo dx es k q1 q2 q3<|(RA.shift (ρ₀:=ρ₀) (ρ₁:=Q) U y.att es).mpr q4)
  .refine mn (z.tr) λT oT ts t1 t2 t3 t4 t5 t6=>?_;exact(pq T oT ts t1 t2 t3 (λq=>(q.either).elim (D T t3) t4) t5 t6)
mutual
noncomputable def NR:V ->Prop
 | .tup l=>oz l
 | .lst l=>oz l
 | .obj _ a=>yx a
 | .ref _=>False
 |_=>True
noncomputable def oz:List V ->Prop
 |[]=>True
 |v::l=>NR v/\oz l
noncomputable def yx:List (aF×V)->Prop
 |[]=>True
 |(_,v)::l=>NR v/\yx l
end
mutual
theorem FW:∀{v:V},NR v ->sh n v=v
 | .none,_=>rfl
 | .bool _,_=>rfl
 | .int _,_=>rfl
 | .str _,_=>rfl
 | .tup l,h=>by show V.tup (AE n l)=_;rw[qQ h]
 | .lst l,h=>by show V.lst (AE n l)=_;rw[qQ h]
 | .obj C a,h=>by show V.obj C (zd n a)=_;rw[qR h]
 | .ref i,h=>h.elim
 | .val _,_=>rfl
 | .dq,_=>rfl
 | .ky _ _,_=>rfl
theorem qQ {n:Nat}:∀{l:List V},oz l ->AE n l=l
 |[],_=>rfl
 |v::l,h=>by show sh n v::AE n l=_;rw[FW h.1,qQ h.2]
theorem qR {n:Nat}:∀{l:List (aF×V)},yx l ->zd n l=l
 |[],_=>rfl
 |(x,v)::l,h=>by show(x,sh n v)::zd n l=_;rw[FW h.1,qR h.2]
end
mutual
theorem Nk:∀{v:V},NR v ->Fz n ex v v
 | .none,_=>.none
 | .bool b,_=>.bool b
 | .int i,_=>.int i
 | .str x,_=>.str x
 | .tup l,h=>.tup (lq h)
 | .lst l,h=>.lst (lq h)
 | .obj C a,h=>.obj (rn h)
 | .ref i,h=>h.elim
 | .val v,_=>.val v
 | .dq,_=>.dq
 | .ky a b,_=>.ky a b
theorem lq {n:Nat} {ex:List O}:∀{l:List V},oz l ->ET n ex l l
 |[],_=>.nil
 |v::l,h=>.cons (Nk h.1)<|lq h.2
theorem rn {n:Nat} {ex:List O}:∀{l:List (aF×V)},yx l ->xc n ex l l
 |[],_=>.nil
 |(x,v)::l,h=>.cons (Nk h.1)<|rn h.2
end
theorem fK:∀{xs:List H},(∀x∈xs,NR<|f x)->oz (xs.map f)
 |[],_=>trivial
 |x::xs,h=>(h x<|.head _,fK λy Q=>h y<|.tail _ Q)
section
variable{F:Fx} {K:hJ} {sc:cJ} {d:Nat} {st st₁ aN st₃ ko:St} {l aH l' :List (aF×V)} {o fi me oH obs ex:List O} {ρ:List (aA×aA)} {P:aA ->Prop} {s:aS}
theorem xc.look:∀{l l' :List (aF×V)},xc n ex l l' ->l'.lookup x=ah v ->∃w,l.lookup x=ah w/\Fz n ex w v
 |_,_,.nil,e=>by cases e
 |(y,w)::r,_,.cons h Q,e=>by
  rw[cw]at e⊢;cases q:x==y with
  |true=>rw[q]at e;cases e;exact(w,rfl,h)
  |false=>rw[q]at e;exact xc.look Q e
theorem Inv.drop(I:Inv F (l,o++ex) ρ P s)(hz:∀x∈o,Rp o.length ex x)(y:xc o.length ex l l'):Inv F (l',o) (ρ.take o.length) (Left ρ P o.length) s:=by
 have W:=I.view;refine aR (I.loc.ns) λm G E=>?_;refine(I.toHInv.drop hz,((bM m G λx v e=>?_),(I.loc.jV,λq=>I.loc.lj q.dropped),λq=>I.loc.lj q.take,I.loc.ml,λn c j=>?_,I.loc.inj))
 .refine cH λGq H=>?_;refine aR (y.look e) λw e' z=>?_;refine aR (E x w e') λu a D=>?_;refine H ?_;exact(bM u a<|Fz.run W z _ D)
 .refine cH λGq H=>?_;refine C4 (I.loc.cells n c j) λa1 U a3 a4 Q a5=>?_;refine H ?_;exact(Lx (a1,λq=>U q.dropped) (λq=>U q.take) a3 a4 Q a5)
theorem dM.drop(h:dM F f args kw (l,o) (.ok v) (l,fi++ex))(Q:o.length=fi.length)(hz:∀x∈fi,Rp fi.length ex x)(hl:xc fi.length ex l l')(hv:Fz fi.length ex v U):dM F f args kw (l,o) (.ok U) (l',fi):=λρ P s E ks I m z=>by refine fk (h ρ P s E ks I m z) λh1 h2=>?_;refine(h1,aq h2 (λu G (w,e,D,P',H,x,r)=>?_) λe G (y,e,_,_,_,_,_,_,_,_,_)=>by cases e);cases e;exact(U,rfl,_,_,H.drop hz hl,x.drop (by have:=I.view.len;rw[<-Q];exact this) (λi j p q a b c=>(H.view.apart i j p q a b c).1) I.there,Fz.run H.view hv _ r)
namespace W
def uG(X:bS F K sc (e+d))(D:F.prog=PR)(hB:BS F.w F.hB)(G:(K.lookup f).any (λo=>match o.data with| .func _=>aj|_=>ao)=aj)(h:FN PR BS f e args H [] (.ok v) [])(u:oz args)(E:yx H)(U:NR v):dM F (.ref f) args H (l,o) (.ok v) (l,o):=by
 have Q:=h.frame o;rw[qQ u,qR E]at Q;simp only[kO,cb]at Q;have e:OO o.length (.ok v)= .ok v:=by show Oc.ok (sh o.length v)=_;rw[FW U]
 rw[e]at Q;exact fn X D hB G Q
theorem fnX(X:bS F K sc (e+d))(D:F.prog=PR)(hB:BS F.w F.hB)(G:(K.lookup f).any (λo=>match o.data with| .func _=>aj|_=>ao)=aj)(h:FN PR BS f e args H [] (.exc x) [])(u:oz args)(E:yx H)(U:yx x.att):dM F (.ref f) args H (l,o) (.exc x) (l,o):=by
 have Q:=h.frame o;rw[qQ u,qR E]at Q;simp only[kO,cb]at Q;have e:OO o.length (.exc x)= .exc x:=by show Oc.exc (x.cls,zd o.length x.att)=_;rw[qR U]
 rw[e]at Q;exact fn X D hB G Q
theorem KD(X:bS F K sc (e+1+d))(D:F.prog=PR)(hB:BS F.w F.hB)(E:makesIn K C=aj)(hi:findIn K (.ref C) "__init__"=ah (ah<|.ref U))(u:typeIn K (.ref U)=ah (.type "function"))(h:FN PR BS U e (.ref 0::args) [] [.inst C []] (.ok .none) [.inst C a])(y:oz args)(Q:yx a)(hz:∀x∈o,Rp o.length [.inst C a] x)(G:xc o.length [.inst C a] l l):dM F (.ref C) args [] (l,o) (.ok<|.obj C a) (l,o):=by
 have H:=h.frame o;have m:AE o.length (.ref 0::args)= .ref o.length::args:=by show V.ref (o.length+0)::AE _ args=_;rw[qQ y];rfl
 rw[m]at H;have z:[O.inst C a].map (EO o.length)=[.inst C a]:=by show[O.inst C<|zd _ a]=_;rw[qR Q]
 rw[z]at H;have c:=make (l:=l) (o:=o) (d:=d) X D hB E hi u H;exact dM.drop c rfl hz G<|.inst (j:=0) rfl<|rn Q
end W
end
section
variable{F:Fx} {K:hJ} {sc:cJ} {d:Nat} {st st₁ aN st₃ ko:St} {l aH l' loc:List (aF×V)} {o fi me oH o' obs ex:List O}
theorem gF.find(sg:U ->V)(p:U ->Bool)(X:bS F K sc d)(H:dp sc x=aj):∀Q:List U,
 (∀c∈Q,(p c=aj ->dc F body ((x,sg c)::l,o) (.ret v) (l,o))/\(p c=ao ->dc F body ((x,sg c)::l,o) .next (l,o)))->gF F (.Name x px) body (Q.map sg) (l,o) (if Q.any p then .ret v else .next) (l,o)
 |[],_=>(rfl,rfl)
 |c::Q,h=>by
  obtain⟨G,E⟩:=h c<|.head _;rw[yD];cases q:p c with
  |true=>exact(gn _ (.ret v) _ (sJ.name X H) (G q) (rfl,rfl))
  |false=>exact(gn _ (.next) _ (sJ.name X H) (E q)<|gF.find sg p X H Q λc D=>h c<|.tail _ D)
noncomputable def runM{M Q:Type}(next:M ->Q ->M)(stop:M ->Q ->Bool):List Q ->M ->M
 |[],m=>m
 |c::H,m=>if stop m c=aj then m else runM next stop H (next m c)
theorem FZ{next:M ->H ->M}:runM next stop (c::Q) m=if stop m c=aj then m else runM next stop Q (next m c):=rfl
theorem gF.DU(sg:D ->V)(H:M ->List (aF×V))(Q:M ->List O)(ok:List D ->M ->Prop)(next:M ->D ->M)(stop:M ->D ->Bool)(X:bS F K sc d)(E:dp sc x=aj)(h:∀m c U,ok (c::U) m ->(stop m c=aj ->dc F body ((x,sg c)::H m,Q m) .brk (H m,Q m))/\(stop m c=ao ->ok U (next m c)/\dc F body ((x,sg c)::H m,Q m) .next (H<|next m c,Q<|next m c))):∀U m,ok U m ->gF F (.Name x px) body (U.map sg) (H m,Q m) .next (H<|runM next stop U m,Q<|runM next stop U m)
 |[],m,_=>(rfl,rfl)
 |c::U,m,G=>by
  refine fk (h m c U G) λj z=>?_;rw[FZ];cases q:stop m c with
  |true=>rw[if_pos rfl];exact(gn _ (.brk) _ (sJ.name X E) (j q) (rfl,rfl))
  |false=>
   rw[if_neg 'd'];refine fk (z q) λy u=>?_;exact(gn _ (.next) _ (sJ.name X E) u<|gF.DU sg H Q ok next stop X E h U _ y)
theorem TO(c:Nat):(⟨#[c]⟩:aF)=S [c]:=rfl
theorem one_beq(c k:Nat)(h:x=S [k]):((⟨#[c]⟩:aF)==x)=(c==k):=by rw[h,TO,NS];simp
theorem BF(h:a.natAbs<2^60):mZ a<=64:=by
 unfold mZ;split
 .exact bH _
 .have:=(YI (n:=a.natAbs) (k:=60) (by rename_i q;simp at q;omega)).mpr h;exact(ai this 'd')
theorem lG.mulL(h:a.natAbs<2^60):lG F st .Mult (.int a) (.int b) (.int<|a*b):=lG.aaj<|IntMulOk.of_left<|BF h
theorem lG.abb(h:b≠0)(Q:b.natAbs<2^30):lG F st .FloorDiv (.int a) (.int b) (.int<|a.fdiv b):=lG.abc h<|PyProof.noPylong_small Q
namespace W
theorem Gf(Q:notStar e=aj)(U:EV F e st v st₁)(H:EV F r st₁ (.int i) aN)(D:0<=i)(E:i<=1048576):EV F (.BinOp (.List [e] lp) .Mult r pos) st (.lst<|bU i.toNat v) aN:=
 EV.Gf (n:=i.toNat) Q U (by rw[E9 D];exact H) (by lia)
theorem aaS(X:bS F K sc D)(y:e<=D)(U:F.prog=PR)(hB:BS F.w F.hB)(G:(K.lookup f).any (λo=>match o.data with| .func _=>aj|_=>ao)=aj)(h:FN PR BS f e args Q [] (.ok v) [])(u:oz args)(E:yx Q)(H:NR v):dM F (.ref f) args Q (l,o) (.ok v) (l,o):=by obtain⟨k,rfl⟩:=oE y;exact uG X U hB G h u E H
theorem aaP(X:bS F K sc D)(y:e<=D)(U:F.prog=PR)(hB:BS F.w F.hB)(G:(K.lookup f).any (λo=>match o.data with| .func _=>aj|_=>ao)=aj)(h:FN PR BS f e args Q [] (.exc x) [])(u:oz args)(E:yx Q)(H:yx x.att):dM F (.ref f) args Q (l,o) (.exc x) (l,o):=by obtain⟨k,rfl⟩:=oE y;exact fnX X U hB G h u E H
theorem fn'(X:bS F K sc D)(E:e<=D)(H:F.prog=PR)(hB:BS F.w F.hB)(U:(K.lookup f).any (λo=>match o.data with| .func _=>aj|_=>ao)=aj)(h:FN PR BS f e args Q o v fi):dM F (.ref f) args Q (l,o) v (l,fi):=by obtain⟨k,rfl⟩:=oE E;exact fn X H hB U h
theorem zI(X:bS F K sc D)(z:e+1<=D)(U:F.prog=PR)(hB:BS F.w F.hB)(E:makesIn K C=aj)(hi:findIn K (.ref C) "__init__"=ah (ah<|.ref H))(u:typeIn K (.ref H)=ah (.type "function"))(h:FN PR BS H e (.ref 0::args) [] [.inst C []] (.ok .none) [.inst C a])(y:oz args)(Q:yx a)(hz:∀x∈o,Rp o.length [.inst C a] x)(G:xc o.length [.inst C a] l l):dM F (.ref C) args [] (l,o) (.ok<|.obj C a) (l,o):=by obtain⟨k,rfl⟩:=oE z;exact KD X U hB E hi u h y Q hz G
end W
end
namespace W
section
variable{x:aF} {v w:V} {a:List (aF×V)} {y1:aF} {w1:V} {y2:aF} {w2:V} {y3:aF} {w3:V} {y4:aF} {w4:V} {y5:aF} {w5:V} {y6:aF} {w6:V} {y7:aF} {w7:V} {y8:aF} {w8:V} {y9:aF} {w9:V} {y10:aF} {w10:V} {y11:aF} {w11:V} {y12:aF} {w12:V} {y13:aF} {w13:V} {y14:aF} {w14:V} {y15:aF} {w15:V} {y16:aF} {w16:V} {y17:aF} {w17:V} {y18:aF} {w18:V} {y19:aF} {w19:V} {y20:aF} {w20:V} {y21:aF} {w21:V}
end
end W
section
variable{F:Fx} {K:hJ} {sc:cJ} {d:Nat} {st st₁ aN st₃ ko:St} {l aH l' loc:List (aF×V)} {o fi me oH o' obs ex:List O} {ρ cO ρ₁:List (aA×aA)} {P P' bN:aA ->Prop} {s s' a7 s₀:aS}
theorem PE.px(h:PE F ρ P Q (.exc x) H e s'):PX F ρ P Q (.exc x) H e s' :=by refine cH λu E=>?_;obtain⟨y,q,cO,P',a,D,vs,G,I,U,z⟩:=h;refine E ?_;cases q;exact(x,rfl,ah .none,.inr<|.inl rfl,cO,P',a,D,vs,G,I,U.up,z)
theorem EX.abo(H:gm e=aj)(Q:vg F e st (.exc y) st₁):EX F (.Assign [.Name x px] e pos) st (.exc y) st₁:=λρ P s I=>
 ir (aq (Q ρ P s I) (λu a7 z=>by refine aR z λv q U=>?_;cases q) λU U z=>z.px) (nX H)
theorem EX.ZJ(Q:vg F e st (.exc y) st₁):EX F (.Return (ah e) pos) st (.exc y) st₁:=λρ P s I=>
 ff (aq (Q ρ P s I) (λu a7 z=>by refine aR z λv q U=>?_;cases q) λU U z=>z.px)
theorem MO(I:Inv F st ρ P s)(Q:Heap.MadeExcOf s.heap D e cls args):PX F ρ P s.heap (.exc (cls,[])) st (.ref e) {s with heap:=D}:=by refine jo (Q.there) λt H U U=>?_;refine fk (I.sD (s' :={s with heap:=D}) Q.keeps Q.new (_,H) rfl rfl) λE y=>?_;refine(_,rfl,aC,.inl rfl,ρ,_,e,_,_,rfl,E,y.up,(H,rfl,rfl,ae rfl,Q.new,(I.fresh Q.new).1,.inr rfl,.inl rfl,rfl))
theorem IV(Q:notStar e=aj):(backTo p<|starEach [e] env).any (·.1)=ao:=by rw[cC Q];rfl
theorem EX.O8(Fc:ExcCallFacts cls newId aau)(G:ExcRaiseFacts cls)(X:bS F K sc d)(hd:3<=d)(hn:notStar e=aj)(hf:EV F (.Name x np) st (.val<|.type cls) st₁)(ha:EV F e st₁ v aN):EX F (.Raise (ah<|.Call (.Name x np) [e] [] U) aC pos) st (.exc (.type cls,[])) aN:=λρ P s I=>by
 refine wpAny_Raise_call Fc G (X.pZ hd) (IV hn)<|aq (hf ρ P s I) (λu a7 z=>?_) i4;refine cH λGq kq=>?_;obtain⟨ρ₁,bN,m,E,r⟩:=z;refine kq ?_;refine(r,?_);have H:wpAny F.M F.A (spliced<|backTo U<|starEach [e] F.env) (λvs a7=>wpAny F.M F.A (evalAll ([]:List (Sem aK))) (λks Q=>(([]:List aF).zip ks)=[]/\vs.length<=sizeLine/\∀h' e,Heap.MadeExc Q.heap h' e cls vs ->PX F ρ P s.heap (.exc (.type cls,[])) aN (.ref e) {Q with heap:=h'}) (PX F ρ P s.heap (.exc (.type cls,[])) aN) a7) (PX F ρ P s.heap (.exc (.type cls,[])) aN) a7:=by refine aq (vE.cons hn ha vE.nil U ρ₁ bN a7 m) (λus Q z=>?_) i4;refine cH λGq kq=>?_;obtain⟨yK,mU,j,D,y⟩:=z;refine kq ?_;have hl:=y.length;refine er (rfl,by rw[hl];exact(by decide:1<=16777216),λh' e hm=>?_);exact PX.trans (a7:=Q) (E.trans D).up<|MO j (hm.keeps,hm.new,hm.there)
 rw[cC hn]at H⊢;exact iQ (keywords:=[]) rfl H
theorem EX.DM{x:aF}(X:bS F K sc d)(hd:3<=d)(j:x="StopIteration")(D:sc.names.lookup x=ah .globalImplicit)(E:nsIn K mainGlobals x=ah dW)(G:bootBuiltins x=ah (.type "StopIteration"))(H:bV x=aj):EX F (.Raise (ah<|.Name x u) aC pos) st (.exc (.type "StopIteration",[])) st:=λρ P s I=>by refine cH λGq U=>?_;refine f7 (X.ok) λy z O t=>?_;refine U ?_;refine owsi_raiseC (X.pZ hd) (dE O.kind ((X.kindOf x).trans D) (jy (O.glob▸I.g O) (BN X.kb.vr O.g E) (O.bi▸I.b O) ((t x (bV.C7 H).2.2).trans G) (rfl,rfl)) (bV.C7 H).1) λm e Q=>?_;exact MO I (Q.keeps,Q.new,Q.there)
noncomputable abbrev Fx.held(F:Fx)(e:aK):Fx:={F with A:=F.A.mark<|ah e}
theorem bS.held(X:bS F K sc d)(hd:2<=d)(e:aK):bS (F.held e) K sc 2:=
 (X.kb,X.scope,X.kind,X.glob,X.bi,(X.cx.frames,by have:=X.cx.depth;show F.A.depth+2<_;exact MH this hd<|by omega,by have:=X.cx.units;show F.A.units+50*2<_;lia,λh=>absurd h 'd'),X.cell,X.top,X.lim)
theorem sd.held(Y:sd F)(e:aK):sd (F.held e):=(Y.frame,Y.fr)
theorem Inv.held(I:Inv F st ρ P s)(e:aK):Inv (F.held e) st ρ P s:=(I.toHInv,I.loc)
theorem Inv.tG(I:Inv (F.held e) st ρ P s):Inv F st ρ P s:=(I.toHInv,I.loc)
theorem yw.held(p:yw F ρ P h fl x st e s):yw (F.held v) ρ P h fl x st e s:=
 let⟨cO,P',a,Q,vs,H,I,y,z⟩:=p;(cO,P',a,Q,vs,H,I.held v,y,z)
theorem EX.SN(y:dc F body st .next st₁)(u:dc F Q st₁ fl aN):EX F (.Try body (G::j) Q [] pos) st fl aN:=λρ P s I=>by
 refine yl<|aq (y ρ P s I) (λf a7 z=>?_) (λe a7 z=>?_)
 .obtain⟨ρ₁,bN,D,H,q⟩:=z;cases q;exact aq (u ρ₁ bN a7 D) (λf E z=>z.trans H) λU U z=>z.trans H
 .obtain⟨_,q,_⟩:=z;cases q
def NT(F:Fx)(K:hJ)(sc:cJ)(b:List cn)(st:St)(fl:FV)(H:St):Prop:=
 ∀Q:Fx,Q.prog=F.prog ->Q.w=F.w ->Q.hB=F.hB ->bS Q K sc 2 ->sd Q ->dc Q b st fl H
noncomputable def FV.isX:FV ->Bool
 | .exc _=>aj
 |_=>ao
theorem PS.tG(p:PS (F.held v) ρ P h fl st f s):PS F ρ P h fl st f s:=
 let⟨cO,P',I,y,q⟩:=p;(cO,P',I.tG,y,q)
theorem PX.not(Q:fl.isX=ao)(p:PX F ρ P h fl st e s):False:=by obtain⟨x,q,_⟩:=p;subst q;cases Q
theorem EX.Zk(X:bS F K sc d)(Y:sd F)(hd:2<=d)(aaE:isSubtype (.type T) (.type "BaseException")=pure aj)(hnt:isSubtype (.type<|(tv T).elim "type" λx=>x.metatype) (.type "tuple")=pure ao)(PZ:isSubtype (.type Xn) (.type T)=pure aj)(hk:sc.names.lookup x=ah .globalImplicit)(hg:nsIn K mainGlobals x=ah dW)(hbx:bootBuiltins x=ah (.type T))(X4:bV x=aj)(hb:dc F body st (.exc (.type Xn,at_)) st₁)(hs:NT F K sc (QI::u) st₁ fl aN)(hf:fl.isX=ao):EX F (.Try body [.ExceptHandler (ah<|.Name x np) aC (QI::u) hp] orelse [] pos) st fl aN:=λρ P s I=>by
 refine cH λGq j=>?_;refine f7 (X.ok) λmg mb O t=>?_;refine eN (Y.fr) λouter D8=>?_;refine j ?_;refine yl<|aq (hb ρ P s I) (λf a7 z=>?_) (λe a7 z=>?_)
 .obtain⟨_,_,_,_,q⟩:=z;exact q.elim
 .refine cH λGq j=>?_;obtain⟨y,q,f,UT,p⟩:=z;refine j ?_;cases q;refine aq (Ct X.cx.frames D8 Y.frame I UT p) (λU fW Pa=>?_) i3;refine aq (oh (fr:=aC) I Pa) (λU jT D=>?_) i3;refine cH λGq j=>?_;obtain⟨ρ₁,bN,a,oe,vs,rfl,E,Sn,Q⟩:=id D;refine j ?_;refine wpAny_handleBy_builtin aaE hnt PZ ?_;refine dE O.kind ((X.kindOf x).trans hk) (jy (O.glob▸E.g O) (BN X.kb.vr O.g hg) (O.bi▸E.b O) ((t x (bV.C7 X4).2.2).trans hbx) ?_) (bV.C7 X4).1;refine(rfl,(oe,Q.at_,Q.cls),?_);rw[if_pos rfl];refine aq (oh (F:=F.held<|.ref a) (fr:=aC) (I.held _)<|D.held (v:=.ref a)) (λU H Gr=>?_) i3;refine cH λGq j=>?_;obtain⟨G,mU,a',oe',vs',e4,nP,m,aca⟩:=Gr;refine j ?_;refine aq (hs (F.held<|.ref a) rfl rfl rfl (X.held hd _) (Y.held _) G mU H nP) (λf qP z=>?_) (λU U z=>(z.not hf).elim);exact PS.trans (a7:=H) m z.tG
end
section
variable{F:Fx} {K:hJ} {sc:cJ} {d:Nat} {st vX st₁ aN st₃ ko:St} {l aH l' loc:List (aF×V)} {o fi me oH o' obs ex:List O} {ρ cO ρ₀ ρ₁:List (aA×aA)} {P P' mV bN:aA ->Prop} {s s' a7 s₀:aS}
theorem yw.take(Q:Inv F vX ρ₀ mV s₀)(p:yw F ρ₀ mV s₀.heap (ah .none) (.ref C,att) st e s)(D:att≠[]):∃a H ρ P,e= .ref a/\s.heap.get? a=ah H/\H.cls= .ref C/\Inv F st ρ P s/\eH F.fr (Own F.env) ρ₀ ρ mV P s₀.heap s.heap/\R (F.fw s ρ P) (.obj C att) e:=by
 refine cH λGq kq=>?_;obtain⟨ρ,P,a,H,vs,rfl,I,y,z⟩:=p;refine j7 (Q.fresh z.new) λf1 f2 f3 f4=>?_;refine kq ?_;have ap:Apart F ρ P a:=(z.iV,z.va,f2,f3,f4);have I' :=I.ig (s' :=s) ap (λU U U e=>e) rfl rfl;have m:¬mV a:=λq=>by refine eN (Q.there a q) λo e=>?_;rw[z.new]at e;cases e
 refine(e8 a H ρ (λb=>P b/\b≠a) rfl z.at_ z.cls I' (y.ig z.new m λU U U e=>e) ?_);rcases z.att with q|⟨dx,es,n,j,u,G,E⟩
 .exact absurd q D
 .refine(iH a H dx es n rfl z.at_ z.cls (by unfold notCls;rw[z.dat]) j u (λq=>q.2 rfl) (λq=>G q.1) (RA.mono (σ:=F.fw s ρ P) (τ:=F.fw s ρ λb=>P b/\b≠a) (rfl,λU U e U=>e,λU U e=>e,λU q=>.inl q.1) _ _ E))
theorem GJ(j:F.env.scope.kind= .function)(hk:F.env.kindOf n=ah .local)(I:Inv F st ρ P s)(hl:∀y v,loc.lookup y=ah v ->y≠n/\st.loc.lookup y=ah v):wpAny F.M F.A (do bindName F.env n .none;unbindBehindTheSuite F.env n pos) (λU s' =>Inv F (loc,st.obs) ρ P s' /\eH F.fr (Own F.env) ρ ρ P P s.heap s'.heap) E s:=by
 refine ak<|abG<|aq (store (v:=.none) (u:=.none) j (.inl hk) I pD) (λU a7 z=>?_) i3;refine fk z λQ mP=>?_;have hp:(F.env.scope.kind== .class||(F.env.scope.kind== .module&&F.env.locals !=F.env.globals))=ao:=by rw[j];rfl
 refine aR (Q.loc.ns) λm hn rl=>?_;have UC:(m n).isSome=aj:=by
  refine aR (rl n .none<|by simp) λu h U=>?_;rcases h with⟨_,h⟩|⟨h,_⟩
  .rw[h];rfl
  .rw[hk]at h;rcases h with h|h<;>cases h
 unfold unbindBehindTheSuite;refine wpAny_onRaise ?_;unfold unbindName;refine ak<|wpAny_point<|ak ?_;unfold deleteName;simp only[hk,hp];rw[if_neg 'd'];refine ak<|wpAny_nsDel_keeps hn λD v G H=>?_;simp only[if_true,UC,yH,cQ,if_false];refine ay<|wpAny_point ?_;have hd:∃o',D.get? F.env.locals=ah o' /\∀vs,o'.data≠ .fields vs:=by refine cH λGq kq=>?_;refine ji G λo es ep ho hd U=>?_;refine kq ?_;exact(bM o ho (λvs q=>by rw[hd]at q;cases q))
 have L:jQ.Le (F.fw a7 ρ P) (F.w.params,D,ρ,P):=fO H Q.loc.jV;refine((HInv.own (s' :={a7 with heap:=D}) Q.toHInv H Q.loc.jV Q.loc.lj Q.loc.ml hd rfl rfl,((_,G,λy v' e=>?_),Q.loc.jV,Q.loc.lj,Q.loc.ml,λn c hc=>?_,Q.loc.inj)),mP.trans<|sY H (.inl rfl) (let⟨o',a,_⟩:=hd;(o',a)))
 .refine cH λGq kq=>?_;refine fk (hl y v' e) λq e=>?_;refine aR (rl y v' (by rw[jf q];exact e)) λu' h ru=>?_;refine kq ?_;refine(bM u' ?_<|R.mono L _ _ ru);rcases h with⟨a,b⟩|⟨a,c,o,b,d,e⟩
  .exact .inl (a,by simp[q,b])
  .exact .inr (gJ a c o b ((H.2 c (Q.loc.cells _ _ b).2.2.1).trans d) e)
 .refine cH λGq kq=>?_;refine fF (Q.loc.cells n c hc) λa1 a2 a3 a4 AV o a5 a6=>?_;refine kq ?_;exact(fG a1 a2 a3 a4 AV o ((H.2 c a3).trans a5) a6)
theorem EX.SO(X:bS F K sc d)(Y:sd F)(hd:2<=d)(CV:ktsIn K C "BaseException"=aj)(D5:att≠[])(hk:sc.names.lookup x=ah .globalImplicit)(hg:nsIn K mainGlobals x=ah (ah<|.ref C))(X4:bV x=aj)(hn:sc.names.lookup n=ah .local)(hb:dc F body st (.exc (.ref C,att)) st₁)(hs:NT F K sc (QI::S4) ((n,.obj C att)::st₁.loc,st₁.obs) fl aN)(hf:fl.isX=ao)(hl:∀y v,loc.lookup y=ah v ->y≠n/\aN.loc.lookup y=ah v):EX F (.Try body [.ExceptHandler (ah<|.Name x np) (ah n) (QI::S4) hp] orelse [] pos) st fl (loc,aN.obs):=λρ P s I=>by
 refine f7 (X.ok) λmg mb O t=>?_;refine eN (Y.fr) λouter D8=>?_;refine yl<|aq (hb ρ P s I) (λf a7 z=>?_) (λe a7 z=>?_)
 .obtain⟨_,_,_,_,q⟩:=z;exact q.elim
 .obtain⟨y,q,f,UT,p⟩:=z;cases q;refine aq (Ct X.cx.frames D8 Y.frame I UT p) (λU fW Pa=>?_) i3;refine aq (oh (fr:=aC) I Pa) (λU jT D=>?_) i3;obtain⟨ρ₁,bN,a,oe,vs,rfl,G,Sn,Q⟩:=id D;obtain⟨nm,q',N,bs,bm,aco,sn,sub,ab,col,dd,k0,k1,k2,k3,k5,newId,hC,U1,_⟩:=kts_cls (G.rh X.kb) CV;refine wpAny_handleBy_cons (codeAny_handlers_test ?_) (by intro q;cases q);refine dE O.kind ((X.kindOf x).trans hk) (m7 (O.glob▸G.g O) (Mh X.kb.vr O.g hg) ?_) (bV.C7 X4).1;refine wpAny_excMatches_sub_self hC Q.at_ Q.cls U1<|codeAny_handlers_suite_as ?_;refine aq (oh (F:=F.held<|.ref a) (fr:=aC) (I.held _)<|D.held (v:=.ref a)) (λU so Gr=>?_) i3;obtain⟨a',oe',m,mU,e4,_,_,nP,YV,Zz⟩:=yw.take (I.held _) Gr D5;cases e4;refine aq (store (F:=F.held<|.ref a) (x:=n) O.kind (.inl<|(X.kindOf n).trans hn) nP Zz) (λU qP z=>?_) i3;refine fk z λqy qK=>?_;refine aq (hs (F.held<|.ref a) rfl rfl rfl (X.held hd _) (Y.held _) m mU qP qy) (λf Zm z=>?_) (λU U z=>(z.not hf).elim);obtain⟨j,sG,E,yL,q⟩:=z;refine aq (GJ (F:=F) O.kind ((X.kindOf n).trans hn) E.tG hl) (λU ach z=>?_) i3;refine fk z λRn H=>?_;refine(j,sG,Rn,((YV.trans qK).trans yL).trans H,?_);cases fl with
  |next=>exact q
  |brk=>exact q
  |cont=>exact q
  |ret v=>refine aR q λu hu r=>?_;exact(u,hu,R.mono (E.tG.ue H) _ _ r)
  |exc _=>exact q.elim
end
theorem FN.Ks{st:cn}(hl:∀P,(KK P).lookup f=ah (Hd.iN st ql df kd pm<|.ref c))(hc:∀P,codeAt (KK P) c ql=aj)(hd:(CO st&&((aQ st).kind== .function)&& !(aQ st).isCoroutine&& !(aQ st).isGenerator&&nm.all (λx=>(aQ st).names.lookup x==ah .local||(aQ st).names.lookup x==ah .cell)&&decide (nm.Nodup)&&decide (f≠746)&&decide (f≠868))=aj)(hb:∀(s:aS) us G par ρ P,RL (par,s.heap,ρ,P) args us ->RB (par,s.heap,ρ,P) kw G ->∀(M:yC) (A:fR) (E:aK ->aS ->Prop) (Q:List (aF×aK)->aS ->Prop),(∀binds s',(∀b o,s.heap.get? b=ah o ->s'.heap.get? b=ah o)->s'.gens=s.gens ->s'.os=s.os ->binds.map (·.1)=nm ->(∀x v,ab.lookup x=ah v ->∃y,binds.lookup x=ah y/\R (par,s.heap,ρ,P) v y)->Q binds s')->wpAny M A (bindArgs (Hd.Br st ql 3 df kd pm<|.ref c) (us,G)) Q E s)(h:∀F,F.prog=PR ->BS F.w F.hB ->bS F (KK F.w.params) (aQ st) d ->sd F ->∃fl H,dc F (eA st) (ab,obs) fl H/\fl.oc=v/\H.obs=cS):dB f (d+1) args kw obs v cS:=by
 simp only[aw,dk,decide_eq_true_eq,beq_iff_eq]at hd;refine cH λGq z=>?_;(refine fk hd λu h8=>?_;obtain⟨⟨⟨⟨⟨⟨h1,h2⟩,h3⟩,h4⟩,h5⟩,h6⟩,h7⟩:=u);refine uO (xX (ql:=ql) (gl:=3) (df:=df) (kd:=kd) (pm:=pm) (cd:=.ref c) h1) λb1 b2 b3 b4 b5 b6 b7=>?_;refine z ?_;have j:∀{a P} {o:gy},(KK P).lookup a=ah o ->¬Grows a:=λe=>by refine fk (ny e) λhm U=>?_;have:=List.all_eq_true.mp jH _ hm;simp only[aw,decide_eq_true_eq]at this;exact λg=>by rcases g with g|g;exact this.1.2 g;exact this.2 g
 have gf:¬Grows f:=λg=>by rcases g with g|g;exact h7 g;exact h8 g
 have m:∀x∈nm,(aQ st).names.lookup x=ah .local\/(aQ st).names.lookup x=ah .cell:=λx hx=>by have:=List.all_eq_true.mp h5 x hx;simpa using this
 refine FN.zz (sc:=aQ st) (ab:=ab) (nm:=nm) (body:=eA st) (λw hB D=>?_) gf h6 m h2 h3 h4 λF hp X=>?_
 .have kb:=oZ D.says;refine cH λGq z=>?_;refine ji (ow<|hc w.params) λoc vs t e1 e2 e3=>?_;refine z ?_;exact(_,_,kb.vr _ _<|hl w.params,rfl,b1,b2,b3,b4,b5,(c,oc,vs,t,b6,kb.vr _ _ e1,e2,by rw[b7];exact e3,j e1),D.lim,λs us G par ρ P hk ra rk=>hb s us G par ρ P ra rk)
 .have kb:=oZ X.bs.says;refine uM (h F hp X.bs (kb,X.scope,X.kind,X.glob,X.bi,X.cx,X.cell,X.bs.top,X.bs.lim) (X.frame,X.fr)) λfl H q=>?_;exact(Lw fl H q)
theorem QQ(D:∀t d U,(∀b o,s.heap.get? b=ah o ->U.get? b=ah o)->Q [("cls",u),("args",t),("kwargs",d)] {s with heap:=U}):wpAny M A (bindArgs (Hd.Br (Hd.f1 6 1) "IOBase.__new__" 3 .none .none (.str (aa "io") 371)<|.ref 89) ([u,H],[])) Q E s:=by
 have e:bindArgs (Hd.Br (Hd.f1 6 1) "IOBase.__new__" 3 .none .none (.str (aa "io") 371)<|.ref 89) ([u,H],[])=(do
  let t<-newTuple [H];let d<-alloc {cls:=.type "dict",data:=.dict #[]}
  pure [("cls",u),("args",t),("kwargs",.ref d)]):='k'
 rw[e];unfold newTuple;refine ak<|m5 (ak<|Mf<|ay ?_) (by size_fits);exact D _ _ _ λb o e=>bI _ _ _ _<|bI _ _ _ _ e
theorem Km(P:aB)(S):peek (KK P) S (vq<|.ref 597)=ah aC:='k'
theorem fcn(P:aB):findCls (KK P) (.ref 597) (.type "type") "__new__"=ah (.get (.builtin "staticmethod.__get__") (.ref 94) .none<|.ref 597):='k'
theorem Tr(P:aB):recIn (KK P) 94 "staticmethod"=ah [.ref 90]:='k'
theorem Tt(P:aB):readsIn (KK P) 597 (.type "type")=aj:='k'
theorem Z4(P:aB):findCls (KK P) (.type "object") (.type "type") "__new__"=ah (.val<|.builtin "object.__new__"):='k'
theorem GV(P:aB)(S):peek (KK P) S (vq<|.type "object")=ah (ah "object.__new__"):='k'
theorem Kn(P:aB)(S):peek (KK P) S (Mq<|.ref 597)=ah (.type "object"):='k'
theorem Pm(P:aB):mroIn (KK P) 597 (.ref 597)=ah aj:='k'
theorem KA(P:aB):mroIn (KK P) 597 (.type "object")=ah aj:='k'
noncomputable def TX(P:aB):ClassData:=match(KK P).lookup 597 with
 |some (_,_,.cls c,_)=>c
 |_=>default
noncomputable def nbD(P:aB):Option aA:=match(KK P).lookup 597 with
 |some o=>o.dict
 |none=>aC
noncomputable def nbS(P:aB):Array (Option aK):=match(KK P).lookup 597 with
 |some o=>o.slots
 |none=>#[]
theorem Cv(X:(KK P).In h):h.get? 597=ah (.type "type",nbD P,.cls<|TX P,nbS P):=X _ _ 'k'
theorem aaf(P:aB):(TX P).abstract=ao:='k'
theorem aae(P:aB):(TX P).hasDel=ao:='k'
theorem TS(P:aB):(TX P).mro.isEmpty=ao:='k'
section
variable{prog:jt} {w:dC} {A:fR} {R:rJ ->aS ->Prop} {h:dR} {g:Array GenState} {d:Drawn} {t:Nat} {os:ey}
theorem Pg(X:(KK w.params).In h)(Q:R (.ok<|.ret<|.ref<|h.objs.size+1) ((h.push emptyDict).push<|instObj 597 h.objs.size,g,d,t,os)):
 codeAny (model prog w) A (.call (.builtin "object.__new__") ([.ref 597],[])) R (h,g,d,t,os):=by
 have hC:=Cv X;have e1:=aaf w.params;have e2:=aae w.params;have e4:=TS w.params;have base:gh (model prog w) h (Mq<|.ref 597) (.type "object"):=yr X<|Kn _ _;have T9:gh (model prog w) h (vq<|.type "object") (ah "object.__new__"):=yr X<|GV _ _;have top:gh (model prog w) h (isSubtype (.ref 597)<|.type "object") aj:=rI X<|KA _;have F:=PySem.F.objNew;refine Dl (k9 _ F.quiet) ?_;simp only[checkBuiltinCall,F.kind,F.split,F.row];have here:gh (model prog w) h (Bind.madeHere "object.__new__"<|.ref 597) ():=base.andThen<|T9.andThen<|fY (by simp only[Option.map_some,bne_self_eq_false,cQ,if_false]);have args:xg "object.__new__" (.hand,"object.__new__","__new__",.cls,[]) ([.ref 597],[])=pure ():='k';rw[args];repeat(first|simp only[bne_self_eq_false,cQ,if_false]|lk)
 refine hH F.entry ?_;unfold Builtin.«object.__new__»;have fin:∀A',wpAny (model prog w) A' (do
  let d<-if typeHasDict (.ref 597)then ah<$>alloc {cls:=.type "dict",data:=.dict #[]}else pure aC
  ret (<-newObj (.ref 597) .plain d)) (λfin s' =>match fin with| .done f=>R (.ok f) s' | .again c' =>c'.quiet=aj/\codeAny (model prog w) A c' R s') (λe s' =>R (.error e) s') (h,g,d,t,os):=by
  intro A';show wpAny _ _ ((alloc emptyDict>>=λx=>pure<|ah x)>>=_) _ _ _;refine ak<|ak<|Mf<|ay<|ak ?_;show wpAny _ _ (newObjAsIs _ _ _) _ _ _;unfold newObjAsIs classHasDel;refine ak<|Mf<|ak<|ak<|vh (bD _<|bD _ hC)<|ay ?_;rw[e2];refine ay<|ay ?_;show R _ _;rw[jv];exact Q
 repeat(first|simp only[e1,cQ,if_false]|exact fin _|lk)
end
theorem pW:typeLookup (.type "collections.deque") "__bool__"=pure aC:=by rw[ly,ik];kernel_rfl
theorem je:Slot "collections.deque" "__len__" "collections.deque.__len__":=
 .of (owner:="collections.deque") (n:="__len__") (by rw[ly,ik];kernel_rfl) (by decide+kernel) (by decide+kernel) (by decide+kernel)
  (by first|exact .inl (by decide+kernel)|exact .inr (by decide+kernel)) (by rw[eW];kernel_rfl)
theorem sy:entryFor table "collections.deque.__len__"=ah Builtin.«collections.deque.__len__»:=oM 'k'
theorem vd(a:aK):argsOk "collections.deque.__len__" ([a],[]):=by unfold argsOk;kernel_rfl
theorem sr:Slot "collections.deque" "__init__" "collections.deque.__init__":=
 .of (owner:="collections.deque") (n:="__init__") (by rw[ly,ik];kernel_rfl) (by decide+kernel) (by decide+kernel) (by decide+kernel)
  (by first|exact .inl (by decide+kernel)|exact .inr (by decide+kernel)) (by rw[eW];kernel_rfl)
theorem rt:entryFor table "collections.deque.__init__"=ah Builtin.«collections.deque.__init__»:=oM 'k'
theorem sC(a:aK):argsOk "collections.deque.__init__" ([a],[]):=by unfold argsOk;kernel_rfl
theorem wi:mroOf (.type "collections.deque")=pure [.type "collections.deque",.type "object"]:=by rw[mroOf_type];kernel_rfl
theorem rd:typeLookup (.type "collections.deque") "__new__"=pure (ah<|.builtin "collections.deque.__new__"):=by rw[ly,ik];kernel_rfl
theorem x8:TypeCalled "collections.deque" "collections.deque.__new__" "collections.deque.__init__":=
 (by decide+kernel,by decide+kernel,(Lw _ _ wi),madeBy_type wi rd<|by decide+kernel,by decide+kernel,by rw[eW];kernel_rfl,sr)
theorem tH:checkTypeCall "collections.deque" ([],[])=pure ():='k'
theorem vy:checkBuiltinCall "collections.deque.__new__" ([.type "collections.deque"],[])=pure ():='k'
theorem sx:entryFor table "collections.deque.__new__"=ah Builtin.«collections.deque.__new__»:=oM 'k'
theorem mF:plainId "collections.deque.__new__"=aj:=by decide+kernel
theorem tQ:isSubtype (.type "collections.deque") (.type "collections.deque")=pure aj:=by rw[eW];kernel_rfl
theorem vD(D:aA):Builtin.«collections.deque.__init__» ([.ref D],[])=(do setField (.ref D) 0 .none;vw (.ref D);ret .none):='k'
section
variable{prog:jt} {w:dC} {A:fR} {E:aK ->aS ->Prop} {s:aS}
theorem uV(h:Q₁ (.ref s.heap.objs.size) {s with heap:=s.heap.push {cls:=.type "collections.deque",data:=.fields #[.none,rawInt 0]} }):codeAny (model prog w) A (.call (.builtin "collections.deque.__new__") ([.type "collections.deque"],[])) (wants Q₁ E) s:=by
 refine pJ ?_;show wpAny _ A.in1 (do checkBuiltinCall "collections.deque.__new__" ([.type "collections.deque"],[]);again (.builtin "collections.deque.__new__" ([.type "collections.deque"],[]))) _ _ s;refine ak<|m4 vy<|ay (tq mF _,hH sx ?_);rw[jS mF _];have Q:=tQ;unfold Builtin.«collections.deque.__new__» XC XE XB;obtain⟨U,g,d,H,os⟩:=s
 wp_walk
 exact h
theorem BD(z:∀u,(∀b o',s.heap.get? b=ah o' ->u.get? b=ah o')->u.get? s.heap.objs.size=ah {cls:=.type "collections.deque",dict:=aC,data:=.fields #[.none,rawInt 0],slots:=#[]}->Q (.ref s.heap.objs.size) {s with heap:=u}):wpAny (model prog w) A (call (.type "collections.deque") []) Q E s:=by
 refine abJ (Q₁:=λobj U=>obj= .ref s.heap.objs.size/\U={s with heap:=s.heap.push {cls:=.type "collections.deque",data:=.fields #[.none,rawInt 0]} }) x8 tH rt
  (uV (rfl,rfl)) λobj U D=>?_
 obtain⟨rfl,rfl⟩:=D;have G:(s.heap.push {cls:=.type "collections.deque",data:=.fields #[.none,rawInt 0]}).get? s.heap.objs.size=ah {cls:=.type "collections.deque",data:=.fields #[.none,rawInt 0]}:=bb _ rfl;refine((bM _ G rfl),sC _,?_);rw[vD];refine ak<|rH G rfl (ae rfl) ?_;have H:=bQ (j9 (·.setIfInBounds 0 dU)) G rfl;unfold vw XF;refine ak<|ak<|ak<|BM H rfl<|ay ?_;rw[if_neg 'd'];refine ay<|ay ?_;refine(rfl,z _ (λb o' e=>?_) H);have y:b≠s.heap.objs.size:=λj=>eK _<|j▸bR e;exact(cv _ _<|gu y).trans (bD _ e)
theorem xl(z:s.heap.get? l=ah o)(j:o.cls= .type "collections.deque")(hd:o.data= .fields vs)(hz:vs.size=2)(h:Q ao {s with toks:=s.toks+1+1}):wpAny (model prog w) A (truthy<|.ref l) Q E s:=by
 have H:s.TypeIs (.ref l) "collections.deque":=(bM o z j);have y:wpAny (model prog w) (A.under<|.builtin "len" ([.ref l],[])) (Builtin.«len» ([.ref l],[])) (λfin s' =>fin= .done (.ret<|.int 0<|s.toks+1)/\Q ao s') E s:=by
  unfold Builtin.«len»;refine ak (m:=oneArg "len" _)<|ay ?_;refine ak (m:=callSpecial? (.ref l)<|aa "__len__")<|EU (name:=aa "__len__") H je
   (Xi je H sy ?_<|vd _)
  show wpAny _ _ (do retInt (<-vL (.ref l))) _ _ s;unfold vL;refine ak<|ak<|BM z hd<|ay ?_;rw[hz];refine ak<|wpAny_mkInt<|ay<|bM _ rfl ?_;refine ak<|bo<|ay ?_;refine ak<|wpAny_letGo ?_;exact ak<|wpAny_mkInt<|ay (rfl,h)
 have D:wpAny (model prog w) A (runValue<|.builtin "len" ([.ref l],[])) (λr s' =>r= .int 0 (s.toks+1)/\Q ao s') E s:=by refine wpAny_runValue (hH entry_len ?_);exact aq y (λfin s' u=>by obtain⟨rfl,G⟩:=u;exact(rfl,G)) λU U e=>e
 unfold truthy;first
  |refine ak (EW (name:=aa "__bool__") H pW ?_)
  |refine ak (ay<|ak<|EW (name:=aa "__bool__") H pW ?_)
 first
  |refine ak (Yx (name:=aa "__len__") H je.lookup ?_)
  |refine ak (ay<|ak<|Yx (name:=aa "__len__") H je.lookup ?_)
 first
  |exact ak (aq D (λr s' u=>by obtain⟨rfl,G⟩:=u;exact ay G) λU U e=>e)
  |exact ak (ay<|ak<|aq D (λr s' u=>by obtain⟨rfl,G⟩:=u;exact ay G) λU U e=>e)
end
section
variable{F:Fx} {K:hJ} {sc:cJ} {d e:Nat} {st st₁ aN:St} {o fi me:List O} {ρ cO:List (aA×aA)} {P P' :aA ->Prop} {s s' :aS}
theorem sF.dq:sF F st .dq ao:=λρ P s u I r=>by refine cH λj H=>?_;(refine mn r λa o vs Q z y G D U=>?_;subst Q);refine H ?_;exact xl z y G D<|cy rfl (λU U e=>e) rfl rfl
theorem BI.dq:BI F st (.type "collections.deque") [] .dq:=λρ P s U I Q=>by cases Q;exact BD λD k H=>(k,rfl,rfl,s.heap.objs.size,_,_,rfl,H,rfl,rfl,rfl,I.nq<|de _)
theorem dO.MM:dO F st .NotEq (.str x) (.str y) (x !=y):=λρ P s G D I H Q=>by
 obtain⟨t,rfl⟩:=H;obtain⟨u,rfl⟩:=Q;refine PySem.P.ne_str ?_;have:(x.cps.toList !=y.cps.toList)=(x !=y):=by
  by_cases h:x=y
  .subst h;simp
  .have U:x.cps.toList≠y.cps.toList:=λq=>h (by cases x;cases y;congr;exact Array.toList_inj.mp q);rw[bne_iff_ne.mpr U,bne_iff_ne.mpr h]
 rw[this];exact .tok s.toks eV
theorem dO.in1:dO F st .In (.str ⟨#[c]⟩) (.str x) (decide<|c∈x.cps.toList):=by have:=dO.inS (F:=F) (st:=st) (x:=x) (y:=⟨#[c]⟩);rw[Dn]at this;exact this
theorem dO.aad:dO F st .NotIn (.str ⟨#[c]⟩) (.str x) (!decide (c∈x.cps.toList)):=by have:=dO.aac (F:=F) (st:=st) (x:=x) (y:=⟨#[c]⟩);rw[Dn]at this;exact this
theorem Dk.prop(X:bS F K sc (e+2+d))(hp:F.prog=PR)(hB:BS F.w F.hB)(hg:plainGet K C name=aj)(hh:hasDictIn K C=aj)(ha:findIn K (.ref C) name=ah (ah<|.ref p))(hn:specialIn K (.ref p) "__get__"=ah (ah<|.builtin "property.__get__"))(ht:takesIn K (.ref p)=ah aj)(hr:recIn K p "property"=ah (.ref fg::rest))(ho:st.obs[i]? =ah (.inst C a))(hv:v.pg=aj)(h:dB fg e [.ref i] [] st.obs (.ok v) cS):Dk F st (.ref i) name v (st.loc,cS):=λρ P s u I r=>by
 have m:objOf st (.ref i)=ah (C,a):=by show DR st.obs[i]? =_;rw[ho];rfl
 refine cH λGq kq=>?_;(refine ej (iG I m r) λy ox dx es n j IA R4 MF=>?_;subst j);refine kq ?_;have XK:=I.rh X.kb;refine get_bind XK IA (plainGet_of hg).1 (PySem.W.findObj_data (by refine aR (vF hh) λcd hc U=>?_;rw[hc];rfl) ha hn ht) (plainGet_of hg).2 (dP<|prop_get (s:={s with toks:=s.toks+1}) XK hr ?_);have hA:Cx F.A.in1 F.fr e:=Cx.sub (d:=e) (X.cx.frames,by have:=X.cx.depth;exact qU this<|by omega,by have:=X.cx.units;exact qU this<|by omega,λh=>X.cx.handled<|by exact j5 h (by omega)) (pE _) (show F.A.units+1<=F.A.units+40 from iS 'd' _) rfl rfl;have IK:Inv F st ρ P {s with toks:=s.toks+1}:=I.keeps (λU U e=>e) rfl rfl;have h' :FN F.prog BS fg e [.ref i] [] st.obs (.ok v) cS:=by rw[hp];exact h
 refine PF.use (h' F.w F.hB F.fr _ F.os ρ P _ hB hA IK.toHInv [.ref y] [] (ek _ [] rfl r rfl) rfl) λH D fW v' z Q rv=>?_;have G:=IK.after z Q;show wpAny _ _ (handedOut v') _ _ _;rw[Jr<|R.handed hv rv];exact ay (H,D,G,Q,rv)
end
theorem Nj(P:aB):findIn (KK P) (.ref 797) "__getattribute__"=ah (ah<|.builtin "BaseException.__getattribute__"):='k'
theorem Ni(P:aB):findIn (KK P) (.ref 797) "__getattr__"=ah aC:='k'
theorem UW(P:aB):(clsIn (KK P) 797).any (·.hasDict)=aj:='k'
theorem T6(P:aB):mroIn (KK P) 797 (.type "BaseException")=ah aj:='k'
theorem za:Slot "BaseException" "__getattribute__" "BaseException.__getattribute__":=
 .of (owner:="BaseException") (n:="__getattribute__") (by rw[ly,ik];kernel_rfl) (by decide+kernel) (by decide+kernel) (by decide+kernel)
  (by first|exact .inl (by decide+kernel)|exact .inr (by decide+kernel)) (by rw[eW];kernel_rfl)
theorem Ej:entryFor table "BaseException.__getattribute__"=ah Builtin.«object.__getattribute__»:=
 entryFor_alias (id' :="object.__getattribute__") (by rw[Sd];kernel_rfl) (by first|rfl|decide+kernel) (by decide+kernel) (by rw[Sd];kernel_rfl)
theorem Jb(a b:aK):argsOk "BaseException.__getattribute__" ([a,b],[]):=by unfold argsOk;kernel_rfl
theorem P9(X:(KK w.params).In s.heap)(I:InstAt s.heap x ox 797 U)(u:findObj (KK w.params) 797 U name=ah (.value v))(G:handedIn v=aj)(h:Q v {s with toks:=s.toks+1}):wpAny (model prog w) A (getAttr (.ref x) name expr) Q E s:=by
 obtain⟨D,g,d,t,os⟩:=s;have L0:=I.type (M:=model prog w);have L1:=ew (M:=model prog w) X<|Nj _;have L2:=ew (M:=model prog w) X<|Ni _;have y:=looks_find (M:=model prog w) X I u;have H:(expr&&onTheHeap (yn "BaseException.__getattribute__"))=ao:=by cases expr<;>rfl
 have sub:gh (model prog w) D (isInstance (.ref x)<|.type "BaseException") aj:=I.type.andThen<|rI X<|T6 _;unfold getAttr getAttrBy;refine ak<|Jp<|bo<|ak<|L0.at<|ak<|L1.at ?_;show wpAny _ _ (getAttrByItsOwn _ _ _ _ _ _) _ _ _;unfold getAttrByItsOwn hookBefore;refine ak<|L2.at ?_;unfold callGetattribute;rw[H];refine ak<|wpAny_attempt<|bo ?_;show wpAny _ _ (boundAndCalled _ _ _) _ _ _;unfold boundAndCalled;rw[za.bind];refine ak<|ay<|dP ?_;refine Mi za.plain Ej<|@Rx (model prog w) _ _ _ "BaseException.__getattribute__" "BaseException" "__getattribute__" (.ref x) [.str name t] [] _ (by decide+kernel) (by decide+kernel) sub (Jb _ _) ?_;unfold Builtin.«object.__getattribute__»;refine ak<|ay<|ak<|ay<|ak<|L0.at<|ak<|y.at ?_;refine ay ?_;show wpAny _ _ (handedOut v) _ _ _;rw[Jr G];exact ay h
theorem nQ.GP{st:St}(k:KB (KK F.w.params) F.hB)(hc:findIn (KK F.w.params) (.ref 797) name=ah aC)(y:a.lookup name=ah v)(z:v.pg=aj):nQ F st (.obj 797 a) name v:=λρ P s u I r=>by
 refine cH λGq G=>?_;(refine ej (iG I (h:=(rfl:objOf st (.obj 797 a)=ah (797,a))) r) λx ox dx es n Q hI hd E=>?_;subst Q);have h:=RA.find (name:=name) E;rw[y]at h;(refine fk h λH U=>?_;obtain⟨e,m,D⟩:=H);refine G ?_;have j:getL name es=ah (ah e.val):=by unfold getL;rw[m]
 exact P9 (I.rh k) hI (Internal.findObj_data (UW _) hc j) (R.handed z D)<|.tok _ D
theorem Em:(Manifest.canonical "BaseException.__getattribute__" !="object.__getattribute__")=ao:=by decide+kernel
theorem GM.GP{st:St}(k:KB (KK F.w.params) F.hB)(hf:findIn (KK F.w.params) (.ref 797) name=ah (ah<|.ref f))(z:typeIn (KK F.w.params) (.ref f)=ah (.type "function"))(m:a.lookup name=aC):GM F (.obj 797 a) name st (.ref f):=λpl ρ P s u I r E=>by refine cH λGq y=>?_;(refine ej (iG I (h:=(rfl:objOf st (.obj 797 a)=ah (797,a))) r) λx ox dx es n D H hd G=>?_;subst D);refine y ?_;have X:=I.rh k;have j:shadowIn (ah<|dictOf es n) name=ah ao:=G.shadow m;unfold getMethod specialOf;refine ak<|ak<|H.type.here<|(ew X<|Nj _).here ?_;dsimp only;rw[Em,if_neg 'd'];refine ak<|ak<|H.type.here<|(ew X<|Ni _).here ?_;refine ak<|ak<|H.type.here<|(ew X hf).here<|ak<|(looks_typeIn X z).here ?_;rw[if_neg<|by decide+kernel];refine ak<|gG H.at_ ?_;have Q:=H.dict;rw[hd]at Q⊢;refine aR (Option.map_eq_some_iff.mp j) λr' a' b' =>?_;refine ak<|ak<|gG Q ?_;rw[nsLook_of a'];refine ay ?_;rw[b'];exact ak<|Rt<|ay (rfl,λU U e=>e,rfl,rfl)
noncomputable abbrev zG(n:Int)(m ln:aF):List (aF×V):=[("lineno",.int n),("msg",.str m),("line",.str ln)]
inductive An where
 |c (o:Oc) (obs:List O)
 |cl (o:Oc) (obs:List O)
 |b (q:Bool)
 |a
 |l (fl:FV) (st:St)
 |i (j:Nat) (v:V)
 |ss (ys:List aF)
 |n (v:V)
 |v (l:List V)
 |w (v:V)
 |x (v:V) (obs:List O)
 |s (fl:FV) (st:St)
noncomputable section
def gd(b:Bool)(p:Prop):Prop:=match b with
 |true=>p
 |false=>False
theorem gd.t(h:gd b p):b=aj:=by cases b;exact h.elim;rfl
theorem gd.p{p:Prop}(h:gd b p):p:=by cases b;exact h.elim;exact h
noncomputable def Lb:List (aF×aK):=[("deque",.type "collections.deque"),("_index",.ref 63),("BytesIO",.ref 350),("StringIO",.ref 597),("shlex",.ref 732),("split",.ref 744),("join_shlex",.ref 751),("quote",.ref 759),("NannyNag",.ref 797),("Whitespace",.ref 862),
 ("format_witnesses",.ref 873),("_law_columns",.ref 880),("_law_turned",.ref 887),("_law_spelled",.ref 892),("_law_plain",.ref 897),("_law_row",.ref 902),("_law_left",.ref 907),("_law_complaint",.ref 912),("_law_built",.ref 919),("_law_judged",.ref 926),("_law_read",.ref 933)]
noncomputable def LN:List (aF×aK):=[("len",.builtin "len"),("max",.builtin "max"),("chr",.builtin "chr"),("isinstance",.builtin "isinstance"),("range",.type "range"),("str",.type "str"),("int",.type "int"),("bool",.type "bool"),("type",.type "type"),("tuple",.type "tuple"),("list",.type "list"),("object",.type "object"),
 ("ValueError",.type "ValueError"),("StopIteration",.type "StopIteration")]
noncomputable def gOk(P:aB):Bool:=Lb.all λp=>nsIn (KK P) mainGlobals p.1==ah (ah p.2)
noncomputable def bOk(P:aB):Bool:=LN.all λp=>nsIn (KK P) mainGlobals p.1==ah aC&&bootBuiltins p.1==ah p.2
theorem U7(P:aB):gOk P=aj:='k'
theorem Wz(P:aB):bOk P=aj:='k'
theorem CX(h:Lb.lookup x=ah u):nsIn (KK P) mainGlobals x=ah (ah u):=eq_of_beq<|List.all_eq_true.mp (U7 P) _<|eD h
theorem yb(h:LN.lookup x=ah u):nsIn (KK P) mainGlobals x=ah aC/\bootBuiltins x=ah u:=by have:=List.all_eq_true.mp (Wz P) _<|eD h;rw[aw]at this;exact(eq_of_beq this.1,eq_of_beq this.2)
noncomputable def OQ:List (aF×String):=[("split","str.split"),("join","str.join"),("strip","str.strip"),("count","str.count"),("find","str.find")]
end
noncomputable section
noncomputable abbrev KV:=V ->St ->List An ->Prop
structure Rq where
 e:aW ->St ->List An ->KV ->Prop
 t:aW ->St ->List An ->(Bool ->St ->List An ->Prop)->Prop
 r:aW ->St ->List An ->KV ->Prop
 s:cn ->St ->List An ->(FV ->St ->List An ->Prop)->Prop
def aZ{Q:Type}(o:Option Q)(k:Q ->Prop):Prop:=match o with
 |some x=>k x
 |none=>False
theorem aZ.h(h:aZ o k):∃x,o=ah x/\k x:=by cases o;exact h.elim;exact(bM _ rfl h)
noncomputable def vI:V ->Option Int
 | .int i=>ah i
 |_=>aC
noncomputable def vS:V ->Option aF
 | .str x=>ah x
 |_=>aC
noncomputable def vR:V ->Option Nat
 | .ref i=>ah i
 |_=>aC
noncomputable def vV:V ->Option aK
 | .val v=>ah v
 |_=>aC
noncomputable def vT:V ->Option (List V)
 | .tup l=>ah l
 |_=>aC
def OB{Q:Type _}(o:Option Q)(P:Q ->Prop):Prop:=match o with
 |some x=>P x
 |none=>True
theorem oB(h:o=ah x)(b:OB o P):P x:=by rw[h]at b;exact b
theorem OB.bind(h:∀x,o=ah x ->OB (f x) P):OB (o.bind f) P:=by
 cases o with
 |none=>exact trivial
 |some x=>exact h x rfl
theorem OB.ite(h:c=aj ->OB x P):OB (if c=aj then x else aC) P:=by
 cases c
 .exact trivial
 .exact h rfl
def BB(q:Bool)(P:Prop):Prop:=match q with
 |true=>P
 |false=>True
theorem bB(h:q=aj)(b:BB q P):P:=by rw[h]at b;exact b
theorem toI_h(h:vI v=ah i):v= .int i:=oB (P:=λi=>v= .int i) h (by clear h;cases v<;>first|exact trivial|rfl)
theorem toS_h(h:vS v=ah i):v= .str i:=oB (P:=λi=>v= .str i) h (by clear h;cases v<;>first|exact trivial|rfl)
theorem toR_h(h:vR v=ah i):v= .ref i:=oB (P:=λi=>v= .ref i) h (by clear h;cases v<;>first|exact trivial|rfl)
theorem toV_h(h:vV v=ah i):v= .val i:=oB (P:=λi=>v= .val i) h (by clear h;cases v<;>first|exact trivial|rfl)
theorem toT_h(h:vT v=ah i):v= .tup i:=oB (P:=λi=>v= .tup i) h (by clear h;cases v<;>first|exact trivial|rfl)
def lh(v:V)(k:Int ->Prop):Prop:=aZ (vI v) k
def n6(v:V)(k:aF ->Prop):Prop:=aZ (vS v) k
def JE(v:V)(k:Nat ->Prop):Prop:=aZ (vR v) k
theorem lh.h(h:lh v k):∃i,v= .int i/\k i:=let⟨i,e,q⟩:=aZ.h h;(i,toI_h e,q)
theorem n6.h(h:n6 v k):∃i,v= .str i/\k i:=let⟨i,e,q⟩:=aZ.h h;(i,toS_h e,q)
theorem JE.h(h:JE v k):∃i,v= .ref i/\k i:=let⟨i,e,q⟩:=aZ.h h;(i,toR_h e,q)
def Cp(vs:List V)(k:V ->Prop):Prop:=match vs with
 |[v]=>k v
 |_=>False
def AF(vs:List V)(k:V ->V ->Prop):Prop:=match vs with
 |[v,w]=>k v w
 |_=>False
theorem Cp.h(h:Cp vs k):∃v,vs=[v]/\k v:=by
 match vs,h with
 |[v],h=>exact(bM v rfl h)
theorem AF.h(h:AF vs k):∃v w,vs=[v,w]/\k v w:=by
 match vs,h with
 |[v,w],h=>exact(f' v w rfl h)
noncomputable def anB:List An ->Option (Option Bool×List An)
 | .b d::r=>ah (ah d,r)
 | .a::r=>ah (aC,r)
 |_=>aC
def MI(q:Bool)(an:List An)(k:Bool ->List An ->Prop):Prop:=aZ (anB an) λp=>match p.1 with
 |some d=>q=d/\k d p.2
 |none=>(match q with
  |true=>k aj p.2
  |false=>k ao p.2)
theorem MI.h(h:MI q an k):∃Q,k q Q:=by
 refine aR (aZ.h h) λp U h=>?_;revert h;cases p.1 with
 |some d=>exact λh=>(_,h.1▸h.2)
 |none=>cases q<;>exact λh=>(_,h)
noncomputable def anX:List An ->Option ((V×List O)×List An)
 | .x v o::r=>ah ((v,o),r)
 |_=>aC
noncomputable def anW:List An ->Option (V×List An)
 | .w v::r=>ah (v,r)
 |_=>aC
noncomputable def anI:List An ->Option ((Nat×V)×List An)
 | .i j v::r=>ah ((j,v),r)
 |_=>aC
noncomputable def Yt:List An ->Option (List V×List An)
 | .v l::r=>ah (l,r)
 |_=>aC
def GA(o:Option (List V))(an:List An)(k:List V ->List An ->Prop):Prop:=match Yt an with
 |some p=>o=ah p.1/\k p.1 p.2
 |none=>aZ o λl=>k l an
theorem GA.h(h:GA o an k):∃l Q,o=ah l/\k l Q:=by
 unfold GA at h;cases e:Yt an with
 |some p=>rw[e]at h;exact(f' _ _ h.1 h.2)
 |none=>rw[e]at h;refine aR (aZ.h h) λl e h=>?_;exact(f' _ _ e h)
noncomputable def anN:List An ->Option (V×List An)
 | .n v::r=>ah (v,r)
 |_=>aC
def wN(o:Oc)(an:List An)(k:Oc ->List An ->Prop):Prop:=match anN an with
 |some p=>o= .ok p.1/\k (.ok p.1) p.2
 |none=>k o an
theorem wN.h(h:wN o an k):∃Q,k o Q:=by
 unfold wN at h;cases e:anN an with
 |some p=>rw[e]at h;exact(_,h.1▸h.2)
 |none=>rw[e]at h;exact(_,h)
noncomputable def abv:List An ->Option (List aF×List An)
 | .ss v::r=>ah (v,r)
 |_=>aC
noncomputable def anL:List An ->Option ((FV×St)×List An)
 | .l f s::r=>ah ((f,s),r)
 |_=>aC
noncomputable def WQ:List An ->Option ((FV×St)×List An)
 | .s f s::r=>ah ((f,s),r)
 |_=>aC
noncomputable def anC:List An ->Option ((Bool×Oc×List O)×List An)
 | .c o x::r=>ah ((aj,o,x),r)
 | .cl o x::r=>ah ((ao,o,x),r)
 |_=>aC
section
variable(F:Fx) (P:aB) (sc:cJ) (E:Rq)
noncomputable def lenOf(st:St)(v:V):Option Nat:=match v with
 | .str x=>ah x.length
 | .tup l=>ah l.length
 |v=>(fj st v).map eP
def WB(vs:List V)(st:St)(an:List An)(k:KV):Prop:=Cp vs λv=>match Yt an with
 |some p=>fj st v=ah p.1/\p.1.length<=2^24/\k (.int p.1.length) st p.2
 |none=>aZ (lenOf st v) λn=>n<=2^24/\k (.int n) st an
def WE(vs:List V)(st:St)(an:List An)(k:KV):Prop:=Cp vs λv=>lh v λi=>(0<=i/\i<=1114111)/\k (.str ⟨#[i.toNat]⟩) st an
def WA(vs:List V)(st:St)(an:List An)(k:KV):Prop:=AF vs λv w=>lh v λi=>lh w λj=>k (.int<|max i j) st an
def WD(vs:List V)(st:St)(an:List An)(k:KV):Prop:=AF vs λv w=>n6 v λx=>aZ (vV w) λt=>gd (t== .type "str")<|k (.bool aj) st an
def I3(vs:List V)(st:St)(an:List An)(k:KV):Prop:=AF vs λv w=>n6 v λx=>n6 w λy=>gd (!(y.length==0))<|x.length<=2^20/\k (.lst<|(aO x y).map V.str) st an
def NL(vs:List V)(st:St)(an:List An)(k:KV):Prop:=AF vs λv w=>n6 v λx=>aZ (fj st w) λl=>aZ (abv an) λp=>l=p.1.map V.str/\gb x p.1=aj/\k (.str<|aY x p.1) st p.2
def IZ(vs:List V)(st:St)(an:List An)(k:KV):Prop:=AF vs λv w=>n6 v λx=>n6 w λy=>x.length<=2^24/\k (.str<|iq x y) st an
def I5(vs:List V)(st:St)(an:List An)(k:KV):Prop:=AF vs λv w=>n6 v λx=>n6 w λy=>k (.int<|dY x y) st an
def NM(vs:List V)(st:St)(an:List An)(k:KV):Prop:=match vs with
 |[v,w,a,b]=>n6 v λx=>n6 w λy=>lh a λi=>lh b λj=>k (.int<|As x y i j) st an
 |_=>False
noncomputable def wj(st:St)(i:Nat):Option (List V):=Bf st.obs[i]?
noncomputable def Hp(st:St)(i:Nat):Option (aA×List (aF×V)):=DR st.obs[i]?
def WG(vs:List V)(st:St)(an:List An)(k:KV):Prop:=AF vs λv w=>JE v λi=>aZ (wj st i) λQ=>Q.length<=2^24/\k .none (st.loc,st.obs.set i<|.list<|Q++[w]) an
def SY(vs:List V)(st:St)(an:List An)(k:KV):Prop:=Cp vs λv=>lh v λi=>i.natAbs.log2<1920/\k (.str<|aa<|toString i) st an
def S1(vs:List V)(st:St)(an:List An)(k:KV):Prop:=Cp vs λv=>lh v λi=>k (.int i) st an
noncomputable def Zf:V ->Option String
 | .int _=>ah "int"
 | .str _=>ah "str"
 |_=>aC
def SW(vs:List V)(st:St)(an:List An)(k:KV):Prop:=Cp vs λv=>aZ (Zf v) λt=>k (.val<|.type t) st an
def SX(vs:List V)(st:St)(an:List An)(k:KV):Prop:=Cp vs λv=>GA (fj st v) an λl an=>l.length<=2^24/\k (.tup l) st an
def S0(vs:List V)(st:St)(an:List An)(k:KV):Prop:=match vs with
 |[v]=>lh v λi=>k (.ky 0 i) st an
 |[v,w]=>lh v λi=>lh w λj=>k (.ky i j) st an
 |_=>False
def tDq(vs:List V)(st:St)(an:List An)(k:KV):Prop:=match vs with
 |[]=>k .dq st an
 |_=>False
inductive Bk where
 |len|chr|max|X0|split|join|strip|count|find|app|str|int|typ|tup|ky|dq
noncomputable def bkB:List (String×Bk):=[("len",.len),("chr",.chr),("max",.max),("isinstance",.X0),("str.split",.split),("str.join",.join),("str.strip",.strip),("str.count",.count),("str.find",.find),("list.append",.app)]
noncomputable def bkT:List (String×Bk):=[("str",.str),("int",.int),("type",.typ),("tuple",.tup),("range",.ky),("collections.deque",.dq)]
noncomputable def Wy:Bk ->aK
 | .len=>.builtin "len"| .chr=>.builtin "chr"| .max=>.builtin "max"| .X0=>.builtin "isinstance"| .split=>.builtin "str.split"| .join=>.builtin "str.join"| .strip=>.builtin "str.strip"| .count=>.builtin "str.count"
 | .find=>.builtin "str.find"| .app=>.builtin "list.append"| .str=>.type "str"| .int=>.type "int"| .typ=>.type "type"| .tup=>.type "tuple"| .ky=>.type "range"| .dq=>.type "collections.deque"
noncomputable def bk(H:aK)(n:Nat):Option Bk:=match H with
 | .builtin Q=>if !(Q=="max"&& !(n==2))then bkB.lookup Q else aC
 | .type Q=>bkT.lookup Q
 |_=>aC
theorem Pq{l:List (String×Bk)}(h:l.lookup n=ah b):(n,b)∈l:=by
 induction l with
 |nil=>cases h
 |cons p r Q=>
  rw[cw]at h;cases q:n==p.1 with
  |true=>rw[q]at h;rw[eq_of_beq q,<-dG h];exact .head _
  |false=>rw[q]at h;exact .tail _<|Q h
theorem Ug{l:List (String×Bk)}{f:String ->aK}(Q:∀p∈l,f p.1=Wy p.2)(n:String):OB (l.lookup n) λb=>f n=Wy b:=by
 cases h:l.lookup n with
 |none=>exact trivial
 |some b=>exact Q _<|Pq h
noncomputable def wBI:Bk ->List V ->St ->List An ->KV ->Prop
 | .len=>WB| .chr=>WE| .max=>WA| .X0=>WD| .split=>I3| .join=>NL| .strip=>IZ| .count=>I5| .find=>NM| .app=>WG| .str=>SY| .int=>S1| .typ=>SW| .tup=>SX| .ky=>S0| .dq=>tDq
def B6(H:aK)(vs:List V)(Q:List (aF×V))(st:St)(an:List An)(k:Oc ->St ->List An ->Prop):Prop:=
 match bk H vs.length with
 |some b=>gd Q.isEmpty (wBI b vs st an λv st an=>k (.ok v) st an)
 |none=>aZ (anC an) λp=>(match p.1.1 with
  |true=>∀l,dM F H vs Q (l,st.obs) p.1.2.1 (l,p.1.2.2)
  |false=>dM F H vs Q st p.1.2.1 (st.loc,p.1.2.2))/\k p.1.2.1 (st.loc,p.1.2.2) p.2
noncomputable def rU(C:aA):Bool:=C==862||C==732||C==597
noncomputable def ur(v:V):Bool:=match v with
 | .obj _ _=>aj
 |_=>ao
noncomputable def DT(v:V)(name:aF)(st:St):Option (aA×Option V×Option aK):=match objOf st v with
 |some (C,a)=>if rU C||(C==797&&ur v)then(findIn (KK P) (.ref C) name).map λf=>(C,a.lookup name,f)else aC
 |none=>aC
noncomputable def isRef:aK ->Bool
 | .ref _=>aj
 |_=>ao
noncomputable def isFn(f:aK):Bool:=isRef f&&typeIn (KK P) f==ah (.type "function")
noncomputable def DH:V ->Bool
 | .str _=>aj
 |_=>ao
noncomputable def Y5(ov:V)(name:aF)(st:St):Option aK:=if DH ov then(OQ.lookup name).map yn else match DT P ov name st with
 |some (_,aC,ah f)=>if isFn P f then ah f else aC
 |some _=>aC
 |none=>((vR ov).bind<|wj st).bind λU=>if name==("append":aF)then ah (.builtin "list.append")else aC
noncomputable def B8(ov:V)(name:aF)(st:St):Option V:=match vV ov with
 |some f=>if f== .ref 862 then(if name==("S":aF)then ah (.str " ")else if name==("T":aF)then ah (.str ⟨#[9]⟩)else aC)else aC
 |none=>match DT P ov name st with
  |some (_,ah u,aC)=>if u.pg then ah u else aC
  |_=>aC
noncomputable def wL:List aW ->St ->List An ->(List V ->St ->List An ->Prop)->Prop
 |[],st,Q,k=>k [] st Q
 |e::r,st,Q,k=>gd (notStar e)<|E.e e st Q λv st Q=>wL r st Q λvs st Q=>k (v::vs) st Q
noncomputable def wK:List iu ->St ->List An ->(List (aF×V)->St ->List An ->Prop)->Prop
 |[],st,Q,k=>k [] st Q
 |w::r,st,Q,k=>aZ w.arg λn=>E.e w.value st Q λv st Q=>wK r st Q λvs st Q=>k ((n,v)::vs) st Q
noncomputable def xP:FV ->Bool
 | .next=>aj
 |_=>ao
noncomputable def wSs:List cn ->St ->List An ->(FV ->St ->List An ->Prop)->Prop
 |[],st,Q,k=>k .next st Q
 |x::r,st,Q,k=>E.s x st Q λH st Q=>match xP H with
  |true=>wSs r st Q k
  |false=>k H st Q
noncomputable def opB:BoolOp ->Bool
 | .And=>aj
 | .Or=>ao
noncomputable def Y2(H:BoolOp):List aW ->St ->List An ->(Bool ->St ->List An ->Prop)->Prop
 |[],st,Q,k=>k (opB H) st Q
 |x::r,st,Q,k=>E.t x st Q λq st Q=>MI q Q λd Q=>match d==opB H with
  |true=>Y2 H r st Q k
  |false=>k d st Q
noncomputable def glN(x:aF):Option aK:=if sc.names.lookup x==ah .globalImplicit then(Lb.lookup x).or (LN.lookup x)else aC
def Fo(x:aF)(st:St)(an:List An)(k:KV):Prop:=gd (bV x) (match st.loc.lookup x with
 |some v=>k v st an
 |none=>aZ (glN sc x) λu=>k (.val u) st an)
def wM(ob:aW)(name:aF)(Q:si)(args:List aW)(kws:List iu)(pos:si)(st:St)(an:List An)(k:Oc ->St ->List An ->Prop):Prop:=
 gd (f5 ob&&args.all notStar&&decide (args.length<30)&&(Q.endLine==pos.line)&&kws.isEmpty)
  (E.e ob st an λH st an=>aZ (Y5 P H name st) λf=>wL E args st an λvs st an=>B6 F f (H::vs) [] st an k)
def wF(Q:aW)(args:List aW)(kws:List iu)(st:St)(an:List An)(k:Oc ->St ->List An ->Prop):Prop:=gd (notAttr Q&&args.all notStar&&kws.all named)
 (E.e Q st an λU st an=>aZ (vV U) λf=>wL E args st an λvs st an=>wK E kws st an λH st an=>B6 F f vs H st an k)
noncomputable def nM:aW ->Option (aW×aF×si)
 | .Attribute H name Q=>ah (H,name,Q)
 |_=>aC
theorem qu(h:nM e=ah (ob,n,p)):e= .Attribute ob n p:=oB (P:=λq=>e= .Attribute q.1 q.2.1 q.2.2) h (by clear h;cases e<;>first|exact trivial|rfl)
def wC(Q:aW)(args:List aW)(kws:List iu)(pos:si)(st:St)(an:List An)(k:Oc ->St ->List An ->Prop):Prop:=match nM Q with
 |some p=>wM F P E p.1 p.2.1 p.2.2 args kws pos st an k
 |none=>wF F E Q args kws st an k
noncomputable def x9:aW ->Option (aW×List aW×List iu×si)
 | .Call f a w p=>ah (f,a,w,p)
 |_=>aC
theorem IF(h:x9 e=ah (f,a,w,p)):e= .Call f a w p:=oB (P:=λq=>e= .Call q.1 q.2.1 q.2.2.1 q.2.2.2) h (by clear h;cases e<;>first|exact trivial|rfl)
def wO(e:aW)(st:St)(an:List An)(k:Oc ->St ->List An ->Prop):Prop:=match x9 e with
 |some p=>wC F P E p.1 p.2.1 p.2.2.1 p.2.2.2 st an k
 |none=>E.e e st an λv st an=>k (.ok v) st an
noncomputable def ocV:Oc ->Option V
 | .ok v=>ah v
 | .exc _=>aC
def Wx(Q:eI)(i j:Int)(k:V ->Prop):Prop:=match Q with
 | .Add=>k (.int<|i+j)
 | .Sub=>k (.int<|i -j)
 | .Mult=>i.natAbs<2^60/\k (.int<|i*j)
 | .Mod=>j≠0/\k (.int<|i.fmod j)
 | .FloorDiv=>(j≠0/\j.natAbs<2^30)/\k (.int<|i.fdiv j)
 |_=>False
def Wv(Q:eI)(x:aF)(b:V)(k:V ->Prop):Prop:=match Q with
 | .Add=>n6 b λy=>x.length+y.length<=2^24/\k (.str<|x++y)
 | .Mult=>lh b λj=>Sf x j/\k (.str<|sP x j)
 |_=>False
def Ww(Q:eI)(l:List V)(b:V)(st:St)(k:V ->Prop):Prop:=match Q with
 | .Add=>aZ (fj st b) λm=>l.length+m.length<=2^24/\k (.lst<|l++m)
 |_=>False
noncomputable def MU:eI ->Bool
 | .Pow=>aj
 |_=>ao
def Oi(Q:eI)(a b:V)(st:St)(an:List An)(k:KV):Prop:=match MU Q with
 |true=>aZ (anW an) λp=>(∀st,lG F st Q a b p.1)/\k p.1 st p.2
 |false=>match(vI a)with
  |some i=>lh b λj=>Wx Q i j λc=>k c st an
  |none=>match(vS a)with
   |some x=>Wv Q x b λc=>k c st an
   |none=>aZ (fj st a) λl=>Ww Q l b st λc=>k c st an
noncomputable def isAdd:eI ->Bool
 | .Add=>aj
 |_=>ao
def Oe(Q:eI)(a b:V)(k:V ->Prop):Prop:=gd (isAdd Q) (match(vI a)with
 |some i=>lh b λj=>k (.int<|i+j)
 |none=>n6 a λx=>n6 b λy=>x.length+y.length<=2^24/\k (.str<|x++y))
noncomputable def VQ(Q:yF)(i j:Int):Option Bool:=match Q with
 | .Eq=>ah (i==j)| .NotEq=>ah (i !=j)| .Lt=>ah (decide<|i<j)| .LtE=>ah (decide<|i<=j)| .Gt=>ah (decide<|i>j)| .GtE=>ah (decide<|i>=j)|_=>aC
noncomputable def XI(v:V):Option String:=match v with
 | .val (.type t)=>ah t
 |_=>aC
noncomputable def uh:V ->Bool
 | .none=>aj
 |_=>ao
noncomputable def VP(Q:yF)(a:V):Option Bool:=match Q with
 | .Is=>ah a.isNone
 | .IsNot=>ah (!a.isNone)
 | .Eq=>if uh a then ah aj else if DH a then ah ao else aC
 |_=>aC
noncomputable def VO(Q:yF)(x y:aF):Option Bool:=match Q with
 | .Eq=>ah (x==y)
 |_=>aC
noncomputable def VN(Q:yF)(t u:String):Option Bool:=match Q with
 | .Is=>ah (t==u)
 | .IsNot=>ah (t !=u)
 |_=>aC
noncomputable def VR(Q:yF):Option Bool:=match Q with
 | .Eq=>ah ao
 |_=>aC
noncomputable def LC(Q:yF)(a b:V):Option Bool:=match uh b with
 |true=>VP Q a
 |false=>match vI a with
  |some i=>(vI b).bind (VQ Q i)
  |none=>match vS a with
   |some x=>(vS b).bind (VO Q x)
   |none=>match XI a with
    |some t=>(XI b).bind (VN Q t)
    |none=>if uh a&&DH b then VR Q else aC
def Og(Q:yF)(a b:V)(an:List An)(k:Bool ->List An ->Prop):Prop:=match LC Q a b with
 |some q=>k q an
 |none=>aZ (anB an) λp=>aZ p.1 λq=>(∀st,dO F st Q a b q)/\k q p.2
noncomputable def Oo(v:V):Option Bool:=match v with
 | .none=>ah ao
 | .bool b=>ah b
 | .int i=>ah (i !=0)
 | .dq=>ah ao
 |_=>aC
noncomputable def Zl(st:St)(v:V):Option (Nat×Bool):=match v with
 | .str x=>ah (x.length,x.length !=0)
 | .tup l=>ah (l.length,!l.isEmpty)
 |v=>(fj st v).map λl=>(l.length,!l.isEmpty)
def N9(v:V)(st:St)(k:Bool ->Prop):Prop:=match Oo v with
 |some b=>k b
 |none=>aZ (Zl st v) λp=>p.1<=2^24/\k p.2
def B4(e:Option aW)(st:St)(an:List An)(k:Option Int ->St ->List An ->Prop):Prop:=match e with
 |none=>k aC st an
 |some e=>E.e e st an λv st an=>lh v λi=>k (ah i) st an
def Oa(o:V)(lo hi sp:Option Int)(st:St)(an:List An)(k:KV):Prop:=match(vS o)with
 |some x=>gd sp.isNone (x.length<=2^24/\k (.str<|dX x lo hi) st an)
 |none=>aZ (fj st o) λl=>gd (sp !=ah 0)<|l.length<=2^24/\k (.lst<|pick l lo hi sp) st an
noncomputable def Ce(st:St)(o:V):Option (List V):=match(vT o)with
 |some l=>ah l
 |none=>fj st o
def Mu(o i:V)(st:St)(an:List An)(k:KV):Prop:=lh i λn=>GA (Ce st o) an λl an=>aZ (anI an) λp=>(place n l.length=ah p.1.1/\l[p.1.1]? =ah p.1.2/\l.length<=2^24)/\k p.1.2 st p.2
def VG(c:Const)(st:St)(an:List An)(k:KV):Prop:=match c with
 | .int i=>k (.int i) st an
 | .str x=>k (.str x) st an
 | .none=>k .none st an
 | .bool b=>k (.bool b) st an
 |_=>False
noncomputable def isNeg:UnaryOp ->Bool
 | .USub=>aj
 |_=>ao
noncomputable def Uu:UnaryOp ->Bool
 | .Not=>aj
 |_=>ao
def VD(Q:UnaryOp)(x:aW)(st:St)(an:List An)(k:KV):Prop:=gd (isNeg Q)<|E.e x st an λv st an=>lh v λi=>k (.int (-i)) st an
noncomputable def J4:aW ->Option aF
 | .Constant (.str x) _ _=>ah x
 |_=>aC
noncomputable def Ut(e:aW):Bool:=match x9 e with
 |some (f,_)=>(match nM f with
  |some (_,n,_)=>n==("replace":aF)
  |none=>ao)
 |none=>ao
noncomputable def Je(l:aW)(Q:eI)(r:aW):Option aF:=if isAdd Q&&Ut r then J4 l else aC
noncomputable def list1:aW ->Option aW
 | .List [e] _=>ah e
 |_=>aC
noncomputable def isMul:eI ->Bool
 | .Mult=>aj
 |_=>ao
noncomputable def rep1(l:aW)(Q:eI):Option aW:=if isMul Q then(list1 l).bind λe=>if notStar e then ah e else aC else aC
noncomputable def NK:aW ->Option (aW×eI×aW)
 | .BinOp l Q r _=>ah (l,Q,r)
 |_=>aC
theorem LM(h:NK e=ah (a,Q,b)):∃p,e= .BinOp a Q b p:=oB (P:=λq=>∃p,e= .BinOp q.1 q.2.1 q.2.2 p) h (by clear h;cases e<;>first|exact trivial|exact(_,rfl))
def Ob(e r:aW)(st:St)(an:List An)(k:KV):Prop:=E.e e st an λv st an=>E.e r st an λw st an=>lh w λi=>(0<=i/\i<=1048576)/\k (.lst<|bU i.toNat v) st an
noncomputable def TR(Q:eI)(r:aW):Option (aW×aW):=if isAdd Q then(NK r).bind λp=>(rep1 p.1 p.2.1).map λe=>(e,p.2.2)else aC
def Sv(a e r:aW)(st:St)(an:List An)(k:KV):Prop:=E.e a st an λva st an=>Ob E e r st an λU st an=>GA (fj st va) an λH an=>aZ (fj st U) λQ=>
 H.length+Q.length<=2^24/\k (.ref st.obs.length) (st.loc,st.obs++[.list<|H++Q]) an
def Sz(l:aW)(Q:eI)(r:aW)(st:St)(an:List An)(k:KV):Prop:=E.e l st an λa st an=>E.e r st an λb st an=>Oi F Q a b st an k
def Qo(l:aW)(Q:eI)(r:aW)(st:St)(an:List An)(k:KV):Prop:=match Je l Q r with
 |some x=>E.r r st an λv st an=>n6 v λy=>x.length+y.length<=2^24/\k (.str<|x++y) st an
 |none=>match rep1 l Q with
  |some e=>Ob E e r st an k
  |none=>match TR Q r with
   |some p=>Sv E l p.1 p.2 st an k
   |none=>Sz F E l Q r st an k
noncomputable def one{Q:Type}:List Q ->Option Q
 |[x]=>ah x
 |_=>aC
theorem wd(h:one l=ah x):l=[x]:=oB (P:=λx=>l=[x]) h (by clear h;rcases l with _|⟨_,_|⟨_,_⟩⟩<;>first|exact trivial|rfl)
def Y7(l:aW)(Q:List yF)(U:List aW)(st:St)(an:List An)(k:Bool ->St ->List An ->Prop):Prop:=aZ (one Q) λH=>aZ (one U) λr=>gd (!behindInMarks H r)
 (E.e l st an λa st an=>E.e r st an λb st an=>Og F H a b an λq an=>k q st an)
def Qq(ob:aW)(name:aF)(pos:si)(st:St)(an:List An)(k:KV):Prop:=match anX an with
 |some p=>EV F (.Attribute ob name pos) st p.1.1 (st.loc,p.1.2)/\k p.1.1 (st.loc,p.1.2) p.2
 |none=>gd (f5 ob)<|E.e ob st an λQ st an=>aZ (B8 P Q name st) λv=>k v st an
noncomputable def FU:aW ->Option (Option aW×Option aW×Option aW)
 | .Slice lo H Q _=>ah (lo,H,Q)
 |_=>aC
theorem J9{lo hi sp:Option aW}(h:FU e=ah (lo,hi,sp)):∃p,e= .Slice lo hi sp p:=oB (P:=λq=>∃p,e= .Slice q.1 q.2.1 q.2.2 p) h (by clear h;cases e<;>first|exact trivial|exact(_,rfl))
def Y3(v:aW)(lo hi sp:Option aW)(st:St)(an:List An)(k:KV):Prop:=E.e v st an λo st an=>B4 E lo st an λl st an=>B4 E hi st an λu st an=>B4 E sp st an λt st an=>Oa o l u t st an k
def Qj(v Q:aW)(st:St)(an:List An)(k:KV):Prop:=match FU Q with
 |some p=>Y3 E v p.1 p.2.1 p.2.2 st an k
 |none=>gd (lP Q)<|E.e v st an λo st an=>E.e Q st an λi st an=>Mu o i st an k
def VC(es:List aW)(st:St)(an:List An)(k:KV):Prop:=wL E es st an λvs st an=>vs.length<=2^24/\k (.tup vs) st an
def VE(es:List aW)(st:St)(an:List An)(k:KV):Prop:=match es.isEmpty with
 |true=>aZ (anB an) λp=>aZ p.1 λd=>(match d with
  |true=>k (.ref st.obs.length) (st.loc,st.obs++[.list []]) p.2
  |false=>k (.lst []) st p.2)
 |false=>wL E es st an λvs st an=>vs.length<=2^24/\k (.lst vs) st an
def eIf(t a c:aW)(st:St)(an:List An)(k:KV):Prop:=E.t t st an λq st an=>MI q an λd an=>(match d with
 |true=>E.e a st an k
 |false=>E.e c st an k)
def eX(e:aW)(st:St)(an:List An)(k:KV):Prop:=aZ (anX an) λp=>EV F e st p.1.1 (st.loc,p.1.2)/\k p.1.1 (st.loc,p.1.2) p.2
def sE(e:aW)(st:St)(an:List An)(k:KV):Prop:=match e with
 | .Constant c _ _=>VG c st an k
 | .Name x _=>Fo sc x st an k
 | .UnaryOp D x _=>VD E D x st an k
 | .BinOp l D r _=>Qo F E l D r st an k
 | .Compare l U y _=>Y7 F E l U y st an λq st an=>k (.bool q) st an
 | .Call f H G Q=>wC F P E f H G Q st an λo st an=>aZ (ocV o) λv=>k v st an
 | .Attribute z name Q=>Qq F P E z name Q st an k
 | .Subscript v j _=>Qj E v j st an k
 | .Tuple es _ _=>VC E es st an k
 | .List es _=>VE E es st an k
 | .IfExp t a c _=>eIf E t a c st an k
 | .ListComp u m scope Q=>eX F (.ListComp u m scope Q) st an k
 |_=>False
def sT(e:aW)(st:St)(an:List An)(k:Bool ->St ->List An ->Prop):Prop:=match nZ e with
 |true=>E.e e st an λv st an=>N9 v st λq=>k q st an
 |false=>match e with
  | .Compare l Q D _=>Y7 F E l Q D st an k
  | .BoolOp H U _=>Y2 E H U st an k
  | .UnaryOp H x _=>gd (Uu H) (E.t x st an λq st an=>k (!q) st an)
  |_=>False
def Tv(x:aF)(st:St)(an:List An)(k:KV):Prop:=gd (bV x)<|aZ (st.loc.lookup x) λv=>k v st an
noncomputable def two{Q:Type}:List Q ->Option (Q×Q)
 |[x,y]=>ah (x,y)
 |_=>aC
theorem SM(h:two l=ah (x,y)):l=[x,y]:=oB (P:=λq=>l=[q.1,q.2]) h (by clear h;rcases l with _|⟨_,_|⟨_,_|⟨_,_⟩⟩⟩<;>first|exact trivial|rfl)
def Tu(f:aW)(args:List aW)(kws:List iu)(pos:si)(st:St)(an:List An)(k:KV):Prop:=aZ (nM f) λa=>aZ (two args) λp=>aZ (J4 p.1) λy=>aZ (J4 p.2) λz=>
 gd (f5 a.1&&a.2.1==("replace":aF)&&(a.2.2.endLine==pos.line)&& !(y==z)&&decide (z.length<=16)&&kws.isEmpty) (E.r a.1 st an λv st an=>n6 v λx=>x.length<=100000/\k (.str<|bX x y z) st an)
def sR(e:aW)(st:St)(an:List An)(k:KV):Prop:=match e with
 | .Name x _=>Tv x st an k
 | .Call f Q U H=>Tu E f Q U H st an k
 |_=>False
noncomputable abbrev KF:=FV ->St ->List An ->Prop
noncomputable def Hh:aW ->Bool
 | .Name .. | .Call .. | .Attribute .. =>aj
 |_=>ao
noncomputable def nameOf:aW ->Option (aF×si)
 | .Name x p=>ah (x,p)
 |_=>aC
theorem gS(h:nameOf e=ah (x,p)):e= .Name x p:=oB (P:=λq=>e= .Name q.1 q.2) h (by clear h;cases e<;>first|exact trivial|rfl)
noncomputable def ocF(o:Oc)(x:aF)(st:St):FV×St:=match o with
 | .ok v=>(.next,((x,v)::st.loc,st.obs))
 | .exc y=>(.exc y,st)
def aName(x:aF)(e:aW)(st:St)(an:List An)(k:KF):Prop:=gd (dp sc x&&gm e)<|wO F P E e st an λo st an=>wN o an λo an=>k (ocF o x st).1 (ocF o x st).2 an
noncomputable def takes(C:aA)(name:aF):Bool:=takerIn (KK P) C name==ah aC
def Pb(i:Nat)(name:aF)(v:V)(st:St)(an:List An)(k:KF):Prop:=aZ (Hp st i) λc=>gd (rU c.1&&takes P c.1 name&&fX (kz name v c.2).length 1000)<|k .next (st.loc,st.obs.set i<|.inst c.1<|kz name v c.2) an
def W3(ob:aW)(name:aF)(e:aW)(st:St)(an:List An)(k:KF):Prop:=gd (gm e)<|E.e e st an λv st an=>E.e ob st an λr st an=>JE r λi=>Pb P i name v st an k
def WZ(ob H e:aW)(st:St)(an:List An)(k:KF):Prop:=gd (lP H&&gm e)<|E.e e st an λv st an=>E.e ob st an λr st an=>E.e H st an λc st an=>JE r λi=>lh c λc=>GA (wj st i) an λQ an=>aZ (anI an) λp=>
 (c=(p.1.1:Int)/\p.1.1<Q.length/\Q.length<=2^24)/\k .next (st.loc,st.obs.set i<|.list<|Q.set p.1.1 v) p.2
noncomputable def FH:aW ->Option (aW×aW)
 | .Subscript Q H _=>ah (Q,H)
 |_=>aC
theorem J3(h:FH e=ah q):∃p,e= .Subscript q.1 q.2 p:=oB (P:=λq=>∃p,e= .Subscript q.1 q.2 p) h (by clear h;cases e<;>first|exact trivial|exact(_,rfl))
noncomputable def vQ:aW ->Option (List aW)
 | .Tuple es _ _=>ah es
 |_=>aC
theorem xk(h:vQ e=ah es):∃j p,e= .Tuple es j p:=oB (P:=λes=>∃j p,e= .Tuple es j p) h (by clear h;cases e<;>first|exact trivial|exact(_,_,rfl))
noncomputable def namesOf:List aW ->Option (List aF)
 |[]=>ah []
 |e::r=>(nameOf e).bind λp=>(namesOf r).map λq=>p.1::q
noncomputable def Za(Q:List aW)(e:aW):Option (Option<|List aF):=match vQ e with
 |some vs=>FF Q vs sc
 |none=>ah aC
def WX(Q:List aW)(e:aW)(st:St)(an:List An)(k:KF):Prop:=aZ (Za sc Q e) λw=>aZ (namesOf Q) λns=>gd (gm e&&ns.all (dp sc)&&decide (2<=ns.length))<|E.e e st an λv st an=>aZ (vT v) λl=>gd (ns.length==l.length) (match w with
 |some H=>gd (H==ns) (k .next (ns.zip l++st.loc,st.obs) an)
 |none=>k .next ((ns.zip l).reverse++st.loc,st.obs) an)
def Rd(t e:aW)(st:St)(an:List An)(k:KF):Prop:=match nameOf t with
 |some p=>aName F P sc E p.1 e st an k
 |none=>match nM t with
  |some p=>W3 P E p.1 p.2.1 e st an k
  |none=>match FH t with
   |some p=>WZ E p.1 p.2 e st an k
   |none=>aZ (vQ t) λQ=>WX sc E Q e st an k
def WY(Q:List aW)(e:aW)(st:St)(an:List An)(k:KF):Prop:=aZ (namesOf Q) λns=>match ns with
 |[x,y,z]=>gd (dp sc x&&dp sc y&&dp sc z) (E.e e st an λv st an=>k .next ((z,v)::(y,v)::(x,v)::st.loc,st.obs) an)
 |_=>False
def OW(Q:List aW)(e:aW)(st:St)(an:List An)(k:KF):Prop:=match one Q with
 |some t=>Rd F P sc E t e st an k
 |none=>WY sc E Q e st an k
def SG(x:aF)(Q:eI)(e:aW)(st:St)(an:List An)(k:KF):Prop:=gd (dp sc x&&bV x)<|aZ (st.loc.lookup x) λa=>E.e e st an λb st an=>Oe Q a b λc=>k .next ((x,c)::st.loc,st.obs) an
def Zb(ob:aW)(name:aF)(Q:eI)(e:aW)(st:St)(an:List An)(k:KF):Prop:=E.e ob st an λr st an=>JE r λi=>aZ (B8 P (.ref i) name st) λw=>E.e e st an λv st an=>Oe Q w v λc=>Pb P i name c st an k
def OU(t:aW)(Q:eI)(e:aW)(st:St)(an:List An)(k:KF):Prop:=match nameOf t with
 |some p=>SG sc E p.1 Q e st an k
 |none=>aZ (nM t) λp=>Zb P E p.1 p.2.1 Q e st an k
def sIf(t:aW)(b c:List cn)(st:St)(an:List An)(k:KF):Prop:=E.t t st an λq st an=>MI q an λd an=>(match d with
 |true=>wSs E b st an k
 |false=>wSs E c st an k)
noncomputable def O3(o:Oc):FV:=match o with
 | .ok v=>.ret v
 | .exc y=>.exc y
def Tc(e:Option aW)(st:St)(an:List An)(k:KF):Prop:=match e with
 |none=>k (.ret .none) st an
 |some e=>wO F P E e st an λo st an=>k (O3 o) st an
def Te(t iter:aW)(body Q:List cn)(st:St)(an:List An)(k:KF):Prop:=aZ (nameOf t) λx=>gd (Hh iter&&Q.isEmpty)<|E.e iter st an λv st an=>aZ (itemsOf v) λvs=>aZ (anL an) λp=>ib v/\gF F (.Name x.1 x.2) body vs st p.1.1 p.1.2/\k p.1.1 p.1.2 p.2
def sWh(t:aW)(body Q:List cn)(st:St)(an:List An)(k:KF):Prop:=gd Q.isEmpty<|aZ (anL an) λp=>sd F/\WH F t body st p.1.1 p.1.2/\k p.1.1 p.1.2 p.2
def Tb(body:List cn)(H:List ExceptHandler)(Q fin:List cn)(st:St)(an:List An)(k:KF):Prop:=gd (!H.isEmpty&&fin.isEmpty)<|wSs E body st an λU st an=>gd (xP U)<|wSs E Q st an k
def sS'(x:cn)(st:St)(an:List An)(k:KF):Prop:=match x with
 | .Assign D e _=>OW F P sc E D e st an k
 | .AugAssign t G e _=>OU P sc E t G e st an k
 | .If t b c _=>sIf E t b c st an k
 | .Return e _=>Tc F P E e st an k
 | .Expr e _=>gd (gm e) (E.e e st an λU st an=>k .next st an)
 | .For t iter Q H _=>Te F E t iter Q H st an k
 | .While t Q H _=>sWh F t Q H st an k
 | .Try Q u H fin _=>Tb E Q u H fin st an k
 | .Pass _=>k .next st an
 | .Break _=>k .brk st an
 | .Continue _=>k .cont st an
 |_=>False
def sS(x:cn)(st:St)(an:List An)(k:KF):Prop:=match WQ an with
 |some p=>EX F x st p.1.1 p.1.2/\k p.1.1 p.1.2 p.2
 |none=>sS' F P sc E x st an k
end
noncomputable def ev(F:Fx)(P:aB)(sc:cJ):Nat ->Rq
 |0=>(λU U U U=>False,λU U U U=>False,λU U U U=>False,λU U U U=>False)
 |n+1=>(sE F P sc<|ev F P sc n,sT F<|ev F P sc n,sR<|ev F P sc n,sS F P sc<|ev F P sc n)
end
section
variable{F:Fx} {sc:cJ} {d:Nat} {E:Rq} {st:St} {an:List An} {vs:List V} {k:KV}
def Gv{H:Type}(J:H ->St ->Prop)(st:St)(k:H ->St ->List An ->Prop):Prop:=∃v o Q,J v (st.loc,o)/\k v (st.loc,o) Q
theorem Gv.mk{k:Q ->St ->List An ->Prop}(h:J v (st.loc,o))(q:k v (st.loc,o) an):Gv J st k:=(br v o an h q)
theorem Gv.imp{k:U ->St ->List An ->Prop}(h:Gv J st k)(f:∀v o an,J v (st.loc,o)->k v (st.loc,o) an ->Gv H st Q):Gv H st Q:=let⟨v,o,an,a,b⟩:=h;f v o an a b
abbrev GB(F:Fx)(H:aK)(vs:List V)(st:St)(k:KV):Prop:=Gv (λv Q=>dM F H vs [] st (.ok v) Q) st k
theorem bi(H:nA Q=aj)(h:BI F st Q vs v)(q:k v st an):GB F Q vs st k:=Gv.mk (dM.bi H h) q
theorem QU(h:WB vs st an k):GB F (.builtin "len") vs st k:=by
 (refine aR (Cp.h h) λv D Q=>?_;subst D);clear h;cases G:Yt an with
 |some p=>rw[G]at Q;exact bi rfl (BI.Pw Q.1 Q.2.1) Q.2.2
 |none=>
 rw[G]at Q;refine jo (aZ.h Q) λn e H h=>?_;cases v with
 |str x=>cases e;exact bi rfl (BI.aap H) h
 |tup l=>cases e;exact bi rfl (BI.aao H) h
 |lst l=>cases e;exact bi rfl (BI.Pw rfl H) h
 |ref i=>(refine aR (Option.map_eq_some_iff.mp<|show(fj st<|V.ref i).map eP=ah n from e) λl u U=>?_;subst U);exact bi rfl (BI.Pw u H) h
 |_=>cases e
theorem QW(h:WE vs st an k):GB F (.builtin "chr") vs st k:=by obtain⟨v,rfl,h⟩:=Cp.h h;obtain⟨n,rfl,Q,h⟩:=lh.h h;exact bi rfl (BI.chr Q.1 Q.2) h
theorem QT(U:F.A.handled=aC)(h:WA vs st an k):GB F (.builtin "max") vs st k:=by (refine f7 (AF.h h) λv w H h=>?_;subst H);(refine aR (lh.h h) λn Q h=>?_;subst Q);(refine aR (lh.h h) λn Q h=>?_;subst Q);exact bi rfl (BI.max2 U) h
theorem QV(h:WD vs st an k):GB F (.builtin "isinstance") vs st k:=by (refine f7 (AF.h h) λv w Q h=>?_;subst Q);(refine aR (n6.h h) λn H h=>?_;subst H);refine aR (aZ.h h) λt e h=>?_;have e:=toV_h e;have q:=eq_of_beq h.t;subst e q;exact bi rfl BI.aas h
theorem I2(h:I3 vs st an k):GB F (.builtin "str.split") vs st k:=by (refine f7 (AF.h h) λv w H h=>?_;subst H);(refine aR (n6.h h) λn Q h=>?_;subst Q);(refine aR (n6.h h) λn Q h=>?_;subst Q);exact bi rfl (BI.split1 (by simpa using h.t) h.p.1) h.p.2
theorem LO(h:NL vs st an k):GB F (.builtin "str.join") vs st k:=by refine cH λU Q=>?_;obtain⟨v,w,rfl,h⟩:=AF.h h;obtain⟨n,rfl,h⟩:=n6.h h;obtain⟨l,e,h⟩:=aZ.h h;obtain⟨p,_,rfl,H,h⟩:=aZ.h h;refine Q ?_;exact bi rfl (BI.join e H) h
theorem IY(h:IZ vs st an k):GB F (.builtin "str.strip") vs st k:=by obtain⟨v,w,rfl,h⟩:=AF.h h;obtain⟨n,rfl,h⟩:=n6.h h;obtain⟨n,rfl,Q,h⟩:=n6.h h;exact bi rfl (BI.strip Q) h
theorem I4(h:I5 vs st an k):GB F (.builtin "str.count") vs st k:=by (refine f7 (AF.h h) λv w H h=>?_;subst H);(refine aR (n6.h h) λn Q h=>?_;subst Q);(refine aR (n6.h h) λn Q h=>?_;subst Q);exact bi rfl BI.count h
theorem LP(h:NM vs st an k):GB F (.builtin "str.find") vs st k:=by
 match vs,h with
 |[v,w,a,b],h=>
  have h:n6 v λx=>n6 w λy=>lh a λi=>lh b λj=>k (.int<|As x y i j) st an:=h;refine aR (n6.h h) λn D h=>?_;refine aR (n6.h h) λn U h=>?_;refine aR (lh.h h) λn H h=>?_;refine aR (lh.h h) λn Q h=>?_;subst D U H Q;exact bi rfl BI.Vy h
theorem xJ(h:wj st i=ah l):st.obs[i]? =ah (.list l):=zK h
theorem Ho(h:Hp st i=ah c):st.obs[i]? =ah (.inst c.1 c.2):=zC h
theorem QX(h:WG vs st an k):GB F (.builtin "list.append") vs st k:=by (refine f7 (AF.h h) λv w Q h=>?_;subst Q);(refine aR (JE.h h) λi H h=>?_;subst H);refine jo (aZ.h h) λl e U h=>?_;exact Gv.mk (dM.append (xJ e) U) h
theorem Ow(h:SY vs st an k):GB F (.type "str") vs st k:=by obtain⟨v,rfl,h⟩:=Cp.h h;obtain⟨n,rfl,Q,h⟩:=lh.h h;exact bi rfl (BI.Zo Q) h
theorem Oy(h:S1 vs st an k):GB F (.type "int") vs st k:=by (refine aR (Cp.h h) λv Q h=>?_;subst Q);(refine aR (lh.h h) λn Q h=>?_;subst Q);exact bi rfl BI.aat h
theorem Ou(h:SW vs st an k):GB F (.type "type") vs st k:=by
 (refine aR (Cp.h h) λv Q h=>?_;subst Q);refine aR (aZ.h h) λt e h=>?_;cases v with
 |int i=>cases e;exact bi rfl BI.Zh h
 |str i=>cases e;exact bi rfl BI.Zg h
 |_=>cases e
theorem Ov(h:SX vs st an k):GB F (.type "tuple") vs st k:=by (refine aR (Cp.h h) λv Q H=>?_;subst Q);refine cj (GA.h H) λl a e U z=>?_;exact bi rfl (BI.tup e U) z
theorem Ox(h:S0 vs st an k):GB F (.type "range") vs st k:=by
 match vs,h with
 |[v],h=>(refine aR (lh.h<|show lh v λi=>k (.ky 0 i) st an from h) λn Q h=>?_;subst Q);exact bi rfl BI.ZI h
 |[v,w],h=>
  have h:lh v λi=>lh w λj=>k (.ky i j) st an:=h;refine aR (lh.h h) λn U h=>?_;refine aR (lh.h h) λn H h=>?_;subst U H;exact bi rfl BI.ZH h
theorem S2(h:tDq vs st an k):GB F (.type "collections.deque") vs st k:=by
 match vs,h with
 |[],h=>exact bi rfl BI.dq h
theorem abj(h:bk Q n=ah b):Q=Wy b:=by
 refine oB (P:=λb=>Q=Wy b) h ?_;clear h;cases Q with
 |builtin nm=>exact OB.ite λU=>Ug (by repeat first|exact EH _|refine List.forall_mem_cons.mpr (rfl,?_)) nm
 |type nm=>exact Ug (by repeat first|exact EH _|refine List.forall_mem_cons.mpr (rfl,?_)) nm
 |_=>exact trivial
theorem SA(Q:F.A.handled=aC)(h:wBI b vs st an k):GB F (Wy b) vs st k:=by
 cases b with
 |len=>exact QU h
 |chr=>exact QW h
 |max=>exact QT Q h
 |X0=>exact QV h
 |split=>exact I2 h
 |join=>exact LO h
 |strip=>exact IY h
 |count=>exact I4 h
 |find=>exact LP h
 |app=>exact QX h
 |str=>exact Ow h
 |int=>exact Oy h
 |typ=>exact Ou h
 |tup=>exact Ov h
 |ky=>exact Ox h
 |dq=>exact S2 h
theorem B5(z:F.A.handled=aC){k:Oc ->St ->List An ->Prop}(h:B6 F G vs u st an k):Gv (λo H=>dM F G vs u st o H) st k:=by
 unfold B6 at h;cases D:bk G vs.length with
 |some b=>
  rw[D]at h;have e:=abj D;have j:=List.isEmpty_iff.mp h.t;subst e j;exact(SA z h.p).imp λv o an a q=>Gv.mk a q
 |none=>
  rw[D]at h;refine cH λm y=>?_;refine jo (aZ.h h) λp U Q h=>?_;refine y ?_;cases e:p.1.1 with
  |true=>rw[e]at Q;exact Gv.mk (Q st.loc) h
  |false=>rw[e]at Q;exact Gv.mk Q h
theorem qW(h:rU C=aj):Jo (KK P) C:=by
 unfold rU at h;simp only[gO,beq_iff_eq]at h;rcases h with(rfl|rfl)|rfl
 .exact QF P
 .exact QG P
 .exact QH P
theorem Kc{x name:aF}{id:String}(h:OQ.lookup name=ah id):GM F (.str x) name st (.builtin id):=by
 have:=eD h;unfold OQ at this;simp only[l0,Prod.mk.injEq,tw,or_false]at this;rcases this with⟨rfl,rfl⟩|⟨rfl,rfl⟩|⟨rfl,rfl⟩|⟨rfl,rfl⟩|⟨rfl,rfl⟩
 .exact GM.split
 .exact GM.join
 .exact GM.strip
 .exact GM.count
 .exact GM.find
theorem D4(h:ur v=aj)(Q:objOf st v=ah (C,a)):v= .obj C a:=by cases v<;>first|(cases Q;rfl)|cases h
theorem GU(h:DT P ov name st=ah (C,u,f)):∃a,objOf st ov=ah (C,a)/\a.lookup name=u/\findIn (KK P) (.ref C) name=ah f/\(rU C=aj\/(C=797/\ov= .obj 797 a)):=by
 unfold DT at h;cases U:objOf st ov with
 |none=>rw[U]at h;cases h
 |some p=>
  obtain⟨Q,a⟩:=p;rw[U]at h;by_cases H:(rU Q||(Q==797&&ur ov))=aj
  .have h:(if(rU Q||(Q==797&&ur ov))=aj then _ else _)=_:=h;rw[if_pos H]at h;refine aR (Option.map_eq_some_iff.mp h) λy G e=>?_;cases e;refine(rA a rfl rfl G ?_);rw[gO,aw]at H;refine H.imp id λD=>?_;have e:=eq_of_beq D.1;subst e;exact(rfl,D4 D.2 U)
  .have h:(if(rU Q||(Q==797&&ur ov))=aj then _ else _)=_:=h;rw[if_neg H]at h;cases h
theorem Hk(h:isFn P f=aj):typeIn (KK P) f=ah (.type "function"):=by unfold isFn at h;rw[aw]at h;exact eq_of_beq h.2
theorem PJ(h:isFn P f=aj):∃a,f= .ref a:=by
 unfold isFn at h;rw[aw]at h;cases f with
 |ref a=>exact(a,rfl)
 |_=>cases h.1
theorem Sx(X:bS F (KK F.w.params) sc d)(h:Y5 F.w.params ov name st=ah f):GM F ov name st f:=by
 unfold Y5 at h;by_cases G:DH ov=aj
 .rw[if_pos G]at h;cases ov with
  |str x=>(refine aR (Option.map_eq_some_iff.mp h) λid e U=>?_;subst U);exact Kc e
  |_=>cases G
 .rw[if_neg G]at h;cases z:DT F.w.params ov name st with
  |none=>
   rw[z]at h;refine aR (Option.bind_eq_some_iff.mp h) λl j h=>?_;refine aR (Option.bind_eq_some_iff.mp j) λi hi j=>?_;have e:=toR_h hi;have h:(if(name==("append":aF))=aj then ah (yn "list.append")else aC)=ah f:=h;by_cases y:(name==("append":aF))=aj
   .rw[if_pos y]at h;have e2:=eq_of_beq y;cases h;subst e e2;exact GM.append<|xJ j
   .rw[if_neg y]at h;cases h
  |some m=>
   obtain⟨C,u,H⟩:=m;rw[z]at h;refine mq (GU z) λa ho hu hf hc=>?_;cases u with
   |some u=>cases h
   |none=>
    cases H with
    |none=>cases h
    |some H=>
     have h:(if isFn F.w.params H=aj then ah H else aC)=ah f:=h;by_cases Q:isFn F.w.params H=aj
     .rw[if_pos Q]at h;cases h;(refine eN (PJ Q) λfa D=>?_;subst D);rcases hc with hc|⟨rfl,rfl⟩
      .have c:=qW (P:=F.w.params) hc;exact GM.inst X.kb c.ga c.gx hf (Hk Q) ho hu
      .exact GM.GP X.kb hf (Hk Q) hu
     .rw[if_neg Q]at h;cases h
theorem B7(X:bS F (KK F.w.params) sc d)(h:B8 F.w.params ov name st=ah v):nQ F st ov name v:=by
 unfold B8 at h;cases H:vV ov with
 |some f=>
  rw[H]at h;have e:=toV_h H;subst e;have h:(if(f== .ref 862)=aj then _ else _)=_:=h;by_cases z:(f== .ref 862)=aj
  .rw[if_pos z]at h;have e:=eq_of_beq z;subst e;by_cases y:(name==("S":aF))=aj
   .rw[if_pos y]at h;have e:=eq_of_beq y;subst e;cases h;exact nQ.cls X.kb 'k'<|TH _
   .rw[if_neg y]at h;by_cases G:(name==("T":aF))=aj
    .rw[if_pos G]at h;have e:=eq_of_beq G;subst e;cases h;exact nQ.cls X.kb 'k'<|TG _
    .rw[if_neg G]at h;cases h
  .rw[if_neg z]at h;cases h
 |none=>
  rw[H]at h;cases U:DT F.w.params ov name st with
  |none=>rw[U]at h;cases h
  |some m=>
   obtain⟨C,u,f⟩:=m;rw[U]at h;refine mq (GU U) λa ho j hf D=>?_;cases u with
   |none=>cases h
   |some u=>
    cases f with
    |some f=>cases h
    |none=>
     have h:(if u.pg=aj then ah u else aC)=ah v:=h;by_cases Q:u.pg=aj
     .rw[if_pos Q]at h;cases h;rcases D with D|⟨rfl,rfl⟩
      .exact nQ.data X.kb (qW D) hf ho j Q
      .exact nQ.GP X.kb hf j Q
     .rw[if_neg Q]at h;cases h
end
structure mA (F:Fx) (E:Rq):Prop where
 e:∀{e st an} {k:KV},E.e e st an k ->Gv (EV F e st) st k
 t:∀{e st an} {k:Bool ->St ->List An ->Prop},E.t e st an k ->Gv (TV F e st) st k
 r:∀{e st an} {k:KV},E.r e st an k ->Gv (BK F e st) st k
 s:∀{x st an} {k:KF},E.s x st an k ->∃v ke an',EX F x st v ke/\k v ke an'
section
variable{F:Fx} {sc:cJ} {d:Nat} {E:Rq} {st:St} {an:List An}
theorem Fp(S:mA F E):∀{es:List aW} {st:St} {an:List An} {k:List V ->St ->List An ->Prop},wL E es st an k ->Gv (vE F es st) st k
 |[],_,_,_,h=>Gv.mk vE.nil h
 |e::r,st,an,k,h=>by refine cH λj H=>?_;refine bl (S.e h.p) λv u z D Q=>?_;refine bl (Fp S Q) λvs G y U Q=>?_;refine H ?_;exact(br _ _ _ (vE.cons h.t D U) Q)
theorem Sw(S:mA F E):∀{es:List iu} {st:St} {an:List An} {k:List (aF×V)->St ->List An ->Prop},wK E es st an k ->Gv (JH F es st) st k
 |[],_,_,_,h=>Gv.mk JH.nil h
 |(ah n,e,p)::r,st,an,k,h=>by refine cH λz Q=>?_;refine bl (S.e h) λv G y U h=>?_;refine bl (Sw S h) λvs D u H h=>?_;refine Q ?_;exact(br _ _ _ (JH.cons U H) h)
 |(aC,e,p)::r,st,an,k,h=>h.elim
theorem vP(S:mA F E):∀{es:List cn} {st:St} {an:List An} {k:KF},wSs E es st an k ->∃v Q D,dc F es st v Q/\k v Q D
 |[],_,_,_,h=>(br _ _ _ dc.nil h)
 |x::r,st,an,k,h=>by
  refine cH λy U=>?_;refine bl (S.s h) λG j a1 H h=>?_;refine U ?_;cases G with
  |next=>
   refine cH λy U=>?_;refine bl (vP S h) λG z m u h=>?_;refine U ?_;exact(br _ _ _ (W.cons H u) h)
  |brk=>exact(br _ _ _ (W.cons H (rfl,rfl)) h)
  |cont=>exact(br _ _ _ (W.cons H (rfl,rfl)) h)
  |ret v=>exact(br _ _ _ (W.cons H (rfl,rfl)) h)
  |exc x=>exact(br _ _ _ (W.cons H (rfl,rfl)) h)
theorem Fm(S:mA F E):∀{es:List aW} {st:St} {an:List An} {k:Bool ->St ->List An ->Prop},Y2 E H es st an k ->Gv (TL F H es st) st k
 |[],_,_,_,h=>by
  cases H with
  |And=>exact Gv.mk TL.and_nil h
  |Or=>exact Gv.mk TL.or_nil h
 |x::r,st,an,k,h=>by
  refine bl (S.t h) λq u y Q h=>?_;refine eN (MI.h h) λD h=>?_;cases H with
  |And=>cases q with
   |true=>refine bl (Fm S h) λb G D U h=>?_;exact(br _ _ _ (TL.abt Q rfl U) h)
   |false=>exact(br _ _ _ (TL.abu Q rfl) h)
  |Or=>cases q with
   |true=>exact(br _ _ _ (TL.orT Q rfl) h)
   |false=>refine bl (Fm S h) λb G D U h=>?_;exact(br _ _ _ (TL.orF Q rfl U) h)
theorem JW(X:bS F (KK F.w.params) sc d)(h:Fo sc x st an k):Gv (EV F (.Name x pos) st) st k:=by
 unfold Fo at h;have H:=h.t;have h:=h.p;cases e:st.loc.lookup x with
 |some v=>rw[e]at h;exact Gv.mk (EV.loc X e H) h
 |none=>
  rw[e]at h;refine aR (aZ.h h) λu e h=>?_;unfold glN at e;by_cases Q:(sc.names.lookup x==ah .globalImplicit)=aj
  .rw[if_pos Q]at e;have Q:=eq_of_beq Q;cases U:Lb.lookup x with
   |some w=>rw[U]at e;cases e;exact Gv.mk (EV.glo X Q (CX U) H) h
   |none=>
    rw[U]at e;have b:=yb (P:=F.w.params) (show LN.lookup x=ah u from e);exact Gv.mk (EV.bui X Q b.1 b.2 H) h
  .rw[if_neg Q]at e;cases e
theorem Y4(X:bS F (KK F.w.params) sc d)(S:mA F E)(D:F.A.handled=aC)(h:wM F F.w.params E ob name H args kws pos st an k):Gv (vg F (.Call (.Attribute ob name H) args kws pos) st) st k:=by have Q:=h.t;simp only[aw]at Q;refine cH λGq U=>?_;refine bl (S.e h.p) λov s1 a1 j h=>?_;refine aR (aZ.h h) λf G h=>?_;refine bl (Fp S h) λvs s2 a2 y h=>?_;refine bl (B5 D h) λo s3 a3 u z=>?_;refine U ?_;have m:=List.isEmpty_iff.mp Q.2;subst m;exact(br _ _ _ (vg.Pn Q.1.1.1.1 Q.1.1.1.2 Q.1.1.2 Q.1.2 j (Sx X G) y u) z)
theorem Y6(S:mA F E)(D:F.A.handled=aC)(h:wF F E Q args kws st an k):Gv (vg F (.Call Q args kws pos) st) st k:=by have H:=h.t;simp only[aw]at H;refine cH λGq U=>?_;refine bl (S.e h.p) λfv s1 a1 m h=>?_;refine aR (aZ.h h) λf G h=>?_;refine bl (Fp S h) λvs s2 a2 j h=>?_;refine bl (Sw S h) λkv s3 a3 y h=>?_;refine bl (B5 D h) λo s4 a4 u z=>?_;refine U ?_;have e:=toV_h G;subst e;exact(br _ _ _ (vg.call H.1.1 H.1.2 H.2 m j y u) z)
theorem Sy(X:bS F (KK F.w.params) sc d)(S:mA F E)(H:F.A.handled=aC)(h:wC F F.w.params E Q args kws pos st an k):Gv (vg F (.Call Q args kws pos) st) st k:=by
 unfold wC at h;cases e:nM Q with
 |some p=>rw[e]at h;obtain⟨U,n,D⟩:=p;have e:=qu e;subst e;exact Y4 X S H h
 |none=>rw[e]at h;exact Y6 S H h
theorem Su(X:bS F (KK F.w.params) sc d)(S:mA F E)(H:F.A.handled=aC)(h:wO F F.w.params E e st an k):Gv (vg F e st) st k:=by
 unfold wO at h;cases Q:x9 e with
 |some p=>rw[Q]at h;obtain⟨f,a,w,G⟩:=p;have e:=IF Q;subst e;exact Sy X S H h
 |none=>rw[Q]at h;refine bl (S.e h) λv D u U h=>?_;exact(br _ _ _ U.evo h)
theorem QP(h:Wx Q i j k):∃c,lG F st Q (.int i) (.int j) c/\k c:=by
 cases Q with
 |Add=>exact(bM _ lG.Q1 h)
 |Sub=>exact(bM _ lG.Zn h)
 |Mult=>exact(bM _ (lG.mulL h.1) h.2)
 |Mod=>exact(bM _ (lG.aak h.1) h.2)
 |FloorDiv=>exact(bM _ (lG.abb h.1.1 h.1.2) h.2)
 |_=>exact h.elim
theorem QN(h:Wv Q x b k):∃c,lG F st Q (.str x) b c/\k c:=by
 cases Q with
 |Add=>obtain⟨y,rfl,h1,h⟩:=n6.h h;exact(bM _ (lG.LY h1) h)
 |Mult=>obtain⟨y,rfl,h1,h⟩:=lh.h h;exact(bM _ (lG.aai h1) h)
 |_=>exact h.elim
theorem QO(e:fj st a=ah l)(h:Ww Q l b st k):∃c,lG F st Q a b c/\k c:=by
 cases Q with
 |Add=>refine jo (aZ.h h) λy U H h=>?_;exact(bM _ (lG.abw e U H) h)
 |_=>exact h.elim
theorem Oh(h:Oi F y a b st an k):∃c u,lG F st y a b c/\k c st u:=by
 unfold Oi at h;cases m:MU y with
 |true=>rw[m]at h;refine jo (aZ.h h) λp U Q h=>?_;exact(f' _ _ (Q st) h)
 |false=>
  rw[m]at h;cases D:vI a with
  |some i=>
   rw[D]at h;refine aR (lh.h h) λj e h=>?_;refine aR (QP (F:=F) (st:=st) h) λc Q z=>?_;have G:=toI_h D;subst e G;exact(f' _ _ Q z)
  |none=>
   rw[D]at h;cases H:vS a with
   |some x=>
    rw[H]at h;refine aR (QN (F:=F) (st:=st) h) λc Q z=>?_;have G:=toS_h H;subst G;exact(f' _ _ Q z)
   |none=>
    rw[H]at h;refine aR (aZ.h h) λl e h=>?_;refine aR (QO (F:=F) e h) λc Q h=>?_;exact(f' _ _ Q h)
theorem Fq(h:Oe H a b k):∃c,ES F st H a b c/\k c:=by
 have U:H= .Add:=by have U:=h.t;cases H<;>first|rfl|cases U
 have Q:=h.p;subst U;cases D:vI a with
 |some i=>
  rw[D]at Q;refine aR (lh.h Q) λj e z=>?_;have G:=toI_h D;subst e G;exact(bM _ ES.Q1 z)
 |none=>
  rw[D]at Q;refine aR (n6.h Q) λx e m=>?_;refine jo (n6.h m) λy G u z=>?_;subst e G;exact(bM _ (ES.LY u) z)
theorem QC:OB (VQ Q i j) λq=>dO F st Q (.int i) (.int j) q:=by cases Q<;>first|exact trivial|exact dO.eqI|exact dO.XR|exact dO.ltI|exact dO.leI|exact dO.gtI|exact dO.geI
theorem xB(h:uh v=aj):v= .none:=bB h (by clear h;cases v<;>first|exact trivial|rfl)
theorem My(h:XI v=ah t):v= .val (.type t):=oB (P:=λt=>v= .val (.type t)) h (by
 clear h;cases v with
 |val u=>cases u<;>first|exact trivial|rfl
 |_=>exact trivial)
theorem FI(h:DH v=aj):∃x,v= .str x:=bB h (by clear h;cases v<;>first|exact trivial|exact(_,rfl))
theorem RU(h:(if c=aj then x else aC)=ah q):c=aj/\x=ah q:=by
 cases c
 .cases h
 .exact(rfl,h)
theorem QB:OB (VP Q a) λq=>dO F st Q a .none q:=by
 cases Q with
 |Is=>exact dO.isN
 |IsNot=>exact dO.aar
 |Eq=>
  show OB (if uh a=aj then ah aj else if DH a=aj then ah ao else aC) _;by_cases ha:uh a=aj
  .rw[if_pos ha,xB ha];exact dO.aaY
  .rw[if_neg ha];exact OB.ite λh1=>eN (FI h1) λx e=>by rw[e];exact dO.aaW
 |_=>exact trivial
theorem QA:OB (VO Q x y) λq=>dO F st Q (.str x) (.str y) q:=by cases Q<;>first|exact trivial|exact dO.eqS
theorem Qz:OB (VN Q t u) λq=>dO F st Q (.val<|.type t) (.val<|.type u) q:=by cases Q<;>first|exact trivial|exact dO.isT|exact dO.aaq
theorem QD:OB (VR Q) λq=>dO F st Q .none (.str x) q:=by cases Q<;>first|exact trivial|exact dO.aaX
theorem Qy:OB (LC U a b) λq=>dO F st U a b q:=by
 unfold LC;cases y:uh b with
 |true=>rw[xB y];exact QB
 |false=>
  cases u:vI a with
  |some i=>exact OB.bind λj Q=>by rw[toI_h u,toI_h Q];exact QC
  |none=>
   cases G:vS a with
   |some x=>exact OB.bind λj Q=>by rw[toS_h G,toS_h Q];exact QA
   |none=>
    cases D:XI a with
    |some t=>exact OB.bind λj Q=>by rw[My D,My Q];exact Qz
    |none=>exact OB.ite λH=>eN (FI (Bool.and_eq_true_iff.mp H).2) λx e=>by rw[xB (Bool.and_eq_true_iff.mp H).1,e];exact QD
theorem Of(st:St)(h:Og F Q a b an k):∃q D,dO F st Q a b q/\k q D:=by
 unfold Og at h;cases H:LC Q a b with
 |some q=>rw[H]at h;exact(f' _ _ (oB (P:=λq=>dO F st Q a b q) H Qy) h)
 |none=>
  rw[H]at h;refine cH λy G=>?_;refine aR (aZ.h h) λp U h=>?_;refine jo (aZ.h h) λq U u h=>?_;refine G ?_;exact(f' _ _ (u st) h)
theorem Om(h:Oo v=ah q):sF F st v q:=by
 cases v with
 |none=>cases h;exact sF.none
 |bool b=>cases h;exact sF.bool
 |int i=>cases h;exact sF.int
 |dq=>cases h;exact sF.dq
 |_=>cases h
theorem N8(h:N9 v st k):∃q,sF F st v q/\k q:=by
 unfold N9 at h;cases U:Oo v with
 |some q=>rw[U]at h;exact(bM _ (Om U) h)
 |none=>
  rw[U]at h;refine jo (aZ.h h) λp e Q h=>?_;cases v with
  |str x=>cases e;exact(bM _ (sF.str Q) h)
  |tup l=>cases e;exact(bM _ (sF.tup Q) h)
  |lst l=>cases e;exact(bM _ (sF.lst rfl Q) h)
  |ref i=>(refine aR (Option.map_eq_some_iff.mp<|show(fj st<|V.ref i).map (λl=>(l.length,!l.isEmpty))=ah p from e) λl D H=>?_;subst H);exact(bM _ (sF.lst D Q) h)
  |_=>cases e
theorem xj(S:mA F E)(h:B4 E e st an k):Gv (sI F e st) st k:=by
 cases e with
 |none=>exact Gv.mk sI.no h
 |some e=>
  refine cH λG Q=>?_;refine bl (S.e<|show E.e e st an _ from h) λv U D H h=>?_;refine aR (lh.h h) λi e h=>?_;refine Q ?_;subst e;exact(br _ _ _ (sI.yes H) h)
theorem N'{lo hi sp:Option Int}(h:Oa o lo hi sp st an k):∃v H,NU F st o lo hi sp v/\k v st H:=by
 unfold Oa at h;cases Q:vS o with
 |some x=>
  rw[Q]at h;have e:=toS_h Q;have U:=Option.isNone_iff_eq_none.mp h.t;subst e U;exact(f' _ _ (NU.str h.1) h.2)
 |none=>
  rw[Q]at h;refine aR (aZ.h h) λl e h=>?_;exact(f' _ _ (NU.lst e (by simpa using h.t) h.p.1) h.p.2)
theorem JX(h:Mu o i st an k):∃v G,Ay F st o i v/\k v st G:=by
 refine cH λj u=>?_;refine aR (lh.h h) λn e h=>?_;refine f7 (GA.h h) λl a H h=>?_;refine jo (aZ.h h) λp U Q z=>?_;refine u ?_;subst e;unfold Ce at H;cases D:vT o with
 |some y=>rw[D]at H;cases H;have e:=toT_h D;subst e;exact(f' _ _ (Ay.tup Q.1 Q.2.1 Q.2.2) z)
 |none=>rw[D]at H;exact(f' _ _ (Ay.lst H Q.1 Q.2.1 Q.2.2) z)
end
section
variable{F:Fx} {sc:cJ} {d:Nat} {E:Rq} {st:St} {an:List An} {k:KV}
theorem Qm(h:VG c st an k):Gv (EV F (.Constant c j pos) st) st k:=by
 cases c with
 |int=>exact Gv.mk EV.int h
 |str=>exact Gv.mk EV.str h
 |none=>exact Gv.mk EV.none h
 |bool=>exact Gv.mk EV.bool h
 |_=>exact h.elim
theorem Qk(S:mA F E)(h:VD E Q x st an k):Gv (EV F (.UnaryOp Q x pos) st) st k:=by
 have H:Q= .USub:=by have H:=h.t;cases Q<;>first|rfl|cases H
 refine bl (S.e h.p) λv G u D U=>?_;refine aR (lh.h U) λi e z=>?_;subst e H;exact(br _ _ _ (W.neg D) z)
theorem A0(h:J4 e=ah x):∃j p,e= .Constant (.str x) j p:=by
 refine oB (P:=λx=>∃j p,e= .Constant (.str x) j p) h ?_;clear h;cases e with
 |Constant c j p=>cases c<;>first|exact trivial|exact(Lw _ _ rfl)
 |_=>exact trivial
theorem CP(h:isAdd Q=aj):Q= .Add:=bB h (by clear h;cases Q<;>first|exact trivial|rfl)
theorem KZ(h:isMul Q=aj):Q= .Mult:=bB h (by clear h;cases Q<;>first|exact trivial|rfl)
theorem KL(h:list1 l=ah e):∃p,l= .List [e] p:=by
 refine oB (P:=λe=>∃p,l= .List [e] p) h ?_;clear h;cases l with
 |List es p=>
  match es with
  |[]=>exact trivial
  |[_]=>exact(_,rfl)
  |_::_::_=>exact trivial
 |_=>exact trivial
theorem Gg(h:rep1 l Q=ah e):Q= .Mult/\notStar e=aj/\∃p,l= .List [e] p:=by unfold rep1 at h;refine fk (RU h) λD h=>?_;refine aR (Option.bind_eq_some_iff.mp h) λG U h=>?_;refine fk (RU h) λH h=>?_;cases h;exact(KZ D,H,KL U)
theorem Q2(h:Je l H r=ah x):H= .Add/\∃j p,l= .Constant (.str x) j p:=by refine fk (RU h) λQ h=>?_;rw[aw]at Q;exact(CP Q.1,A0 h)
theorem Fn(S:mA F E)(U:notStar e=aj)(h:Ob E e r st an k):Gv (EV F (.BinOp (.List [e] lp) .Mult r pos) st) st k:=by refine cH λGq H=>?_;refine bl (S.e h) λv y m G h=>?_;refine bl (S.e h) λw u j D h=>?_;refine jo (lh.h h) λi e Q z=>?_;refine H ?_;subst e;exact(br _ _ _ (W.Gf U G D Q.1 Q.2) z)
theorem Oj(S:mA F E)(h:Sz F E l Q r st an k):Gv (EV F (.BinOp l Q r pos) st) st k:=by refine cH λGq H=>?_;refine bl (S.e h) λv y a1 G h=>?_;refine bl (S.e h) λw u m D h=>?_;refine f7 (Oh h) λc j U z=>?_;refine H ?_;exact(br _ _ _ (EV.binop G D U) z)
theorem Od(S:mA F E)(D:notStar e=aj)(h:Sv E a e r st an k):Gv (EV F (.BinOp a .Add (.BinOp (.List [e] lp) .Mult r H) pos) st) st k:=by refine cH λGq U=>?_;refine bl (S.e h) λva s1 a1 y h=>?_;refine bl (Fn S (lp:=lp) (pos:=H) D h) λvb Q a2 u h=>?_;refine f7 (GA.h h) λxs a3 m h=>?_;refine jo (aZ.h h) λys j G z=>?_;refine U ?_;exact(br _ _ _ (EV.Q0 (aN:=(st.loc,Q)) y u m j G) z)
theorem Qn(S:mA F E)(h:Qo F E l G r st an k):Gv (EV F (.BinOp l G r pos) st) st k:=by
 unfold Qo at h;cases h1:Je l G r with
 |some x=>
  rw[h1]at h;(refine VJ (Q2 h1) λH j p Q=>?_;subst H;subst Q);refine bl (S.r<|show E.r r st an _ from h) λv s1 a1 D U=>?_;refine jo (n6.h U) λy e h4 z=>?_;subst e;exact(br _ _ _ (EV.Je D h4) z)
 |none=>
  rw[h1]at h;cases D:rep1 l G with
  |some e=>rw[D]at h;(refine Nx (Gg D) λH hs p Q=>?_;subst H;subst Q);exact Fn S hs h
  |none=>
   rw[D]at h;cases U:TR G r with
   |some p=>
    rw[U]at h;refine fk (RU U) λh4 h5=>?_;refine aR (Option.bind_eq_some_iff.mp h5) λq h6 h5=>?_;(refine aR (Option.map_eq_some_iff.mp h5) λe h7 u=>?_;subst u);obtain⟨l2,op2,r2⟩:=q;(refine Nx (Gg h7) λH hs p2 Q=>?_;subst H;subst Q);have e1:=CP h4;have e2:=LM h6;(refine eN e2 λp3 m=>?_;subst m);subst e1;exact Od S hs h
   |none=>rw[U]at h;exact Oj S h
theorem Mv(S:mA F E){k:Bool ->St ->List An ->Prop}(h:Y7 F E l D u st an k):∃H r a b U Q q a',D=[H]/\u=[r]/\EV F l st a (st.loc,U)/\EV F r (st.loc,U) b (st.loc,Q)/\dO F (st.loc,Q) H a b q/\behindInMarks H r=ao/\k q (st.loc,Q) a' :=by refine cH λGq y=>?_;refine aR (aZ.h h) λH e1 h=>?_;refine aR (aZ.h h) λr e2 h=>?_;have G:=h.t;rw[dk]at G;refine bl (S.e h.p) λa U a1 h1 h=>?_;refine bl (S.e h) λb Q a2 m h=>?_;refine f7 (Of (st.loc,Q) h) λq a3 j z=>?_;refine y ?_;exact(_,_,_,_,_,_,_,_,wd e1,wd e2,h1,m,j,G,z)
theorem Qp(X:bS F (KK F.w.params) sc d)(S:mA F E)(h:Qq F F.w.params E ob name pos st an k):Gv (EV F (.Attribute ob name pos) st) st k:=by
 unfold Qq at h;cases Q:anX an with
 |some p=>rw[Q]at h;exact(br _ _ _ h.1 h.2)
 |none=>
  rw[Q]at h;refine bl (S.e h.p) λG D u U H=>?_;refine aR (aZ.h H) λv e z=>?_;exact(br _ _ _ (EV.attr h.t U<|B7 X e) z)
theorem Qi(S:mA F E)(h:Qj E v j st an k):Gv (EV F (.Subscript v j pos) st) st k:=by
 unfold Qj at h;cases D:FU j with
 |some p=>
  rw[D]at h;obtain⟨lo,hi,sp⟩:=p;have e:=J9 D;refine cH λGq U=>?_;(refine eN e λq H=>?_;subst H);refine bl (S.e<|show E.e v st an _ from h) λo s1 a1 z h=>?_;refine bl (xj S h) λl m a2 y h=>?_;refine bl (xj S h) λu s3 a3 G h=>?_;refine bl (xj S h) λt s4 a4 h4 h=>?_;refine f7 (N' (F:=F) h) λv a5 h5 h=>?_;refine U ?_;exact(br _ _ _ (EV.slice z y G h4 h5) h)
 |none=>
  rw[D]at h;refine cH λGq U=>?_;refine bl (S.e h.p) λo s1 a1 z Q=>?_;refine bl (S.e Q) λi m a2 y Q=>?_;refine f7 (JX (F:=F) Q) λv a3 G Q=>?_;refine U ?_;exact(br _ _ _ (EV.item h.t z y G) Q)
theorem Qh(S:mA F E)(h:VC E es st an k):Gv (EV F (.Tuple es j pos) st) st k:=by refine cH λG Q=>?_;refine bl (Fp S h) λvs U D H h=>?_;refine Q ?_;exact(br _ _ _ (EV.tuple H h.1) h.2)
theorem Ql(S:mA F E)(h:VE E es st an k):Gv (EV F (.List es pos) st) st k:=by
 cases es with
 |nil=>
  refine aR (aZ.h h) λp U h=>?_;refine aR (aZ.h h) λd U h=>?_;cases d with
  |true=>exact(br _ _ _ (EV.KJ vE.nil<|bH _) h)
  |false=>exact(br _ _ _ (EV.list vE.nil<|bH _) h)
 |cons e r=>
  refine bl (Fp S<|show wL E (e::r) st an (λvs st an=>vs.length<=2^24/\k (.lst vs) st an)from h) λvs H D Q h=>?_;exact(br _ _ _ (EV.list Q h.1) h.2)
theorem VF(S:mA F E)(h:eIf E t a c st an k):Gv (EV F (.IfExp t a c pos) st) st k:=by
 refine bl (S.t h) λq G y H h=>?_;refine eN (MI.h h) λu h=>?_;cases q with
 |true=>refine bl (S.e h) λv U D Q h=>?_;exact(br _ _ _ (EV.RV H rfl Q) h)
 |false=>refine bl (S.e h) λv U D Q h=>?_;exact(br _ _ _ (EV.ifF H rfl Q) h)
theorem aaZ(h:eX F e st an k):Gv (EV F e st) st k:=by refine jo (aZ.h h) λp U Q h=>?_;exact(br _ _ _ Q h)
theorem Zx(X:bS F (KK F.w.params) sc d)(Q:F.A.handled=aC)(S:mA F E)(h:sE F F.w.params sc E e st an k):Gv (EV F e st) st k:=by
 cases e with
 |Constant=>exact Qm h
 |Name=>exact JW X h
 |UnaryOp=>exact Qk S h
 |BinOp=>exact Qn S h
 |Compare=>
  obtain⟨op,r,a,b,s1,s2,q,a',rfl,rfl,h1,h2,h3,h4,z⟩:=Mv S h;exact(br _ _ _ (EV.compare h1 h2 h3 h4) z)
 |Call=>
  refine bl (Sy X S Q h) λo s1 a1 h1 h=>?_;refine aR (aZ.h h) λv e z=>?_;cases o<;>cases e;exact(br _ _ _ h1.ev z)
 |Attribute=>exact Qp X S h
 |Subscript=>exact Qi S h
 |Tuple=>exact Qh S h
 |List=>exact Ql S h
 |IfExp=>exact VF S h
 |ListComp=>exact aaZ h
 |_=>exact h.elim
theorem Zu(S:mA F E){k:Bool ->St ->List An ->Prop}(h:sT F E e st an k):Gv (TV F e st) st k:=by
 unfold sT at h;cases hp:nZ e with
 |true=>
  rw[hp]at h;refine cH λGq kq=>?_;refine bl (S.e<|show E.e e st an _ from h) λv s1 a1 h1 h=>?_;refine aR (N8 (F:=F) h) λq h2 z=>?_;refine kq ?_;exact(br _ _ _ (TV.val hp h1 h2) z)
 |false=>
  rw[hp]at h;cases e with
  |Compare=>
   refine cH λGq kq=>?_;obtain⟨op,r,a,b,s1,s2,q,a',rfl,rfl,h1,h2,h3,h4,z⟩:=Mv S h;refine kq ?_;exact(br _ _ _ (TV.compare h1 h2 h3 h4) z)
  |BoolOp=>
   refine cH λGq kq=>?_;refine bl (Fm S h) λb s1 a1 h1 h=>?_;refine kq ?_;exact(br _ _ _ (TV.bool h1) h)
  |UnaryOp op x=>
   have e:op= .Not:=by have hp:=h.t;cases op<;>first|rfl|cases hp
   refine cH λGq kq=>?_;refine bl (S.t h.p) λb s1 a1 h1 z=>?_;refine kq ?_;subst e;exact(br _ _ _ (TV.not h1) z)
  |_=>exact h.elim
theorem Ol(h:two l=ah p):l=[p.1,p.2]:=SM (x:=p.1) (y:=p.2) h
theorem O9(S:mA F E)(h:Tu E f args kws pos st an k):Gv (BK F (.Call f args kws pos) st) st k:=by (refine aR (aZ.h h) λQ U h=>?_;obtain⟨ob,n,ap⟩:=Q);(refine aR (aZ.h h) λQ H h=>?_;obtain⟨a1,a2⟩:=Q);refine aR (aZ.h h) λy e3 h=>?_;refine aR (aZ.h h) λy2 e4 h=>?_;have u:=h.t;simp only[aw,dk]at u;(refine fk u λQ D=>?_;obtain⟨⟨⟨⟨p1,G⟩,p3⟩,p4⟩,p5⟩:=Q);refine bl (S.r h.p) λv s1 a1 h1 h2=>?_;refine jo (n6.h h2) λx e h3 z=>?_;have U:=qu U;have H:=Ol H;have e5:=eq_of_beq G;have e6:=List.isEmpty_iff.mp D;refine uM (A0 e3) λj1 q1 m=>?_;refine uM (A0 e4) λj2 q2 j=>?_;clear e3 e4 h D G;simp only at H m j e5;subst e U H m j e5 e6;exact(br _ _ _ (BK.rep p1 p3 h1 p4 p5 h3) z)
theorem Zw(X:bS F (KK F.w.params) sc d)(S:mA F E)(h:sR E e st an k):Gv (BK F e st) st k:=by
 cases e with
 |Name=>
  have hp:=h.t;refine aR (aZ.h h.p) λv e z=>?_;exact Gv.mk (BK.loc X e hp) z
 |Call=>exact O9 S h
 |_=>exact h.elim
end
section
variable{F:Fx} {sc:cJ} {d:Nat} {E:Rq} {st:St} {an:List An} {k:KF}
abbrev Gx(F:Fx)(x:cn)(st:St)(k:KF):Prop:=∃v Q H,EX F x st v Q/\k v Q H
theorem Ma(X:bS F (KK F.w.params) sc d)(D:F.A.handled=aC)(S:mA F E)(h:aName F F.w.params sc E x e st an k):Gx F (.Assign [.Name x px] e pos) st k:=by
 have Q:=h.t;rw[aw]at Q;refine cH λm U=>?_;refine bl (Su X S D h.p) λo G j H z=>?_;refine eN (wN.h z) λu z=>?_;refine U ?_;cases o with
 |ok v=>exact(br _ _ _ (W.asg X Q.1 Q.2 H.ev) z)
 |exc y=>exact(br _ _ _ (EX.abo Q.2 H) z)
theorem Gs(h:Pb F.w.params i name v st an k):∃C a,st.obs[i]? =ah (.inst C a)/\Jo (KK F.w.params) C/\takerIn (KK F.w.params) C name=ah aC/\fX (kz name v a).length 1000=aj/\k .next (st.loc,st.obs.set i<|.inst C<|kz name v a) an:=by refine aR (aZ.h h) λc e h=>?_;have Q:=h.t;simp only[aw]at Q;exact(Ip _ _ (Ho e) (qW Q.1.1) (eq_of_beq Q.1.2) Q.2 h.p)
theorem Rj(X:bS F (KK F.w.params) sc d)(S:mA F E)(h:W3 F.w.params E ob name e st an k):Gx F (.Assign [.Attribute ob name tp] e pos) st k:=by refine cH λGq Q=>?_;refine bl (S.e h.p) λv s1 a1 u G=>?_;refine bl (S.e G) λr s2 a2 D U=>?_;refine aR (JE.h U) λi e H=>?_;refine Ai (Gs H) λC a g1 m j y z=>?_;refine Q ?_;subst e;exact(br _ _ _ (W.LW X h.t u D m j g1 rfl y rfl) z)
theorem Rf(X:bS F (KK F.w.params) sc d)(S:mA F E)(h:WZ E ob u e st an k):Gx F (.Assign [.Subscript ob u tp] e pos) st k:=by have D:=h.t;rw[aw]at D;refine cH λGq G=>?_;refine bl (S.e h.p) λv s1 a1 h1 h2=>?_;refine bl (S.e h2) λr s2 a2 m j=>?_;refine bl (S.e j) λc s3 a3 y Q=>?_;refine aR (JE.h Q) λi e1 Q=>?_;refine aR (lh.h Q) λn e2 Q=>?_;refine f7 (GA.h Q) λxs a4 e3 Q=>?_;(refine jo (aZ.h Q) λp U H z=>?_;obtain⟨g1,g2,g3⟩:=H);refine G ?_;subst e1 e2;exact(br _ _ _ (W.LU X D.1 D.2 h1 m y g1 (xJ e3) g2 g3 rfl) z)
theorem wg(X:bS F (KK F.w.params) sc d):∀{H:List aW} {ns:List aF} {l:List V} {st:St},namesOf H=ah ns ->ns.all (dp sc)=aj ->ns.length=l.length ->qz F H st l ((ns.zip l).reverse++st.loc,st.obs)/\H.all notStar=aj/\H.length=l.length
 |[],ns,l,st,h,_,U=>by cases h;have e:=vo U.symm;subst e;exact(qz.nil,rfl,rfl)
 |e::r,ns,l,st,h,G,U=>by
  refine aR (Option.bind_eq_some_iff.mp h) λp j h=>?_;(refine aR (Option.map_eq_some_iff.mp h) λQ z D=>?_;subst D);cases l with
  |nil=>cases U
  |cons v l=>
   rw[cD,aw]at G;have m:=gS (x:=p.1) (p:=p.2) j;refine vC (wg X (st:=((p.1,v)::st.loc,st.obs)) z G.2<|pK U) λy u i3=>?_;subst m;refine(qz.cons (sJ.name X G.1) ?_,?_,congrArg Nat.succ i3)
   .have e:(((p.1::Q).zip (v::l)).reverse++st.loc)=((Q.zip l).reverse++((p.1,v)::st.loc)):=by rw[E7,lY,dj];rfl
    rw[e];exact y
   .rw[cD,u];rfl
theorem Mx(X:bS F (KK F.w.params) sc d)(h:Za sc U e=ah w):swappedStores [.Tuple U j G] e F.env=pure w:=by
 unfold Za at h;cases Q:vQ e with
 |some vs=>
  rw[Q]at h;have D:=xk Q;(refine uM D λj p H=>?_;subst H);exact J2 X h
 |none=>
  rw[Q]at h;cases h;exact pM (by cases e<;>first|rfl|cases Q)
theorem Q7(X:bS F (KK F.w.params) sc d)(hd:3<=d)(S:mA F E)(h:WX sc E y e st an k):Gx F (.Assign [.Tuple y j tp] e pos) st k:=by
 refine cH λGq m=>?_;refine aR (aZ.h h) λw u h=>?_;refine aR (aZ.h h) λns e2 h=>?_;have Q:=h.t;simp only[aw]at Q;refine bl (S.e h.p) λv z a1 G H=>?_;refine aR (aZ.h H) λl e3 H=>?_;refine m ?_;have D:=eq_of_beq H.t;have U:=H.p;have e4:=toT_h e3;subst e4;cases w with
 |some ms=>
  have e5:=eq_of_beq U.t;subst e5;exact(br _ _ _ (EX.swap X hd Q.1.1 (Mx X u) Q.1.2 D G) U.p)
 |none=>
  refine vC (wg X (st:=(st.loc,z)) e2 Q.1.2 D) λg1 g2 g3=>?_;exact(br _ _ _ (EX.asg rfl Q.1.1 (Mx X u) G<|sJ.tuple X hd g2 g3 g1) U)
theorem Rc (X : bS F (KK F.w.params) sc d) (hd : 3 ≤ d) (D : F.A.handled = aC) (S : mA F E) (h : Rd F F.w.params sc E t e st an k) : Gx F (.Assign [t] e pos) st k := by
  unfold Rd at h
  cases U : nameOf t with
  | some p => rw [U] at h; have e := gS (x := p.1) (p := p.2) U; subst e; exact Ma X D S h
  | none =>
    rw [U] at h
    cases H : nM t with
    | some p => rw [H] at h; have e := qu (ob := p.1) (n := p.2.1) (p := p.2.2) H; subst e; exact Rj X S h
    | none =>
      rw [H] at h
      cases Q : FH t with
      | some p => rw [Q] at h; have e := J3 Q
                  obtain ⟨q, rfl⟩ := e; exact Rf X S h
      | none =>
        rw [Q] at h
        obtain ⟨u, G, h⟩ := aZ.h h
        have e := xk G
        obtain ⟨j, q, rfl⟩ := e
        exact Q7 X hd S h
theorem kU:∀{H:List aW} {ns:List aF},namesOf H=ah ns ->H.length=ns.length
 |[],ns,h=>by cases h;rfl
 |e::r,ns,h=>by refine aR (Option.bind_eq_some_iff.mp h) λp U h=>?_;(refine aR (Option.map_eq_some_iff.mp h) λn D Q=>?_;subst Q);exact congrArg Nat.succ<|kU D
theorem Q8(X:bS F (KK F.w.params) sc d)(S:mA F E)(h:WY sc E U e st an k):Gx F (.Assign U e pos) st k:=by
 refine aR (aZ.h h) λns Q h=>?_
 match ns,h with
 |[x,y,z],h=>
  have h:gd (dp sc x&&dp sc y&&dp sc z) (E.e e st an λv st an=>k .next ((z,v)::(y,v)::(x,v)::st.loc,st.obs) an):=h;have H:=h.t;simp only[aw]at H;refine bl (S.e h.p) λv s1 a1 h1 z=>?_
  match U,Q with
  |[t1,D,t3],Q=>
   refine aR (Option.bind_eq_some_iff.mp Q) λj q1 Q=>?_;refine aR (Option.map_eq_some_iff.mp Q) λn1 Q w1=>?_;refine aR (Option.bind_eq_some_iff.mp Q) λu q2 Q=>?_;refine aR (Option.map_eq_some_iff.mp Q) λn2 Q w2=>?_;refine aR (Option.bind_eq_some_iff.mp Q) λG q3 Q=>?_;refine aR (Option.map_eq_some_iff.mp Q) λn3 Q m=>?_;cases Q;subst m w2;cases w1;have r1:=gS (x:=j.1) (p:=j.2) q1;have r2:=gS (x:=u.1) (p:=u.2) q2;have r3:=gS (x:=G.1) (p:=G.2) q3;subst r1 r2 r3;exact(br _ _ _ (EX.three X H.1.1 H.1.2 H.2 h1) z)
  |[],Q=>cases Q
  |[t1],Q=>cases kU Q
  |[t1,D],Q=>cases kU Q
  |t1::D::t3::t4::U,Q=>cases kU Q
theorem OV(X:bS F (KK F.w.params) sc d)(hd:3<=d)(U:F.A.handled=aC)(S:mA F E)(h:OW F F.w.params sc E H e st an k):Gx F (.Assign H e pos) st k:=by
 unfold OW at h;cases Q:one H with
 |some t=>rw[Q]at h;have e:=wd Q;subst e;exact Rc X hd U S h
 |none=>rw[Q]at h;exact Q8 X S h
theorem OT(X:bS F (KK F.w.params) sc d)(S:mA F E)(h:OU F.w.params sc E t y e st an k):Gx F (.AugAssign t y e pos) st k:=by
 unfold OU at h;cases Q:nameOf t with
 |some p=>
  rw[Q]at h;have e:=gS (x:=p.1) (p:=p.2) Q;subst e;have U:=h.t;rw[aw]at U;refine cH λGq H=>?_;refine aR (aZ.h h.p) λa e h=>?_;refine bl (S.e h) λb G a1 Q h=>?_;refine aR (Fq (F:=F) (st:=(st.loc,G)) h) λc D z=>?_;refine H ?_;exact(br _ _ _ (W.aug X U.1 U.2 e Q D) z)
 |none=>
  rw[Q]at h;refine cH λGq H=>?_;refine aR (aZ.h h) λp D h=>?_;have e:=qu (ob:=p.1) (n:=p.2.1) (p:=p.2.2) D;subst e;refine bl (S.e h) λr G a1 h3 h=>?_;refine aR (JE.h h) λi e h=>?_;refine aR (aZ.h h) λw e2 h=>?_;refine bl (S.e h) λv u a2 m h=>?_;refine aR (Fq (F:=F) (st:=(st.loc,u)) h) λc j h=>?_;refine Ai (Gs h) λC a g1 g2 g3 g4 z=>?_;refine H ?_;subst e;exact(br _ _ _ (W.yc X g2 g3 h3 (B7 X e2) m j g1 rfl g4 rfl) z)
theorem Td(S:mA F E)(h:sIf E t b c st an k):Gx F (.If t b c pos) st k:=by
 refine bl (S.t h) λq G y H h=>?_;refine eN (MI.h h) λu h=>?_;cases q with
 |true=>refine bl (vP S h) λv U D Q h=>?_;exact(br _ _ _ (EX.RV H rfl Q) h)
 |false=>refine bl (vP S h) λv U D Q h=>?_;exact(br _ _ _ (EX.ifF H rfl Q) h)
theorem OR(X:bS F (KK F.w.params) sc d)(H:F.A.handled=aC)(S:mA F E)(h:Tc F F.w.params E e st an k):Gx F (.Return e pos) st k:=by
 cases e with
 |none=>exact(br _ _ _ EX.ZK h)
 |some e=>
  refine bl (Su X S H<|show wO F F.w.params E e st an (λo st an=>k (O3 o) st an)from h) λo U D Q z=>?_;cases o with
  |ok v=>exact(br _ _ _ (EX.ret Q.ev) z)
  |exc y=>exact(br _ _ _ (EX.ZJ Q) z)
theorem Hg{iter:aW}(h:Hh iter=aj):∀(env:vK) (x:aK),foldedSetIterable iter env x=pure x:=by intro env x;cases iter<;>first|rfl|cases h
theorem OS(X:bS F (KK F.w.params) sc d)(hd:3<=d)(S:mA F E){t iter:aW}(h:Te F E t iter body D st an k):Gx F (.For t iter body D pos) st k:=by refine cH λGq G=>?_;refine aR (aZ.h h) λx e h=>?_;have Q:=h.t;rw[aw]at Q;refine bl (S.e h.p) λv s1 a1 j H=>?_;refine aR (aZ.h H) λvs e2 H=>?_;refine mq (aZ.h H) λp U y u z=>?_;refine G ?_;have e3:=gS (x:=x.1) (p:=x.2) e;have m:=List.isEmpty_iff.mp Q.2;subst e3 m;exact(br _ _ _ (EX.for X hd (Hg Q.1) j e2 y u) z)
theorem Ta(X:bS F (KK F.w.params) sc d)(h:sWh F t body Q st an k):Gx F (.While t body Q pos) st k:=by have e:=List.isEmpty_iff.mp h.t;refine mq (aZ.h h.p) λp U Y H z=>?_;subst e;exact(br _ _ _ (EX.while X Y H) z)
theorem OP(S:mA F E)(h:Tb E body D U fin st an k):Gx F (.Try body D U fin pos) st k:=by
 have Q:=h.t;rw[aw]at Q;refine bl (vP S h.p) λH s1 a1 y G=>?_;have e:H= .next:=by have q:=G.t;cases H<;>first|rfl|cases q
 refine bl (vP S G.p) λH m a2 u z=>?_;have j:=List.isEmpty_iff.mp Q.2;subst e j;cases D with
 |nil=>cases Q.1
 |cons x r=>exact(br _ _ _ (EX.SN y u) z)
theorem Zv(X:bS F (KK F.w.params) sc d)(hd:3<=d)(Q:F.A.handled=aC)(S:mA F E)(h:sS F F.w.params sc E x st an k):Gx F x st k:=by
 unfold sS at h;cases ha:WQ an with
 |some p=>rw[ha]at h;exact(br _ _ _ h.1 h.2)
 |none=>
  rw[ha]at h;cases x with
  |Assign=>exact OV X hd Q S h
  |AugAssign=>exact OT X S h
  |If=>exact Td S h
  |Return=>exact OR X Q S h
  |Expr=>refine bl (S.e h.p) λv s1 a1 h1 z=>?_;exact(br _ _ _ (EX.expr X h.t h1) z)
  |For=>exact OS X hd S h
  |While=>exact Ta X h
  |Try=>exact OP S h
  |Pass=>exact(br _ _ _ EX.pass h)
  |Break=>exact(br _ _ _ EX.brk h)
  |Continue=>exact(br _ _ _ EX.cont h)
  |_=>exact h.elim
theorem nG(X:bS F (KK F.w.params) sc d)(hd:3<=d)(Q:F.A.handled=aC):∀n,mA F (ev F F.w.params sc n)
 |0=>(λh=>h.elim,λh=>h.elim,λh=>h.elim,λh=>h.elim)
 |n+1=>(λh=>Zx X Q (nG X hd Q n) h,λh=>Zu (nG X hd Q n) h,λh=>Zw X (nG X hd Q n) h,λh=>Zv X hd Q (nG X hd Q n) h)
theorem run(X:bS F (KK F.w.params) sc d)(hd:fX 3 d=aj){Q:FV ->St ->Prop}(h:p=wSs (ev F F.w.params sc 30) B st an λfl H U=>Q fl H)(D:p):∃fl H,dc F B st fl H/\Q fl H:=by have hd:=ae hd;rw[h]at D;refine cH λu G=>?_;refine bl (vP (nG X hd (X.cx.handled<|by omega) 30) D) λfl H U a b=>?_;refine G ?_;exact(f' fl H a b)
theorem ZE(X:bS F (KK F.w.params) sc d)(hd:fX 3 d=aj){Q:V ->St ->Prop}(h:p=(ev F F.w.params sc 30).e e st an λv H U=>Q v H)(D:p):∃v o',EV F e st v (st.loc,o')/\Q v (st.loc,o'):=by have hd:=ae hd;rw[h]at D;refine cH λy G=>?_;refine bl ((nG X hd (X.cx.handled<|by omega) 30).e D) λu H U a b=>?_;refine G ?_;exact(f' u H a b)
end
@[elab_as_elim] theorem RQ{motive:Nat ->Prop}(h:k<4)(D:motive 0)(U:motive 1)(H:motive 2)(Q:motive 3):motive k:=by
 cases k with
 |zero=>exact D
 |succ k=>cases k with
  |zero=>exact U
  |succ k=>cases k with
   |zero=>exact H
   |succ k=>cases k with
    |zero=>exact Q
    |succ k=>exact absurd h<|Nat.not_lt.mpr<|aM 4 k
theorem lA(i:Nat)(h:i<9):((1:Int)+(i:Int)).natAbs<1000:=eG (Nat.add_lt_add_left h 1)<|ae rfl
theorem mD(c:Nat):(⟨#[c]⟩:aF).length=1:=rfl
theorem zh1(c:Nat):decide (c∈(aa "").cps.toList)=ao:='k'
theorem zh2(c:Nat):(!decide (c∈(aa "").cps.toList))=aj:=by rw[show decide (c∈(aa "").cps.toList)=ao from 'k'];rfl
theorem EM:decide (97∈(aa "'\"").cps.toList)=ao:='k'
theorem Ff:((⟨#[97]⟩:aF)==" ")=ao:='k'
theorem Fe:decide (97∈(aa "\\").cps.toList)=ao:='k'
theorem Fd:([bq "a",bq "c"].any λy=>bA y<|.str ⟨#[97]⟩)=aj:='k'
theorem JP:((⟨#[32]⟩:aF)==" ")=aj:='k'
theorem JD:(aa "").length=0:='k'
theorem JO:decide (34∈(aa "'\"").cps.toList)=aj:='k'
theorem Ds:decide (39∈(aa "'\"").cps.toList)=aj:='k'
theorem Fi:((⟨#[92]⟩:aF)==" ")=ao:='k'
theorem Fh:decide (92∈(aa "'\"").cps.toList)=ao:='k'
theorem Fg:decide (92∈(aa "\\").cps.toList)=aj:='k'
theorem JS:((⟨#[39]⟩:aF)==" ")=ao:='k'
theorem JR:((⟨#[34]⟩:aF)==" ")=ao:='k'
theorem JQ:((⟨#[97]⟩:aF)=="c")=ao:='k'
abbrev cL(F:Fx)(f:aA)(Q:List V)(o:List O)(v:Oc)(o' :List O):Prop:=∀l,dM F (.ref f) Q [] (l,o) v (l,o')
theorem g9(h:a=b)(k:fX b (2^24)=aj):a<=2^24:=ai (ar h)<|ae k
theorem CF(h:a<=b)(k:fX b (2^24)=aj):a<=2^24:=ai h<|ae k
theorem cI(F:Fx)(c:Nat)(x:aF)(st:St):dO F st .In (.str ⟨#[c]⟩) (.str x) (decide<|c∈x.cps.toList):=dO.in1
theorem tB{x y:aF}(h:x.length<=m)(k:y.length<=n):(x++y).length<=m+n:=by rw[bp];exact au h k
theorem Sm{l:List Q}(h:l.length<=n):(l.map f).length<=n:=by rw[ax];exact h
theorem bind1{fd:aB ->oQ}(h:∀P S u,peek (KK P) S (bindArgs (fd P) ([u],[]))=ah [(n,u)]):∀P σ us H,RL σ [v] us ->RB σ [] H ->∃binds,(∀S,peek (KK P) S (bindArgs (fd P) (us,H))=ah binds)/\RB σ [(n,v)] binds:=λP σ us H D U=>by (refine aR (D.one) λu Q r=>?_;subst Q);cases U;exact(_,λS=>h P S u,u,[],rfl,r,rfl)
theorem jq{fd:aB ->oQ}(h:∀P S u Q,peek (KK P) S (bindArgs (fd P) ([u,Q],[]))=ah [(n,u),(m,Q)]):∀P σ us U,RL σ [v,w] us ->RB σ [] U ->∃binds,(∀S,peek (KK P) S (bindArgs (fd P) (us,U))=ah binds)/\RB σ [(n,v),(m,w)] binds:=λP σ us U E D=>by (refine cj (E.two) λu Q H r G=>?_;subst H);cases D;exact(qq _ (λS=>h P S u Q) u _ rfl r Q [] rfl G rfl)
theorem xa{fd:aB ->oQ}(h:∀P S u H Q,peek (KK P) S (bindArgs (fd P) ([u,H,Q],[]))=ah [(n,u),(m,H),(k,Q)]):∀P σ us E,RL σ [v,w,x] us ->RB σ [] E ->∃binds,(∀S,peek (KK P) S (bindArgs (fd P) (us,E))=ah binds)/\RB σ [(n,v),(m,w),(k,x)] binds:=λP σ us E U y=>by refine cH λGq j=>?_;obtain⟨u,G,rfl,r,U⟩:=U;obtain⟨H,Q,rfl,z,D⟩:=U.two;refine j ?_;cases y;exact(_,λS=>h P S u H Q,u,_,rfl,r,H,_,rfl,z,Q,[],rfl,D,rfl)
theorem O0(X:bS F (KK F.w.params) sc d)(hd:fX 3 d=aj){st:St}(h:p=wSs (ev F F.w.params sc 30) B st an λfl Q U=>fl= .next/\ef L Q.loc/\Q.obs=o)(E:p):dc F B st .next (L,o):=by (refine x5 (run X hd h E) λfl Q u D G H=>?_;subst D;subst H);exact dc.less u G
theorem ed{F:Fx}{sc:cJ}{d:Nat}(X:bS F (KK F.w.params) sc d)(hd:fX 3 d=aj){B:List cn}{st:St}{an:List An}(fl:FV)(L:List (aF×V))(o:List O){p:Prop}(h:p=wSs (ev F F.w.params sc 30) B st an λH Q U=>H=fl/\ef L Q.loc/\Q.obs=o)(G:p):dc F B st fl (L,o):=by (refine x5 (run X hd h G) λH Q y E u D=>?_;subst E;subst D);exact dc.less y u
theorem B3(S:mA F E):∀{es:List cn} {st:St} {an:List An} {k:KF},wSs E es st an k ->(∀fl H an,k fl H an ->fl= .next/\dc F T H Q aN)->dc F (es++T) st Q aN
 |[],_,_,_,h,U=>(U _ _ _ h).2
 |x::r,st,an,k,h,U=>by
  unfold wSs at h;refine bl (S.s h) λfl G u D h=>?_;cases fl with
  |next=>exact W.cons D (B3 S h U)
  |_=>exact absurd (U _ _ _ h).1 (λe=>nomatch e)
theorem xt{F:Fx}{sc:cJ}{d:Nat}(k:Nat)(X:bS F (KK F.w.params) sc d)(hd:fX 3 d=aj){B:List cn}{st:St}{an:List An}(L:List (aF×V))(o:List O){Q:FV}{aN:St}{T:List cn}(y:dc F T (L,o) Q aN)(u:B.drop k=T){p:Prop}(h:p=wSs (ev F F.w.params sc 30) (B.take k) st an λD H U=>D= .next/\ef L H.loc/\H.obs=o)(E:p):dc F B st Q aN:=by have hd:=ae hd;rw[h]at E;subst u;have:=B3 (T:=B.drop k) (nG X hd (X.cx.handled<|by omega) 30) E λfl H an G=>vC G λm j z=>(m,by subst z;exact dc.from y j);rwa [jI]at this
noncomputable def kX:Option cn ->List cn
 |some (.For _ _ b _ _)=>b
 |_=>[]
theorem j8(X:bS F (KK F.w.params) sc D)(U:F.prog=PR)(hB:BS F.w F.hB)(h:dB f e args H [] (.ok v) [])(G:fX e D=aj)(E:((KK F.w.params).lookup f).any (λo=>match o.data with| .func _=>aj|_=>ao)=aj)(Q:oz args/\yx H/\NR v):∀l,dM F (.ref f) args H (l,o) (.ok v) (l,o):=λl=>W.aaS X (ae G) U hB E h Q.1 Q.2.1 Q.2.2
noncomputable def xK:aW ->aW
 | .ListComp e _ _ _=>e
 |e=>e
noncomputable def wm:aW ->aW
 | .ListComp _ (g::_) _ _=>g.iter
 |e=>e
noncomputable def oU:aW ->cJ
 | .ListComp _ _ s _=>s
 |_=>aQ<|Hd.f0 41
noncomputable def XY:aW ->si
 | .ListComp _ _ _ p=>p
 |_=>(0,0,0,0)
noncomputable def Py:aW ->Option aW
 | .ListComp _ [g] _ _=>if g.ifs.isEmpty&&g.is_async==0 then ah g.target else aC
 |_=>aC
theorem CM(h:Py e=ah t):e= .ListComp (xK e) [(t,wm e,[],0)] (oU e) (XY e):=by
 cases e with
 |ListComp elt gs sc pos=>
  match gs,h with
  |[(t',it,ifs,a)],h=>
   obtain⟨h1,h2⟩:=RU h;rw[aw]at h1;have e1:ifs=[]:=List.isEmpty_iff.mp h1.1;have e2:a=0:=eq_of_beq h1.2;cases h2;subst e1 e2;rfl
 |_=>cases h
noncomputable def Uj:aW ->Option (aW×aW)
 | .ListComp _ Q _ _=>(one Q).bind λg=>(one g.ifs).bind λc=>if g.is_async==0 then ah (g.target,c)else aC
 |_=>aC
theorem MS(h:Uj e=ah (t,c)):e= .ListComp (xK e) [(t,wm e,[c],0)] (oU e) (XY e):=by
 cases e with
 |ListComp elt gs sc pos=>
  refine aR (Option.bind_eq_some_iff.mp h) λg h1 h=>?_;refine aR (Option.bind_eq_some_iff.mp h) λc' h2 h=>?_;refine fk (RU h) λh3 h4=>?_;have e1:=wd h1;have e2:=wd h2;have e3:g.is_async=0:=eq_of_beq h3;obtain⟨t',it,ifs,a⟩:=g;cases h4;subst e1;have e2:ifs=[c]:=e2;have e3:a=0:=e3;subst e2 e3;rfl
 |_=>cases h
noncomputable def Uk(e:aW):aW:=match Uj e with
 |some p=>p.2
 |none=>e
noncomputable def K0(e:aW)(y:aF):Bool:=match(Uj e).bind λp=>nameOf p.1 with
 |some p=>p.1==y
 |none=>ao
theorem Hl(h:K0 e y=aj):∃D,Uj e=ah (.Name y D,Uk e):=by
 unfold K0 at h;cases Q:Uj e with
 |none=>rw[Q]at h;cases h
 |some q=>
  rw[Q]at h;cases H:nameOf q.1 with
  |none=>rw[hM,H]at h;cases h
  |some p=>
   rw[hM,H]at h;have U:=gS (x:=p.1) (p:=p.2) H;have E:p.1=y:=eq_of_beq h;refine(p.2,?_);rw[E]at U;unfold Uk;rw[Q];show ah q=ah (_,q.2);rw[<-U]
noncomputable def Hm(e:aW)(y:aF):Bool:=match(Py e).bind nameOf with
 |some p=>p.1==y
 |none=>ao
theorem Bh(h:Hm e y=aj):∃H,Py e=ah (.Name y H):=by
 unfold Hm at h;cases Q:(Py e).bind nameOf with
 |none=>rw[Q]at h;cases h
 |some p=>
  rw[Q]at h;refine aR (Option.bind_eq_some_iff.mp Q) λt D U=>?_;have G:=gS (x:=p.1) (p:=p.2) U;have E:p.1=y:=eq_of_beq h;exact(p.2,by rw[D,G,E])
noncomputable def PN(e:aW)(x y:aF):Bool:=match(Py e).bind vQ with
 |some [a,b]=>(nameOf a).any (·.1==x)&&(nameOf b).any (·.1==y)
 |_=>ao
theorem uj(h:(nameOf a).any (·.1==x)=aj):∃p,a= .Name x p:=by
 cases Q:nameOf a with
 |none=>rw[Q]at h;cases h
 |some p=>rw[Q]at h;have H:p.1=x:=eq_of_beq h;have U:=gS (x:=p.1) (p:=p.2) Q;exact(p.2,by rw[U,H])
theorem PM(h:PN e x y=aj):∃px U k D,Py e=ah (.Tuple [.Name x px,.Name y U] k D):=by
 unfold PN at h;cases Q:(Py e).bind vQ with
 |none=>rw[Q]at h;cases h
 |some l=>
  rw[Q]at h
  match l,h,Q with
  |[a,b],h,Q=>
   have h:((nameOf a).any (·.1==x)&&(nameOf b).any (·.1==y))=aj:=h;rw[aw]at h;refine cH λGq E=>?_;refine eN (uj h.1) λp e1=>?_;refine eN (uj h.2) λq m=>?_;refine aR (Option.bind_eq_some_iff.mp Q) λt u G=>?_;refine E ?_;have z:=xk G;(refine uM z λj r H=>?_;subst H);exact(p,q,j,r,by rw[u,e1,m])
section
variable{F:Fx} {sc:cJ} {d:Nat} {l aH:List (aF×V)} {o:List O}
theorem uS{e:aW}{y:aF}{v:V}{u:Type}(a g:u ->V)(xs:List u)(aH:List (aF×V))(X:bS F (KK F.w.params) sc d)(hd:3<=d)(E:Hm e y=aj)(G:(dT (oU e) sc&&iF (oU e) sc&&isLocal (jF (oU e) sc) y&&aH.all (λp=>f6 (oU e) sc p.1))=aj)(m:∀env x,foldedSetIterable (wm e) env x=pure x)(he:EV F (wm e) (l,o) v (l,o))(j:itemsOf v=ah (xs.map a))(hz:ib v)(U:xs.length<=2^24)(H:ef aH l)(hl:∀v,ef aH ((y,v)::aH))(D:∀Q,bS Q (KK Q.w.params) (jF (oU e) sc) d ->Q.prog=F.prog ->Q.w=F.w ->Q.hB=F.hB ->∀c∈xs,EV Q (xK e) ((y,a c)::aH,o) (g c) ((y,a c)::aH,o)):
 EV F e (l,o) (.lst<|xs.map g) (l,o):=by
 refine eN (Bh E) λpy E=>?_;rw[CM E];exact EV.uS a g xs aH X hd G m he j hz U H hl λQ X' h1 z h3=>D Q (z▸X') h1 z h3
theorem Iq{e:aW}{y:aF}{v:V}{E:Type}(p:E ->Bool)(a g:E ->V)(xs:List E)(aH:List (aF×V))(X:bS F (KK F.w.params) sc d)(hd:3<=d)(G:K0 e y=aj)(u:(dT (oU e) sc&&iF (oU e) sc&&isLocal (jF (oU e) sc) y&&aH.all (λp=>f6 (oU e) sc p.1))=aj)(m:∀env x,foldedSetIterable (wm e) env x=pure x)(he:EV F (wm e) (l,o) v (l,o))(j:itemsOf v=ah (xs.map a))(hz:ib v)(U:xs.length<=2^24)(H:ef aH l)(hl:∀v,ef aH ((y,v)::aH))(D:∀Q,bS Q (KK Q.w.params) (jF (oU e) sc) d ->Q.prog=F.prog ->Q.w=F.w ->Q.hB=F.hB ->∀x∈xs,TV Q (Uk e) ((y,a x)::aH,o) (p x) ((y,a x)::aH,o)/\(p x=aj ->EV Q (xK e) ((y,a x)::aH,o) (g x) ((y,a x)::aH,o))):
 EV F e (l,o) (.lst<|(xs.filter p).map g) (l,o):=by
 refine eN (Hl G) λpy G=>?_;rw[MS G];exact EV.Iq p a g xs aH X hd u m he j hz U H hl λQ X' h1 z h3=>D Q (z▸X') h1 z h3
theorem NB{e:aW}{x y:aF}{v:V}{u:Type}(a b g:u ->V)(xs:List u)(aH:List (aF×V))(X:bS F (KK F.w.params) sc d)(hd:3<=d)(G:PN e x y=aj)(Q:(dT (oU e) sc&&iF (oU e) sc&&isLocal (jF (oU e) sc) x&&isLocal (jF (oU e) sc) y&&aH.all (λp=>f6 (oU e) sc p.1))=aj)(m:∀env x,foldedSetIterable (wm e) env x=pure x)(he:EV F (wm e) (l,o) v (l,o))(j:itemsOf v=ah (xs.map λc=>.tup [a c,b c]))(hz:ib v)(D:xs.length<=2^24)(H:ef aH l)(hl:∀v w,ef aH ((y,w)::(x,v)::aH))(E:∀U,bS U (KK U.w.params) (jF (oU e) sc) d ->U.prog=F.prog ->U.w=F.w ->U.hB=F.hB ->∀c∈xs,EV U (xK e) ((y,b c)::(x,a c)::aH,o) (g c) ((y,b c)::(x,a c)::aH,o)):
 EV F e (l,o) (.lst<|xs.map g) (l,o):=by
 obtain⟨px,py,k,pt,G⟩:=PM G;rw[CM G];simp only[aw]at Q;exact EV.comp (aN:=(aH,o)) X hd Q.1.1.1.1 Q.1.1.1.2 m he j hz (by rw[ax];exact D) aH H Q.2 λcl C z=>iY.T7 a b g z hd Q.1.1.2 Q.1.2 hl xs λc hc=>E (F.comp (oU e) cl C) z rfl rfl rfl c hc
theorem jm(X:bS F (KK F.w.params) sc d)(hd:fX 3 d=aj){e:aW}{st:St}{an:List An}{v:V}{o:List O}{p:Prop}(h:p=(ev F F.w.params sc 30).e e st an λE D U=>E=v/\D.obs=o)(G:p):EV F e st v (st.loc,o):=by (refine cj (ZE X hd h G) λE y u H Q=>?_;subst H;subst Q);exact u
theorem tV(X:bS F (KK F.w.params) sc d)(hd:fX 3 d=aj){e:aW}{st:St}{an:List An}{q:Bool}{o:List O}{p:Prop}(h:p=(ev F F.w.params sc 30).t e st an λG Q U=>G=q/\Q.obs=o)(E:p):TV F e st q (st.loc,o):=by have hd:=ae hd;rw[h]at E;(refine ji ((nG X hd (X.cx.handled<|by omega) 30).t E) λu Q U a D H=>?_;subst D;subst H);exact a
end
noncomputable def OA:Option cn ->cn
 |some s=>s
 |none=>.Pass (0,0,0,0)
noncomputable def I7:cn ->Option (aW×aW)
 | .Assign Q e _=>(one Q).map λt=>(t,e)
 |_=>aC
theorem LS(h:I7 s=ah (t,e)):∃Q,s= .Assign [t] e Q:=by
 cases s with
 |Assign ts e' Q=>
  refine aR (Option.map_eq_some_iff.mp h) λt' h1 h2=>?_;cases h2;rw[wd h1];exact(Q,rfl)
 |_=>cases h
noncomputable def oY(s:cn):aW:=match I7 s with
 |some p=>p.2
 |none=>.Name "" (0,0,0,0)
noncomputable def Ys(s:cn):Option (aF×si):=(I7 s).bind λp=>nameOf p.1
noncomputable def WN(s:cn)(x:aF):Bool:=match Ys s with
 |some p=>p.1==x
 |none=>ao
noncomputable def Yr(s:cn):si:=match Ys s with
 |some p=>p.2
 |none=>(0,0,0,0)
theorem Ja(h:WN s x=aj):∃H,s= .Assign [.Name x<|Yr s] (oY s) H:=by
 unfold WN at h;cases Q:Ys s with
 |none=>rw[Q]at h;cases h
 |some p=>
  rw[Q]at h;have G:p.1=x:=eq_of_beq h;have U:=Q;unfold Ys at U;refine aR (Option.bind_eq_some_iff.mp U) λq D E=>?_;refine eN (LS (t:=q.1) (e:=q.2) D) λH e=>?_;have u:=gS (x:=p.1) (p:=p.2) E;refine(H,?_);unfold Yr oY;rw[Q,D,<-G];show s= .Assign [.Name p.1 p.2] q.2 H;rw[<-u];exact e
theorem LV{F:Fx}{K:hJ}{sc:cJ}{d:Nat}{l:List (aF×V)}{o Q:List O}{D:aW}{gens:List Comprehension}{scope:cJ}{x:aF}{px pos ap:si}{v:V}(X:bS F K sc d)(hx:dp sc x=aj)(hn:isLocal sc x=ao)(he:EV F (.ListComp D gens scope pos) (l,o) v (l,Q)):
 EX F (.Assign [.Name x px] (.ListComp D gens scope pos) ap) (l,o) .next ((x,v)::l,Q):=λρ P s I=>by
 have hsw:swapsWith (.ListComp D gens scope pos) (ah<|.Name x px) ap.line F.env=pure ao:=by rw[vW X];unfold isLocal at hn;rw[hn];simp
 refine f7 (X.ok) λU U O U=>?_;refine ir (aq (he ρ P s I) (λu a7 m=>m.go λH y j G r=>?_) i4) hsw;exact aq (store O.kind (X.store hx) j r) (λU fW m=>fk m λz E=>(H,y,z,G.up.trans E,rfl)) i3
section
variable{F:Fx} {sc:cJ} {d:Nat} {l aH:List (aF×V)} {o:List O}
theorem abr{s:cn}{x y:aF}{v:V}{u:Type}(a g:u ->V)(xs:List u)(aH:List (aF×V))(X:bS F (KK F.w.params) sc d)(hd:3<=d)(j:WN s x=aj)(E:Hm (oY s) y=aj)(G:(dT (oU<|oY s) sc&&iF (oU<|oY s) sc&&isLocal (jF (oU<|oY s) sc) y&&aH.all (λp=>f6 (oU<|oY s) sc p.1)&&isLocal sc x&&((Yr s).line==(XY<|oY s).line&& !((oU<|oY s).names.any λ(n,k)=>n==x&&(k== .local||k== .cell))))=aj)(hs:∀env x,foldedSetIterable (wm<|oY s) env x=pure x)(he:EV F (wm<|oY s) (l,o) v (l,o))(m:itemsOf v=ah (xs.map a))(hz:ib v)(U:xs.length<=2^24)(H:ef aH l)(hl:∀v,ef aH ((y,v)::aH))(D:∀Q,bS Q (KK Q.w.params) (jF (oU<|oY s) sc) d ->Q.prog=F.prog ->Q.w=F.w ->Q.hB=F.hB ->∀c∈xs,EV Q (xK<|oY s) ((y,a c)::aH,o) (g c) ((y,a c)::aH,o)):
 EX F s (l,o) .next ((x,.lst<|xs.map g)::l,o):=by
 refine eN (Ja j) λap e1=>?_;refine eN (Bh E) λpy E=>?_;rw[e1,CM E];exact EX.I9 a g xs aH X hd G hs he m hz U H hl λQ X' h1 z h3=>D Q (z▸X') h1 z h3
theorem abq{s:cn}{x y:aF}{v:V}{E:Type}(p:E ->Bool)(a g:E ->V)(xs:List E)(aH:List (aF×V))(X:bS F (KK F.w.params) sc d)(hd:3<=d)(j:WN s x=aj)(G:K0 (oY s) y=aj)(u:(dT (oU<|oY s) sc&&iF (oU<|oY s) sc&&isLocal (jF (oU<|oY s) sc) y&&aH.all (λp=>f6 (oU<|oY s) sc p.1)&&isLocal sc x&&((Yr s).line==(XY<|oY s).line&& !((oU<|oY s).names.any λ(n,k)=>n==x&&(k== .local||k== .cell))))=aj)(hs:∀env x,foldedSetIterable (wm<|oY s) env x=pure x)(he:EV F (wm<|oY s) (l,o) v (l,o))(m:itemsOf v=ah (xs.map a))(hz:ib v)(U:xs.length<=2^24)(H:ef aH l)(hl:∀v,ef aH ((y,v)::aH))(D:∀Q,bS Q (KK Q.w.params) (jF (oU<|oY s) sc) d ->Q.prog=F.prog ->Q.w=F.w ->Q.hB=F.hB ->∀x∈xs,TV Q (Uk<|oY s) ((y,a x)::aH,o) (p x) ((y,a x)::aH,o)/\(p x=aj ->EV Q (xK<|oY s) ((y,a x)::aH,o) (g x) ((y,a x)::aH,o))):
 EX F s (l,o) .next ((x,.lst<|(xs.filter p).map g)::l,o):=by
 refine eN (Ja j) λap e1=>?_;refine eN (Hl G) λpy G=>?_;rw[e1,MS G];exact EX.I8 p a g xs aH X hd u hs he m hz U H hl λQ X' h1 z h3=>D Q (z▸X') h1 z h3
theorem abp{s:cn}{x y:aF}{v:V}{Q:List O}(X:bS F (KK F.w.params) sc d)(E:WN s x=aj)(H:Hm (oY s) y=aj)(U:dp sc x=aj)(G:isLocal sc x=ao)(D:EV F (oY s) (l,o) v (l,Q)):EX F s (l,o) .next ((x,v)::l,Q):=by obtain⟨j,u⟩:=Ja E;obtain⟨z,H⟩:=Bh H;have e:=CM H;rw[e]at D;rw[u,e];exact LV X U G D
end
noncomputable def QZ:Option cn ->aW
 |some (.Assign _ e _)=>e
 |_=>.Name "" (0,0,0,0)
noncomputable def RV:Option cn ->aW
 |some (.If e _ _ _)=>e
 |_=>.Name "" (0,0,0,0)
noncomputable def abl:aW ->aW
 | .BinOp l _ _ _=>l
 |e=>e
noncomputable def abk:aW ->aW
 | .BinOp _ _ r _=>r
 |e=>e
noncomputable def Jc:aW ->aW
 | .Call _ (a::_) _ _=>a
 |e=>e
noncomputable def abe:aW ->aW
 | .Compare l _ _ _=>l
 |e=>e
noncomputable def XH:Option cn ->aW
 |some (.While t _ _ _)=>t
 |_=>.Name "" (0,0,0,0)
noncomputable def YZ:Option cn ->List cn
 |some (.While _ b _ _)=>b
 |_=>[]
noncomputable def abd:aW ->aW
 | .Compare _ _ (r::_) _=>r
 |e=>e
noncomputable def Tp:Option cn ->aW
 |some (.Return (ah e) _)=>e
 |_=>.Name "" (0,0,0,0)
theorem nr_ints{p:List Int}:oz (p.map V.int):=fK λU U=>trivial
theorem nr_strs{p:List aF}:oz (p.map V.str):=fK λU U=>trivial
theorem Bd(h:l≠[]):(!(l.map f).isEmpty)=aj:=by cases l;exact absurd rfl h;rfl
theorem uW(X:bS F (KK F.w.params) sc D)(H:F.prog=PR)(hB:BS F.w F.hB)(h:dB f e args Q o v o')(E:fX e D=aj)(U:((KK F.w.params).lookup f).any (λo=>match o.data with| .func _=>aj|_=>ao)=aj):∀l,dM F (.ref f) args Q (l,o) v (l,o'):=λl=>W.fn' X (ae E) H hB U h
noncomputable def jA(l:List aF):List aF:=pick (pick l aC (ah (-1)) aC) aC aC (ah (-1))++pick l (ah (-1)) aC aC
noncomputable def iD(x:aF):aF:=aY "\t"<|jA<|aO x "\t"
theorem split_len(x y:aF):(aO x y).length<=x.length+2:=by
 unfold aO;split
 .simp
 .split
  .simp
  .rw[lH];have:=jr x y 0 x.length<|x.length+1;exact eS this
theorem xA(l:List Q):(pick l aC aC<|ah (-1)).length=l.length:=by rw[zr,dH]
theorem Ec(Q:x.length<=2^16)(D:gb "\t" (jA<|aO x "\t")=aj):dB 887 (d+4) [.str x] [] obs (.ok<|.str<|iD x) obs:=by
 refine FN.cu (ab:=[("lead",.str x)]) Vc VX 'k' (bind1 λP S u=>'k') λF y hB X Y=>?_;have H:=split_len x "\t";have U:=zt (aP V.str<|aO x "\t") aC<|ah (-1);have z:=xA<|pick (aP V.str<|aO x "\t") aC (ah (-1)) aC;have G:=zt (aP V.str<|aO x "\t") (ah (-1)) aC;have E:pick (pick (aP V.str<|aO x "\t") aC (ah (-1)) aC) aC aC (ah (-1))++pick (aP V.str<|aO x "\t") (ah (-1)) aC aC=aP V.str (jA<|aO x "\t"):=by unfold jA;rw[bx,<-tZ,<-tZ,<-tZ]
 rw[ax]at U G;exact(run X rfl (an:=[.ss<|jA<|aO x<|oS "\t"]) (p:=x.length<=2^20/\(aP V.str<|aO x<|oS "\t").length<=2^24/\(pick (aP V.str<|aO x<|oS "\t") aC (ah (-1:Int)) aC).length<=2^24/\(aP V.str<|aO x<|oS "\t").length<=2^24/\(pick (pick (aP V.str<|aO x<|oS "\t") aC (ah (-1:Int)) aC) aC aC<|ah (-1:Int)).length+(pick (aP V.str<|aO x<|oS "\t") (ah (-1:Int)) aC aC).length<=2^24/\_/\_/\_/\_) 'k' ((ai Q<|ae rfl),(ai (Sm<|ai H<|au Q<|aJ _)<|ae rfl),(ai (ai U<|ai H<|au Q<|aJ _)<|ae rfl),(ai (Sm<|ai H<|au Q<|aJ _)<|ae rfl),(by omega),E,D,@rfl _<|Oc.ok<|V.str<|iD x,@rfl _ obs):_)
noncomputable def iL(x:aF):aF:="'"++bX x "'" "'\"'\"'"++"'"
noncomputable def qk(x:aF):aF:="\""++bX (bX x "\\" "\\\\") "\"" "\\\""++"\""
noncomputable def qr(x:aF):aF:=aY ""<|x.cps.toList.map λc=>"\\"++S [c]
theorem Uh:(aa "'").length=1:='k'
theorem Pu:(aa "\"").length=1:='k'
theorem Hb:(aa "\\").length=1:='k'
theorem Pt:(aa "'\"'\"'").length=5:='k'
theorem KP:(aa "\\\\").length=2:='k'
theorem Ha:(aa "\\\"").length=2:='k'
theorem rB(h:r<=x+(x+1)*k)(Q:x<=n):r<=n+(n+1)*k:=ai h<|au Q<|dy k<|bE Q
theorem nE{x:aF}(Q:x.length<=100)(U:((way==0)=aj)\/((way==0)=ao/\(x=="")=aj)):dB 892 (d+4) [.str x,.int way] [] obs (.ok<|.str<|iL x) obs:=by
 refine FN.cu (ab:=[("word",.str x),("way",.int way)]) H7 Iy 'k' (jq λP S u G=>'k') λF y hB X Y=>?_;have H:=Uh;have D:=kT x "'" "'\"'\"'";rw[Pt]at D;rcases U with U|⟨U,E⟩
 .exact(run X rfl (an:=[.b aj,.a]) (p:=_/\x.length<=100000/\(oS "'").length+(bX x (oS "'")<|oS "'\"'\"'").length<=2^24/\(oS "'"++bX x (oS "'") (oS "'\"'\"'")).length+(oS "'").length<=2^24/\_/\_) 'k' (iI U (ai Q<|ae rfl) (ai (au (ar H)<|rB D Q)<|ae rfl) (by rw[bp];exact ai (au (au (ar H)<|rB D Q)<|ar H)<|ae rfl) (@rfl _<|Oc.ok<|V.str<|iL x)<|@rfl _ obs):_)
 .exact(run X rfl (an:=[.b ao,.b aj,.a]) (p:=_/\_/\x.length<=100000/\(oS "'").length+(bX x (oS "'")<|oS "'\"'\"'").length<=2^24/\(oS "'"++bX x (oS "'") (oS "'\"'\"'")).length+(oS "'").length<=2^24/\_/\_) 'k' (jG U E (ai Q<|ae rfl) (ai (au (ar H)<|rB D Q)<|ae rfl) (by rw[bp];exact ai (au (au (ar H)<|rB D Q)<|ar H)<|ae rfl) (@rfl _<|Oc.ok<|V.str<|iL x)<|@rfl _ obs):_)
theorem z7{x:aF}(Q:x.length<=100)(G:(way==0)=ao)(U:(way==1)=aj)(y:(x=="")=ao):dB 892 (d+4) [.str x,.int way] [] obs (.ok<|.str<|qk x) obs:=by refine FN.cu (ab:=[("word",.str x),("way",.int way)]) H7 Iy 'k' (jq λP S u z=>'k') λF j hB X Y=>?_;have E:=Pu;have H:=kT x "\\" "\\\\";rw[KP]at H;have D:=kT (bX x "\\" "\\\\") "\"" "\\\"";rw[Ha]at D;exact(run X rfl (an:=[.b ao,.b ao,.a,.b aj]) (p:=_/\_/\_/\x.length<=100000/\(bX x (oS "\\")<|oS "\\\\").length<=100000/\(oS "\"").length+(bX (bX x (oS "\\")<|oS "\\\\") (oS "\"")<|oS "\\\"").length<=2^24/\(oS "\""++bX (bX x (oS "\\")<|oS "\\\\") (oS "\"") (oS "\\\"")).length+(oS "\"").length<=2^24/\_/\_) 'k' (gp G y U (ai Q<|ae rfl) (ai (rB H Q)<|ae rfl) (ai (au (ar E)<|rB D<|rB H Q)<|ae rfl) (by rw[bp];exact ai (au (au (ar E)<|rB D<|rB H Q)<|ar E)<|ae rfl) (@rfl _<|Oc.ok<|V.str<|qk x)<|@rfl _ obs):_)
noncomputable def XX:aW:=Jc<|Tp (eA<|Hd.f0 33)[2]?
theorem Px(Q:x.length<=100)(H:EV F (wm XX) (l,o) (.str x) (l,o))(X:bS F (KK F.w.params) (aQ<|Hd.f0 33) (d+3)):EV F XX (l,o) (.lst<|x.cps.toList.map λc=>V.str<|"\\"++S [c]) (l,o):=by refine uS (y:="sign") (λc=>V.str ⟨#[c]⟩) (λc=>V.str<|"\\"++S [c]) x.cps.toList [] X (by exact aM ..) 'k' 'k' (by intros;rfl) H rfl trivial (ai Q 'd') trivial (λv=>trivial) λu E U U U c G=>?_;have D:=Hb;exact(jm E (e:=xK XX) rfl (an:=[]) (p:=(oS "\\").length+(⟨#[c]⟩:aF).length<=2^24/\_/\_) 'k' ((ai (au (ar D)<|ar<|mD c)<|ae rfl),@rfl _<|V.str<|oS "\\"++S [c],@rfl _ o):_)
theorem z6{x:aF}(H:x.length<=100)(U:(way==0)=ao)(Q:(way==1)=ao)(y:(x=="")=ao)(G:gb "" (x.cps.toList.map λc=>"\\"++S [c])=aj):dB 892 (d+4) [.str x,.int way] [] obs (.ok<|.str<|qr x) obs:=by
 refine FN.cu (ab:=[("word",.str x),("way",.int way)]) H7 Iy 'k' (jq λP S u z=>'k') λF j hB X Y=>?_;have E:EV F XX ([("word",.str x),("way",.int way)],obs) (.lst<|x.cps.toList.map λc=>V.str<|"\\"++S [c]) ([("word",.str x),("way",.int way)],obs):=by refine Px H ?_ X;exact(jm X rfl (an:=[]) (p:=_/\_) 'k' (@rfl _<|V.str x,@rfl _ obs):_)
 have D:x.cps.toList.map (λc=>V.str<|"\\"++S [c])=(x.cps.toList.map λc=>"\\"++S [c]).map V.str:=by rw[cK];rfl
 exact(run X rfl (an:=[.b ao,.b ao,.a,.b ao,.x (V.lst<|aP (λ(c:Nat)=>V.str<|oS "\\"++S [c]) x.cps.toList) obs,.ss<|aP (λ(c:Nat)=>oS "\\"++S [c]) x.cps.toList]) (p:=_/\_/\_/\_/\_/\_/\_/\_) 'k' (fH U y Q (E) D G (@rfl _<|Oc.ok<|V.str<|qr x)<|@rfl _ obs):_)
noncomputable def bf(l:List Nat):List V:=l.map λc=>.int (c:Nat)
noncomputable abbrev gj(Q:aF)(n nt:Nat)(cnt:List Nat)(b:Nat):List (aF×V):=[("raw",.str Q),("n",.int n),("nt",.int nt),("norm",.tup [.tup<|bf cnt,.int b]),("is_simple",.bool<|decide<|((bf cnt).length:Int)<=1)]
noncomputable def exts(cnt:List Nat)(b:Nat):List Nat:=if cnt.length<=b then cnt++bU (b -cnt.length+1) 0 else cnt
noncomputable def bump(cnt:List Nat)(b:Nat):List Nat:=(exts cnt b).set b<|(exts cnt b).getD b 0+1
noncomputable def cM:List Nat ->List Nat ->Nat ->Nat ->Nat ->List Nat×Nat×Nat×Nat
 |[],cnt,b,n,nt=>(cnt,b,n,nt)
 |c::r,cnt,b,n,nt=>if c=32 then cM r cnt (b+1) (n+1) nt else if c=9 then cM r (bump cnt b) 0 (n+1) (nt+1)else(cnt,b,n,nt)
theorem YW{r cnt:List Nat}:cM (c::r) cnt b n nt=if c=32 then cM r cnt (b+1) (n+1) nt else if c=9 then cM r (bump cnt b) 0 (n+1) (nt+1)else(cnt,b,n,nt):=rfl
noncomputable abbrev mR(cnt:List Nat)(b:Nat):List V:=bf cnt++bU ((b:Int) -((bf cnt).length:Int)+1).toNat (.int 0)
structure WM where
 r:List O
 k:Nat
 cnt:List Nat
 b:Nat
 n:Nat
 nt:Nat
noncomputable def WM.next(m:WM)(c:Nat):WM:=if c=32 then{m with b:=m.b+1,n:=m.n+1}else
 if m.cnt.length<=m.b then(m.r++[.list<|bf<|bump m.cnt m.b],m.r.length,bump m.cnt m.b,0,m.n+1,m.nt+1)else(m.r.set m.k<|.list<|bf<|bump m.cnt m.b,m.k,bump m.cnt m.b,0,m.n+1,m.nt+1)
noncomputable def WM.stop(_:WM)(c:Nat):Bool:=c !=32&&c !=9
def WM.ok(Q:List Nat)(m:WM):Prop:=m.r[m.k]? =ah (.list<|bf m.cnt)/\m.cnt.length<=m.n/\m.b<=m.n/\m.n+Q.length<=2^16
noncomputable abbrev WM.L(x:aF)(m:WM):List (aF×V):=[("nt",.int m.nt),("n",.int m.n),("b",.int m.b),("count",.ref<|m.k+1),("S",.str " "),("T",.str ⟨#[9]⟩),("self",.ref 0),("ws",.str x)]
noncomputable abbrev WM.O(x:aF)(m:WM):List O:=.inst 862 [("raw",.str x)]::m.r
theorem kF(cnt:List Nat)(b:Nat):(exts cnt b).length=max cnt.length (b+1):=by
 unfold exts;split
 .rw[aD,jM];lia
 .lia
theorem lR(cnt:List Nat)(b:Nat):(bump cnt b).length=max cnt.length (b+1):=by unfold bump;rw[List.length_set,kF]
theorem ee(l:List Nat):(bf l).length=l.length:=by unfold bf;rw[ax]
noncomputable def cE(x:aF):WM:=runM WM.next WM.stop x.cps.toList ([.list []],0,[],0,0,0)
theorem b32(c:Nat):((⟨#[c]⟩:aF)==" ")=(c==32):=one_beq c 32 'k'
theorem b9(c:Nat):((⟨#[c]⟩:aF)==⟨#[9]⟩)=(c==9):=one_beq c 9 rfl
theorem IJ(cnt:List Nat)(b:Nat):(bump cnt b)[b]? =ah ((exts cnt b).getD b 0+1):=by unfold bump;rw[m9 (by rw[kF];exact cU ..)]
theorem B1(h:WM.ok (c::Q) m)(G:WM.stop m c=ao):WM.ok Q (WM.next m c):=by
 refine j7 h λU E D H=>?_;rw[aU]at H;unfold WM.next;split
 .exact(cy U (ba E) (bE D) (by show m.n+1+Q.length<=2^16;exact j5 H<|by omega))
 .split
  .refine(cy (by simp) ?_ (bH _) (by show m.n+1+Q.length<=2^16;exact j5 H<|by omega));show(bump m.cnt m.b).length<=m.n+1;rw[lR];lia
  .refine(cy ?_ ?_ (bH _) (by show m.n+1+Q.length<=2^16;omega))
   .show(m.r.set m.k _)[m.k]? =_;rw[m9 (List.getElem?_eq_some_iff.mp U).1]
   .show(bump m.cnt m.b).length<=m.n+1;rw[lR];lia
theorem Mt:∀(Q:List Nat) (m:WM),WM.ok Q m ->WM.ok [] (runM WM.next WM.stop Q m)
 |[],m,h=>h
 |c::Q,m,h=>by
  unfold runM;cases q:WM.stop m c with
  |true=>rw[if_pos rfl];exact(cy h.1 h.2.1 h.2.2.1 (by have:=h.2.2.2;rw[aU]at this;show m.n+0<=2^16;exact j5 this<|by omega))
  |false=>rw[if_neg 'd'];exact Mt Q _<|B1 h q
theorem BZ:∀(Q:List Nat) (m:WM),cM Q m.cnt m.b m.n m.nt=((runM WM.next WM.stop Q m).cnt,(runM WM.next WM.stop Q m).b,(runM WM.next WM.stop Q m).n,(runM WM.next WM.stop Q m).nt)
 |[],m=>rfl
 |c::Q,m=>by
  rw[FZ,YW];have D:=BZ Q<|WM.next m c;by_cases h:c=32
  .have H:WM.stop m c=ao:=by unfold WM.stop;simp[h]
   rw[if_pos h,H];simp only[cQ,if_false];rw[<-D];unfold WM.next;rw[if_pos h]
  .by_cases U:c=9
   .have H:WM.stop m c=ao:=by unfold WM.stop;simp[U]
    rw[if_neg h,if_pos U,H];simp only[cQ,if_false];rw[<-D];unfold WM.next;rw[if_neg h];split<;>rfl
   .have H:WM.stop m c=aj:=by unfold WM.stop;simp[h,U]
    rw[if_neg h,if_neg U,H];rfl
noncomputable def RG:List cn:=kX<|(eA<|Hd.f1 28 1)[4]?
section
variable{F:Fx} {d:Nat} {x:aF} {m:WM} {c:Nat}
theorem JT(h:WM.stop m c=aj)(X:bS F (KK F.w.params) (aQ<|Hd.f1 28 1) (d+3)):dc F RG (("ch",.str ⟨#[c]⟩)::WM.L x m,WM.O x m) .brk (WM.L x m,WM.O x m):=by
 have Q:=b32 c;have D:=b9 c;unfold WM.stop at h;simp only[aw,bne_iff_ne,ne_eq]at h;have U:((⟨#[c]⟩:aF)==" ")=ao:=by rw[Q];simp[h.1]
 have H:((⟨#[c]⟩:aF)==⟨#[9]⟩)=ao:=by rw[D];simp[h.2]
 exact(ed X rfl .brk (WM.L x m) (WM.O x m) (an:=[.b ao,.b ao]) (p:=_/\_/\_/\(_/\_/\_/\_/\_/\_/\_/\_/\True)/\_) 'k' (eU U H (@rfl _ FV.brk) (gp (@rfl _<|ah<|V.int ↑m.nt) (@rfl _<|ah<|V.int ↑m.n) (@rfl _<|ah<|V.int ↑m.b) (@rfl _<|ah<|V.ref<|m.k+1) (@rfl _<|ah<|V.str " ") (@rfl _<|ah<|V.str ⟨#[9]⟩) (@rfl _<|ah<|V.ref 0) (@rfl _<|ah<|V.str x) trivial)<|@rfl _<|WM.O x m):_)
theorem Ss(Q:((⟨#[c]⟩:aF)==" ")=aj)(X:bS F (KK F.w.params) (aQ<|Hd.f1 28 1) (d+3)):dc F RG (("ch",.str ⟨#[c]⟩)::WM.L x m,WM.O x m) .next (WM.L x {m with b:=m.b+1,n:=m.n+1},WM.O x m):=by exact(ed X rfl .next (WM.L x {m with b:=m.b+1,n:=m.n+1}) (WM.O x m) (an:=[.b aj]) (p:=_/\_/\(_/\_/\_/\_/\_/\_/\_/\_/\True)/\_) 'k' (cy Q (@rfl _ FV.next) (gp (@rfl _<|ah<|V.int ↑m.nt) (@rfl _<|ah<|V.int<|↑(m.n+1)) (@rfl _<|ah<|V.int<|↑(m.b+1)) (@rfl _<|ah<|V.ref<|m.k+1) (@rfl _<|ah<|V.str " ") (@rfl _<|ah<|V.str ⟨#[9]⟩) (@rfl _<|ah<|V.ref 0) (@rfl _<|ah<|V.str x) trivial)<|@rfl _<|WM.O x m):_)
theorem tnS{a b:Nat}(h:b<=a):((a:Int) -(b:Int)+1).toNat=a -b+1:=by rw[<-qJ h];rfl
theorem tnA{a b:Nat}(h:b<=a)(Q:a<=2^16):(0:Int)<=(a:Int) -(b:Int)+1/\(a:Int) -(b:Int)+1<=1048576:=by rw[<-qJ h];exact(aL<|a -b+1,Int.ofNat_le.mpr<|ai (bE<|ai (Jw ..) Q)<|ae rfl)
theorem Sr(h1:((⟨#[c]⟩:aF)==" ")=ao)(h2:((⟨#[c]⟩:aF)==⟨#[9]⟩)=aj)(G:m.r[m.k]? =ah (.list<|bf m.cnt))(hn:m.cnt.length<=2^16)(H:m.b<=2^16)(U:m.cnt.length<=m.b)(X:bS F (KK F.w.params) (aQ<|Hd.f1 28 1) (d+3)):
 dc F RG (("ch",.str ⟨#[c]⟩)::WM.L x m,WM.O x m) .next (WM.L x (m.r++[.list<|bf<|bump m.cnt m.b],m.r.length,bump m.cnt m.b,0,m.n+1,m.nt+1),WM.O x (m.r++[.list<|bf<|bump m.cnt m.b],m.r.length,bump m.cnt m.b,0,m.n+1,m.nt+1)):=by
 have Q:=ee m.cnt;have hL:fj ([],WM.O x m) (.ref<|m.k+1)=ah (bf m.cnt):=by show Bf ((O.inst 862 [("raw",.str x)]::m.r)[m.k+1]?)=_;rw[mN,G];rfl
 have hge:decide ((m.b:Int)>=((bf m.cnt).length:Int))=aj:=decide_eq_true (by rw[Q];exact Int.ofNat_le.mpr U);have hE:mR m.cnt m.b=bf (exts m.cnt m.b):=by unfold mR exts;rw[if_pos U,ee];unfold bf;rw[bx,List.map_replicate,tnS U];rfl
 have D:(mR m.cnt m.b).length=m.b+1:=by rw[hE,ee,kF];exact iB<|ba U
 have y:Ce ([],WM.O x m++[O.list<|mR m.cnt m.b]) (.ref (WM.O x m).length)=ah (mR m.cnt m.b):=by show Bf ((WM.O x m++[O.list<|mR m.cnt m.b])[(WM.O x m).length]?)=_;rw[bW];rfl
 have hL3:wj ([],WM.O x m++[O.list<|mR m.cnt m.b]) (WM.O x m).length=ah (mR m.cnt m.b):=y;have z:place (m.b:Int) (mR m.cnt m.b).length=ah m.b:=by unfold place;rw[if_pos<|by exact aL _,gY,if_pos (by rw[D];exact fx _)]
 have j:(mR m.cnt m.b)[m.b]? =ah (.int (((exts m.cnt m.b).getD m.b 0:Nat):Int)):=by rw[hE];unfold bf;rw[bF,az (by rw[kF];exact cU ..),aI,az (by rw[kF];exact cU ..)];rfl
 have E:(WM.O x m++[O.list<|mR m.cnt m.b]).set (WM.O x m).length (.list<|(mR m.cnt m.b).set m.b<|.int<|(((exts m.cnt m.b).getD m.b 0:Nat):Int)+1)=WM.O x (m.r++[.list<|bf<|bump m.cnt m.b],m.r.length,bump m.cnt m.b,0,m.n+1,m.nt+1):=by
  have u:(mR m.cnt m.b).set m.b (.int<|(((exts m.cnt m.b).getD m.b 0:Nat):Int)+1)=bf (bump m.cnt m.b):=by rw[hE];unfold bf bump;rw[Sg];rfl
  rw[List.set_append_right _ _<|aJ _,Xr,u];rfl
 exact(ed X rfl .next (WM.L x (m.r++[.list<|bf<|bump m.cnt m.b],m.r.length,bump m.cnt m.b,0,m.n+1,m.nt+1)) (WM.O x (m.r++[.list<|bf<|bump m.cnt m.b],m.r.length,bump m.cnt m.b,0,m.n+1,m.nt+1)) (an:=[.b ao,.b aj,.v<|bf m.cnt,.b aj,.v<|bf m.cnt,.v<|bf m.cnt,.v<|mR m.cnt m.b,.i m.b<|V.int (↑((exts m.cnt m.b).getD m.b 0):Int),.v<|mR m.cnt m.b,.i m.b V.none]) (p:=_/\_/\_/\(bf m.cnt).length<=2^24/\_/\_/\(bf m.cnt).length<=2^24/\((0:Int)<=(↑m.b:Int) -(↑(bf m.cnt).length:Int)+(1:Int)/\(↑m.b:Int) -(↑(bf m.cnt).length:Int)+(1:Int)<=(1048576:Int))/\_/\(bf m.cnt).length+(bU ((↑m.b:Int) -(↑(bf m.cnt).length:Int)+(1:Int)).toNat<|V.int (0:Int)).length<=2^24/\_/\(_/\_/\(mR m.cnt m.b).length<=2^24)/\_/\(_/\m.b<(mR m.cnt m.b).length/\(mR m.cnt m.b).length<=2^24)/\_/\(_/\_/\_/\_/\_/\_/\_/\_/\True)/\_) 'k' (h1,h2,hL,(ai (ai (ar Q)<|ai U H)<|ae rfl),hge,hL,(ai (ai (ar Q)<|ai U H)<|ae rfl),tnA (ai (ar Q) U) H,hL,(by rw[jM,tnS<|ai (ar Q) U,<-qF,kN<|ai (ar Q) U];exact ai (bE H)<|ae rfl),y,(z,j,(ai (ai (ar D)<|au H<|aJ _)<|ae rfl)),hL3,(@rfl _ (↑m.b:Int),Jy (fx _) D.symm,(ai (ai (ar D)<|au H<|aJ _)<|ae rfl)),@rfl _ FV.next,(@rfl _<|ah<|V.int (↑(m.nt+1):Int),@rfl _<|ah<|V.int<|↑(m.n+1),@rfl _<|ah<|V.int 0,@rfl _<|ah<|V.ref<|m.r.length+1,@rfl _<|ah<|V.str " ",@rfl _<|ah<|V.str ⟨#[9]⟩,@rfl _<|ah<|V.ref 0,@rfl _<|ah<|V.str x,trivial),E):_)
theorem Sq(h1:((⟨#[c]⟩:aF)==" ")=ao)(h2:((⟨#[c]⟩:aF)==⟨#[9]⟩)=aj)(U:m.r[m.k]? =ah (.list<|bf m.cnt))(u:m.cnt.length<=2^16)(E:¬m.cnt.length<=m.b)(X:bS F (KK F.w.params) (aQ<|Hd.f1 28 1) (d+3)):
 dc F RG (("ch",.str ⟨#[c]⟩)::WM.L x m,WM.O x m) .next (WM.L x (m.r.set m.k<|.list<|bf<|bump m.cnt m.b,m.k,bump m.cnt m.b,0,m.n+1,m.nt+1),WM.O x (m.r.set m.k<|.list<|bf<|bump m.cnt m.b,m.k,bump m.cnt m.b,0,m.n+1,m.nt+1)):=by
 have Q:=ee m.cnt;have hL:fj ([],WM.O x m) (.ref<|m.k+1)=ah (bf m.cnt):=by show Bf ((O.inst 862 [("raw",.str x)]::m.r)[m.k+1]?)=_;rw[mN,U];rfl
 have hL2:Ce ([],WM.O x m) (.ref<|m.k+1)=ah (bf m.cnt):=hL;have j:wj ([],WM.O x m) (m.k+1)=ah (bf m.cnt):=hL;have z:decide ((m.b:Int)>=((bf m.cnt).length:Int))=ao:=decide_eq_false (by rw[Q];exact λq=>E<|Int.ofNat_le.mp q);have hE:exts m.cnt m.b=m.cnt:=by unfold exts;rw[if_neg E]
 have G:place (m.b:Int) (bf m.cnt).length=ah m.b:=by unfold place;rw[ee,if_pos<|by exact aL _,if_pos<|by exact ck E];simp
 have y:(bf m.cnt)[m.b]? =ah (.int (((exts m.cnt m.b).getD m.b 0:Nat):Int)):=by rw[hE];unfold bf;rw[bF,az<|by exact ck E,aI,az<|by exact ck E];rfl
 have H:(WM.O x m).set (m.k+1) (.list<|(bf m.cnt).set m.b<|.int<|(((exts m.cnt m.b).getD m.b 0:Nat):Int)+1)=WM.O x (m.r.set m.k<|.list<|bf<|bump m.cnt m.b,m.k,bump m.cnt m.b,0,m.n+1,m.nt+1):=by
  have D:(bf m.cnt).set m.b (.int<|(((exts m.cnt m.b).getD m.b 0:Nat):Int)+1)=bf (bump m.cnt m.b):=by unfold bf bump;rw[Sg,hE];rfl
  rw[D];rfl
 exact(ed X rfl .next (WM.L x (m.r.set m.k<|.list<|bf<|bump m.cnt m.b,m.k,bump m.cnt m.b,0,m.n+1,m.nt+1)) (WM.O x (m.r.set m.k<|.list<|bf<|bump m.cnt m.b,m.k,bump m.cnt m.b,0,m.n+1,m.nt+1)) (an:=[.b ao,.b aj,.v<|bf m.cnt,.b ao,.v<|bf m.cnt,.i m.b<|V.int (↑((exts m.cnt m.b).getD m.b 0):Int),.v<|bf m.cnt,.i m.b V.none]) (p:=_/\_/\_/\(bf m.cnt).length<=2^24/\_/\_/\(_/\_/\(bf m.cnt).length<=2^24)/\_/\(_/\m.b<(bf m.cnt).length/\(bf m.cnt).length<=2^24)/\_/\(_/\_/\_/\_/\_/\_/\_/\_/\True)/\_) 'k' (gz h1 h2 hL (ai (ai (ar Q) u)<|ae rfl) z hL2 (G,y,(ai (ai (ar Q) u)<|ae rfl)) j (@rfl _ (↑m.b:Int),(by omega),(ai (ai (ar Q) u)<|ae rfl)) (@rfl _ FV.next) (gp (@rfl _<|ah<|V.int (↑(m.nt+1):Int)) (@rfl _<|ah<|V.int<|↑(m.n+1)) (@rfl _<|ah<|V.int 0) (@rfl _<|ah<|V.ref<|m.k+1) (@rfl _<|ah<|V.str " ") (@rfl _<|ah<|V.str ⟨#[9]⟩) (@rfl _<|ah<|V.ref 0) (@rfl _<|ah<|V.str x) trivial) H):_)
end
theorem Eb(hx:x.length<=2^16):dB 817 (d+4) [.ref 0,.str x] [] [.inst 862 []] (.ok .none) (.inst 862 (gj x (cE x).n (cE x).nt (cE x).cnt (cE x).b)::(cE x).r):=by
 refine FN.cu (ab:=[(Prod.mk "self"<|.ref 0),(Prod.mk "ws"<|.str x)]) Vj Wd 'k' (jq λP S u u' =>'k') λF hp hB X Y=>?_;have H:WM.ok x.cps.toList ([.list []],0,[],0,0,0):=(cy rfl 'd' 'd' (by show 0+x.cps.toList.length<=_;rw[d9,dh];exact hx));refine j7 (Mt _ _ H) λk1 k2 k3 k4=>?_;have hf:∀px,gF F (.Name "ch" px) RG (x.cps.toList.map λc=>V.str ⟨#[c]⟩) (WM.L x ([.list []],0,[],0,0,0),WM.O x ([.list []],0,[],0,0,0)) .next (WM.L x<|cE x,WM.O x<|cE x):=λpx=>by
  refine gF.DU (λc=>V.str ⟨#[c]⟩) (WM.L x) (WM.O x) WM.ok WM.next WM.stop X 'k' (λm c cs U=>(λQ=>JT Q X,λQ=>(B1 U Q,?_))) x.cps.toList ([.list []],0,[],0,0,0) H;refine j7 U λj h2 h3 z=>?_;unfold WM.next;by_cases D:c=32
  .rw[if_pos D];exact Ss (by rw[b32];simp[D]) X
  .have G:c=9:=by
    unfold WM.stop at Q;have h0:(c !=32)=aj:=by simp[D]
    rw[h0]at Q;simpa using Q
   have e1:((⟨#[c]⟩:aF)==" ")=ao:=by rw[b32];simp[D]
   have e2:((⟨#[c]⟩:aF)==⟨#[9]⟩)=aj:=by rw[b9];simp[G]
   rw[if_neg D];by_cases E:m.cnt.length<=m.b
   .rw[if_pos E];exact Sr e1 e2 j (by exact rS h2 z (by omega)) (by exact rS h3 z (by omega)) E X
   .rw[if_neg E];exact Sq e1 e2 j (by omega) E X
 have hil:=ee (cE x).cnt;have k2' :(cE x).cnt.length<=(cE x).n:=k2;have k4' :(cE x).n+0<=2^16:=k4;have y:∀q,fj ([],q::(cE x).r) (.ref<|(cE x).k+1)=ah (bf (cE x).cnt):=λq=>by show Bf ((q::(cE x).r)[(cE x).k+1]?)=_;rw[mN,show(cE x).r[(cE x).k]? =_ from k1];rfl
 exact(run X rfl (an:=[An.b aj,An.l FV.next {loc:=[(Prod.mk (aa "nt")<|V.int (↑(cE x).nt:Int)),(Prod.mk (aa "n")<|V.int<|↑(cE x).n),(Prod.mk (aa "b")<|V.int<|↑(cE x).b),(Prod.mk (aa "count")<|V.ref<|(cE x).k+1),(Prod.mk (aa "S")<|V.str<|aa " "),(Prod.mk (aa "T")<|V.str ⟨#[9]⟩),(Prod.mk (aa "self")<|V.ref 0),(Prod.mk (aa "ws")<|V.str x)],obs:=WM.O x<|cE x},An.v<|bf (cE x).cnt,An.v<|bf (cE x).cnt]) (p:=[V.str<|aa " ",V.str ⟨#[9]⟩].length<=2^24/\True/\gF F (dg (aa "ch") (Prod.mk (aa "ch")<|{line:=765,col:=12,endLine:=765,endCol:=14}).snd) RG (aP (λ(c:Nat)=>V.str ⟨#[c]⟩) x.cps.toList) {loc:=WM.L x {r:=[O.list []],k:=0,cnt:=[],b:=0,n:=0,nt:=0},obs:=WM.O x {r:=[O.list []],k:=0,cnt:=[],b:=0,n:=0,nt:=0} } FV.next {loc:=WM.L x<|cE x,obs:=WM.O x<|cE x}/\fj {loc:=[],obs:=O.inst 862 [(Prod.mk (aa "raw")<|V.str x),(Prod.mk (aa "n")<|V.int<|↑(cE x).n),(Prod.mk (aa "nt")<|V.int<|↑(cE x).nt)]::(cE x).r} (V.ref<|(cE x).k+1)=ah (bf (cE x).cnt)/\(bf (cE x).cnt).length<=2^24/\[V.tup<|bf (cE x).cnt,V.int<|↑(cE x).b].length<=2^24/\fj {loc:=[],obs:=O.inst 862 [(Prod.mk (aa "raw")<|V.str x),(Prod.mk (aa "n")<|V.int<|↑(cE x).n),(Prod.mk (aa "nt")<|V.int<|↑(cE x).nt),(Prod.mk (aa "norm")<|V.tup [V.tup<|bf (cE x).cnt,V.int<|↑(cE x).b])]::(cE x).r} (V.ref<|(cE x).k+1)=ah (bf (cE x).cnt)/\(bf (cE x).cnt).length<=2^24/\Oc.ok V.none=Oc.ok V.none/\O.inst 862 [(Prod.mk (aa "raw")<|V.str x),(Prod.mk (aa "n")<|V.int<|↑(cE x).n),(Prod.mk (aa "nt")<|V.int<|↑(cE x).nt),(Prod.mk (aa "norm")<|V.tup [V.tup<|bf (cE x).cnt,V.int<|↑(cE x).b]),(Prod.mk (aa "is_simple")<|V.bool<|decide<|(↑(bf (cE x).cnt).length)<=(1:Int))]::(cE x).r=O.inst (862:aA) (gj x (cE x).n (cE x).nt (cE x).cnt (cE x).b)::(cE x).r) 'k' (kY (ae rfl) trivial (hf _) (y _) (by omega) (ae rfl) (y _) (by omega) rfl rfl):_)
noncomputable def cX(x:aF):List (aF×V):=let r:=cM x.cps.toList [] 0 0 0;gj x r.2.2.1 r.2.2.2 r.1 r.2.1
theorem NRL_intV:oz (bf l):=fK λU U=>trivial
theorem NRA_wsObj(x:aF):yx (cX x):=(iI trivial trivial trivial (NRL_intV,trivial,trivial) trivial trivial)
theorem Nl(H:x.length<=2^16):dB 817 (d+4) [.ref 0,.str x] [] [.inst 862 []] (.ok .none) [.inst 862<|cX x]:=by
 have h:=Eb (d:=d) H;have e:=BZ x.cps.toList ([.list []],0,[],0,0,0);have U:cX x=gj x (cE x).n (cE x).nt (cE x).cnt (cE x).b:=by unfold cX cE;rw[e]
 rw[<-U]at h;exact FN.drop (cS:=[.inst 862<|cX x]) h rfl (λo Q=>by rw[i9]at Q;subst Q;exact rn<|NRA_wsObj x) .none
theorem NRA_wsA{cnt:List Nat}:yx (gj raw n nt cnt b):=(iI trivial trivial trivial (NRL_intV,trivial,trivial) trivial trivial)
section
variable{raw d7:aF} {n nt n' dS:Nat} {cnt aX:List Nat} {b b' :Nat}
theorem fP(Q:(bf cnt).length<=2^16):dB 824 4 [.obj 862<|gj raw n nt cnt b] [] [] (.ok<|.int<|max (((bf cnt).length:Int) -1) b) []:=by refine FN.cu (d:=3) (ab:=[("self",.obj 862<|gj raw n nt cnt b)]) Vi Wc 'k' (bind1 λP S u=>'k') λF H hB X Y=>?_;exact(run X rfl (an:=[]) (p:=_/\_/\([]:List O)=[]) 'k' ((CF Q rfl),@rfl _<|Oc.ok<|V.int<|bP ((↑(bf cnt).length) -1) ↑b,rfl):_)
noncomputable def ph(cnt:List Nat)(Q:Nat)(H:Int)(j:Nat):Int:=H+((Q:Int)+(j:Nat)).fdiv Q*(cnt.getD (Q+j) 0:Nat)
noncomputable def MW(cnt:List Nat)(Q:Nat):Int:=(aE<|cnt.length -Q).foldl (ph cnt Q) 0
noncomputable def lvl(nt:Nat)(cnt:List Nat)(b Q:Nat):Int:=(b:Int)+(Q:Int)*(MW cnt Q+(nt:Int))
theorem pd (next : M → H → M) : ∀ (Q : List H) (m : M), runM next (fun U U => ao) Q m = Q.foldl next m
  | [], m => rfl
  | c :: Q, m => by unfold runM; rw [if_neg (by decide), pd next Q, eh]
noncomputable def XW:List cn:=kX<|(eA<|Hd.f1 28 3)[2]?
noncomputable abbrev MR(raw:aF)(n nt:Nat)(cnt:List Nat)(b Q:Nat)(H:Int):List (aF×V):=[("il",.int H),("trailing",.int b),("count",.tup<|bf cnt),("self",.obj 862<|gj raw n nt cnt b),("tabsize",.int Q)]
theorem KH(m:1<=Q)(z:Q<=2^16)(y:cnt.length<=2^16)(D:Q+j<cnt.length)(X:bS F (KK F.w.params) (aQ<|Hd.f1 28 3) 3):dc F XW (("i",.int<|(Q:Int)+(j:Int))::MR raw n nt cnt b Q H,[]) .next (MR raw n nt cnt b Q<|ph cnt Q H j,[]):=by
 have u:=ee cnt;have U:place ((Q:Int)+(j:Int)) (bf cnt).length=ah (Q+j):=by unfold place;rw[if_pos<|by exact aL _,if_pos<|by exact u▸D,show((Q:Int)+(j:Int)).toNat=Q+j by exact RK]
 have E:(bf cnt)[Q+j]? =ah (.int ((cnt.getD (Q+j) 0:Nat):Int)):=by unfold bf;rw[bF,az D,aI,az D];rfl
 have G:(((Q:Int)+(j:Int)).fdiv Q).natAbs<2^60:=by have e:=yt ((Q:Int)+(j:Int)) (b:=(Q:Int)) (by exact aL _);rw[e];have:=Int.ediv_le_self (a:=(Q:Int)+(j:Int)) (Q:Int) (by exact aL _);have:=Int.ediv_nonneg (a:=(Q:Int)+(j:Int)) (b:=(Q:Int)) (by exact aL _) (by exact aL _);lia
 exact(ed X rfl .next (MR raw n nt cnt b Q<|ph cnt Q H j) [] (an:=[.i (Q+j)<|V.int (↑(cnt.getD (Q+j) 0):Int)]) (p:=((↑Q:Int)≠(0:Int)/\(↑Q:Int).natAbs<2^30)/\(_/\_/\(bf cnt).length<=2^24)/\_/\_/\(_/\_/\_/\_/\_/\True)/\([]:List O)=[]) 'k' (iI ((by omega),(by omega)) (U,E,(ai (ai (ar u) y)<|ae rfl)) G (@rfl _ FV.next) (iI (@rfl _<|ah<|V.int<|ph cnt Q H j) (@rfl _<|ah<|V.int (↑b:Int)) (@rfl _<|ah<|V.tup<|bf cnt) (@rfl _<|ah<|V.obj 862<|gj raw n nt cnt b) (@rfl _<|ah<|V.int ↑Q) trivial) rfl):_)
theorem ix {Q : Nat} (G : cnt.length ≤ 2 ^ 16) (h1 : 1 ≤ Q) (h2 : Q ≤ 2 ^ 16) : dB 831 4 [.obj 862 (gj raw n nt cnt b), .int Q] [] [] (.ok (.int (lvl nt cnt b Q))) [] := by
  refine FN.cu (d := 3) (ab := [(Prod.mk "self" (.obj 862 (gj raw n nt cnt b))), (Prod.mk "tabsize" (.int Q))]) Vh Wb (by kernel_rfl) (jq fun P S u u' => by kernel_rfl) fun F hp hB X Y => ?_
  have D := ee cnt
  have hf : ∀ px, gF F (.Name "i" px) XW ((aE (((bf cnt).length : Int) - (Q : Int)).toNat).map fun i : Nat => V.int ((Q : Int) + (i : Int))) ⟨MR raw n nt cnt b Q 0, []⟩ .next ⟨MR raw n nt cnt b Q (MW cnt Q), []⟩ := fun px => by
    have := gF.DU (fun i : Nat => V.int ((Q : Int) + (i : Int))) (MR raw n nt cnt b Q) (fun U => []) (fun y U => ∀ j ∈ y, Q + j < cnt.length) (ph cnt Q) (fun U U => ao) (px := px) (body := XW) X (by kernel_rfl) (fun il j y H => ⟨fun z => absurd z (by decide), fun U => ⟨fun k m => H k (.tail _ m), KH h1 h2 G (H j (.head _)) X⟩⟩)
      (aE (((bf cnt).length : Int) - (Q : Int)).toNat) 0 (fun j E => by rw [gk] at E; rw [D, AB] at E; exact Nat.add_lt_of_lt_sub' E)
    rw [pd] at this
    unfold MW
    rw [show ((bf cnt).length : Int) - (Q : Int) = (cnt.length : Int) - Q by rw [D], show ((cnt.length : Int) - (Q : Int)).toNat = cnt.length - Q by exact ZL] at this ⊢
    exact this
  exact (run X rfl (an := [An.l FV.next { loc := [(Prod.mk (aa "il") (V.int (MW cnt Q))), (Prod.mk (aa "trailing") (V.int (↑b : Int))), (Prod.mk (aa "count") (V.tup (bf cnt))), (Prod.mk (aa "self") (V.obj (862 : aA) (gj raw n nt cnt b))), (Prod.mk (aa "tabsize") (V.int (↑Q : Int)))], obs := [] }]) (p := (bf cnt).length ≤ 2 ^ 24 ∧ (-(2 : Int) ^ 62 ≤ (↑Q : Int) ∧ (↑Q : Int) < (2 : Int) ^ 62 ∧ -(2 : Int) ^ 62 ≤ (↑(bf cnt).length : Int) ∧ (↑(bf cnt).length : Int) < (2 : Int) ^ 62) ∧ gF F (dg (aa "i") (Prod.mk (aa "i") ({ line := 790, col := 12, endLine := 790, endCol := 13 })).snd) XW (aP (fun (i : Nat) => V.int ((↑Q : Int) + (↑i : Int))) (aE ((↑(bf cnt).length : Int) - (↑Q : Int)).toNat)) { loc := MR raw n nt cnt b Q (0 : Int), obs := [] } FV.next { loc := MR raw n nt cnt b Q (MW cnt Q), obs := [] } ∧ (↑Q : Int).natAbs < 2 ^ 60 ∧ Oc.ok (V.int ((↑b : Int) + (↑Q : Int) * (MW cnt Q + (↑nt : Int)))) = Oc.ok (V.int (lvl nt cnt b Q)) ∧ ([] : List O) = []) (by kernel_rfl) ⟨(ai (ai (ar D) G) (ae rfl)), ⟨(by omega), (by omega), (by omega), (by omega)⟩, (hf _), (by omega), rfl, rfl⟩ : _)
end
section
variable{raw d7:aF} {n nt n' dS:Nat} {cnt aX:List Nat} {b b' :Nat}
theorem wY:∀(l:List Nat),V.gV (bf l)=ah (l.map λc=>aG (c:Nat))
 |[]=>rfl
 |c::l=>by show nK (V.data<|.int (c:Nat)) (V.gV<|bf l)=_;rw[wY l];rfl
theorem wW:V.data (.tup [.tup<|bf cnt,.int b])=ah (.tuple [.tuple<|cnt.map λc=>aG (c:Nat),.int b]):=by show(nK ((V.gV<|bf cnt).map km)<|nK (ah<|.int b)<|ah []).map km=_;rw[wY];rfl
noncomputable def lO(cnt:List Nat)(b:Nat):eF:=.tuple [.tuple<|cnt.map λc=>aG (c:Nat),.int b]
theorem tU:dQ (lO cnt b)=aj:=by
 have U:∀l:List Nat,cT (l.map λc=>aG (c:Nat))=aj:=λl=>by
  induction l with
  |nil=>rfl
  |cons c l Q=>rw[bw];simp only[cT,fu,Q,l5]
 have H:∀l:List Nat,dw (l.map λc=>aG (c:Nat))<=1:=λl=>by
  induction l with
  |nil=>exact bH _
  |cons c l Q=>rw[bw];simp only[dw,e9];assumption
 unfold dQ lO;have G:=H cnt;have E:(km [.tuple<|cnt.map λc=>aG (c:Nat),.int b]).canLay0=aj:=by simp only[fu,cT,U,l5]
 have D:(km [.tuple<|cnt.map λc=>aG (c:Nat),.int b]).depth<=64:=by simp only[e9,dw];lia
 rw[E,decide_eq_true D];rfl
theorem HY:dB 838 4 [.obj 862<|gj raw n nt cnt b,.obj 862<|gj d7 n' dS aX b'] [] [] (.ok<|.bool<|bA (lO cnt b)<|lO aX b') []:=by refine FN.cu (d:=3) (ab:=[("self",.obj 862<|gj raw n nt cnt b),("other",.obj 862<|gj d7 n' dS aX b')]) Vg Wa 'k' (jq λP S u H=>'k') λF D hB X Y=>?_;have Q:∀st,dO F st .Eq (.tup [.tup<|bf cnt,.int b]) (.tup [.tup<|bf aX,.int b']) (bA (lO cnt b)<|lO aX b'):=λU=>dO.Ym (X.units<|by exact aM ..) wW wW tU tU;exact(run X rfl (an:=[An.b<|(lO cnt b).eqv<|lO aX b']) (p:=(∀(st:St),dO F st CmpOp.Eq (V.tup [V.tup<|bf cnt,V.int (↑b:Int)]) (V.tup [V.tup<|bf aX,V.int (↑b' :Int)])<|(lO cnt b).eqv<|lO aX b')/\Oc.ok (V.bool<|(lO cnt b).eqv<|lO aX b')=Oc.ok (V.bool<|(lO cnt b).eqv<|lO aX b')/\([]:List O)=[]) 'k' (Q,rfl,rfl):_)
noncomputable def iZ(cnt aX:List Nat)(b b' :Nat):Int:=max (max (((bf cnt).length:Int) -1) b) (max (((bf aX).length:Int) -1) b')+1
theorem SP(D:b<=2^14)(U:b' <=2^14)(H:cnt.length<=2^14)(Q:aX.length<=2^14):0<=iZ cnt aX b b' /\iZ cnt aX b b' <=16385:=by unfold iZ;have k:∀{x y:Nat},x<=2^14 ->y<=2^14 ->max ((x:Int) -1) y<=16384:=λG E=>Int.max_le.mpr (by omega,by omega);have z:∀{x:Int} {y:Nat},0<=max x y:=λ{_ y}=>nV (aL y)<|Int.le_max_right ..;rw[ee,ee];exact(nV (nV z<|N4 ..)<|Int.le_add_one<|Int.le_refl _,Int.add_le_add_right (Int.max_le.mpr (k H D,k Q U)) 1)
theorem tN{t:Int}{k:Nat}(h:0<=t/\t<=16385)(hi:i<(t+1 -k).toNat):k+i<=2^16:=by omega
theorem tL(h:0<=t/\t<=16385): -2^62<=t+1:=by omega
theorem tR{t:Int}(h:0<=t/\t<=16385):t+1<2^62:=by omega
theorem HV(E:(bf cnt).length<=2^16)(H:(bf aX).length<=2^16)(Q:decide ((n:Int)>=(n' :Int))=aj):dB 852 8 [.obj 862<|gj raw n nt cnt b,.obj 862<|gj d7 n' dS aX b'] [] [] (.ok<|.bool ao) []:=by refine FN.cu (d:=7) (ab:=[("self",.obj 862<|gj raw n nt cnt b),("other",.obj 862<|gj d7 n' dS aX b')]) Ia Iz 'k' (jq λP S u U=>'k') λF D hB X Y=>?_;exact(run X rfl (an:=[An.b aj]) (p:=decide ((↑n:Int)>=(↑n' :Int))=aj/\Oc.ok (V.bool ao)=Oc.ok (V.bool ao)/\([]:List O)=[]) 'k' (Q,rfl,rfl):_)
theorem HU(y:(bf cnt).length<=2^16)(H:(bf aX).length<=2^16)(Q:decide ((n:Int)>=(n' :Int))=ao)(D:decide (((bf cnt).length:Int)<=1)=aj)(U:decide (((bf aX).length:Int)<=1)=aj):dB 852 8 [.obj 862<|gj raw n nt cnt b,.obj 862<|gj d7 n' dS aX b'] [] [] (.ok<|.bool<|decide<|(nt:Int)<=(dS:Int)) []:=by refine FN.cu (d:=7) (ab:=[("self",.obj 862<|gj raw n nt cnt b),("other",.obj 862<|gj d7 n' dS aX b')]) Ia Iz 'k' (jq λP S u E=>'k') λF G hB X Y=>?_;exact(run X rfl (an:=[An.b ao,An.b aj,An.b aj,An.a]) (p:=decide ((↑n:Int)>=(↑n' :Int))=ao/\decide ((↑(bf cnt).length:Int)<=(1:Int))=aj/\decide ((↑(bf aX).length:Int)<=(1:Int))=aj/\Oc.ok (V.bool<|decide<|(↑nt:Int)<=(↑dS:Int))=Oc.ok (V.bool<|decide<|(↑nt:Int)<=(↑dS:Int))/\([]:List O)=[]) 'k' (eU Q D U rfl rfl):_)
theorem cast2(i:Nat):(2:Int)+(i:Int)=((2+i:Nat):Int):=by(simp+arith only[ei,fV,gH];done)
noncomputable abbrev pY(nt dS:Nat)(cnt aX:List Nat)(b b' :Nat)(i:Nat):Bool:=decide<|lvl nt cnt b (2+i)>=lvl dS aX b' (2+i)
noncomputable def leB:List cn:=kX<|(eA<|Hd.f1 28 6)[3]?
noncomputable abbrev EP(raw:aF)(n nt:Nat)(cnt:List Nat)(b:Nat)(d7:aF)(n' dS:Nat)(aX:List Nat)(b' :Nat):List (aF×V):=[("n",.int<|iZ cnt aX b b'),("self",.obj 862<|gj raw n nt cnt b),("other",.obj 862<|gj d7 n' dS aX b')]
theorem CL(hi:2+i<=2^16)(D:cnt.length<=2^16)(Q:aX.length<=2^16)(U:pY nt dS cnt aX b b' i=q)(H:F.prog=PR)(hB:BS F.w F.hB)(X:bS F (KK F.w.params) (aQ<|Hd.f1 28 6) 7):dc F leB (("ts",.int<|(2:Int)+(i:Int))::EP raw n nt cnt b d7 n' dS aX b',[]) (if q then .ret (.bool ao)else .next) (EP raw n nt cnt b d7 n' dS aX b',[]):=by
 have h1:1<=2+i:=by(simp+arith only;done)
 rw[cast2];cases q with
 |true=>exact(ed X rfl (.ret<|.bool ao) _ _ (an:=[An.c (Oc.ok<|V.int<|lvl nt cnt b<|2+i) [],An.c (Oc.ok<|V.int<|lvl dS aX b'<|2+i) [],An.b aj]) (p:=(cL F 831 [V.obj (862:aA)<|gj raw n nt cnt b,V.int (↑(2+i):Int)] [] (Oc.ok<|V.int<|lvl nt cnt b<|2+i) [])/\(cL F 831 [V.obj (862:aA)<|gj d7 n' dS aX b',V.int (↑(2+i):Int)] [] (Oc.ok<|V.int<|lvl dS aX b'<|2+i) [])/\pY nt dS cnt aX b b' i=aj/\O3 (Oc.ok<|V.bool ao)=FV.ret (V.bool ao)/\(ah (V.int<|iZ cnt aX b b')=ah (V.int<|iZ cnt aX b b')/\ah (V.obj (862:aA)<|gj raw n nt cnt b)=ah (V.obj (862:aA)<|gj raw n nt cnt b)/\ah (V.obj (862:aA)<|gj d7 n' dS aX b')=ah (V.obj (862:aA)<|gj d7 n' dS aX b')/\True)/\([]:List O)=[]) 'k' (iI (j8 X H hB (ix D h1 hi) rfl 'k'<|by kspl_open zNR) (j8 X H hB (ix Q h1 hi) rfl 'k'<|by kspl_open zNR) U rfl (cy rfl rfl rfl trivial) rfl):_)
 |false=>exact(ed X rfl .next _ _ (an:=[An.c (Oc.ok<|V.int<|lvl nt cnt b<|2+i) [],An.c (Oc.ok<|V.int<|lvl dS aX b'<|2+i) [],An.b ao]) (p:=(cL F 831 [V.obj (862:aA)<|gj raw n nt cnt b,V.int (↑(2+i):Int)] [] (Oc.ok<|V.int<|lvl nt cnt b<|2+i) [])/\(cL F 831 [V.obj (862:aA)<|gj d7 n' dS aX b',V.int (↑(2+i):Int)] [] (Oc.ok<|V.int<|lvl dS aX b'<|2+i) [])/\pY nt dS cnt aX b b' i=ao/\FV.next=FV.next/\(ah (V.int<|iZ cnt aX b b')=ah (V.int<|iZ cnt aX b b')/\ah (V.obj (862:aA)<|gj raw n nt cnt b)=ah (V.obj (862:aA)<|gj raw n nt cnt b)/\ah (V.obj (862:aA)<|gj d7 n' dS aX b')=ah (V.obj (862:aA)<|gj d7 n' dS aX b')/\True)/\([]:List O)=[]) 'k' (iI (j8 X H hB (ix D h1 hi) rfl 'k'<|by kspl_open zNR) (j8 X H hB (ix Q h1 hi) rfl 'k'<|by kspl_open zNR) U rfl (cy rfl rfl rfl trivial) rfl):_)
theorem z9(G:(bf cnt).length<=2^16)(Q:(bf aX).length<=2^16)(z:b<=2^14)(y:b' <=2^14)(U:cnt.length<=2^14)(H:aX.length<=2^14)(E:decide ((n:Int)>=(n' :Int))=ao)(D:decide (((bf cnt).length:Int)<=1)=aj/\decide (((bf aX).length:Int)<=1)=ao\/decide (((bf cnt).length:Int)<=1)=ao)(j:((aE ((iZ cnt aX b b')+1 -2).toNat).any<|pY nt dS cnt aX b b')=q):dB 852 8 [.obj 862<|gj raw n nt cnt b,.obj 862<|gj d7 n' dS aX b'] [] [] (.ok<|.bool<|!q) []:=by
 refine FN.cu (d:=7) (ab:=[(Prod.mk "self"<|.obj 862<|gj raw n nt cnt b),(Prod.mk "other"<|.obj 862<|gj d7 n' dS aX b')]) Ia Iz 'k' (jq λP S u u' =>'k') λF hp hB X Y=>?_;have hT:=SP z y U H;have hf:∀px,gF F (.Name "ts" px) leB ((aE ((iZ cnt aX b b')+1 -2).toNat).map λi:Nat=>V.int<|(2:Int)+(i:Int)) (EP raw n nt cnt b d7 n' dS aX b',[]) (if q then .ret (.bool ao)else .next) (EP raw n nt cnt b d7 n' dS aX b',[]):=λpx=>by rw[<-j];refine gF.find (λi:Nat=>V.int<|(2:Int)+(i:Int)) (pY nt dS cnt aX b b') X 'k' _ λi hi=>?_;rw[gk]at hi;have h2:=tN (k:=2) hT hi;have h3:=ai U (by decide:_<=2^16);have h4:=ai H (by decide:_<=2^16);exact(λh=>CL (q:=aj) h2 h3 h4 h hp hB X,λh=>CL (q:=ao) h2 h3 h4 h hp hB X)
 cases q with
 |true=>
  simp only[if_true]at hf;rcases D with⟨h1,h2⟩|h1
  .exact(run X rfl (an:=[An.b ao,An.b aj,An.b ao,An.a,An.c (Oc.ok<|V.int<|bP ((↑(bf cnt).length:Int) -(1:Int)) (↑b:Int)) [],An.c (Oc.ok<|V.int<|bP ((↑(bf aX).length:Int) -(1:Int)) (↑b' :Int)) [],An.l (FV.ret<|V.bool ao) {loc:=[(Prod.mk (aa "n")<|V.int<|iZ cnt aX b b'),(Prod.mk (aa "self")<|V.obj (862:aA)<|gj raw n nt cnt b),(Prod.mk (aa "other")<|V.obj (862:aA)<|gj d7 n' dS aX b')],obs:=[]}]) (p:=decide ((↑n:Int)>=(↑n' :Int))=ao/\decide ((↑(bf cnt).length:Int)<=(1:Int))=aj/\decide ((↑(bf aX).length:Int)<=(1:Int))=ao/\(cL F 824 [V.obj (862:aA)<|gj raw n nt cnt b] [] (Oc.ok<|V.int<|bP ((↑(bf cnt).length:Int) -(1:Int)) (↑b:Int)) [])/\(cL F 824 [V.obj (862:aA)<|gj d7 n' dS aX b'] [] (Oc.ok<|V.int<|bP ((↑(bf aX).length:Int) -(1:Int)) (↑b' :Int)) [])/\(-(2:Int)^62<=(2:Int)/\(2:Int)<(2:Int)^62/\ -(2:Int)^62<=bP (bP ((↑(bf cnt).length:Int) -(1:Int)) (↑b:Int)) (bP ((↑(bf aX).length:Int) -(1:Int)) (↑b' :Int))+(1:Int)+(1:Int)/\bP (bP ((↑(bf cnt).length:Int) -(1:Int)) (↑b:Int)) (bP ((↑(bf aX).length:Int) -(1:Int)) (↑b' :Int))+(1:Int)+(1:Int)<(2:Int)^62)/\gF F (dg (aa "ts") (Prod.mk (aa "ts")<|{line:=806,col:=12,endLine:=806,endCol:=14}).snd) leB (aP (λ(i:Nat)=>V.int<|(2:Int)+(↑i:Int)) (aE (iZ cnt aX b b' +(1:Int) -(2:Int)).toNat)) {loc:=EP raw n nt cnt b d7 n' dS aX b',obs:=[]} (FV.ret<|V.bool ao) {loc:=EP raw n nt cnt b d7 n' dS aX b',obs:=[]}/\Oc.ok (V.bool ao)=Oc.ok (V.bool !aj)/\([]:List O)=[]) 'k' (gp E h1 h2 (j8 X hp hB (fP G) rfl 'k'<|by kspl_open zNR) (j8 X hp hB (fP Q) rfl 'k'<|by kspl_open zNR) (cy 'd' 'd' (tL hT)<|tR hT) (hf _) rfl rfl):_)
  .exact(run X rfl (an:=[An.b ao,An.b ao,An.a,An.c (Oc.ok<|V.int<|bP ((↑(bf cnt).length:Int) -(1:Int)) (↑b:Int)) [],An.c (Oc.ok<|V.int<|bP ((↑(bf aX).length:Int) -(1:Int)) (↑b' :Int)) [],An.l (FV.ret<|V.bool ao) {loc:=[(Prod.mk (aa "n")<|V.int<|iZ cnt aX b b'),(Prod.mk (aa "self")<|V.obj (862:aA)<|gj raw n nt cnt b),(Prod.mk (aa "other")<|V.obj (862:aA)<|gj d7 n' dS aX b')],obs:=[]}]) (p:=decide ((↑n:Int)>=(↑n' :Int))=ao/\decide ((↑(bf cnt).length:Int)<=(1:Int))=ao/\(cL F 824 [V.obj (862:aA)<|gj raw n nt cnt b] [] (Oc.ok<|V.int<|bP ((↑(bf cnt).length:Int) -(1:Int)) (↑b:Int)) [])/\(cL F 824 [V.obj (862:aA)<|gj d7 n' dS aX b'] [] (Oc.ok<|V.int<|bP ((↑(bf aX).length:Int) -(1:Int)) (↑b' :Int)) [])/\(-(2:Int)^62<=(2:Int)/\(2:Int)<(2:Int)^62/\ -(2:Int)^62<=bP (bP ((↑(bf cnt).length:Int) -(1:Int)) (↑b:Int)) (bP ((↑(bf aX).length:Int) -(1:Int)) (↑b' :Int))+(1:Int)+(1:Int)/\bP (bP ((↑(bf cnt).length:Int) -(1:Int)) (↑b:Int)) (bP ((↑(bf aX).length:Int) -(1:Int)) (↑b' :Int))+(1:Int)+(1:Int)<(2:Int)^62)/\gF F (dg (aa "ts") (Prod.mk (aa "ts")<|{line:=806,col:=12,endLine:=806,endCol:=14}).snd) leB (aP (λ(i:Nat)=>V.int<|(2:Int)+(↑i:Int)) (aE (iZ cnt aX b b' +(1:Int) -(2:Int)).toNat)) {loc:=EP raw n nt cnt b d7 n' dS aX b',obs:=[]} (FV.ret<|V.bool ao) {loc:=EP raw n nt cnt b d7 n' dS aX b',obs:=[]}/\Oc.ok (V.bool ao)=Oc.ok (V.bool !aj)/\([]:List O)=[]) 'k' (fH E h1 (j8 X hp hB (fP G) rfl 'k'<|by kspl_open zNR) (j8 X hp hB (fP Q) rfl 'k'<|by kspl_open zNR) (cy 'd' 'd' (tL hT)<|tR hT) (hf _) rfl rfl):_)
 |false=>
  simp only[cQ,if_false]at hf;rcases D with⟨h1,h2⟩|h1
  .exact(run X rfl (an:=[An.b ao,An.b aj,An.b ao,An.a,An.c (Oc.ok<|V.int<|bP ((↑(bf cnt).length:Int) -(1:Int)) (↑b:Int)) [],An.c (Oc.ok<|V.int<|bP ((↑(bf aX).length:Int) -(1:Int)) (↑b' :Int)) [],An.l FV.next {loc:=[(Prod.mk (aa "n")<|V.int<|iZ cnt aX b b'),(Prod.mk (aa "self")<|V.obj (862:aA)<|gj raw n nt cnt b),(Prod.mk (aa "other")<|V.obj (862:aA)<|gj d7 n' dS aX b')],obs:=[]}]) (p:=decide ((↑n:Int)>=(↑n' :Int))=ao/\decide ((↑(bf cnt).length:Int)<=(1:Int))=aj/\decide ((↑(bf aX).length:Int)<=(1:Int))=ao/\(cL F 824 [V.obj (862:aA)<|gj raw n nt cnt b] [] (Oc.ok<|V.int<|bP ((↑(bf cnt).length:Int) -(1:Int)) (↑b:Int)) [])/\(cL F 824 [V.obj (862:aA)<|gj d7 n' dS aX b'] [] (Oc.ok<|V.int<|bP ((↑(bf aX).length:Int) -(1:Int)) (↑b' :Int)) [])/\(-(2:Int)^62<=(2:Int)/\(2:Int)<(2:Int)^62/\ -(2:Int)^62<=bP (bP ((↑(bf cnt).length:Int) -(1:Int)) (↑b:Int)) (bP ((↑(bf aX).length:Int) -(1:Int)) (↑b' :Int))+(1:Int)+(1:Int)/\bP (bP ((↑(bf cnt).length:Int) -(1:Int)) (↑b:Int)) (bP ((↑(bf aX).length:Int) -(1:Int)) (↑b' :Int))+(1:Int)+(1:Int)<(2:Int)^62)/\gF F (dg (aa "ts") (Prod.mk (aa "ts")<|{line:=806,col:=12,endLine:=806,endCol:=14}).snd) leB (aP (λ(i:Nat)=>V.int<|(2:Int)+(↑i:Int)) (aE (iZ cnt aX b b' +(1:Int) -(2:Int)).toNat)) {loc:=EP raw n nt cnt b d7 n' dS aX b',obs:=[]} FV.next {loc:=EP raw n nt cnt b d7 n' dS aX b',obs:=[]}/\Oc.ok (V.bool aj)=Oc.ok (V.bool !ao)/\([]:List O)=[]) 'k' (gp E h1 h2 (j8 X hp hB (fP G) rfl 'k'<|by kspl_open zNR) (j8 X hp hB (fP Q) rfl 'k'<|by kspl_open zNR) (cy 'd' 'd' (tL hT)<|tR hT) (hf _) rfl rfl):_)
  .exact(run X rfl (an:=[An.b ao,An.b ao,An.a,An.c (Oc.ok<|V.int<|bP ((↑(bf cnt).length:Int) -(1:Int)) (↑b:Int)) [],An.c (Oc.ok<|V.int<|bP ((↑(bf aX).length:Int) -(1:Int)) (↑b' :Int)) [],An.l FV.next {loc:=[(Prod.mk (aa "n")<|V.int<|iZ cnt aX b b'),(Prod.mk (aa "self")<|V.obj (862:aA)<|gj raw n nt cnt b),(Prod.mk (aa "other")<|V.obj (862:aA)<|gj d7 n' dS aX b')],obs:=[]}]) (p:=decide ((↑n:Int)>=(↑n' :Int))=ao/\decide ((↑(bf cnt).length:Int)<=(1:Int))=ao/\(cL F 824 [V.obj (862:aA)<|gj raw n nt cnt b] [] (Oc.ok<|V.int<|bP ((↑(bf cnt).length:Int) -(1:Int)) (↑b:Int)) [])/\(cL F 824 [V.obj (862:aA)<|gj d7 n' dS aX b'] [] (Oc.ok<|V.int<|bP ((↑(bf aX).length:Int) -(1:Int)) (↑b' :Int)) [])/\(-(2:Int)^62<=(2:Int)/\(2:Int)<(2:Int)^62/\ -(2:Int)^62<=bP (bP ((↑(bf cnt).length:Int) -(1:Int)) (↑b:Int)) (bP ((↑(bf aX).length:Int) -(1:Int)) (↑b' :Int))+(1:Int)+(1:Int)/\bP (bP ((↑(bf cnt).length:Int) -(1:Int)) (↑b:Int)) (bP ((↑(bf aX).length:Int) -(1:Int)) (↑b' :Int))+(1:Int)+(1:Int)<(2:Int)^62)/\gF F (dg (aa "ts") (Prod.mk (aa "ts")<|{line:=806,col:=12,endLine:=806,endCol:=14}).snd) leB (aP (λ(i:Nat)=>V.int<|(2:Int)+(↑i:Int)) (aE (iZ cnt aX b b' +(1:Int) -(2:Int)).toNat)) {loc:=EP raw n nt cnt b d7 n' dS aX b',obs:=[]} FV.next {loc:=EP raw n nt cnt b d7 n' dS aX b',obs:=[]}/\Oc.ok (V.bool aj)=Oc.ok (V.bool !ao)/\([]:List O)=[]) 'k' (fH E h1 (j8 X hp hB (fP G) rfl 'k'<|by kspl_open zNR) (j8 X hp hB (fP Q) rfl 'k'<|by kspl_open zNR) (cy 'd' 'd' (tL hT)<|tR hT) (hf _) rfl rfl):_)
end
section
variable{raw d7:aF} {n nt n' dS:Nat} {cnt aX:List Nat} {b b' :Nat}
theorem NI(i:Nat):(1:Int)+(i:Int)=((1+i:Nat):Int):=by(simp+arith only[ei,fV,gH];done)
noncomputable def AS(nt dS:Nat)(cnt aX:List Nat)(b b' :Nat)(i:Nat):V:=.tup [.int ((1+i:Nat):Int),.int<|lvl nt cnt b<|1+i,.int<|lvl dS aX b'<|1+i]
noncomputable abbrev yQ(nt dS:Nat)(cnt aX:List Nat)(b b' :Nat)(i:Nat):Bool:=decide<|lvl nt cnt b (1+i)>=lvl dS aX b' (1+i)
noncomputable def xi(nt dS:Nat)(cnt aX:List Nat)(b b' :Nat)(m:List V)(i:Nat):List V:=if yQ nt dS cnt aX b b' i=aj then m++[AS nt dS cnt aX b b' i]else m
noncomputable def tF(nt dS:Nat)(cnt aX:List Nat)(b b' :Nat):List V:=((aE ((iZ cnt aX b b')+1 -1).toNat).filter<|yQ nt dS cnt aX b b').map<|AS nt dS cnt aX b b'
theorem B2(nt dS:Nat)(cnt aX:List Nat)(b b' :Nat):∀(Q:List Nat) (m:List V),runM (xi nt dS cnt aX b b') (λU U=>ao) Q m=m++(Q.filter<|yQ nt dS cnt aX b b').map (AS nt dS cnt aX b b')
 |[],m=>(cb m).symm
 |c::Q,m=>by
  rw[FZ];rw[if_neg 'd',B2 nt dS cnt aX b b' Q];unfold xi;cases q:yQ nt dS cnt aX b b' c with
  |true=>simp[q]
  |false=>simp[q]
theorem Jl:oz (tF nt dS cnt aX b b'):=fK λU U=>(cy trivial trivial trivial trivial)
noncomputable def XG:List cn:=kX<|(eA<|Hd.f1 28 7)[2]?
noncomputable abbrev N7(raw:aF)(n nt:Nat)(cnt:List Nat)(b:Nat)(d7:aF)(n' dS:Nat)(aX:List Nat)(b' :Nat)(_:List V):List (aF×V):=[("a",.ref 0),("n",.int<|iZ cnt aX b b'),("self",.obj 862<|gj raw n nt cnt b),("other",.obj 862<|gj d7 n' dS aX b')]
theorem JU{i:Nat}(hi:1+i<=2^16)(D:m.length<=2^24)(U:cnt.length<=2^16)(Q:aX.length<=2^16)(H:F.prog=PR)(hB:BS F.w F.hB)(X:bS F (KK F.w.params) (aQ<|Hd.f1 28 7) 7):dc F XG (("ts",.int<|(1:Int)+(i:Int))::N7 raw n nt cnt b d7 n' dS aX b' m,[.list m]) .next (N7 raw n nt cnt b d7 n' dS aX b' m,[.list<|xi nt dS cnt aX b b' m i]):=by
 have h1:1<=1+i:=by exact a9 ..
 rw[NI];cases q:yQ nt dS cnt aX b b' i with
 |true=>
  have e:xi nt dS cnt aX b b' m i=m++[AS nt dS cnt aX b b' i]:=by unfold xi;rw[if_pos q]
  rw[e];exact(ed X rfl _ _ _ (an:=[.c (Oc.ok<|V.int<|lvl nt cnt b<|1+i) [O.list m],.c (Oc.ok<|V.int<|lvl dS aX b'<|1+i) [O.list m],.b aj,.c (Oc.ok<|V.int<|lvl nt cnt b<|1+i) [O.list m],.c (Oc.ok<|V.int<|lvl dS aX b'<|1+i) [O.list m]]) (p:=(cL F 831 [V.obj (862:aA)<|gj raw n nt cnt b,V.int (↑(1+i):Int)] [O.list m] (Oc.ok<|V.int<|lvl nt cnt b<|1+i) [O.list m])/\(cL F 831 [V.obj (862:aA)<|gj d7 n' dS aX b',V.int (↑(1+i):Int)] [O.list m] (Oc.ok<|V.int<|lvl dS aX b'<|1+i) [O.list m])/\_/\(cL F 831 [V.obj (862:aA)<|gj raw n nt cnt b,V.int (↑(1+i):Int)] [O.list m] (Oc.ok<|V.int<|lvl nt cnt b<|1+i) [O.list m])/\(cL F 831 [V.obj (862:aA)<|gj d7 n' dS aX b',V.int (↑(1+i):Int)] [O.list m] (Oc.ok<|V.int<|lvl dS aX b'<|1+i) [O.list m])/\[V.int (↑(1+i):Int),V.int<|lvl nt cnt b<|1+i,V.int<|lvl dS aX b'<|1+i].length<=2^24/\_/\_/\(_/\_/\_/\_/\True)/\_) 'k' (kY (j8 X H hB (ix U h1 hi) rfl 'k'<|by kspl_open zNR) (j8 X H hB (ix Q h1 hi) rfl 'k'<|by kspl_open zNR) q (j8 X H hB (ix U h1 hi) rfl 'k'<|by kspl_open zNR) (j8 X H hB (ix Q h1 hi) rfl 'k'<|by kspl_open zNR) (ae rfl) D (@rfl _ FV.next) (eU (@rfl _<|ah<|V.ref 0) (@rfl _<|ah<|V.int<|iZ cnt aX b b') (@rfl _<|ah<|V.obj (862:aA)<|gj raw n nt cnt b) (@rfl _<|ah<|V.obj (862:aA)<|gj d7 n' dS aX b') trivial)<|@rfl _ [O.list<|m++[AS nt dS cnt aX b b' i]]):_)
 |false=>
  have e:xi nt dS cnt aX b b' m i=m:=by unfold xi;rw[if_neg (by rw[q];decide)]
  rw[e];exact(ed X rfl _ _ _ (an:=[.c (Oc.ok<|V.int<|lvl nt cnt b<|1+i) [O.list m],.c (Oc.ok<|V.int<|lvl dS aX b'<|1+i) [O.list m],.b ao]) (p:=(cL F 831 [V.obj (862:aA)<|gj raw n nt cnt b,V.int (↑(1+i):Int)] [O.list m] (Oc.ok<|V.int<|lvl nt cnt b<|1+i) [O.list m])/\(cL F 831 [V.obj (862:aA)<|gj d7 n' dS aX b',V.int (↑(1+i):Int)] [O.list m] (Oc.ok<|V.int<|lvl dS aX b'<|1+i) [O.list m])/\_/\_/\(_/\_/\_/\_/\True)/\_) 'k' (iI (j8 X H hB (ix U h1 hi) rfl 'k'<|by kspl_open zNR) (j8 X H hB (ix Q h1 hi) rfl 'k'<|by kspl_open zNR) q (@rfl _ FV.next) (eU (@rfl _<|ah<|V.ref 0) (@rfl _<|ah<|V.int<|iZ cnt aX b b') (@rfl _<|ah<|V.obj (862:aA)<|gj raw n nt cnt b) (@rfl _<|ah<|V.obj (862:aA)<|gj d7 n' dS aX b') trivial)<|@rfl _ [O.list m]):_)
theorem tM{t:Int}(h:0<=t/\t<=16385):0+(t+1 -1).toNat<=2^16:=by omega
theorem HJ(G:(bf cnt).length<=2^16)(D:(bf aX).length<=2^16)(y:b<=2^14)(E:b' <=2^14)(H:cnt.length<=2^14)(Q:aX.length<=2^14):dB 859 8 [.obj 862<|gj raw n nt cnt b,.obj 862<|gj d7 n' dS aX b'] [] [] (.ok<|.ref 0) [.list<|tF nt dS cnt aX b b']:=by
 refine FN.cu (d:=7) (ab:=[(Prod.mk "self"<|.obj 862<|gj raw n nt cnt b),(Prod.mk "other"<|.obj 862<|gj d7 n' dS aX b')]) Vf V' 'k' (jq λP S u u' =>'k') λF hp hB X Y=>?_;have hT:=SP y E H Q;have hf:∀px,gF F (.Name "ts" px) XG ((aE ((iZ cnt aX b b')+1 -1).toNat).map λi:Nat=>V.int<|(1:Int)+(i:Int)) (N7 raw n nt cnt b d7 n' dS aX b' [],[.list []]) .next (N7 raw n nt cnt b d7 n' dS aX b' [],[.list<|tF nt dS cnt aX b b']):=λpx=>by
  have:=gF.DU (λi:Nat=>V.int<|(1:Int)+(i:Int)) (N7 raw n nt cnt b d7 n' dS aX b') (λm=>[O.list m]) (λcs m=>m.length+cs.length<=2^16/\∀i∈cs,1+i<=2^16) (xi nt dS cnt aX b b') (λU U=>ao) (x:="ts") (px:=px) (body:=XG) X 'k' (λm i cs Hu=>(λhs=>absurd hs 'd',λU=>?_)) (aE ((iZ cnt aX b b')+1 -1).toNat) [] ?_
  .rw[B2]at this;exact this
  .obtain⟨Hu,hi⟩:=Hu;rw[aU]at Hu;refine((?_,λj hj=>hi j<|.tail _ hj),JU (hi i<|.head _) (by lia) (by exact(ai H 'd')) (by exact(ai Q 'd')) hp hB X);unfold xi;split
   .rw[aD];show m.length+1+cs.length<=_;exact j5 Hu (by omega)
   .exact cN Hu
  .refine(?_,λi hi=>?_)
   .rw[Mo,bJ];exact tM hT
   .rw[gk]at hi;exact tN (k:=1) hT hi
 exact(run X rfl (an:=[An.c (Oc.ok<|V.int<|bP ((↑(bf cnt).length:Int) -(1:Int)) (↑b:Int)) [],An.c (Oc.ok<|V.int<|bP ((↑(bf aX).length:Int) -(1:Int)) (↑b' :Int)) [],An.b aj,An.l FV.next {loc:=[(Prod.mk (aa "a")<|V.ref 0),(Prod.mk (aa "n")<|V.int<|iZ cnt aX b b'),(Prod.mk (aa "self")<|V.obj (862:aA)<|gj raw n nt cnt b),(Prod.mk (aa "other")<|V.obj (862:aA)<|gj d7 n' dS aX b')],obs:=[O.list<|tF nt dS cnt aX b b']}]) (p:=(cL F 824 [V.obj (862:aA)<|gj raw n nt cnt b] [] (Oc.ok<|V.int<|bP ((↑(bf cnt).length:Int) -(1:Int)) (↑b:Int)) [])/\(cL F 824 [V.obj (862:aA)<|gj d7 n' dS aX b'] [] (Oc.ok<|V.int<|bP ((↑(bf aX).length:Int) -(1:Int)) (↑b' :Int)) [])/\(-(2:Int)^62<=(1:Int)/\(1:Int)<(2:Int)^62/\ -(2:Int)^62<=bP (bP ((↑(bf cnt).length:Int) -(1:Int)) (↑b:Int)) (bP ((↑(bf aX).length:Int) -(1:Int)) (↑b' :Int))+(1:Int)+(1:Int)/\bP (bP ((↑(bf cnt).length:Int) -(1:Int)) (↑b:Int)) (bP ((↑(bf aX).length:Int) -(1:Int)) (↑b' :Int))+(1:Int)+(1:Int)<(2:Int)^62)/\gF F (dg (aa "ts") (Prod.mk (aa "ts")<|{line:=814,col:=12,endLine:=814,endCol:=14}).snd) XG (aP (λ(i:Nat)=>V.int<|(1:Int)+(↑i:Int)) (aE (iZ cnt aX b b' +(1:Int) -(1:Int)).toNat)) {loc:=N7 raw n nt cnt b d7 n' dS aX b' [],obs:=[O.list []]} FV.next {loc:=N7 raw n nt cnt b d7 n' dS aX b' [],obs:=[O.list<|tF nt dS cnt aX b b']}/\Oc.ok (V.ref 0)=Oc.ok (V.ref 0)/\[O.list<|tF nt dS cnt aX b b']=[O.list<|tF nt dS cnt aX b b']) 'k' ((j8 X hp hB (fP G) rfl 'k'<|by kspl_open zNR),(j8 X hp hB (fP D) rfl 'k'<|by kspl_open zNR),('d','d',tL hT,tR hT),(hf _),rfl,rfl):_)
theorem Lc(G:(bf cnt).length<=2^16)(U:(bf aX).length<=2^16)(u:b<=2^14)(D:b' <=2^14)(H:cnt.length<=2^14)(Q:aX.length<=2^14):dB 859 8 [.obj 862<|gj raw n nt cnt b,.obj 862<|gj d7 n' dS aX b'] [] [] (.ok<|.lst<|tF nt dS cnt aX b b') []:=
 FN.drop (obs:=[]) (cS:=[]) (HJ G U u D H Q) rfl (λo E=>nomatch E) (Fz.list (j:=0) rfl<|lq Jl)
end
theorem QR{fd:aB ->oQ}(h:∀P S u Q,peek (KK P) S (bindArgs (fd P) ([u,Q],[]))=ah [(n,u),(m,Q),(k,.str y t)]):∀P σ us U,RL σ [v,w] us ->RB σ [] U ->∃binds,(∀S,peek (KK P) S (bindArgs (fd P) (us,U))=ah binds)/\RB σ [(n,v),(m,w),(k,.str y)] binds:=λP σ us U E D=>by (refine cj (E.two) λu Q H r G=>?_;subst H);cases D;exact(_,λS=>h P S u Q,u,_,rfl,r,Q,_,rfl,G,_,[],rfl,(t,rfl),rfl)
theorem QS{fd:aB ->oQ}(h:∀P S u,peek (KK P) S (bindArgs (fd P) ([u],[]))=ah [(n,u),(m,.int y t)]):∀P σ us H,RL σ [v] us ->RB σ [] H ->∃binds,(∀S,peek (KK P) S (bindArgs (fd P) (us,H))=ah binds)/\RB σ [(n,v),(m,.int y)] binds:=λP σ us H D U=>by (refine aR (D.one) λu Q r=>?_;subst Q);cases U;exact(qq _ (λS=>h P S u) u _ rfl r _ [] rfl (t,rfl) rfl)
noncomputable abbrev Zq(x:aF)(p:Nat):List (aF×V):=[("_StringIO__newline",.str "\n"),("_StringIO__buf",.str x),("_StringIO__pos",.int p)]
noncomputable abbrev bC(x:aF)(p:Nat):O:=.inst 597<|Zq x p
theorem vz:dB 374 (d+4) [.ref 0,.str x] [] [.inst 597 [("_StringIO__newline",.str "\n"),("_StringIO__buf",.str y),("_StringIO__pos",.int 0)]] (.ok<|.str x) [.inst 597 [("_StringIO__newline",.str "\n"),("_StringIO__buf",.str y),("_StringIO__pos",.int 0)]]:=by refine FN.cu (d:=d+3) (ab:=[("self",.ref 0),("s",.str x)]) Vv Ws 'k' (jq λP S u Q=>'k') λF H hB X Y=>?_;exact(run X rfl (an:=[.a,.a,.a,.a]) (p:=_/\_) 'k' (@rfl _<|Oc.ok<|V.str x,@rfl _ [O.inst (597:aA) [("_StringIO__newline",V.str "\n"),("_StringIO__buf",V.str y),("_StringIO__pos",V.int (0:Int))]]):_)
theorem Bs:dB 367 (d+5) [.ref 0,.str x] [] [.inst 597 []] (.ok .none) [bC x 0]:=by refine FN.cu (d:=d+4) (ab:=[("self",.ref 0),("initial_value",.str x),("newline",.str "\n")]) Vw Wt 'k' (QR (t:=756) λP S u H=>'k') λF Q hB X Y=>?_;exact(run X rfl (an:=[.a,.a,.a,.a,.b<|oS "\n" !=oS "",.a,.b<|oS "\n" !=oS "\n",.a,.a,.a,.a,.a,.a,.c (Oc.ok<|V.str x) [O.inst (597:aA) [("_StringIO__newline",V.str "\n"),("_StringIO__buf",V.str ""),("_StringIO__pos",V.int (0:Int))]]]) (p:=(∀(st:St),dO F st j3 (V.str "\n") (V.str "")<|oS "\n" !=oS "")/\(∀(st:St),dO F st j3 (V.str "\n") (V.str "\n")<|oS "\n" !=oS "\n")/\(cL F 374 [V.ref 0,V.str x] [O.inst (597:aA) [("_StringIO__newline",V.str "\n"),("_StringIO__buf",V.str ""),("_StringIO__pos",V.int (0:Int))]] (Oc.ok<|V.str x) [O.inst (597:aA) [("_StringIO__newline",V.str "\n"),("_StringIO__buf",V.str ""),("_StringIO__pos",V.int (0:Int))]])/\_/\_) 'k' ((λU=>dO.MM),(λU=>dO.MM),(uW X Q hB (vz (d:=0)) rfl 'k'),@rfl _<|Oc.ok V.none,@rfl _ [bC x 0]):_)
theorem qh:dB 381 (d+4) [.ref 0] [] [bC x p] (.ok .none) [bC x p]:=by refine FN.cu (d:=d+3) (ab:=[("self",.ref 0)]) Vu Wr 'k' (bind1 λP S u=>'k') λF Q hB X Y=>?_;exact(run X rfl (an:=[.a]) (p:=_/\_) 'k' (@rfl _<|Oc.ok V.none,@rfl _ [bC x p]):_)
theorem qg(G:n<=1000000)(E: -1000000<=n):dB 63 (d+4) [.int n,.str w] [] obs (.ok<|.int n) obs:=by refine FN.cu (d:=d+3) (ab:=[("n",.int n),("what",.str w)]) aaR abh 'k' (jq λP S u U=>'k') λF D hB X Y=>?_;have H:decide (n>1099511627776)=ao:=decide_eq_false (by lia);have Q:decide (n< -1099511627776)=ao:=decide_eq_false (by lia);exact(run X rfl (an:=[.a,.a,.b ao,.b ao,.a]) (p:=_/\_/\_/\_) 'k' (H,Q,@rfl _<|Oc.ok<|V.int n,@rfl _ obs):_)
theorem Am(p n:Nat)(h:p<=n)(dflt:Nat):(ah (p:Int)).elim dflt (clipAt n)=p:=(clipAt_nat n p).trans<|N0 h
theorem zb(l:List Nat)(p q:Nat)(h:p<=q)(Q:q<=l.length):dX (S l) (ah (p:Int)) (ah (q:Int))=S ((l.drop p).take<|q -p):=by rw[Cc,lM,Am p _<|by exact ai h Q,Am q _ Q]
theorem vB{l:List Nat}(h:l[p]? =ah c):(l.drop p).take 1=[c]:=by have Q:p<l.length:=(List.getElem?_eq_some_iff.mp h).1;rw[lI Q];have:l[p]=c:=(List.getElem?_eq_some_iff.mp h).2;rw[this];rfl
theorem Lh(E:l[p]? =ah c)(hl:l.length<=2^16):dB 543 (d+5) [.ref 0,.int 1] [] [bC (S l) p] (.ok<|.str ⟨#[c]⟩) [bC (S l)<|p+1]:=by
 refine FN.cu (d:=d+4) (ab:=[("self",.ref 0),("size",.int 1)]) Nr NG 'k' (jq λP S u u' =>'k') λF H hB X Y=>?_;have sv:p<l.length:=(List.getElem?_eq_some_iff.mp E).1;have hS:(S l).length=l.length:=fA l;have Q:(S l).length<=2^24:=by exact(ai hl 'd')
 have G:decide (((p:Nat):Int)>=(((S l).length:Nat):Int))=ao:=decide_eq_false (by lia);have j:dX (S l) (ah (p:Int)) (ah ((p+1:Nat):Int))=⟨#[c]⟩:=by rw[zb l p (p+1) (by exact a9 ..) (by assumption),show p+1 -p=1 by exact O',vB E]
 by_cases h2:p+1<l.length
 .have D:decide (((p:Nat):Int)+1<(((S l).length:Nat):Int))=aj:=decide_eq_true (by exact qcL h2);have U:Oc.ok (V.str<|dX (S l) (ah (p:Int))<|ah<|(p:Int)+1)=Oc.ok (.str ⟨#[c]⟩):=congrArg (λy=>Oc.ok<|V.str y) j;exact(run X rfl (an:=[.a,.c (Oc.ok<|V.int (1:Int)) [bC (S l) p],.c (Oc.ok V.none) [bC (S l) p],.b ao,.a,.b aj,.a]) (p:=(cL F 63 [V.int (1:Int),V.str "StringIO.read of a size that is no exact int"] [bC (S l) p] (Oc.ok<|V.int (1:Int)) [bC (S l) p])/\(cL F 381 [V.ref 0] [bC (S l) p] (Oc.ok V.none) [bC (S l) p])/\_/\_/\_/\_/\_/\_) 'k' (fH (uW X H hB (qg (d:=0) (by exact aL _) (by exact aL _)) rfl 'k') (uW X H hB (qh (d:=0)) rfl 'k') Q G D Q U (@rfl _ [bC (S l)<|p+1])):_)
 .have D:decide (((p:Nat):Int)+1<(((S l).length:Nat):Int))=ao:=decide_eq_false (by lia);have z:(S l).length=p+1:=by lia
  have U:Oc.ok (V.str<|dX (S l) (ah (p:Int))<|ah ((S l).length:Int))=Oc.ok (.str ⟨#[c]⟩):=by rw[z];exact congrArg (λy=>Oc.ok<|V.str y) j
  have m:[O.inst 597 [("_StringIO__newline",V.str "\n"),("_StringIO__buf",V.str<|S l),("_StringIO__pos",V.int (((S l).length:Nat):Int))]]=[bC (S l)<|p+1]:=by rw[z]
  exact(run X rfl (an:=[.a,.c (Oc.ok<|V.int (1:Int)) [bC (S l) p],.c (Oc.ok V.none) [bC (S l) p],.b ao,.a,.b ao,.a]) (p:=(cL F 63 [V.int (1:Int),V.str "StringIO.read of a size that is no exact int"] [bC (S l) p] (Oc.ok<|V.int (1:Int)) [bC (S l) p])/\(cL F 381 [V.ref 0] [bC (S l) p] (Oc.ok V.none) [bC (S l) p])/\_/\_/\_/\_/\_/\_) 'k' (fH (uW X H hB (qg (d:=0) (by exact aL _) (by exact aL _)) rfl 'k') (uW X H hB (qh (d:=0)) rfl 'k') Q G D Q U m):_)
theorem HN(Q:l.length<=p)(G:l.length<=2^16):dB 543 (d+5) [.ref 0,.int 1] [] [bC (S l) p] (.ok<|.str "") [bC (S l) p]:=by
 refine FN.cu (d:=d+4) (ab:=[("self",.ref 0),("size",.int 1)]) Nr NG 'k' (jq λP S u E=>'k') λF U hB X Y=>?_;have y:(S l).length=l.length:=fA l;have H:(S l).length<=2^24:=by omega
 have D:decide (((p:Nat):Int)>=(((S l).length:Nat):Int))=aj:=decide_eq_true (by exact XN Q);exact(run X rfl (an:=[.a,.c (Oc.ok<|V.int (1:Int)) [bC (S l) p],.c (Oc.ok V.none) [bC (S l) p],.b aj]) (p:=(cL F 63 [V.int (1:Int),V.str "StringIO.read of a size that is no exact int"] [bC (S l) p] (Oc.ok<|V.int (1:Int)) [bC (S l) p])/\(cL F 381 [V.ref 0] [bC (S l) p] (Oc.ok V.none) [bC (S l) p])/\_/\_/\_/\_) 'k' ((uW X U hB (qg (d:=0) (by exact aL _) (by exact aL _)) rfl 'k'),(uW X U hB (qh (d:=0)) rfl 'k'),H,D,@rfl _<|Oc.ok<|V.str "",@rfl _ [bC (S l) p]):_)
theorem find_none{p:Nat}(j:p<=l.length)(E:10∉l.drop p):As (S l) "\n" (p:Int) (l.length:Int)= -1:=by
 unfold As;have z:fromIndex (S l).length (p:Int)=p:=by unfold fromIndex;rw[if_neg<|Int.not_lt.mpr<|aL _];exact RK
 have y:min (fromIndex (S l).length (l.length:Int)) (S l).length=l.length:=by unfold fromIndex;rw[if_neg<|Int.not_lt.mpr<|aL _,fA,jZ<|aL _,gY,Xv]
 rw[z,y,StrLaws.occ_eq];have U:=StrLaws.occ_none (S l) ⟨#[10]⟩ l.length (Dp p<|l.length+1 -p) p (λi H=>by rw[Mn]at H;obtain⟨k,_,rfl⟩:=H;exact a9 ..);have:=U.mpr λi H D=>fk D λu G=>by
  rw[Mn]at H;obtain⟨k,_,rfl⟩:=H;have Q:(S l).cps.toList[p+1*k]? =ah 10:=(StrLaws.subAt_one (S l) 10 _).mp (by rw[fA];exact u,G);apply E;have:(l.drop p)[k]? =ah 10:=by rw[gA];rw[EC]at Q;exact Q
  exact aT this
 show(match(forIn (Dp p<|l.length+1 -p) ((#[]:Array Nat),p)<|StrLaws.occBody (S l) ⟨#[10]⟩ l.length 1).run.fst.toList with|k::_=>(k:Int)|[]=>-1)= -1;rw[this]
theorem HT(H:l.length<=p)(U:l.length<=2^16):dB 395 (d+4) [.ref 0,.int (-1)] [] [bC (S l) p] (.ok<|.str "") [bC (S l) p]:=by
 refine FN.cu (d:=d+3) (ab:=[("self",.ref 0),("limit",.int (-1))]) Nt NH 'k' (jq λP S u E=>'k') λF G hB X Y=>?_;have Q:(S l).length<=2^24:=by exact(ai U 'd')
 have D:decide (((p:Nat):Int)>=(((S l).length:Nat):Int))=aj:=decide_eq_true (by exact XN H);exact(run X rfl (an:=[.b aj]) (p:=_/\_/\_/\_) 'k' (Q,D,@rfl _<|Oc.ok<|V.str "",@rfl _ [bC (S l) p]):_)
theorem Lj(U:p<l.length)(y:10∉l.drop p)(hl:l.length<=2^16):dB 395 (d+4) [.ref 0,.int (-1)] [] [bC (S l) p] (.ok<|.str<|S<|l.drop p) [bC (S l) l.length]:=by
 refine FN.cu (d:=d+3) (ab:=[("self",.ref 0),("limit",.int (-1))]) Nt NH 'k' (jq λP S u u' =>'k') λF hp hB X Y=>?_;have H:(S l).length=l.length:=fA l;have Q:(S l).length<=2^24:=by omega
 have D:=find_none (cN U) y;rw[<-H]at D;have m:decide (((p:Nat):Int)>=(((S l).length:Nat):Int))=ao:=decide_eq_false (by lia);have j:decide ((-1:Int)>=0)=ao:=rfl;have z:decide (As (S l) "\n" (p:Int) ((S l).length:Int)>=0)=ao:=by rw[D];rfl
 have e1:dX (S l) (ah (p:Int)) (ah (((S l).length:Nat):Int))=S (l.drop p):=by rw[H,zb l p l.length (cN U)<|aJ _,AK (by rw[mK];(simp+arith only;done))]
 have E:Oc.ok (V.str<|dX (S l) (ah (p:Int))<|ah (((S l).length:Nat):Int))=Oc.ok (.str<|S<|l.drop p):=by rw[e1]
 have G:[O.inst 597 [("_StringIO__newline",V.str "\n"),("_StringIO__buf",V.str<|S l),("_StringIO__pos",V.int (((S l).length:Nat):Int))]]=[bC (S l) l.length]:=by rw[H]
 exact(run X rfl (an:=[.b ao,.b ao,.a,.a,.a,.a,.a,.b ao]) (p:=_/\_/\_/\_/\_/\_/\_) 'k' (jG Q m j z Q E G):_)
theorem qf(h:dB 395 4 [.ref 0,.int (-1)] [] [bC (S l) p] (.ok<|.str y) [bC (S l) q]):dB 551 (d+5) [.ref 0] [] [bC (S l) p] (.ok<|.str y) [bC (S l) q]:=by refine FN.cu (d:=d+4) (ab:=[("self",.ref 0),("size",.int (-1))]) Vt Wq 'k' (QS (t:=960) λP S u=>'k') λF Q hB X Y=>?_;exact(run X rfl (an:=[.a,.c (Oc.ok<|V.int (-1:Int)) [bC (S l) p],.c (Oc.ok V.none) [bC (S l) p],.c (Oc.ok<|V.str y) [bC (S l) q]]) (p:=(cL F 63 [V.int (-1:Int),V.str "StringIO.readline of a size that is no exact int"] [bC (S l) p] (Oc.ok<|V.int (-1:Int)) [bC (S l) p])/\(cL F 381 [V.ref 0] [bC (S l) p] (Oc.ok V.none) [bC (S l) p])/\(cL F 395 [V.ref 0,V.int (-1:Int)] [bC (S l) p] (Oc.ok<|V.str y) [bC (S l) q])/\_/\_) 'k' (eU (uW X Q hB (qg (d:=0) (by exact aL _) (by exact aL _)) rfl 'k') (uW X Q hB (qh (d:=0)) rfl 'k') (uW X Q hB h rfl 'k') (@rfl _<|Oc.ok<|V.str y) (@rfl _ [bC (S l) q])):_)
theorem rX(H:p<=l.length)(U:10∉l.drop p)(Q:l.length<=2^16):∃y,dB 551 (d+5) [.ref 0] [] [bC (S l) p] (.ok<|.str y) [bC (S l) l.length]:=by
 by_cases h:p<l.length
 .exact(_,qf<|Lj (d:=0) h U Q)
 .obtain rfl:p=l.length:=by exact gQ (j5 H<|by omega) (j5 (dD h)<|by omega)
  exact(_,qf<|HT (d:=0) (aJ _) Q)
section
variable{F:Fx} {K:hJ} {sc:cJ} {d:Nat} {st vX st₁ aN st₃ ko:St} {l aH l' loc:List (aF×V)} {o fi me oH o' obs ex:List O} {ρ cO ρ₀ ρ₁:List (aA×aA)} {P P' mV bN:aA ->Prop} {s s' a7 s₀:aS}
theorem dO.PI(u:F.hB.get? a=ah D)(G:F.hB.get? b=ah ob)(ga:¬Grows a)(y:¬Grows b)(E:D.cls= .type "type")(Q:(a==b)=ao):dO F st .IsNot (.val<|.ref a) (.val<|.ref b) aj:=λρ P s j z I U H=>by cases U;cases H;show wpAny _ _ (do return Ew (!(<-isSame (.ref a) (.ref b)))) _ _ _;refine ak ?_;unfold isSame;dsimp only;rw[if_neg (by rw[Q];decide)];refine ak<|vh (I.base _ _ u ga)<|ak<|vh (I.base _ _ G y) ?_;rw[E];exact ay<|ay<|.tok s.toks eV
theorem dO.KW:dO F st .IsNot (.val<|.ref a) (.val<|.ref a) ao:=λρ P s D U I H Q=>by cases H;cases Q;skip;refine ak ?_;unfold isSame;dsimp only;rw[if_pos<|by simp];exact ay<|ay<|.tok s.toks eV
def Yw(F:Fx)(ov:V)(name:aF)(st:St)(f:aK):Prop:=
 ∀(pl:Sem Bool) ρ P s u,Inv F st ρ P s ->R (F.fw s ρ P) ov u ->∀E,wpAny F.M F.A (getMethod u name pl) (λr s' =>r=(f,[])/\(∀b o,s.heap.get? b=ah o ->s'.heap.get? b=ah o)/\s'.gens=s.gens/\s'.os=s.os) E s
theorem vg.T5{o:Oc}(hb:f5 ob=aj)(H:args.all notStar=aj)(E:decide (args.length<30)=aj)(j:(G.endLine==pos.line)=aj)(he:EV F ob st ov st₁)(hg:Yw F ov name st₁ f)(ha:vE F args st₁ vs aN)(hc:dM F f vs [] aN o st₃):vg F (.Call (.Attribute ob name G) args [] pos) st o st₃:=λρ P s I=>by
 have Q:(backTo pos<|starEach args F.env).all (λx=>!x.1)=aj:=by
  clear ha hc E;induction args with
  |nil=>rfl
  |cons e r ih=>
   rw[cD,aw]at H;rw[cC H.1];show(aj&&_)=aj;rw[qC];exact ih H.2
 have m:methodCallForm (args.length+([]:List iu).length) (backTo pos<|starEach args F.env) (backToKw pos<|keywordEach [] F.env)=aj:=by unfold methodCallForm;rw[Q];show(aj&&aj&&decide (args.length+0+0<30))=aj;simpa using E
 have P0:methodCallPos aj ob F.env G pos=pure pos:=by unfold methodCallPos;simp[j]
 rw[nR,iO hb];refine ak<|aq (he ρ P s I) (λu a7 z=>?_) i4;obtain⟨ρ₁,bN,y,D,FX⟩:=z;refine ak<|dm ?_;unfold methodCall;rw[m];refine ak<|bo<|aq (hg _ ρ₁ bN a7 u y FX _) (λr fW z=>?_) i3;refine j7 z λhr hk hg' JG=>?_;subst hr;have jj:=y.keeps hk hg' JG;have U:eH F.fr kP ρ₁ ρ₁ bN bN a7.heap fW.heap:=.of_keeps hk;refine ak<|m4 P0 ?_;refine aq (IE (first:=[]) (kws:=[]) H rfl ha .nil hc jj rfl) (λu s' z=>z.trans<|D.trans U) λe s' z=>z.trans<|D.trans U
theorem Yw.objNew(kb:KB (KK F.w.params) F.hB):Yw F (.val<|.type "object") "__new__" st (.builtin "object.__new__"):=λpl ρ P s u I r E=>by
 cases r;have X:=I.rh kb;have H:opaqueClassAbove (.type "object")=pure aC:=by unfold opaqueClassAbove;dsimp only;rw[show Manifest.isStub "object"=ao from 'k'];rfl
 have L0:gh F.M s.heap (typeOf<|.type "object") (.type "type"):=fY 'k';have D:findIn (KK F.w.params) (.type "type") "__getattribute__"=ah (ah<|.builtin "type.__getattribute__"):=type_tga;skip;refine ak<|ak<|L0.here<|(ew X D).here ?_;dsimp only;rw[if_pos canon_tga];refine ak<|aq (Q:=λv s' =>v= .builtin "object.__new__"/\s' ={s with toks:=s.toks+1}) (E:=E) ?_ (λU U z=>ay ?_) i3
 .have G:gh F.M s.heap (opaqueClassAbove<|.type "object") aC:=fY H;refine cls_open X G L0 D (looks_hook X (r:=aC)<|by rfl) (by show subIn (KK F.w.params) _ _=_;kernel_rfl) (Z4 _)
   (ay (by show wpAny _ _ (handedOut _) _ _ _;rw[Jr rfl];exact ay (rfl,rfl)))
 .obtain⟨rfl,rfl⟩:=z;exact(rfl,λU U e=>e,rfl,rfl)
theorem dM.objNew(kb:KB (KK F.w.params) F.hB):dM F (.builtin "object.__new__") [.val<|.ref 597] [] st (.ok<|.ref st.obs.length) (st.loc,st.obs++[.inst 597 []]):=λρ P s us ks I j z=>by
 cases z;(refine aR (j.one) λu E y=>?_;subst E);cases y;refine((bM (.machine) (.inr<|.inl rfl)<|eZ rfl),dP ?_);obtain⟨Q,g,dr,t,os⟩:=s;refine Pg (I.rh kb) ?_;have G:((Q.push emptyDict).push<|instObj 597 Q.objs.size).get? (Q.objs.size+1)=ah (instObj 597 Q.objs.size):=by heap_get
 have U:((Q.push emptyDict).push<|instObj 597 Q.objs.size).get? Q.objs.size=ah emptyDict:=by heap_get
 have kp:∀b o,Q.get? b=ah o ->((Q.push emptyDict).push<|instObj 597 Q.objs.size).get? b=ah o:=λb o e=>bI _ _ _ _<|bI _ _ _ _ e;have n1:Q.get? (Q.objs.size+1)=aC:=by
  cases q:Q.get? (Q.objs.size+1)with
  |none=>rfl
  |some o=>exact absurd (bR q)<|Nat.not_lt.mpr<|pE _
 have m:Q.get? Q.objs.size=aC:=de Q;refine fk (I.grow (s' :=((Q.push emptyDict).push<|instObj 597 Q.objs.size,g,dr,t,os)) (p:=(Q.objs.size+1,Q.objs.size)) (o:=.inst 597 []) kp n1 m (_,G) (_,U) (mu G [] 0 U rfl) rfl rfl rfl) λD H=>?_;refine(bM _ rfl (_,_,D,H,(Q.objs.size+1,Q.objs.size),?_,rfl));skip;rw[<-I.view.len];exact bW
end
noncomputable def nwS:cn:=OA (eA<|Hd.f1 6 1)[1]?
theorem TP:nwS= .Return (ah<|.Call (.Attribute (.Name "object" (28,15,28,21)) "__new__" (28,15,28,29)) [.Name "cls" (28,30,28,33)] [] (28,15,28,34)) (28,8,28,34):='k'
theorem Pf(X:bS F (KK F.w.params) (aQ<|Hd.f1 6 1) (d+3)):EX F nwS ([("cls",.val<|.ref 597)],[]) (.ret<|.ref 0) ([("cls",.val<|.ref 597)],[.inst 597 []]):=by
 rw[TP];refine EX.ret<|vg.ev<|vg.T5 (st₁:=([("cls",.val<|.ref 597)],[])) (aN:=([("cls",.val<|.ref 597)],[])) (ov:=.val<|.type "object") (f:=.builtin "object.__new__") (o:=.ok<|.ref 0) (st₃:=([("cls",.val<|.ref 597)],[.inst 597 []])) (vs:=[.val<|.ref 597]) 'k' 'k' 'k' 'k' ?a0 (Yw.objNew X.kb) (.cons 'k' ?a1 .nil)<|dM.objNew X.kb;case a0=>exact(jm X rfl (an:=[]) (p:=_/\([]:List O)=[]) 'k' (@rfl _<|V.val<|cz "object",rfl):_)
 case a1=>exact(jm X rfl (an:=[]) (p:=_/\([]:List O)=[]) 'k' (@rfl _<|V.val<|cg (597:aA),rfl):_)
theorem Qc:dB 90 (d+4) [.val<|.ref 597,x] [] [] (.ok<|.ref 0) [.inst 597 []]:=by
 refine FN.Ks (d:=d+3) (ab:=[("cls",.val<|.ref 597)]) (nm:=["cls","args","kwargs"]) aaQ abg 'k' (λs us ks par ρ P ra m M A E Q hq=>?_) λF hp hB X Y=>?_
 ·(refine cj (ra.two) λu u' H j U=>?_;subst H);cases m;cases j;refine QQ λt d h' k=>hq _ _ k rfl rfl rfl λy v e=>?_;rw[cw]at e;cases q:y==("cls":aF)with
  |true=>
   rw[q]at e;cases e;exact(bM _ (by rw[cw,q]) rfl)
  |false=>rw[q]at e;cases e
 .obtain⟨o6,z⟩:∃o,F.hB.get? 597=ah o/\o.cls= .type "type":=by
   exact(bM _ (Cv X.kb.vr) rfl)
  obtain⟨o3,h3⟩:∃o,F.hB.get? 350=ah o:=by have e:=Cr F.w.params;exact(_,hB.says 350 _<|az (by rw[e];decide))
  have g6:¬Grows 597:=by unfold Grows;decide
  have g3:¬Grows 350:=by unfold Grows;decide
  have G:∀st,dO F st .IsNot (.val<|.ref 597) (.val<|.ref 350) aj:=λst=>dO.PI z.1 h3 g6 g3 z.2 'd';have D:∀st,dO F st .IsNot (.val<|.ref 597) (.val<|.ref 597) ao:=λst=>dO.KW;have hx:=Pf X;exact(run X rfl (an:=[.b aj,.a,.b ao,.a,.a,.s (FV.ret<|V.ref 0) {loc:=[("cls",V.val<|cg (597:aA))],obs:=[O.inst (597:aA) []]}]) (p:=_/\_/\_/\_/\_) 'k' (eU G D (hx) (@rfl _<|Oc.ok<|V.ref 0)<|@rfl _ [O.inst (597:aA) []]):_)
theorem K2(P:aB):findIn (KK P) (.ref 597) "__init__"=ah (ah<|.ref 367):='k'
theorem SK(P:aB):typeIn (KK P) (.ref 367)=ah (.type "function"):='k'
theorem Dd(P:aB):specialIn (KK P) (.ref 597) "__call__"=ah (ah<|.builtin "type.__call__"):='k'
theorem K1(P:aB):instIn (KK P) (.ref 597) (.type "type")=ah aj:='k'
section
variable{F:Fx} {sc:cJ} {d e:Nat} {st:St} {cS:List O} {ρ cO:List (aA×aA)} {P P' :aA ->Prop} {s s' :aS}
theorem D0(X:(KK F.w.params).In h):gh F.M h (keeperOf<|.ref 597) .machine:=by have Q:=Cv X;have call:=Az (M:=F.M) X<|Dd _;unfold keeperOf;refine(mB (part:=aC) Q).andThen ?_;dsimp only;refine call.andThen ?_;exact fY (by simp)
theorem dM.T8(X:bS F (KK F.w.params) sc (d+6))(hp:F.prog=PR)(hB:BS F.w F.hB)(h:dB 367 (d+5) [.ref st.obs.length,.str x] [] (st.obs++[.inst 597 []]) (.ok .none) cS):dM F (.ref 597) [.str x] [] st (.ok<|.ref st.obs.length) (st.loc,cS):=λρ P s us ks I ra rk=>by
 have kb:=X.kb;have XK:=I.rh kb;cases rk;(refine aR (ra.one) λu tA ru=>?_;subst tA);refine((.machine,.inr<|.inl rfl,D0 XK),dP ?_);have hm:F.M=model PR F.w:=by show model F.prog F.w=_;rw[hp]
 refine cH λGq kq=>?_;have hC:=Cv XK;have e4:=TS F.w.params;have call:=Az (M:=F.M) XK<|Dd _;have typ:=looks_instIn (M:=F.M) XK<|K1 _;have made:gh F.M s.heap (vq<|.ref 597) aC:=yr XK<|Km _ _;obtain⟨hh,g,dr,t,os⟩:=s;refine kq ?_;refine pJ ?_;show wpAny _ _ (callAny (.ref 597) _) _ _ _;refine nd_load hC ?_;show wpAny _ _ (Dm (.ref 597) _) _ _ _;unfold Dm;refine ak<|call.at ?_;dsimp only;rw[tc_bind];refine ak<|ay<|ak<|ay ?_;refine ay (a:=Fin.again<|.call (.builtin "type.__call__") ([.ref 597,u],[]))<|AP rfl ?_;refine EY (k9 _<|by decide+kernel) abI<|Rx tc_kind tc_split typ (tc_args _ _ _) ?_;unfold Builtin.«type.__call__»;have hmr:gh F.M hh (mroOf<|.ref 597) (TX F.w.params).mro:=((mB (part:=aC) hC).andThen .now).andThen .now;iterate 8 (first|simp only[e4,cQ,if_false]|with_reducible refine dP ?_|lk)
 refine ak<|cls_bind XK (Tt _) (fcn _)<|dP<|sm_get (s:=(hh,g,dr,t+1,os)) XK (Tr _)<|handed_on rfl ?_;have hA:Cx (F.A.under<|.builtin "type.__call__" ([.ref 597,u],[])) F.fr (d+5):=X.cx.sub (show F.A.depth+1<=F.A.depth+1 from aJ _) (show F.A.units+1<=F.A.units+40 from iS 'd' _) rfl rfl;have IK:Inv F st ρ P (hh,g,dr,t+1,os):=I.keeps (λU U e=>e) rfl rfl;have hN:=FN.frame (Qc (d:=d+1) (x:=.str x)) st.obs;have e0:st.obs++([]:List O).map (EO st.obs.length)=st.obs:=by simp
 rw[e0]at hN;refine ak<|bo<|dP ?_;rw[<-hp]at hN;refine PF.use (hN F.w F.hB F.fr _ F.os ρ P _ hB hA IK.toHInv [.ref 597,u] [] (_,_,rfl,rfl,u,[],rfl,ru,rfl) rfl) λQ j D v H₁ G rv=>?_;have m:=IK.after H₁ G;have RY:objOf (st.loc,st.obs++[O.inst 597 []].map (EO st.obs.length)) (.ref st.obs.length)=ah (597,[]):=by show DR (st.obs++[O.inst 597 []])[st.obs.length]? =_;rw[bW];rfl
 have ZD:R (F.fw D Q j) (.ref st.obs.length) v:=rv;(refine ej (iG m RY ZD) λy ox dx es n JN IA R4 MF=>?_;subst JN);have z:=m.rh kb;have t1:gh F.M D.heap (typeOf<|.ref y) (.ref 597):=IA.type;have self:gh F.M D.heap (isSubtype (.ref 597)<|.ref 597) aj:=rI z<|Pm _;have IA0:=IA;obtain⟨UR,aaO,VH,Ze,TN⟩:=D;show wpAny _ _ _ _ _ _;unfold isInstance;iterate 4 (first|simp only[yH,cQ,if_false]|lk)
 simp only[yH,cQ,if_false];refine ak<|bo<|Rw z IA0 (K2 _) (SK _)<|dP ?_;have H:Inv F (st.loc,st.obs++[O.inst 597 []]) Q j (UR,aaO,VH,Ze,TN):=m;have abA:=I.toHInv.le (s:=(hh,g,dr,t,os)) G pV;have h' :FN F.prog BS 367 (d+5) [.ref st.obs.length,.str x] [] (st.obs++[.inst 597 []]) (.ok .none) cS:=by rw[hp];exact h
 refine PF.SF (h' F.w F.hB F.fr _ F.os Q j _ hB hA H.toHInv [.ref y,u] [] (_,_,rfl,ZD,u,[],rfl,R.mono abA _ _ ru,rfl) rfl) λyK mU fW BJ E=>?_;have jj:=H.after BJ E;exact ay (_,rfl,yK,mU,jj,G.trans E,R.mono (H.toHInv.le E pV) _ _ ZD)
end
theorem LL{fd:aB ->oQ}{n m k:aF}(h:∀P S u U Q,peek (KK P) S (bindArgs (fd P) ([u,U],[(k,Q)]))=ah [(n,u),(m,U),("infile",.none),(k,Q),("punctuation_chars",.bool ao)]):∀P σ us E,RL σ [v,w] us ->RB σ [(k,z)] E ->∃binds,(∀S,peek (KK P) S (bindArgs (fd P) (us,E))=ah binds)/\RB σ [(n,v),(m,w),("infile",.none),(k,z),("punctuation_chars",.bool ao)] binds:=λP σ us E y G=>by refine cH λGq kq=>?_;(refine cj (y.two) λu U H r j=>?_;subst H);(refine cj G λQ ks' H D e=>?_;subst H);refine kq ?_;cases e;exact(_,λS=>h P S u U Q,u,_,rfl,r,U,_,rfl,j,_,_,rfl,rfl,Q,_,rfl,D,_,[],rfl,rfl,rfl)
noncomputable abbrev WC:aF:="abcdfeghijklmnopqrstuvwxyzABCDEFGHIJKLMNOPQRSTUVWXYZ0123456789_"
noncomputable abbrev xb:aF:="ßàáâãäåæçèéêëìíîïðñòóôõöøùúûüýþÿÀÁÂÃÄÅÆÇÈÉÊËÌÍÎÏÐÑÒÓÔÕÖØÙÚÛÜÝÞ"
noncomputable abbrev aan(ws:Bool)(Q tok:V)(H:Int):List (aF×V):=[("instream",.ref 1),("infile",.none),("posix",.bool aj),("eof",.none),("commenters",.str "#"),("wordchars",.str<|WC++xb),("whitespace",.str " \t\r\n"),("whitespace_split",.bool ws),("quotes",.str "'\""),("escape",.str "\\"),("escapedquotes",.str "\""),("state",Q),("pushback",.dq),("lineno",.int H),("debug",.int 0),("token",tok),("filestack",.dq),("source",.none),("_punctuation_chars",.str "")]
noncomputable abbrev bg(ws:Bool)(Q tok:V)(H:Int):O:=.inst 732<|aan ws Q tok H
theorem Bt(z:x.length<=2^16):dB 656 10 [.ref 0,.str x] [("posix",.bool aj)] [.inst 732 []] (.ok .none) [bg ao (.str " ") (.str "") 1,bC x 0]:=by have H:(aa "abcdfeghijklmnopqrstuvwxyzABCDEFGHIJKLMNOPQRSTUVWXYZ0123456789_").length=63:='k';have Q:(aa "ßàáâãäåæçèéêëìíîïðñòóôõöøùúûüýþÿÀÁÂÃÄÅÆÇÈÉÊËÌÍÎÏÐÑÒÓÔÕÖØÙÚÛÜÝÞ").length=62:='k';refine FN.cu (d:=9) (ab:=[("self",.ref 0),("instream",.str x),("infile",.none),("posix",.bool aj),("punctuation_chars",.bool ao)]) Vs Wo 'k' (LL λP S u y E=>'k') λF G hB X Y=>?_;have D:dB 367 8 [.ref 1,.str x] [] [.inst 732 [],.inst 597 []] (.ok .none) [.inst 732 [],bC x 0]:=FN.frame (Bs (d:=3) (x:=x)) [.inst 732 []];have U:∀l,dM F (.ref 597) [.str x] [] (l,[.inst 732 []]) (.ok<|.ref 1) (l,[.inst 732 [],bC x 0]):=λl=>dM.T8 (d:=3) X G hB D;exact(run X rfl (an:=[.a,.c (Oc.ok<|V.ref 1) [O.inst (732:aA) [],bC x 0],.a,.a,.a,.a,.a]) (p:=_/\(oS "abcdfeghijklmnopqrstuvwxyzABCDEFGHIJKLMNOPQRSTUVWXYZ0123456789_").length+(oS "ßàáâãäåæçèéêëìíîïðñòóôõöøùúûüýþÿÀÁÂÃÄÅÆÇÈÉÊËÌÍÎÏÐÑÒÓÔÕÖØÙÚÛÜÝÞ").length<=2^24/\_/\_/\_) 'k' (eU U (ai (au (ar H)<|ar Q)<|ae rfl) (g9 JD rfl) (@rfl _<|Oc.ok V.none)<|@rfl _ [bg ao (V.str " ") (V.str "") (1:Int),bC x 0]):_)
theorem HO:dB 663 4 [.ref 0] [] (bg ws s t n::r) (.ok<|.str "") (bg ws s t n::r):=by refine FN.cu (d:=3) (ab:=[("self",.ref 0)]) Vr Wn 'k' (bind1 λP S u=>'k') λF Q hB X Y=>?_;exact(run X rfl (an:=[]) (p:=_/\_) 'k' (@rfl _<|Oc.ok<|V.str "",@rfl _ (bg ws s t n::r)):_)
section
variable{F:Fx} {sc:cJ} {d:Nat} {loc:List (aF×V)} {r:List O} {ws:Bool} {s t:V} {n:Int} {st₁:St}
theorem TB(P:aB):plainGet (KK P) 732 "punctuation_chars"=aj:='k'
theorem TA(P:aB):hasDictIn (KK P) 732=aj:='k'
theorem ZV(P:aB):findIn (KK P) (.ref 732) "punctuation_chars"=ah (ah<|.ref 664):='k'
theorem ZU(P:aB):specialIn (KK P) (.ref 664) "__get__"=ah (ah<|.builtin "property.__get__"):='k'
theorem ZS(P:aB):takesIn (KK P) (.ref 664)=ah aj:='k'
noncomputable def Nd:Option (List aK)->Bool
 |some (v::_)=>v== .ref 663
 |_=>ao
theorem Tz(P:aB):Nd (recIn (KK P) 664 "property")=aj:='k'
theorem D9(h:Nd o=aj):∃Q,o=ah (.ref 663::Q):=by
 cases o with
 |none=>cases h
 |some l=>cases l with
  |nil=>cases h
  |cons v r=>exact(r,eq_of_beq h▸rfl)
theorem ZT(P:aB):∃Q,recIn (KK P) 664 "property"=ah (.ref 663::Q):=D9<|Tz P
theorem EV.Tx(X:bS F (KK F.w.params) sc d)(hd:6<=d)(E:F.prog=PR)(hB:BS F.w F.hB)(H:bV x=aj)(U:loc.lookup x=ah (.ref 0)):EV F (.Attribute (.Name x G) "punctuation_chars" pos) (loc,bg ws s t n::r) (.str "") (loc,bg ws s t n::r):=by obtain⟨k,rfl⟩:=oE hd;obtain⟨Q,D⟩:=ZT F.w.params;exact EV.WK rfl (EV.loc X U H)<|Dk.prop (e:=4) (d:=k) X E hB (TB _) (TA _) (ZV _) (ZU _) (ZS _) D rfl rfl HO
end
theorem pu(X:bS F (KK F.w.params) sc (d+9))(H:F.prog=PR)(hB:BS F.w F.hB):∀(loc:List (aF×V)) (s t:V) (n:Int) (r:List O) (Q pos:si),loc.lookup ("self":aF)=ah (V.ref 0)->EV F (.Attribute (.Name "self" Q) "punctuation_chars" pos) (loc,bg ws s t n::r) (.str "") (loc,bg ws s t n::r):=λU U U U U U U h=>EV.Tx X (by exact aM ..) H hB 'k' h
structure TM where
 st:Option Nat
 tok:List Nat
 qd:Bool
 es:Nat
 p:Nat
 ln:Int
noncomputable def kr:Option Nat ->V
 |none=>.none
 |some c=>.str ⟨#[c]⟩
noncomputable abbrev TM.L(m:TM):List (aF×V):=[("escapedstate",.str ⟨#[m.es]⟩),("quoted",.bool m.qd),("self",.ref 0)]
noncomputable abbrev TM.O(l:List Nat)(m:TM):List O:=[bg aj (kr m.st) (.str<|S m.tok) m.ln,bC (S l) m.p]
noncomputable abbrev rtB:List cn:=eA<|Hd.f1 20 6
noncomputable def JV:Option cn ->List cn
 |some (.While _ b _ _)=>b
 |_=>[]
noncomputable def nf:List cn:=JV<|rtB[2]?
noncomputable def cY:cn:=nf.getD 3 default
noncomputable def DX(c:Nat)(n:Int):Int:=if c==10 then n+1 else n
section
variable{F:Fx} {m:TM} {l:List Nat} {c:Nat} {ch:aF} {q:Nat} {n:Int} {fl:FV} {st₁:St}
theorem fS(u:l[m.p]? =ah c)(G:l.length<=2^16)(D:F.prog=PR)(hB:BS F.w F.hB)(X:bS F (KK F.w.params) (aQ<|Hd.f1 20 6) 9)(U:dc F [cY] (("nextchar",.str ⟨#[c]⟩)::m.L,[bg aj (kr m.st) (.str<|S m.tok)<|DX c m.ln,bC (S l)<|m.p+1]) fl st₁):dc F nf (m.L,m.O l) fl st₁:=by
 have E:dB 543 5 [.ref 1,.int 1] [] [bg aj (kr m.st) (.str<|S m.tok) m.ln,bC (S l) m.p] (.ok<|.str ⟨#[c]⟩) [bg aj (kr m.st) (.str<|S m.tok) m.ln,bC (S l)<|m.p+1]:=FN.frame (Lh (d:=0) u G) [bg aj (kr m.st) (.str<|S m.tok) m.ln];have H:=pu (ws:=aj) X D hB;have Q:((⟨#[c]⟩:aF)=="\n")=(c==10):=one_beq c 10 'k';unfold DX at U;cases q:c==10 with
 |true=>
  rw[q]at Q U;exact(xt 3 X rfl _ _ (by with_reducible assumption) 'k' (an:=[.x (V.str "") [bg aj (kr m.st) (V.str<|S m.tok) m.ln,bC (S l) m.p],.a,.a,.c (Oc.ok<|V.str (⟨#[c]⟩:aF)) [bg aj (kr m.st) (V.str<|S m.tok) m.ln,bC (S l)<|m.p+1],.b aj,.a]) (p:=EV F ((dg (oS "self") {line:=574,col:=15,endLine:=574,endCol:=19}).Attribute (oS "punctuation_chars") {line:=574,col:=15,endLine:=574,endCol:=37}) {loc:=[("escapedstate",V.str (⟨#[m.es]⟩:aF)),("quoted",V.bool m.qd),("self",V.ref 0)],obs:=[bg aj (kr m.st) (V.str<|S m.tok) m.ln,bC (S l) m.p]} (V.str "") {loc:=[("escapedstate",V.str (⟨#[m.es]⟩:aF)),("quoted",V.bool m.qd),("self",V.ref 0)],obs:=[bg aj (kr m.st) (V.str<|S m.tok) m.ln,bC (S l) m.p]}/\(oS "").length<=2^24/\(cL F 543 [V.ref 1,V.int (1:Int)] [bg aj (kr m.st) (V.str<|S m.tok) m.ln,bC (S l) m.p] (Oc.ok<|V.str (⟨#[c]⟩:aF)) [bg aj (kr m.st) (V.str<|S m.tok) m.ln,bC (S l)<|m.p+1])/\_/\_/\(_/\_/\_/\_/\True)/\_) 'k' (jG (H _ _ _ _ _ _ _ rfl) (ai (ar (by kernel_rfl:(oS "").length=0))<|ae rfl) (uW X D hB E rfl 'k') Q (@rfl _ FV.next) (eU (@rfl _<|ah<|V.str (⟨#[c]⟩:aF)) (@rfl _<|ah<|V.str (⟨#[m.es]⟩:aF)) (@rfl _<|ah<|V.bool m.qd) (@rfl _<|ah<|V.ref 0) trivial)<|@rfl _ [bg aj (kr m.st) (V.str<|S m.tok)<|if aj=aj then m.ln+(1:Int)else m.ln,bC (S l)<|m.p+1]):_)
 |false=>
  rw[q]at Q U;exact(xt 3 X rfl _ _ (by with_reducible assumption) 'k' (an:=[.x (V.str "") [bg aj (kr m.st) (V.str<|S m.tok) m.ln,bC (S l) m.p],.a,.a,.c (Oc.ok<|V.str (⟨#[c]⟩:aF)) [bg aj (kr m.st) (V.str<|S m.tok) m.ln,bC (S l)<|m.p+1],.b ao,.a]) (p:=EV F ((dg (oS "self") {line:=574,col:=15,endLine:=574,endCol:=19}).Attribute (oS "punctuation_chars") {line:=574,col:=15,endLine:=574,endCol:=37}) {loc:=[("escapedstate",V.str (⟨#[m.es]⟩:aF)),("quoted",V.bool m.qd),("self",V.ref 0)],obs:=[bg aj (kr m.st) (V.str<|S m.tok) m.ln,bC (S l) m.p]} (V.str "") {loc:=[("escapedstate",V.str (⟨#[m.es]⟩:aF)),("quoted",V.bool m.qd),("self",V.ref 0)],obs:=[bg aj (kr m.st) (V.str<|S m.tok) m.ln,bC (S l) m.p]}/\(oS "").length<=2^24/\(cL F 543 [V.ref 1,V.int (1:Int)] [bg aj (kr m.st) (V.str<|S m.tok) m.ln,bC (S l) m.p] (Oc.ok<|V.str (⟨#[c]⟩:aF)) [bg aj (kr m.st) (V.str<|S m.tok) m.ln,bC (S l)<|m.p+1])/\_/\_/\(_/\_/\_/\_/\True)/\_) 'k' (jG (H _ _ _ _ _ _ _ rfl) (ai (ar (by kernel_rfl:(oS "").length=0))<|ae rfl) (uW X D hB E rfl 'k') Q (@rfl _ FV.next) (eU (@rfl _<|ah<|V.str (⟨#[c]⟩:aF)) (@rfl _<|ah<|V.str (⟨#[m.es]⟩:aF)) (@rfl _<|ah<|V.bool m.qd) (@rfl _<|ah<|V.ref 0) trivial)<|@rfl _ [bg aj (kr m.st) (V.str<|S m.tok) m.ln,bC (S l)<|m.p+1]):_)
theorem wb(G:l.length<=m.p)(E:l.length<=2^16)(U:F.prog=PR)(hB:BS F.w F.hB)(X:bS F (KK F.w.params) (aQ<|Hd.f1 20 6) 9)(u:dc F [cY] (("nextchar",.str "")::m.L,m.O l) fl st₁):dc F nf (m.L,m.O l) fl st₁:=by have D:dB 543 5 [.ref 1,.int 1] [] [bg aj (kr m.st) (.str<|S m.tok) m.ln,bC (S l) m.p] (.ok<|.str "") [bg aj (kr m.st) (.str<|S m.tok) m.ln,bC (S l) m.p]:=FN.frame (HN (d:=0) G E) [bg aj (kr m.st) (.str<|S m.tok) m.ln];have Q:=pu (ws:=aj) X U hB;have H:(("":aF)=="\n")=ao:='k';exact(xt 3 X rfl _ _ (by with_reducible assumption) 'k' (an:=[.x (V.str "") [bg aj (kr m.st) (V.str<|S m.tok) m.ln,bC (S l) m.p],.a,.a,.c (Oc.ok<|V.str "") [bg aj (kr m.st) (V.str<|S m.tok) m.ln,bC (S l) m.p],.b ao,.a]) (p:=EV F ((dg (oS "self") {line:=574,col:=15,endLine:=574,endCol:=19}).Attribute (oS "punctuation_chars") {line:=574,col:=15,endLine:=574,endCol:=37}) {loc:=[("escapedstate",V.str (⟨#[m.es]⟩:aF)),("quoted",V.bool m.qd),("self",V.ref 0)],obs:=[bg aj (kr m.st) (V.str<|S m.tok) m.ln,bC (S l) m.p]} (V.str "") {loc:=[("escapedstate",V.str (⟨#[m.es]⟩:aF)),("quoted",V.bool m.qd),("self",V.ref 0)],obs:=[bg aj (kr m.st) (V.str<|S m.tok) m.ln,bC (S l) m.p]}/\(oS "").length<=2^24/\(cL F 543 [V.ref 1,V.int (1:Int)] [bg aj (kr m.st) (V.str<|S m.tok) m.ln,bC (S l) m.p] (Oc.ok<|V.str "") [bg aj (kr m.st) (V.str<|S m.tok) m.ln,bC (S l) m.p])/\_/\_/\(_/\_/\_/\_/\True)/\_) 'k' (jG (Q _ _ _ _ _ _ _ rfl) (ai (ar (by kernel_rfl:(oS "").length=0))<|ae rfl) (uW X U hB D rfl 'k') H (@rfl _ FV.next) (eU (@rfl _<|ah<|V.str "") (@rfl _<|ah<|V.str (⟨#[m.es]⟩:aF)) (@rfl _<|ah<|V.bool m.qd) (@rfl _<|ah<|V.ref 0) trivial)<|@rfl _<|TM.O l m):_)
end
noncomputable abbrev rL(es:Nat)(qd:Bool):List (aF×V):=[("escapedstate",.str ⟨#[es]⟩),("quoted",.bool qd),("self",.ref 0)]
noncomputable abbrev rO(l:List Nat)(st:V)(tok:List Nat)(n:Int)(q:Nat):List O:=[bg aj st (.str<|S tok) n,bC (S l) q]
noncomputable abbrev mE:Ex:=(.type "ValueError",[])
theorem AU(X:bS F (KK F.w.params) (aQ<|Hd.f1 20 6) 9):∀(m:aF) (H p Q pos:si) (k:Nat) (l:List (aF×V)) (o:List O),EX F (.Raise (ah<|.Call (.Name "ValueError" H) [.Constant (.str m) k p] [] Q) aC pos) (l,o) (.exc mE) (l,o):=λU U U U U U U U=>
 EX.O8 PySem.F.excCall_ValueError PySem.F.excRaise_ValueError X (by exact aM ..) rfl (EV.bui X 'k' (yb (x:="ValueError") rfl).1 (yb (P:=F.w.params) rfl).2 'k') EV.str
theorem IG(X:bS F (KK F.w.params) (aQ<|Hd.f1 20 6) 9):∀st,dO F st .In (.str ⟨#[97]⟩) (.tup [.str "a",.str "c"]) ([bq "a",bq "c"].any λy=>bA y<|.str ⟨#[97]⟩):=λst=>dO.inT (X.units<|by exact aM ..) rfl rfl 'k' 'k' (ae rfl)
section
variable{F:Fx} {l tok:List Nat} {qd:Bool} {c es q q' k:Nat} {n:Int} {y:aF}
theorem OL(Q:tok.length<=2^16)(H:F.prog=PR)(hB:BS F.w F.hB)(X:bS F (KK F.w.params) (aQ<|Hd.f1 20 6) 9):
 dc F [cY] (("nextchar",.str "")::rL es qd,rO l (.str ⟨#[32]⟩) tok n q) .brk (rL es qd,rO l (.none) tok (n) q):=by
 exact(ed X rfl _ _ _ (an:=[.a,.b aj,.a]) (p:=_/\_/\_/\(_/\_/\_/\True)/\_) 'k' (eU JP (g9 JD rfl) (@rfl _ FV.brk) (cy (@rfl _<|ah<|V.str ⟨#[es]⟩) (@rfl _<|ah<|V.bool qd) (@rfl _<|ah<|V.ref 0) trivial)<|@rfl _<|rO l V.none tok n q):_)
theorem OH(U:decide (c∈(aa " \t\r\n").cps.toList)=aj)(H:((S tok).length !=0)=aj)(D:tok.length<=2^16)(E:F.prog=PR)(hB:BS F.w F.hB)(X:bS F (KK F.w.params) (aQ<|Hd.f1 20 6) 9):
 dc F [cY] (("nextchar",.str ⟨#[c]⟩)::rL es qd,rO l (.str ⟨#[32]⟩) tok n q) .brk (rL es qd,rO l (.str ⟨#[32]⟩) tok (n) q):=by
 have G:=fA tok;have Q:(S tok).length<=2^24:=by omega
 exact(ed X rfl _ _ _ (an:=[.a,.b aj,.a,.b<|decide<|c∈(oS " \t\x0d\n").cps.toList,.b aj,.a,.b aj,.a]) (p:=_/\_/\_/\_/\_/\_/\_/\(_/\_/\_/\True)/\_) 'k' (gp JP (g9 (mD c) rfl) (cI F c<|oS " \t\x0d\n") U Q H (@rfl _ FV.brk) (cy (@rfl _<|ah<|V.str ⟨#[es]⟩) (@rfl _<|ah<|V.bool qd) (@rfl _<|ah<|V.ref 0) trivial)<|@rfl _<|rO l (V.str ⟨#[32]⟩) tok n q):_)
theorem OG(U:decide (c∈(aa " \t\r\n").cps.toList)=aj)(H:((S tok).length !=0)=ao)(D:tok.length<=2^16)(E:F.prog=PR)(hB:BS F.w F.hB)(X:bS F (KK F.w.params) (aQ<|Hd.f1 20 6) 9):
 dc F [cY] (("nextchar",.str ⟨#[c]⟩)::rL es aj,rO l (.str ⟨#[32]⟩) tok n q) .brk (rL es aj,rO l (.str ⟨#[32]⟩) tok (n) q):=by
 have G:=fA tok;have Q:(S tok).length<=2^24:=by omega
 exact(ed X rfl _ _ _ (an:=[.a,.b aj,.a,.b<|decide<|c∈(oS " \t\x0d\n").cps.toList,.b aj,.a,.b ao,.a,.a,.a,.a]) (p:=_/\_/\_/\_/\_/\_/\_/\(_/\_/\_/\True)/\_) 'k' (gp JP (g9 (mD c) rfl) (cI F c<|oS " \t\x0d\n") U Q H (@rfl _ FV.brk) (cy (@rfl _<|ah<|V.str ⟨#[es]⟩) (@rfl _<|ah<|V.bool aj) (@rfl _<|ah<|V.ref 0) trivial)<|@rfl _<|rO l (V.str ⟨#[32]⟩) tok n q):_)
theorem OF(U:decide (c∈(aa " \t\r\n").cps.toList)=aj)(H:((S tok).length !=0)=ao)(D:tok.length<=2^16)(E:F.prog=PR)(hB:BS F.w F.hB)(X:bS F (KK F.w.params) (aQ<|Hd.f1 20 6) 9):
 dc F [cY] (("nextchar",.str ⟨#[c]⟩)::rL es ao,rO l (.str ⟨#[32]⟩) tok n q) .cont (rL es ao,rO l (.str ⟨#[32]⟩) tok (n) q):=by
 have G:=fA tok;have Q:(S tok).length<=2^24:=by omega
 exact(ed X rfl _ _ _ (an:=[.a,.b aj,.a,.b<|decide<|c∈(oS " \t\x0d\n").cps.toList,.b aj,.a,.b ao,.a,.a,.a,.a]) (p:=_/\_/\_/\_/\_/\_/\_/\(_/\_/\_/\True)/\_) 'k' (gp JP (g9 (mD c) rfl) (cI F c<|oS " \t\x0d\n") U Q H (@rfl _ FV.cont) (cy (@rfl _<|ah<|V.str ⟨#[es]⟩) (@rfl _<|ah<|V.bool ao) (@rfl _<|ah<|V.ref 0) trivial)<|@rfl _<|rO l (V.str ⟨#[32]⟩) tok n q):_)
theorem OI(U:decide (c∈(aa " \t\r\n").cps.toList)=ao)(D:decide (c∈(aa "#").cps.toList)=aj)(Q:dB 551 5 [.ref 1] [] (rO l (.str ⟨#[32]⟩) tok n q) (.ok<|.str y) (rO l (.str ⟨#[32]⟩) tok n q'))(E:tok.length<=2^16)(H:F.prog=PR)(hB:BS F.w F.hB)(X:bS F (KK F.w.params) (aQ<|Hd.f1 20 6) 9):
 dc F [cY] (("nextchar",.str ⟨#[c]⟩)::rL es qd,rO l (.str ⟨#[32]⟩) tok n q) .next (rL es qd,rO l (.str ⟨#[32]⟩) tok (n+1) q'):=by
 exact(ed X rfl _ _ _ (an:=[.a,.b aj,.a,.b<|decide<|c∈(oS " \t\x0d\n").cps.toList,.b ao,.b<|decide<|c∈(oS "#").cps.toList,.b aj,.c (Oc.ok<|V.str y)<|rO l (V.str ⟨#[32]⟩) tok n q']) (p:=_/\_/\_/\_/\_/\_/\(cL F 551 [V.ref 1] [bg aj (V.str ⟨#[32]⟩) (V.str<|S tok) n,bC (S l) q] (Oc.ok<|V.str y) [bg aj (V.str ⟨#[32]⟩) (V.str<|S tok) n,bC (S l) q'])/\_/\(_/\_/\_/\True)/\_) 'k' (kY JP (g9 (mD c) rfl) (cI F c<|oS " \t\x0d\n") U (cI F c<|oS "#") D (uW X H hB Q rfl 'k') (@rfl _ FV.next) (cy (@rfl _<|ah<|V.str ⟨#[es]⟩) (@rfl _<|ah<|V.bool qd) (@rfl _<|ah<|V.ref 0) trivial)<|@rfl _<|rO l (V.str ⟨#[32]⟩) tok (n+1) q'):_)
theorem OK(H:decide (c∈(aa " \t\r\n").cps.toList)=ao)(D:decide (c∈(aa "#").cps.toList)=ao)(U:decide (c∈(aa "\\").cps.toList)=aj)(Q:c=92)(E:tok.length<=2^16)(G:F.prog=PR)(hB:BS F.w F.hB)(X:bS F (KK F.w.params) (aQ<|Hd.f1 20 6) 9):
 dc F [cY] (("nextchar",.str ⟨#[c]⟩)::rL es qd,rO l (.str ⟨#[32]⟩) tok n q) .next (rL 97 qd,rO l (.str ⟨#[92]⟩) tok (n) q):=by
 have u:=kZ tok [c];subst Q;exact(ed X rfl _ _ _ (an:=[.a,.b aj,.a,.b<|decide<|92∈(oS " \t\x0d\n").cps.toList,.b ao,.b<|decide<|92∈(oS "#").cps.toList,.b ao,.a,.b<|decide<|92∈(oS "\\").cps.toList,.b aj,.a]) (p:=_/\_/\_/\_/\_/\_/\_/\_/\_/\(_/\_/\_/\True)/\_) 'k' (mv JP (g9 (mD 92) rfl) (cI F 92<|oS " \t\x0d\n") H (cI F 92<|oS "#") D (cI F 92<|oS "\\") U (@rfl _ FV.next) (cy (@rfl _<|ah<|V.str ⟨#[97]⟩) (@rfl _<|ah<|V.bool qd) (@rfl _<|ah<|V.ref 0) trivial)<|@rfl _<|rO l (V.str ⟨#[92]⟩) tok n q):_)
theorem J7(U:decide (c∈(aa " \t\r\n").cps.toList)=ao)(E:decide (c∈(aa "#").cps.toList)=ao)(D:decide (c∈(aa "\\").cps.toList)=ao)(fd:decide (c∈(WC++xb).cps.toList)=aj)(G:tok.length<=2^16)(H:F.prog=PR)(hB:BS F.w F.hB)(X:bS F (KK F.w.params) (aQ<|Hd.f1 20 6) 9):
 dc F [cY] (("nextchar",.str ⟨#[c]⟩)::rL es qd,rO l (.str ⟨#[32]⟩) tok n q) .next (rL es qd,rO l (.str ⟨#[97]⟩) [c] (n) q):=by
 have u:S tok++(⟨#[c]⟩:aF)=S (tok++[c]):=kZ tok [c];have Q:=pu (ws:=aj) X H hB;exact(ed X rfl _ _ _ (an:=[.a,.b aj,.a,.b<|decide<|c∈(oS " \t\x0d\n").cps.toList,.b ao,.b<|decide<|c∈(oS "#").cps.toList,.b ao,.a,.b<|decide<|c∈(oS "\\").cps.toList,.b ao,.a,.b<|decide<|c∈(WC++xb).cps.toList,.b aj]) (p:=_/\_/\_/\_/\_/\_/\_/\_/\_/\_/\_/\(_/\_/\_/\True)/\_) 'k' (nH JP (g9 (mD c) rfl) (cI F c<|oS " \t\x0d\n") U (cI F c<|oS "#") E (cI F c<|oS "\\") D (cI F c<|WC++xb) fd (@rfl _ FV.next) (cy (@rfl _<|ah<|V.str ⟨#[es]⟩) (@rfl _<|ah<|V.bool qd) (@rfl _<|ah<|V.ref 0) trivial)<|@rfl _<|rO l (V.str ⟨#[97]⟩) [c] n q):_)
theorem FK(U:decide (c∈(aa " \t\r\n").cps.toList)=ao)(G:decide (c∈(aa "#").cps.toList)=ao)(E:decide (c∈(aa "\\").cps.toList)=ao)(fd:decide (c∈(WC++xb).cps.toList)=ao)(D:decide (c∈(aa "'\"").cps.toList)=aj)(u:tok.length<=2^16)(H:F.prog=PR)(hB:BS F.w F.hB)(X:bS F (KK F.w.params) (aQ<|Hd.f1 20 6) 9):
 dc F [cY] (("nextchar",.str ⟨#[c]⟩)::rL es qd,rO l (.str ⟨#[32]⟩) tok n q) .next (rL es qd,rO l (.str ⟨#[c]⟩) tok (n) q):=by
 have Q:=pu (ws:=aj) X H hB;exact(ed X rfl _ _ _ (an:=[.a,.b aj,.a,.b<|decide<|c∈(oS " \t\x0d\n").cps.toList,.b ao,.b<|decide<|c∈(oS "#").cps.toList,.b ao,.a,.b<|decide<|c∈(oS "\\").cps.toList,.b ao,.a,.b<|decide<|c∈(WC++xb).cps.toList,.b ao,.x (V.str "") [bg aj (V.str (⟨#[32]⟩:aF)) (V.str<|S tok) n,bC (S l) q],.b<|decide<|c∈(oS "").cps.toList,.b ao,.b<|decide<|c∈(oS "'\"").cps.toList,.b aj,.a]) (p:=_/\_/\_/\_/\_/\_/\_/\_/\_/\_/\EV F ((dg (oS "self") {line:=605,col:=33,endLine:=605,endCol:=37}).Attribute (oS "punctuation_chars") {line:=605,col:=33,endLine:=605,endCol:=55}) {loc:=[("nextchar",V.str ⟨#[c]⟩),("escapedstate",V.str ⟨#[es]⟩),("quoted",V.bool qd),("self",V.ref 0)],obs:=[bg aj (V.str ⟨#[32]⟩) (V.str<|S tok) n,bC (S l) q]} (V.str "") {loc:=[("nextchar",V.str ⟨#[c]⟩),("escapedstate",V.str ⟨#[es]⟩),("quoted",V.bool qd),("self",V.ref 0)],obs:=[bg aj (V.str ⟨#[32]⟩) (V.str<|S tok) n,bC (S l) q]}/\_/\_/\_/\_/\_/\(_/\_/\_/\True)/\_) 'k' (JP,(g9 (mD c) rfl),(cI F c<|oS " \t\x0d\n"),U,(cI F c<|oS "#"),G,(cI F c<|oS "\\"),E,(cI F c<|WC++xb),fd,(Q _ _ _ _ _ _ _ rfl),(cI F c<|oS ""),(zh1 c),(cI F c<|oS "'\""),D,@rfl _ FV.next,(@rfl _<|ah<|V.str ⟨#[es]⟩,@rfl _<|ah<|V.bool qd,@rfl _<|ah<|V.ref 0,trivial),@rfl _<|rO l (V.str ⟨#[c]⟩) tok n q):_)
theorem OJ(U:decide (c∈(aa " \t\r\n").cps.toList)=ao)(G:decide (c∈(aa "#").cps.toList)=ao)(E:decide (c∈(aa "\\").cps.toList)=ao)(fd:decide (c∈(WC++xb).cps.toList)=ao)(D:decide (c∈(aa "'\"").cps.toList)=ao)(u:tok.length<=2^16)(H:F.prog=PR)(hB:BS F.w F.hB)(X:bS F (KK F.w.params) (aQ<|Hd.f1 20 6) 9):
 dc F [cY] (("nextchar",.str ⟨#[c]⟩)::rL es qd,rO l (.str ⟨#[32]⟩) tok n q) .next (rL es qd,rO l (.str ⟨#[97]⟩) [c] (n) q):=by
 have Q:=pu (ws:=aj) X H hB;exact(ed X rfl _ _ _ (an:=[.a,.b aj,.a,.b<|decide<|c∈(oS " \t\x0d\n").cps.toList,.b ao,.b<|decide<|c∈(oS "#").cps.toList,.b ao,.a,.b<|decide<|c∈(oS "\\").cps.toList,.b ao,.a,.b<|decide<|c∈(WC++xb).cps.toList,.b ao,.x (V.str "") [bg aj (V.str (⟨#[32]⟩:aF)) (V.str<|S tok) n,bC (S l) q],.b<|decide<|c∈(oS "").cps.toList,.b ao,.b<|decide<|c∈(oS "'\"").cps.toList,.b ao,.a]) (p:=_/\_/\_/\_/\_/\_/\_/\_/\_/\_/\EV F ((dg (oS "self") {line:=605,col:=33,endLine:=605,endCol:=37}).Attribute (oS "punctuation_chars") {line:=605,col:=33,endLine:=605,endCol:=55}) {loc:=[("nextchar",V.str ⟨#[c]⟩),("escapedstate",V.str ⟨#[es]⟩),("quoted",V.bool qd),("self",V.ref 0)],obs:=[bg aj (V.str ⟨#[32]⟩) (V.str<|S tok) n,bC (S l) q]} (V.str "") {loc:=[("nextchar",V.str ⟨#[c]⟩),("escapedstate",V.str ⟨#[es]⟩),("quoted",V.bool qd),("self",V.ref 0)],obs:=[bg aj (V.str ⟨#[32]⟩) (V.str<|S tok) n,bC (S l) q]}/\_/\_/\_/\_/\_/\(_/\_/\_/\True)/\_) 'k' (JP,(g9 (mD c) rfl),(cI F c<|oS " \t\x0d\n"),U,(cI F c<|oS "#"),G,(cI F c<|oS "\\"),E,(cI F c<|WC++xb),fd,(Q _ _ _ _ _ _ _ rfl),(cI F c<|oS ""),(zh1 c),(cI F c<|oS "'\""),D,@rfl _ FV.next,(@rfl _<|ah<|V.str ⟨#[es]⟩,@rfl _<|ah<|V.bool qd,@rfl _<|ah<|V.ref 0,trivial),@rfl _<|rO l (V.str ⟨#[97]⟩) [c] n q):_)
end
section
variable{F:Fx} {l tok:List Nat} {qd:Bool} {c es q q' k:Nat} {n:Int} {y:aF}
theorem OD(H:tok.length<=2^16)(D:F.prog=PR)(hB:BS F.w F.hB)(X:bS F (KK F.w.params) (aQ<|Hd.f1 20 6) 9):
 dc F [cY] (("nextchar",.str "")::rL es qd,rO l (.str ⟨#[39]⟩) tok n q) (.exc mE) (rL es aj,rO l (.str ⟨#[39]⟩) tok (n) q):=by
 have Q:=AU X;exact(ed X rfl _ _ _ (an:=[An.a,An.b ao,An.b<|decide<|39∈(aa "'\"").cps.toList,An.b aj,An.a,An.a,An.s (FV.exc mE) {loc:=[(aa "quoted",V.bool aj),(aa "nextchar",V.str<|aa ""),(aa "escapedstate",V.str ⟨#[es]⟩),(aa "quoted",V.bool qd),(aa "self",V.ref 0)],obs:=[bg aj (V.str ⟨#[39]⟩) (V.str<|S tok) n,bC (S l) q]}]) (p:=(⟨#[39]⟩==aa " ")=ao/\(∀(st:St),dO F st BY (V.str ⟨#[39]⟩) (V.str<|aa "'\"")<|decide<|39∈(aa "'\"").cps.toList)/\decide (39∈(aa "'\"").cps.toList)=aj/\(aa "").length<=2^24/\EX F (xd (ah<|(dg (aa "ValueError") {line:=626,col:=26,endLine:=626,endCol:=36}).Call [fZ (jP<|aa "No closing quotation") 0 {line:=626,col:=37,endLine:=626,endCol:=59}] [] {line:=626,col:=26,endLine:=626,endCol:=60}) aC {line:=626,col:=20,endLine:=626,endCol:=60}) {loc:=[(aa "quoted",V.bool aj),(aa "nextchar",V.str<|aa ""),(aa "escapedstate",V.str ⟨#[es]⟩),(aa "quoted",V.bool qd),(aa "self",V.ref 0)],obs:=[bg aj (V.str ⟨#[39]⟩) (V.str<|S tok) n,bC (S l) q]} (FV.exc mE) {loc:=[(aa "quoted",V.bool aj),(aa "nextchar",V.str<|aa ""),(aa "escapedstate",V.str ⟨#[es]⟩),(aa "quoted",V.bool qd),(aa "self",V.ref 0)],obs:=[bg aj (V.str ⟨#[39]⟩) (V.str<|S tok) n,bC (S l) q]}/\FV.exc mE=FV.exc mE/\(ah (V.str ⟨#[es]⟩)=ah (V.str ⟨#[es]⟩)/\ah (V.bool aj)=ah (V.bool aj)/\ah (V.ref 0)=ah (V.ref 0)/\True)/\[bg aj (V.str ⟨#[39]⟩) (V.str<|S tok) n,bC (S l) q]=rO l (V.str ⟨#[39]⟩) tok n q) 'k' (fH JS (λU=>dO.in1) Ds (ai (ar JD)<|ae rfl) (Q _ _ _ _ _ _ _ _) rfl (cy rfl rfl rfl trivial) rfl):_)
theorem OE(Q:((⟨#[c]⟩:aF)==⟨#[39]⟩)=aj)(H:tok.length<=2^16)(U:F.prog=PR)(hB:BS F.w F.hB)(X:bS F (KK F.w.params) (aQ<|Hd.f1 20 6) 9):
 dc F [cY] (("nextchar",.str ⟨#[c]⟩)::rL es qd,rO l (.str ⟨#[39]⟩) tok n q) .next (rL es aj,rO l (.str ⟨#[97]⟩) tok (n) q):=by
 exact(ed X rfl _ _ _ (an:=[.a,.b ao,.b<|decide<|39∈(oS "'\"").cps.toList,.b aj,.a,.b aj,.a]) (p:=_/\_/\_/\_/\_/\_/\(_/\_/\_/\True)/\_) 'k' (fH JS (cI F 39<|oS "'\"") Ds (g9 (mD c) rfl) Q (@rfl _ FV.next) (cy (@rfl _<|ah<|V.str ⟨#[es]⟩) (@rfl _<|ah<|V.bool aj) (@rfl _<|ah<|V.ref 0) trivial)<|@rfl _<|rO l (V.str ⟨#[97]⟩) tok n q):_)
theorem OC(E:decide (c∈(aa "\\").cps.toList)=ao)(U:((⟨#[c]⟩:aF)==⟨#[39]⟩)=ao)(H:tok.length<=2^16)(u:F.prog=PR)(hB:BS F.w F.hB)(X:bS F (KK F.w.params) (aQ<|Hd.f1 20 6) 9):
 dc F [cY] (("nextchar",.str ⟨#[c]⟩)::rL es qd,rO l (.str ⟨#[39]⟩) tok n q) .next (rL es aj,rO l (.str ⟨#[39]⟩) (tok++[c]) (n) q):=by
 have D:=fA tok;have G:=kZ tok [c];have Q:[bg aj (.str ⟨#[39]⟩) (.str<|S tok++⟨#[c]⟩) n,bC (S l) q]=rO l (.str ⟨#[39]⟩) (tok++[c]) (n) q:=by rw[G]
 exact(ed X rfl _ _ _ (an:=[.a,.b ao,.b<|decide<|39∈(oS "'\"").cps.toList,.b aj,.a,.b ao,.a,.b<|decide<|c∈(oS "\\").cps.toList,.b ao,.a]) (p:=_/\_/\_/\_/\_/\_/\_/\(S tok).length+(⟨#[c]⟩:aF).length<=2^24/\_/\(_/\_/\_/\True)/\_) 'k' (mv JS (cI F 39<|oS "'\"") Ds (g9 (mD c) rfl) U (cI F c<|oS "\\") E (ai (au (ai (ar D) H)<|ar<|mD c)<|ae rfl) (@rfl _ FV.next) (cy (@rfl _<|ah<|V.str ⟨#[es]⟩) (@rfl _<|ah<|V.bool aj) (@rfl _<|ah<|V.ref 0) trivial) Q):_)
theorem Qs(H:tok.length<=2^16)(D:F.prog=PR)(hB:BS F.w F.hB)(X:bS F (KK F.w.params) (aQ<|Hd.f1 20 6) 9):
 dc F [cY] (("nextchar",.str "")::rL es qd,rO l (.str ⟨#[34]⟩) tok n q) (.exc mE) (rL es aj,rO l (.str ⟨#[34]⟩) tok (n) q):=by
 have Q:=AU X;exact(ed X rfl _ _ _ (an:=[An.a,An.b ao,An.b<|decide<|34∈(aa "'\"").cps.toList,An.b aj,An.a,An.a,An.s (FV.exc mE) {loc:=[(aa "quoted",V.bool aj),(aa "nextchar",V.str<|aa ""),(aa "escapedstate",V.str ⟨#[es]⟩),(aa "quoted",V.bool qd),(aa "self",V.ref 0)],obs:=[bg aj (V.str ⟨#[34]⟩) (V.str<|S tok) n,bC (S l) q]}]) (p:=(⟨#[34]⟩==aa " ")=ao/\(∀(st:St),dO F st BY (V.str ⟨#[34]⟩) (V.str<|aa "'\"")<|decide<|34∈(aa "'\"").cps.toList)/\decide (34∈(aa "'\"").cps.toList)=aj/\(aa "").length<=2^24/\EX F (xd (ah<|(dg (aa "ValueError") {line:=626,col:=26,endLine:=626,endCol:=36}).Call [fZ (jP<|aa "No closing quotation") 0 {line:=626,col:=37,endLine:=626,endCol:=59}] [] {line:=626,col:=26,endLine:=626,endCol:=60}) aC {line:=626,col:=20,endLine:=626,endCol:=60}) {loc:=[(aa "quoted",V.bool aj),(aa "nextchar",V.str<|aa ""),(aa "escapedstate",V.str ⟨#[es]⟩),(aa "quoted",V.bool qd),(aa "self",V.ref 0)],obs:=[bg aj (V.str ⟨#[34]⟩) (V.str<|S tok) n,bC (S l) q]} (FV.exc mE) {loc:=[(aa "quoted",V.bool aj),(aa "nextchar",V.str<|aa ""),(aa "escapedstate",V.str ⟨#[es]⟩),(aa "quoted",V.bool qd),(aa "self",V.ref 0)],obs:=[bg aj (V.str ⟨#[34]⟩) (V.str<|S tok) n,bC (S l) q]}/\FV.exc mE=FV.exc mE/\(ah (V.str ⟨#[es]⟩)=ah (V.str ⟨#[es]⟩)/\ah (V.bool aj)=ah (V.bool aj)/\ah (V.ref 0)=ah (V.ref 0)/\True)/\[bg aj (V.str ⟨#[34]⟩) (V.str<|S tok) n,bC (S l) q]=rO l (V.str ⟨#[34]⟩) tok n q) 'k' (fH JR (λU=>dO.in1) JO (ai (ar JD)<|ae rfl) (Q _ _ _ _ _ _ _ _) rfl (cy rfl rfl rfl trivial) rfl):_)
theorem Qt(Q:((⟨#[c]⟩:aF)==⟨#[34]⟩)=aj)(H:tok.length<=2^16)(U:F.prog=PR)(hB:BS F.w F.hB)(X:bS F (KK F.w.params) (aQ<|Hd.f1 20 6) 9):
 dc F [cY] (("nextchar",.str ⟨#[c]⟩)::rL es qd,rO l (.str ⟨#[34]⟩) tok n q) .next (rL es aj,rO l (.str ⟨#[97]⟩) tok (n) q):=by
 exact(ed X rfl _ _ _ (an:=[.a,.b ao,.b<|decide<|34∈(oS "'\"").cps.toList,.b aj,.a,.b aj,.a]) (p:=_/\_/\_/\_/\_/\_/\(_/\_/\_/\True)/\_) 'k' (fH JR (cI F 34<|oS "'\"") JO (g9 (mD c) rfl) Q (@rfl _ FV.next) (cy (@rfl _<|ah<|V.str ⟨#[es]⟩) (@rfl _<|ah<|V.bool aj) (@rfl _<|ah<|V.ref 0) trivial)<|@rfl _<|rO l (V.str ⟨#[97]⟩) tok n q):_)
theorem Qr(E:decide (c∈(aa "\\").cps.toList)=ao)(U:((⟨#[c]⟩:aF)==⟨#[34]⟩)=ao)(H:tok.length<=2^16)(u:F.prog=PR)(hB:BS F.w F.hB)(X:bS F (KK F.w.params) (aQ<|Hd.f1 20 6) 9):
 dc F [cY] (("nextchar",.str ⟨#[c]⟩)::rL es qd,rO l (.str ⟨#[34]⟩) tok n q) .next (rL es aj,rO l (.str ⟨#[34]⟩) (tok++[c]) (n) q):=by
 have D:=fA tok;have G:=kZ tok [c];have Q:[bg aj (.str ⟨#[34]⟩) (.str<|S tok++⟨#[c]⟩) n,bC (S l) q]=rO l (.str ⟨#[34]⟩) (tok++[c]) (n) q:=by rw[G]
 exact(ed X rfl _ _ _ (an:=[.a,.b ao,.b<|decide<|34∈(oS "'\"").cps.toList,.b aj,.a,.b ao,.a,.b<|decide<|c∈(oS "\\").cps.toList,.b ao,.a]) (p:=_/\_/\_/\_/\_/\_/\_/\(S tok).length+(⟨#[c]⟩:aF).length<=2^24/\_/\(_/\_/\_/\True)/\_) 'k' (mv JR (cI F 34<|oS "'\"") JO (g9 (mD c) rfl) U (cI F c<|oS "\\") E (ai (au (ai (ar D) H)<|ar<|mD c)<|ae rfl) (@rfl _ FV.next) (cy (@rfl _<|ah<|V.str ⟨#[es]⟩) (@rfl _<|ah<|V.bool aj) (@rfl _<|ah<|V.ref 0) trivial) Q):_)
theorem S6(E:decide (c∈(aa "\\").cps.toList)=aj)(U:((⟨#[c]⟩:aF)==⟨#[39]⟩)=ao)(H:tok.length<=2^16)(z:F.prog=PR)(hB:BS F.w F.hB)(X:bS F (KK F.w.params) (aQ<|Hd.f1 20 6) 9):
 dc F [cY] (("nextchar",.str ⟨#[c]⟩)::rL es qd,rO l (.str ⟨#[39]⟩) tok n q) .next (rL es aj,rO l (.str ⟨#[39]⟩) (tok++[c]) (n) q):=by
 have D:=fA tok;have G:=kZ tok [c];have u:decide (39∈(aa "\"").cps.toList)=ao:='k';have Q:[bg aj (.str ⟨#[39]⟩) (.str<|S tok++⟨#[c]⟩) n,bC (S l) q]=rO l (.str ⟨#[39]⟩) (tok++[c]) (n) q:=by rw[G]
 exact(ed X rfl _ _ _ (an:=[.a,.b ao,.b<|decide<|39∈(oS "'\"").cps.toList,.b aj,.a,.b ao,.a,.b<|decide<|c∈(oS "\\").cps.toList,.b aj,.b<|decide<|39∈(oS "\"").cps.toList,.b ao,.a]) (p:=_/\_/\_/\_/\_/\_/\_/\_/\_/\(S tok).length+(⟨#[c]⟩:aF).length<=2^24/\_/\(_/\_/\_/\True)/\_) 'k' (nH JS (cI F 39<|oS "'\"") Ds (g9 (mD c) rfl) U (cI F c<|oS "\\") E (cI F 39<|oS "\"") u (ai (au (ai (ar D) H)<|ar<|mD c)<|ae rfl) (@rfl _ FV.next) (cy (@rfl _<|ah<|V.str ⟨#[es]⟩) (@rfl _<|ah<|V.bool aj) (@rfl _<|ah<|V.ref 0) trivial) Q):_)
theorem VI(H:decide (c∈(aa "\\").cps.toList)=aj)(Q:((⟨#[c]⟩:aF)==⟨#[34]⟩)=ao)(hd:c=92)(D:tok.length<=2^16)(E:F.prog=PR)(hB:BS F.w F.hB)(X:bS F (KK F.w.params) (aQ<|Hd.f1 20 6) 9):
 dc F [cY] (("nextchar",.str ⟨#[c]⟩)::rL es qd,rO l (.str ⟨#[34]⟩) tok n q) .next (rL 34 aj,rO l (.str ⟨#[92]⟩) tok (n) q):=by
 have G:=kZ tok [c];have U:decide (34∈(aa "\"").cps.toList)=aj:='k';subst hd;exact(ed X rfl _ _ _ (an:=[.a,.b ao,.b<|decide<|34∈(oS "'\"").cps.toList,.b aj,.a,.b ao,.a,.b<|decide<|92∈(oS "\\").cps.toList,.b aj,.b<|decide<|34∈(oS "\"").cps.toList,.b aj,.a]) (p:=_/\_/\_/\_/\_/\_/\_/\_/\_/\_/\(_/\_/\_/\True)/\_) 'k' (gz JR (cI F 34<|oS "'\"") JO (g9 (mD 92) rfl) Q (cI F 92<|oS "\\") H (cI F 34<|oS "\"") U (@rfl _ FV.next) (cy (@rfl _<|ah<|V.str ⟨#[34]⟩) (@rfl _<|ah<|V.bool aj) (@rfl _<|ah<|V.ref 0) trivial)<|@rfl _<|rO l (V.str ⟨#[92]⟩) tok n q):_)
end
section
variable{F:Fx} {l tok:List Nat} {qd:Bool} {c es q q' k:Nat} {n:Int} {y:aF}
theorem QJ(H:tok.length<=2^16)(D:F.prog=PR)(hB:BS F.w F.hB)(X:bS F (KK F.w.params) (aQ<|Hd.f1 20 6) 9):
 dc F [cY] (("nextchar",.str "")::rL es qd,rO l (.str ⟨#[92]⟩) tok n q) (.exc mE) (rL es qd,rO l (.str ⟨#[92]⟩) tok (n) q):=by
 have Q:=AU X;exact(ed X rfl _ _ _ (an:=[An.a,An.b ao,An.b<|decide<|92∈(aa "'\"").cps.toList,An.b ao,An.b<|decide<|92∈(aa "\\").cps.toList,An.b aj,An.a,An.a,An.s (FV.exc mE) {loc:=[(aa "nextchar",V.str<|aa ""),(aa "escapedstate",V.str ⟨#[es]⟩),(aa "quoted",V.bool qd),(aa "self",V.ref 0)],obs:=[bg aj (V.str ⟨#[92]⟩) (V.str<|S tok) n,bC (S l) q]}]) (p:=(⟨#[92]⟩==aa " ")=ao/\(∀(st:St),dO F st BY (V.str ⟨#[92]⟩) (V.str<|aa "'\"")<|decide<|92∈(aa "'\"").cps.toList)/\decide (92∈(aa "'\"").cps.toList)=ao/\(∀(st:St),dO F st BY (V.str ⟨#[92]⟩) (V.str<|aa "\\")<|decide<|92∈(aa "\\").cps.toList)/\decide (92∈(aa "\\").cps.toList)=aj/\(aa "").length<=2^24/\EX F (xd (ah<|(dg (aa "ValueError") {line:=643,col:=26,endLine:=643,endCol:=36}).Call [fZ (jP<|aa "No escaped character") 0 {line:=643,col:=37,endLine:=643,endCol:=59}] [] {line:=643,col:=26,endLine:=643,endCol:=60}) aC {line:=643,col:=20,endLine:=643,endCol:=60}) {loc:=[(aa "nextchar",V.str<|aa ""),(aa "escapedstate",V.str ⟨#[es]⟩),(aa "quoted",V.bool qd),(aa "self",V.ref 0)],obs:=[bg aj (V.str ⟨#[92]⟩) (V.str<|S tok) n,bC (S l) q]} (FV.exc mE) {loc:=[(aa "nextchar",V.str<|aa ""),(aa "escapedstate",V.str ⟨#[es]⟩),(aa "quoted",V.bool qd),(aa "self",V.ref 0)],obs:=[bg aj (V.str ⟨#[92]⟩) (V.str<|S tok) n,bC (S l) q]}/\FV.exc mE=FV.exc mE/\(ah (V.str ⟨#[es]⟩)=ah (V.str ⟨#[es]⟩)/\ah (V.bool qd)=ah (V.bool qd)/\ah (V.ref 0)=ah (V.ref 0)/\True)/\[bg aj (V.str ⟨#[92]⟩) (V.str<|S tok) n,bC (S l) q]=rO l (V.str ⟨#[92]⟩) tok n q) 'k' (kY Fi (λU=>dO.in1) Fh (λU=>dO.in1) Fg (ai (ar JD)<|ae rfl) (Q _ _ _ _ _ _ _ _) rfl (cy rfl rfl rfl trivial) rfl):_)
theorem abi(U:tok.length<=2^16)(G:F.prog=PR)(hB:BS F.w F.hB)(X:bS F (KK F.w.params) (aQ<|Hd.f1 20 6) 9):
 dc F [cY] (("nextchar",.str ⟨#[c]⟩)::rL 97 qd,rO l (.str ⟨#[92]⟩) tok n q) .next (rL 97 qd,rO l (.str ⟨#[97]⟩) (tok++[c]) (n) q):=by
 have H:=fA tok;have E:=kZ tok [c];have D:(S tok++⟨#[92]⟩).length=tok.length+1:=by rw[bp,H];rfl
 have Q:[bg aj (.str ⟨#[97]⟩) (.str<|S tok++⟨#[c]⟩) n,bC (S l) q]=rO l (.str ⟨#[97]⟩) (tok++[c]) (n) q:=by rw[E]
 exact(ed X rfl _ _ _ (an:=[.a,.b ao,.b<|decide<|92∈(oS "'\"").cps.toList,.b ao,.b<|decide<|92∈(oS "\\").cps.toList,.b aj,.a,.b<|decide<|97∈(oS "'\"").cps.toList,.b ao,.a]) (p:=_/\_/\_/\_/\_/\_/\_/\_/\(S tok).length+(⟨#[c]⟩:aF).length<=2^24/\_/\(_/\_/\_/\True)/\_) 'k' (gz Fi (cI F 92<|oS "'\"") Fh (cI F 92<|oS "\\") Fg (g9 (mD c) rfl) (cI F 97<|oS "'\"") EM (ai (au (ai (ar H) U)<|ar<|mD c)<|ae rfl) (@rfl _ FV.next) (cy (@rfl _<|ah<|V.str ⟨#[97]⟩) (@rfl _<|ah<|V.bool qd) (@rfl _<|ah<|V.ref 0) trivial) Q):_)
theorem Wu(u:((⟨#[c]⟩:aF) !=⟨#[92]⟩)=aj)(G:((⟨#[c]⟩:aF) !=⟨#[34]⟩)=aj)(D:tok.length<=2^16)(z:F.prog=PR)(hB:BS F.w F.hB)(X:bS F (KK F.w.params) (aQ<|Hd.f1 20 6) 9):
 dc F [cY] (("nextchar",.str ⟨#[c]⟩)::rL 34 qd,rO l (.str ⟨#[92]⟩) tok n q) .next (rL 34 qd,rO l (.str ⟨#[34]⟩) (tok++[92]++[c]) (n) q):=by
 have E:=fA tok;have H:(S tok++⟨#[92]⟩).length=tok.length+1:=by rw[bp,E];rfl
 have Q:[bg aj (.str ⟨#[34]⟩) (.str<|S tok++⟨#[92]⟩++⟨#[c]⟩) n,bC (S l) q]=rO l (.str ⟨#[34]⟩) (tok++[92]++[c]) (n) q:=by rw[show S tok++⟨#[92]⟩=S (tok++[92])from kZ tok [92],show S (tok++[92])++⟨#[c]⟩=S (tok++[92]++[c])from kZ _ [c]]
 exact(ed X rfl _ _ _ (an:=[.a,.b ao,.b<|decide<|92∈(oS "'\"").cps.toList,.b ao,.b<|decide<|92∈(oS "\\").cps.toList,.b aj,.a,.b<|decide<|34∈(oS "'\"").cps.toList,.b aj,.b<|(⟨#[c]⟩:aF) !=⟨#[92]⟩,.b aj,.b<|(⟨#[c]⟩:aF) !=⟨#[34]⟩,.b aj,.a]) (p:=_/\_/\_/\_/\_/\_/\_/\_/\(∀(st:St),dO F st j3 (V.str ⟨#[c]⟩) (V.str ⟨#[92]⟩)<|(⟨#[c]⟩:aF) !=⟨#[92]⟩)/\_/\(∀(st:St),dO F st j3 (V.str ⟨#[c]⟩) (V.str ⟨#[34]⟩)<|(⟨#[c]⟩:aF) !=⟨#[34]⟩)/\_/\(S tok).length+(⟨#[92]⟩:aF).length<=2^24/\(S tok++⟨#[92]⟩).length+(⟨#[c]⟩:aF).length<=2^24/\_/\(_/\_/\_/\True)/\_) 'k' (Fi,(cI F 92<|oS "'\""),Fh,(cI F 92<|oS "\\"),Fg,(g9 (mD c) rfl),(cI F 34<|oS "'\""),JO,(λU=>dO.MM),u,(λU=>dO.MM),G,(ai (au (ai (ar E) D) (ae rfl:_<=1))<|ae rfl),(ai (au (ai (ar H)<|au D<|aJ _)<|ar<|mD c)<|ae rfl),@rfl _ FV.next,(@rfl _<|ah<|V.str ⟨#[34]⟩,@rfl _<|ah<|V.bool qd,@rfl _<|ah<|V.ref 0,trivial),Q):_)
theorem QL(E:((⟨#[c]⟩:aF) !=⟨#[92]⟩)=ao)(D:tok.length<=2^16)(z:F.prog=PR)(hB:BS F.w F.hB)(X:bS F (KK F.w.params) (aQ<|Hd.f1 20 6) 9):
 dc F [cY] (("nextchar",.str ⟨#[c]⟩)::rL 34 qd,rO l (.str ⟨#[92]⟩) tok n q) .next (rL 34 qd,rO l (.str ⟨#[34]⟩) (tok++[c]) (n) q):=by
 have H:=fA tok;have u:=kZ tok [c];have G:(S tok++⟨#[92]⟩).length=tok.length+1:=by rw[bp,H];rfl
 have Q:[bg aj (.str ⟨#[34]⟩) (.str<|S tok++⟨#[c]⟩) n,bC (S l) q]=rO l (.str ⟨#[34]⟩) (tok++[c]) (n) q:=by rw[u]
 exact(ed X rfl _ _ _ (an:=[.a,.b ao,.b<|decide<|92∈(oS "'\"").cps.toList,.b ao,.b<|decide<|92∈(oS "\\").cps.toList,.b aj,.a,.b<|decide<|34∈(oS "'\"").cps.toList,.b aj,.b<|(⟨#[c]⟩:aF) !=⟨#[92]⟩,.b ao,.a]) (p:=_/\_/\_/\_/\_/\_/\_/\_/\(∀(st:St),dO F st j3 (V.str ⟨#[c]⟩) (V.str ⟨#[92]⟩)<|(⟨#[c]⟩:aF) !=⟨#[92]⟩)/\_/\(S tok).length+(⟨#[c]⟩:aF).length<=2^24/\_/\(_/\_/\_/\True)/\_) 'k' (Fi,(cI F 92<|oS "'\""),Fh,(cI F 92<|oS "\\"),Fg,(g9 (mD c) rfl),(cI F 34<|oS "'\""),JO,(λU=>dO.MM),E,(ai (au (ai (ar H) D)<|ar<|mD c)<|ae rfl),@rfl _ FV.next,(@rfl _<|ah<|V.str ⟨#[34]⟩,@rfl _<|ah<|V.bool qd,@rfl _<|ah<|V.ref 0,trivial),Q):_)
theorem QK(G:((⟨#[c]⟩:aF) !=⟨#[92]⟩)=aj)(E:((⟨#[c]⟩:aF) !=⟨#[34]⟩)=ao)(D:tok.length<=2^16)(j:F.prog=PR)(hB:BS F.w F.hB)(X:bS F (KK F.w.params) (aQ<|Hd.f1 20 6) 9):
 dc F [cY] (("nextchar",.str ⟨#[c]⟩)::rL 34 qd,rO l (.str ⟨#[92]⟩) tok n q) .next (rL 34 qd,rO l (.str ⟨#[34]⟩) (tok++[c]) (n) q):=by
 have H:=fA tok;have z:=kZ tok [c];have u:(S tok++⟨#[92]⟩).length=tok.length+1:=by rw[bp,H];rfl
 have Q:[bg aj (.str ⟨#[34]⟩) (.str<|S tok++⟨#[c]⟩) n,bC (S l) q]=rO l (.str ⟨#[34]⟩) (tok++[c]) (n) q:=by rw[z]
 exact(ed X rfl _ _ _ (an:=[.a,.b ao,.b<|decide<|92∈(oS "'\"").cps.toList,.b ao,.b<|decide<|92∈(oS "\\").cps.toList,.b aj,.a,.b<|decide<|34∈(oS "'\"").cps.toList,.b aj,.b<|(⟨#[c]⟩:aF) !=⟨#[92]⟩,.b aj,.b<|(⟨#[c]⟩:aF) !=⟨#[34]⟩,.b ao,.a]) (p:=_/\_/\_/\_/\_/\_/\_/\_/\(∀(st:St),dO F st j3 (V.str ⟨#[c]⟩) (V.str ⟨#[92]⟩)<|(⟨#[c]⟩:aF) !=⟨#[92]⟩)/\_/\(∀(st:St),dO F st j3 (V.str ⟨#[c]⟩) (V.str ⟨#[34]⟩)<|(⟨#[c]⟩:aF) !=⟨#[34]⟩)/\_/\(S tok).length+(⟨#[c]⟩:aF).length<=2^24/\_/\(_/\_/\_/\True)/\_) 'k' (Fi,(cI F 92<|oS "'\""),Fh,(cI F 92<|oS "\\"),Fg,(g9 (mD c) rfl),(cI F 34<|oS "'\""),JO,(λU=>dO.MM),G,(λU=>dO.MM),E,(ai (au (ai (ar H) D)<|ar<|mD c)<|ae rfl),@rfl _ FV.next,(@rfl _<|ah<|V.str ⟨#[34]⟩,@rfl _<|ah<|V.bool qd,@rfl _<|ah<|V.ref 0,trivial),Q):_)
end
section
variable{F:Fx} {l tok:List Nat} {qd:Bool} {c es q q' k:Nat} {n:Int} {y:aF}
theorem WW(H:tok.length<=2^16)(U:F.prog=PR)(hB:BS F.w F.hB)(X:bS F (KK F.w.params) (aQ<|Hd.f1 20 6) 9):
 dc F [cY] (("nextchar",.str "")::rL es qd,rO l (.str ⟨#[97]⟩) tok n q) .brk (rL es qd,rO l (.none) tok (n) q):=by
 have Q:=IG X;exact(ed X rfl _ _ _ (an:=[.a,.b ao,.b<|decide<|97∈(oS "'\"").cps.toList,.b ao,.b<|decide<|97∈(oS "\\").cps.toList,.b ao,.b<|[bq<|oS "a",bq<|oS "c"].any λ(y:eF)=>y.eqv<|bq ⟨#[97]⟩,.b aj,.a]) (p:=_/\_/\_/\_/\_/\[V.str "a",V.str "c"].length<=2^24/\_/\_/\_/\_/\(_/\_/\_/\True)/\_) 'k' (gz Ff (cI F 97<|oS "'\"") EM (cI F 97<|oS "\\") Fe (ae rfl) Q Fd (g9 JD rfl) (@rfl _ FV.brk) (cy (@rfl _<|ah<|V.str ⟨#[es]⟩) (@rfl _<|ah<|V.bool qd) (@rfl _<|ah<|V.ref 0) trivial)<|@rfl _<|rO l V.none tok n q):_)
theorem WT(D:decide (c∈(aa " \t\r\n").cps.toList)=aj)(U:((S tok).length !=0)=aj)(E:tok.length<=2^16)(G:F.prog=PR)(hB:BS F.w F.hB)(X:bS F (KK F.w.params) (aQ<|Hd.f1 20 6) 9):
 dc F [cY] (("nextchar",.str ⟨#[c]⟩)::rL es qd,rO l (.str ⟨#[97]⟩) tok n q) .brk (rL es qd,rO l (.str ⟨#[32]⟩) tok (n) q):=by
 have u:=fA tok;have H:(S tok).length<=2^24:=by omega
 have Q:=IG X;exact(ed X rfl _ _ _ (an:=[.a,.b ao,.b<|decide<|97∈(oS "'\"").cps.toList,.b ao,.b<|decide<|97∈(oS "\\").cps.toList,.b ao,.b<|[bq<|oS "a",bq<|oS "c"].any λ(y:eF)=>y.eqv<|bq ⟨#[97]⟩,.b aj,.a,.b<|decide<|c∈(oS " \t\x0d\n").cps.toList,.b aj,.a,.b aj,.a]) (p:=_/\_/\_/\_/\_/\[V.str "a",V.str "c"].length<=2^24/\_/\_/\_/\_/\_/\_/\_/\_/\(_/\_/\_/\True)/\_) 'k' (Ff,(cI F 97<|oS "'\""),EM,(cI F 97<|oS "\\"),Fe,(ae rfl),Q,Fd,(g9 (mD c) rfl),(cI F c<|oS " \t\x0d\n"),D,H,U,@rfl _ FV.brk,(@rfl _<|ah<|V.str ⟨#[es]⟩,@rfl _<|ah<|V.bool qd,@rfl _<|ah<|V.ref 0,trivial),@rfl _<|rO l (V.str ⟨#[32]⟩) tok n q):_)
theorem WS(D:decide (c∈(aa " \t\r\n").cps.toList)=aj)(U:((S tok).length !=0)=ao)(E:tok.length<=2^16)(G:F.prog=PR)(hB:BS F.w F.hB)(X:bS F (KK F.w.params) (aQ<|Hd.f1 20 6) 9):
 dc F [cY] (("nextchar",.str ⟨#[c]⟩)::rL es aj,rO l (.str ⟨#[97]⟩) tok n q) .brk (rL es aj,rO l (.str ⟨#[32]⟩) tok (n) q):=by
 have u:=fA tok;have H:(S tok).length<=2^24:=by omega
 have Q:=IG X;exact(ed X rfl _ _ _ (an:=[.a,.b ao,.b<|decide<|97∈(oS "'\"").cps.toList,.b ao,.b<|decide<|97∈(oS "\\").cps.toList,.b ao,.b<|[bq<|oS "a",bq<|oS "c"].any λ(y:eF)=>y.eqv<|bq ⟨#[97]⟩,.b aj,.a,.b<|decide<|c∈(oS " \t\x0d\n").cps.toList,.b aj,.a,.b ao,.a,.a,.a,.a]) (p:=_/\_/\_/\_/\_/\[V.str "a",V.str "c"].length<=2^24/\_/\_/\_/\_/\_/\_/\_/\_/\(_/\_/\_/\True)/\_) 'k' (Ff,(cI F 97<|oS "'\""),EM,(cI F 97<|oS "\\"),Fe,(ae rfl),Q,Fd,(g9 (mD c) rfl),(cI F c<|oS " \t\x0d\n"),D,H,U,@rfl _ FV.brk,(@rfl _<|ah<|V.str ⟨#[es]⟩,@rfl _<|ah<|V.bool aj,@rfl _<|ah<|V.ref 0,trivial),@rfl _<|rO l (V.str ⟨#[32]⟩) tok n q):_)
theorem WR(D:decide (c∈(aa " \t\r\n").cps.toList)=aj)(U:((S tok).length !=0)=ao)(E:tok.length<=2^16)(G:F.prog=PR)(hB:BS F.w F.hB)(X:bS F (KK F.w.params) (aQ<|Hd.f1 20 6) 9):
 dc F [cY] (("nextchar",.str ⟨#[c]⟩)::rL es ao,rO l (.str ⟨#[97]⟩) tok n q) .cont (rL es ao,rO l (.str ⟨#[32]⟩) tok (n) q):=by
 have u:=fA tok;have H:(S tok).length<=2^24:=by omega
 have Q:=IG X;exact(ed X rfl _ _ _ (an:=[.a,.b ao,.b<|decide<|97∈(oS "'\"").cps.toList,.b ao,.b<|decide<|97∈(oS "\\").cps.toList,.b ao,.b<|[bq<|oS "a",bq<|oS "c"].any λ(y:eF)=>y.eqv<|bq ⟨#[97]⟩,.b aj,.a,.b<|decide<|c∈(oS " \t\x0d\n").cps.toList,.b aj,.a,.b ao,.a,.a,.a,.a]) (p:=_/\_/\_/\_/\_/\[V.str "a",V.str "c"].length<=2^24/\_/\_/\_/\_/\_/\_/\_/\_/\(_/\_/\_/\True)/\_) 'k' (Ff,(cI F 97<|oS "'\""),EM,(cI F 97<|oS "\\"),Fe,(ae rfl),Q,Fd,(g9 (mD c) rfl),(cI F c<|oS " \t\x0d\n"),D,H,U,@rfl _ FV.cont,(@rfl _<|ah<|V.str ⟨#[es]⟩,@rfl _<|ah<|V.bool ao,@rfl _<|ah<|V.ref 0,trivial),@rfl _<|rO l (V.str ⟨#[32]⟩) tok n q):_)
theorem Q6(G:decide (c∈(aa " \t\r\n").cps.toList)=ao)(u:decide (c∈(aa "#").cps.toList)=aj)(U:((S tok).length !=0)=aj)(D:dB 551 5 [.ref 1] [] (rO l (.str ⟨#[97]⟩) tok n q) (.ok<|.str y) (rO l (.str ⟨#[97]⟩) tok n q'))(z:tok.length<=2^16)(E:F.prog=PR)(hB:BS F.w F.hB)(X:bS F (KK F.w.params) (aQ<|Hd.f1 20 6) 9):
 dc F [cY] (("nextchar",.str ⟨#[c]⟩)::rL es qd,rO l (.str ⟨#[97]⟩) tok n q) .brk (rL es qd,rO l (.str ⟨#[32]⟩) tok (n+1) q'):=by
 have j:=fA tok;have H:(S tok).length<=2^24:=by omega
 have Q:=IG X;exact(ed X rfl _ _ _ (an:=[.a,.b ao,.b<|decide<|97∈(oS "'\"").cps.toList,.b ao,.b<|decide<|97∈(oS "\\").cps.toList,.b ao,.b<|[bq<|oS "a",bq<|oS "c"].any λ(y:eF)=>y.eqv<|bq ⟨#[97]⟩,.b aj,.a,.b<|decide<|c∈(oS " \t\x0d\n").cps.toList,.b ao,.b<|decide<|c∈(oS "#").cps.toList,.b aj,.c (Oc.ok<|V.str y)<|rO l (V.str ⟨#[97]⟩) tok n q',.a,.b aj,.a]) (p:=_/\_/\_/\_/\_/\[V.str "a",V.str "c"].length<=2^24/\_/\_/\_/\_/\_/\_/\_/\(cL F 551 [V.ref 1] [bg aj (V.str ⟨#[97]⟩) (V.str<|S tok) n,bC (S l) q] (Oc.ok<|V.str y) [bg aj (V.str ⟨#[97]⟩) (V.str<|S tok) n,bC (S l) q'])/\_/\_/\_/\(_/\_/\_/\True)/\_) 'k' (Ff,(cI F 97<|oS "'\""),EM,(cI F 97<|oS "\\"),Fe,(ae rfl),Q,Fd,(g9 (mD c) rfl),(cI F c<|oS " \t\x0d\n"),G,(cI F c<|oS "#"),u,(uW X E hB D rfl 'k'),H,U,@rfl _ FV.brk,(@rfl _<|ah<|V.str ⟨#[es]⟩,@rfl _<|ah<|V.bool qd,@rfl _<|ah<|V.ref 0,trivial),@rfl _<|rO l (V.str ⟨#[32]⟩) tok (n+1) q'):_)
theorem Q5(G:decide (c∈(aa " \t\r\n").cps.toList)=ao)(u:decide (c∈(aa "#").cps.toList)=aj)(U:((S tok).length !=0)=ao)(D:dB 551 5 [.ref 1] [] (rO l (.str ⟨#[97]⟩) tok n q) (.ok<|.str y) (rO l (.str ⟨#[97]⟩) tok n q'))(z:tok.length<=2^16)(E:F.prog=PR)(hB:BS F.w F.hB)(X:bS F (KK F.w.params) (aQ<|Hd.f1 20 6) 9):
 dc F [cY] (("nextchar",.str ⟨#[c]⟩)::rL es aj,rO l (.str ⟨#[97]⟩) tok n q) .brk (rL es aj,rO l (.str ⟨#[32]⟩) tok (n+1) q'):=by
 have j:=fA tok;have H:(S tok).length<=2^24:=by omega
 have Q:=IG X;exact(ed X rfl _ _ _ (an:=[.a,.b ao,.b<|decide<|97∈(oS "'\"").cps.toList,.b ao,.b<|decide<|97∈(oS "\\").cps.toList,.b ao,.b<|[bq<|oS "a",bq<|oS "c"].any λ(y:eF)=>y.eqv<|bq ⟨#[97]⟩,.b aj,.a,.b<|decide<|c∈(oS " \t\x0d\n").cps.toList,.b ao,.b<|decide<|c∈(oS "#").cps.toList,.b aj,.c (Oc.ok<|V.str y)<|rO l (V.str ⟨#[97]⟩) tok n q',.a,.b ao,.a,.a,.a,.a]) (p:=_/\_/\_/\_/\_/\[V.str "a",V.str "c"].length<=2^24/\_/\_/\_/\_/\_/\_/\_/\(cL F 551 [V.ref 1] [bg aj (V.str ⟨#[97]⟩) (V.str<|S tok) n,bC (S l) q] (Oc.ok<|V.str y) [bg aj (V.str ⟨#[97]⟩) (V.str<|S tok) n,bC (S l) q'])/\_/\_/\_/\(_/\_/\_/\True)/\_) 'k' (Ff,(cI F 97<|oS "'\""),EM,(cI F 97<|oS "\\"),Fe,(ae rfl),Q,Fd,(g9 (mD c) rfl),(cI F c<|oS " \t\x0d\n"),G,(cI F c<|oS "#"),u,(uW X E hB D rfl 'k'),H,U,@rfl _ FV.brk,(@rfl _<|ah<|V.str ⟨#[es]⟩,@rfl _<|ah<|V.bool aj,@rfl _<|ah<|V.ref 0,trivial),@rfl _<|rO l (V.str ⟨#[32]⟩) tok (n+1) q'):_)
theorem Q4(G:decide (c∈(aa " \t\r\n").cps.toList)=ao)(u:decide (c∈(aa "#").cps.toList)=aj)(U:((S tok).length !=0)=ao)(D:dB 551 5 [.ref 1] [] (rO l (.str ⟨#[97]⟩) tok n q) (.ok<|.str y) (rO l (.str ⟨#[97]⟩) tok n q'))(z:tok.length<=2^16)(E:F.prog=PR)(hB:BS F.w F.hB)(X:bS F (KK F.w.params) (aQ<|Hd.f1 20 6) 9):
 dc F [cY] (("nextchar",.str ⟨#[c]⟩)::rL es ao,rO l (.str ⟨#[97]⟩) tok n q) .cont (rL es ao,rO l (.str ⟨#[32]⟩) tok (n+1) q'):=by
 have j:=fA tok;have H:(S tok).length<=2^24:=by omega
 have Q:=IG X;exact(ed X rfl _ _ _ (an:=[.a,.b ao,.b<|decide<|97∈(oS "'\"").cps.toList,.b ao,.b<|decide<|97∈(oS "\\").cps.toList,.b ao,.b<|[bq<|oS "a",bq<|oS "c"].any λ(y:eF)=>y.eqv<|bq ⟨#[97]⟩,.b aj,.a,.b<|decide<|c∈(oS " \t\x0d\n").cps.toList,.b ao,.b<|decide<|c∈(oS "#").cps.toList,.b aj,.c (Oc.ok<|V.str y)<|rO l (V.str ⟨#[97]⟩) tok n q',.a,.b ao,.a,.a,.a,.a]) (p:=_/\_/\_/\_/\_/\[V.str "a",V.str "c"].length<=2^24/\_/\_/\_/\_/\_/\_/\_/\(cL F 551 [V.ref 1] [bg aj (V.str ⟨#[97]⟩) (V.str<|S tok) n,bC (S l) q] (Oc.ok<|V.str y) [bg aj (V.str ⟨#[97]⟩) (V.str<|S tok) n,bC (S l) q'])/\_/\_/\_/\(_/\_/\_/\True)/\_) 'k' (Ff,(cI F 97<|oS "'\""),EM,(cI F 97<|oS "\\"),Fe,(ae rfl),Q,Fd,(g9 (mD c) rfl),(cI F c<|oS " \t\x0d\n"),G,(cI F c<|oS "#"),u,(uW X E hB D rfl 'k'),H,U,@rfl _ FV.cont,(@rfl _<|ah<|V.str ⟨#[es]⟩,@rfl _<|ah<|V.bool ao,@rfl _<|ah<|V.ref 0,trivial),@rfl _<|rO l (V.str ⟨#[32]⟩) tok (n+1) q'):_)
theorem NN(H:decide (c∈(aa " \t\r\n").cps.toList)=ao)(D:decide (c∈(aa "#").cps.toList)=ao)(U:decide (c∈(aa "'\"").cps.toList)=aj)(E:tok.length<=2^16)(G:F.prog=PR)(hB:BS F.w F.hB)(X:bS F (KK F.w.params) (aQ<|Hd.f1 20 6) 9):
 dc F [cY] (("nextchar",.str ⟨#[c]⟩)::rL es qd,rO l (.str ⟨#[97]⟩) tok n q) .next (rL es qd,rO l (.str ⟨#[c]⟩) tok (n) q):=by
 have Q:=IG X;exact(ed X rfl _ _ _ (an:=[.a,.b ao,.b<|decide<|97∈(oS "'\"").cps.toList,.b ao,.b<|decide<|97∈(oS "\\").cps.toList,.b ao,.b<|[bq<|oS "a",bq<|oS "c"].any λ(y:eF)=>y.eqv<|bq ⟨#[97]⟩,.b aj,.a,.b<|decide<|c∈(oS " \t\x0d\n").cps.toList,.b ao,.b<|decide<|c∈(oS "#").cps.toList,.b ao,.b ao,.a,.b<|decide<|c∈(oS "'\"").cps.toList,.b aj,.a]) (p:=_/\_/\_/\_/\_/\[V.str "a",V.str "c"].length<=2^24/\_/\_/\_/\_/\_/\_/\_/\_/\_/\_/\_/\(_/\_/\_/\True)/\_) 'k' (Ff,(cI F 97<|oS "'\""),EM,(cI F 97<|oS "\\"),Fe,(ae rfl),Q,Fd,(g9 (mD c) rfl),(cI F c<|oS " \t\x0d\n"),H,(cI F c<|oS "#"),D,JQ,(cI F c<|oS "'\""),U,@rfl _ FV.next,(@rfl _<|ah<|V.str ⟨#[es]⟩,@rfl _<|ah<|V.bool qd,@rfl _<|ah<|V.ref 0,trivial),@rfl _<|rO l (V.str ⟨#[c]⟩) tok n q):_)
theorem WV(U:decide (c∈(aa " \t\r\n").cps.toList)=ao)(G:decide (c∈(aa "#").cps.toList)=ao)(D:decide (c∈(aa "'\"").cps.toList)=ao)(E:decide (c∈(aa "\\").cps.toList)=aj)(H:c=92)(u:tok.length<=2^16)(z:F.prog=PR)(hB:BS F.w F.hB)(X:bS F (KK F.w.params) (aQ<|Hd.f1 20 6) 9):
 dc F [cY] (("nextchar",.str ⟨#[c]⟩)::rL es qd,rO l (.str ⟨#[97]⟩) tok n q) .next (rL 97 qd,rO l (.str ⟨#[92]⟩) tok (n) q):=by
 have j:=kZ tok [c];subst H;have Q:=IG X;exact(ed X rfl _ _ _ (an:=[.a,.b ao,.b<|decide<|97∈(oS "'\"").cps.toList,.b ao,.b<|decide<|97∈(oS "\\").cps.toList,.b ao,.b<|[bq<|oS "a",bq<|oS "c"].any λ(y:eF)=>y.eqv<|bq ⟨#[97]⟩,.b aj,.a,.b<|decide<|92∈(oS " \t\x0d\n").cps.toList,.b ao,.b<|decide<|92∈(oS "#").cps.toList,.b ao,.b ao,.a,.b<|decide<|92∈(oS "'\"").cps.toList,.b ao,.a,.a,.b<|decide<|92∈(oS "\\").cps.toList,.b aj,.a]) (p:=_/\_/\_/\_/\_/\[V.str "a",V.str "c"].length<=2^24/\_/\_/\_/\_/\_/\_/\_/\_/\_/\_/\_/\_/\_/\(_/\_/\_/\True)/\_) 'k' (Ff,(cI F 97<|oS "'\""),EM,(cI F 97<|oS "\\"),Fe,(ae rfl),Q,Fd,(g9 (mD 92) rfl),(cI F 92<|oS " \t\x0d\n"),U,(cI F 92<|oS "#"),G,JQ,(cI F 92<|oS "'\""),D,(cI F 92<|oS "\\"),E,@rfl _ FV.next,(@rfl _<|ah<|V.str ⟨#[97]⟩,@rfl _<|ah<|V.bool qd,@rfl _<|ah<|V.ref 0,trivial),@rfl _<|rO l (V.str ⟨#[92]⟩) tok n q):_)
theorem Q3(E:decide (c∈(aa " \t\r\n").cps.toList)=ao)(z:decide (c∈(aa "#").cps.toList)=ao)(G:decide (c∈(aa "'\"").cps.toList)=ao)(u:decide (c∈(aa "\\").cps.toList)=ao)(fd:decide (c∈(WC++xb).cps.toList)=aj)(U:tok.length<=2^16)(m:F.prog=PR)(hB:BS F.w F.hB)(X:bS F (KK F.w.params) (aQ<|Hd.f1 20 6) 9):
 dc F [cY] (("nextchar",.str ⟨#[c]⟩)::rL es qd,rO l (.str ⟨#[97]⟩) tok n q) .next (rL es qd,rO l (.str ⟨#[97]⟩) (tok++[c]) (n) q):=by
 have D:=fA tok;have j:=kZ tok [c];have Q:[bg aj (.str ⟨#[97]⟩) (.str<|S tok++⟨#[c]⟩) n,bC (S l) q]=rO l (.str ⟨#[97]⟩) (tok++[c]) (n) q:=by rw[j]
 have H:=IG X;exact(ed X rfl _ _ _ (an:=[.a,.b ao,.b<|decide<|97∈(oS "'\"").cps.toList,.b ao,.b<|decide<|97∈(oS "\\").cps.toList,.b ao,.b<|[bq<|oS "a",bq<|oS "c"].any λ(y:eF)=>y.eqv<|bq ⟨#[97]⟩,.b aj,.a,.b<|decide<|c∈(oS " \t\x0d\n").cps.toList,.b ao,.b<|decide<|c∈(oS "#").cps.toList,.b ao,.b ao,.a,.b<|decide<|c∈(oS "'\"").cps.toList,.b ao,.a,.a,.b<|decide<|c∈(oS "\\").cps.toList,.b ao,.a,.b<|decide<|c∈(WC++xb).cps.toList,.b aj,.a]) (p:=_/\_/\_/\_/\_/\[V.str "a",V.str "c"].length<=2^24/\_/\_/\_/\_/\_/\_/\_/\_/\_/\_/\_/\_/\_/\_/\(S tok).length+(⟨#[c]⟩:aF).length<=2^24/\_/\(_/\_/\_/\True)/\_) 'k' (Ff,(cI F 97<|oS "'\""),EM,(cI F 97<|oS "\\"),Fe,(ae rfl),H,Fd,(g9 (mD c) rfl),(cI F c<|oS " \t\x0d\n"),E,(cI F c<|oS "#"),z,JQ,(cI F c<|oS "'\""),G,(cI F c<|oS "\\"),u,(cI F c<|WC++xb),fd,(ai (au (ai (ar D) U)<|ar<|mD c)<|ae rfl),@rfl _ FV.next,(@rfl _<|ah<|V.str ⟨#[es]⟩,@rfl _<|ah<|V.bool qd,@rfl _<|ah<|V.ref 0,trivial),Q):_)
theorem WU(j:decide (c∈(aa " \t\r\n").cps.toList)=ao)(fc:decide (c∈(aa "#").cps.toList)=ao)(E:decide (c∈(aa "'\"").cps.toList)=ao)(m:decide (c∈(aa "\\").cps.toList)=ao)(fd:decide (c∈(WC++xb).cps.toList)=ao)(G:tok.length<=2^16)(u:F.prog=PR)(hB:BS F.w F.hB)(X:bS F (KK F.w.params) (aQ (Hd.f1 20 6)) 9):
 dc F [cY] (("nextchar",.str ⟨#[c]⟩)::rL es qd,rO l (.str ⟨#[97]⟩) tok n q) .next (rL es qd,rO l (.str ⟨#[97]⟩) (tok++[c]) (n) q):=by
 have z:(S tok).length=tok.length:=fA tok;have ap:S tok++(⟨#[c]⟩:aF)=S (tok++[c]):=kZ tok [c];have H:[bg aj (.str ⟨#[97]⟩) (.str (S tok++⟨#[c]⟩)) n,bC (S l) q]=rO l (.str ⟨#[97]⟩) (tok++[c]) (n) q:=by rw[ap]
 have Q:=pu (ws:=aj) X u hB;have D:=IG X;exact(ed X rfl _ _ _ (an:=[.a,.b ao,.b (decide (97∈(oS "'\"").cps.toList)),.b ao,.b (decide (97∈(oS "\\").cps.toList)),.b ao,.b ([bq (oS "a"),bq (oS "c")].any λ(y:eF)=>y.eqv (bq (⟨#[97]⟩:aF))),.b aj,.a,.b (decide (c∈(oS " \t\x0d\n").cps.toList)),.b ao,.b (decide (c∈(oS "#").cps.toList)),.b ao,.b ao,.a,.b (decide (c∈(oS "'\"").cps.toList)),.b ao,.a,.a,.b (decide (c∈(oS "\\").cps.toList)),.b ao,.a,.b (decide (c∈(WC++xb).cps.toList)),.b ao,.b (decide (c∈(oS "'\"").cps.toList)),.b ao,.a,.x (V.str "") [bg aj (V.str ⟨#[97]⟩) (V.str (S tok)) n,bC (S l) q],.b !decide (c∈(oS "").cps.toList),.b aj,.a,.a]) (p:=_/\_/\_/\_/\_/\[V.str "a",V.str "c"].length<=2^24/\_/\_/\_/\_/\_/\_/\_/\_/\_/\_/\_/\_/\_/\_/\_/\_/\EV F ((dg (oS "self") {line:=682,col:=121,endLine:=682,endCol:=125}).Attribute (oS "punctuation_chars") {line:=682,col:=121,endLine:=682,endCol:=143}) {loc:=[("nextchar",V.str ⟨#[c]⟩),("escapedstate",V.str ⟨#[es]⟩),("quoted",V.bool qd),("self",V.ref 0)],obs:=[bg aj (V.str ⟨#[97]⟩) (V.str (S tok)) n,bC (S l) q]} (V.str "") {loc:=[("nextchar",V.str ⟨#[c]⟩),("escapedstate",V.str ⟨#[es]⟩),("quoted",V.bool qd),("self",V.ref 0)],obs:=[bg aj (V.str ⟨#[97]⟩) (V.str (S tok)) n,bC (S l) q]}/\(∀(st:St),dO F st CmpOp.NotIn (V.str ⟨#[c]⟩) (V.str "") !decide (c∈(oS "").cps.toList))/\_/\(S tok).length+(⟨#[c]⟩:aF).length<=2^24/\_/\(_/\_/\_/\True)/\_) 'k' (Ff,(cI F 97 (oS "'\"")),EM,(cI F 97 (oS "\\")),Fe,(ae rfl),D,Fd,(g9 (mD c) rfl),(cI F c (oS " \t\x0d\n")),j,(cI F c (oS "#")),fc,JQ,(cI F c (oS "'\"")),E,(cI F c (oS "\\")),m,(cI F c (WC++xb)),fd,(cI F c (oS "'\"")),E,(Q _ _ _ _ _ _ _ rfl),(λU=>dO.aad),(zh2 c),(ai (au (ai (ar z) G) (ar (mD c))) (ae rfl)),@rfl _ FV.next,(@rfl _ (ah (V.str ⟨#[es]⟩)),@rfl _ (ah (V.bool qd)),@rfl _ (ah (V.ref 0)),trivial),H):_)
end
inductive W8 where
 |go (m:TM)
 |stop (m:TM)
 |err (m:TM)
noncomputable def yv(c:Nat):Bool:=c==32||c==9||c==13||c==10
noncomputable def ends(tok:List Nat)(qd:Bool):Bool:=!tok.isEmpty||qd
noncomputable def uI(b:Bool)(m:TM):W8:=if b then .stop m else .go m
noncomputable def JF(c:Nat):Bool:=!(yv c)&&c !=35&&c !=92&&c !=39&&c !=34
inductive eE (l:List Nat):TM ->W8 ->Prop where
 |xC {tok qd es p n} (h:l.length<=p):eE l (aC,tok,qd,es,p,n) (.stop (aC,[],qd,es,p,n))
 |yZ {tok qd es p n} (h:l.length<=p):eE l (ah 32,tok,qd,es,p,n) (.stop (aC,tok,qd,es,p,n))
 |OM {tok qd es p n c} (hc:l[p]? =ah c) (hw:yv c=aj):eE l (ah 32,tok,qd,es,p,n) (uI (ends tok qd) (ah 32,tok,qd,es,p+1,DX c n))
 |FO {tok qd es p n} (hc:l[p]? =ah 35) (hn:10∉l.drop (p+1)):eE l (ah 32,tok,qd,es,p,n) (.go (ah 32,tok,qd,es,l.length,n+1))
 |FT {tok qd es p n} (hc:l[p]? =ah 92):eE l (ah 32,tok,qd,es,p,n) (.go (ah 92,tok,qd,97,p+1,n))
 |FP {tok qd es p n c} (hc:l[p]? =ah c) (hq:c=39\/c=34):eE l (ah 32,tok,qd,es,p,n) (.go (ah c,tok,qd,es,p+1,n))
 |FQ {tok qd es p n c} (hc:l[p]? =ah c) (hq:JF c=aj):eE l (ah 32,tok,qd,es,p,n) (.go (ah 97,[c],qd,es,p+1,n))
 |Ck {tok qd es p n k} (hk:k=39\/k=34) (h:l.length<=p):eE l (ah k,tok,qd,es,p,n) (.err (ah k,tok,aj,es,p,n))
 |Cm {tok qd es p n k} (hk:k=39\/k=34) (hc:l[p]? =ah k):eE l (ah k,tok,qd,es,p,n) (.go (ah 97,tok,aj,es,p+1,n))
 |FJ {tok qd es p n c} (hc:l[p]? =ah c) (h:c≠39):eE l (ah 39,tok,qd,es,p,n) (.go (ah 39,tok++[c],aj,es,p+1,DX c n))
 |Il {tok qd es p n} (hc:l[p]? =ah 92):eE l (ah 34,tok,qd,es,p,n) (.go (ah 92,tok,aj,34,p+1,n))
 |Ik {tok qd es p n c} (hc:l[p]? =ah c) (h:c≠34) (h2:c≠92):eE l (ah 34,tok,qd,es,p,n) (.go (ah 34,tok++[c],aj,es,p+1,DX c n))
 |IT {tok qd es p n} (h:l.length<=p):eE l (ah 92,tok,qd,es,p,n) (.err (ah 92,tok,qd,es,p,n))
 |bsA {tok qd p n c} (hc:l[p]? =ah c):eE l (ah 92,tok,qd,97,p,n) (.go (ah 97,tok++[c],qd,97,p+1,DX c n))
 |QM {tok qd p n c} (hc:l[p]? =ah c) (h:c=92\/c=34):eE l (ah 92,tok,qd,34,p,n) (.go (ah 34,tok++[c],qd,34,p+1,DX c n))
 |IU {tok qd p n c} (hc:l[p]? =ah c) (h:c≠92) (h2:c≠34):eE l (ah 92,tok,qd,34,p,n) (.go (ah 34,tok++[92]++[c],qd,34,p+1,DX c n))
 |Rh {tok qd es p n} (h:l.length<=p):eE l (ah 97,tok,qd,es,p,n) (.stop (aC,tok,qd,es,p,n))
 |aWs {tok qd es p n c} (hc:l[p]? =ah c) (hw:yv c=aj):eE l (ah 97,tok,qd,es,p,n) (uI (ends tok qd) (ah 32,tok,qd,es,p+1,DX c n))
 |Q9 {tok qd es p n} (hc:l[p]? =ah 35) (hn:10∉l.drop (p+1)):eE l (ah 97,tok,qd,es,p,n) (uI (ends tok qd) (ah 32,tok,qd,es,l.length,n+1))
 |Rg {tok qd es p n} (hc:l[p]? =ah 92):eE l (ah 97,tok,qd,es,p,n) (.go (ah 92,tok,qd,97,p+1,n))
 |Ra {tok qd es p n c} (hc:l[p]? =ah c) (hq:c=39\/c=34):eE l (ah 97,tok,qd,es,p,n) (.go (ah c,tok,qd,es,p+1,n))
 |Rb {tok qd es p n c} (hc:l[p]? =ah c) (hq:JF c=aj):eE l (ah 97,tok,qd,es,p,n) (.go (ah 97,tok++[c],qd,es,p+1,n))
noncomputable def TurnOk(F:Fx)(l:List Nat)(m:TM):W8 ->Prop
 | .go Q=>dc F nf (m.L,m.O l) .next (Q.L,Q.O l)\/dc F nf (m.L,m.O l) .cont (Q.L,Q.O l)
 | .stop Q=>dc F nf (m.L,m.O l) .brk (Q.L,Q.O l)
 | .err Q=>dc F nf (m.L,m.O l) (.exc mE) (Q.L,Q.O l)
theorem NA(c:Nat):decide (c∈(aa " \t\r\n").cps.toList)=yv c:=by rw[show(aa " \t\r\n").cps.toList=[32,9,13,10]from 'k'];unfold yv;rw[eT];simp[or_assoc]
theorem R7(c:Nat):decide (c∈(aa "#").cps.toList)=(c==35):=by rw[show(aa "#").cps.toList=[35]from 'k'];rw[eT];simp
theorem R6(c:Nat):decide (c∈(aa "\\").cps.toList)=(c==92):=by rw[show(aa "\\").cps.toList=[92]from 'k'];rw[eT];simp
theorem d_q(c:Nat):decide (c∈(aa "'\"").cps.toList)=(c==39||c==34):=by rw[show(aa "'\"").cps.toList=[39,34]from 'k'];rw[eT];simp
theorem Fw(tok:List Nat):((S tok).length !=0)= !tok.isEmpty:=by rw[fA];cases tok<;>rfl
theorem Y0:decide (39∈(WC++xb).cps.toList)=ao:='k'
theorem Y1:decide (34∈(WC++xb).cps.toList)=ao:='k'
theorem oy(a b:Nat):((⟨#[a]⟩:aF)==⟨#[b]⟩)=(a==b):=one_beq a b rfl
theorem qt(a b:Nat):((⟨#[a]⟩:aF) !=⟨#[b]⟩)=(a !=b):=by show(!((⟨#[a]⟩:aF)==⟨#[b]⟩))= !(a==b);rw[oy]
section
variable{F:Fx} {l tok:List Nat} {qd:Bool} {c es q q' k:Nat} {n:Int} {y:aF}
theorem GH(Q:tok.length<=2^16)(H:F.prog=PR)(hB:BS F.w F.hB)(X:bS F (KK F.w.params) (aQ<|Hd.f1 20 6) 9):
 dc F [cY] (("nextchar",.str "")::rL es qd,rO l .none tok n q) .brk (rL es qd,rO l .none [] n q):=by
 exact(ed X rfl _ _ _ (an:=[.a]) (p:=_/\(_/\_/\_/\True)/\_) 'k' (@rfl _ FV.brk,(cy (@rfl _<|ah<|V.str (⟨#[es]⟩:aF)) (@rfl _<|ah<|V.bool qd) (@rfl _<|ah<|V.ref 0) trivial),@rfl _<|rO l V.none [] n q):_)
end
theorem GZ(h:(c==10)=ao):DX c n=n:=by unfold DX;rw[h];rfl
theorem n9(h:JF c=aj):yv c=ao/\(c==35)=ao/\(c==92)=ao/\(c==39||c==34)=ao/\(c==10)=ao:=by
 unfold JF at h;simp only[aw,dk,bne_iff_ne,ne_eq]at h;refine cH λu H=>?_;obtain⟨⟨⟨⟨Q,G⟩,E⟩,D⟩,U⟩:=h;refine H ?_;refine(eU Q (beq_eq_false_iff_ne.mpr G) (beq_eq_false_iff_ne.mpr E) ?_ ?_)
 .rw[beq_eq_false_iff_ne.mpr D,beq_eq_false_iff_ne.mpr U];rfl
 .unfold yv at Q;simp only[ka]at Q;exact Q.2
section
variable{F:Fx} {l:List Nat}
theorem turn(h:eE l m o)(U:m.tok.length<=2^16)(D:l.length<=2^16)(Q:F.prog=PR)(hB:BS F.w F.hB)(X:bS F (KK F.w.params) (aQ<|Hd.f1 20 6) 9):TurnOk F l m o:=by
 have u:=(NA 35).trans rfl;have w92:=(NA 92).trans rfl;have w39:=(NA 39).trans rfl;have w34:=(NA 34).trans rfl;have z:=(R7 35).trans rfl;have c92:=(R7 92).trans rfl;have c39:=(R7 39).trans rfl;have c34:=(R7 34).trans rfl;have e92:=(R6 92).trans rfl;have e39:=(R6 39).trans rfl;have e34:=(R6 34).trans rfl;have ZQ:=(d_q 92).trans rfl;cases h with
 |xC h=>exact wb h D Q hB X (GH U Q hB X)
 |yZ h=>exact wb h D Q hB X (OL U Q hB X)
 | @OM tok qd es p n c H hw=>
  have G:=(NA c).trans hw;unfold ends uI;have E:=Fw tok;cases j:tok.isEmpty with
  |false=>rw[j]at E;exact fS H D Q hB X (OH G E U Q hB X)
  |true=>
   rw[j]at E;cases qd with
   |true=>exact fS H D Q hB X (OG G E U Q hB X)
   |false=>exact .inr (fS H D Q hB X<|OF G E U Q hB X)
 | @FO tok qd es p n H hn=>
  refine eN (rX (d:=0) (l:=l) (p:=p+1) (by have:=(List.getElem?_eq_some_iff.mp H).1;assumption) hn D) λy hy=>?_;exact .inl (fS H D Q hB X<|OI u z (FN.frame hy [bg aj (.str ⟨#[32]⟩) (.str<|S tok) n]) U Q hB X)
 |FT H=>exact .inl (fS H D Q hB X<|OK w92 c92 e92 rfl U Q hB X)
 |FP H hq=>
  rcases hq with rfl|rfl
  .exact .inl (fS H D Q hB X<|FK w39 c39 e39 Y0 Ds U Q hB X)
  .exact .inl (fS H D Q hB X<|FK w34 c34 e34 Y1 JO U Q hB X)
 | @FQ tok qd es p n c H hq=>
  refine uP (n9 hq) λh1 h2 h3 h4 h5=>?_;have en:=GZ (n:=n) h5;have G:=(NA c).trans h1;have fc:=(R7 c).trans h2;have fe:=(R6 c).trans h3;have fq:=(d_q c).trans h4;refine .inl<|fS H D Q hB X ?_;show dc F [cY] (_,[bg aj _ _<|DX c n,_]) _ _;rw[en];cases fd:decide (c∈(WC++xb).cps.toList)with
  |true=>exact J7 G fc fe fd U Q hB X
  |false=>exact OJ G fc fe fd fq U Q hB X
 |Ck hk h=>
  rcases hk with rfl|rfl
  .exact wb h D Q hB X (OD U Q hB X)
  .exact wb h D Q hB X (Qs U Q hB X)
 |Cm hk H=>
  rcases hk with rfl|rfl
  .exact .inl (fS H D Q hB X<|OE ((oy 39 39).trans rfl) U Q hB X)
  .exact .inl (fS H D Q hB X<|Qt ((oy 34 34).trans rfl) U Q hB X)
 | @FJ tok qd es p n c H h=>
  have hb:=(oy c 39).trans<|beq_eq_false_iff_ne.mpr h;cases fe:decide (c∈(aa "\\").cps.toList)with
  |true=>exact .inl (fS H D Q hB X<|S6 fe hb U Q hB X)
  |false=>exact .inl (fS H D Q hB X<|OC fe hb U Q hB X)
 |Il H=>exact .inl (fS H D Q hB X<|VI e92 ((oy 92 34).trans rfl) rfl U Q hB X)
 | @Ik tok qd es p n c H h h2=>
  exact .inl (fS H D Q hB X<|Qr ((R6 c).trans<|beq_eq_false_iff_ne.mpr h2) ((oy c 34).trans<|beq_eq_false_iff_ne.mpr h) U Q hB X)
 |IT h=>exact wb h D Q hB X (QJ U Q hB X)
 |bsA H=>exact .inl (fS H D Q hB X<|abi U Q hB X)
 |QM H h=>
  rcases h with rfl|rfl
  .exact .inl (fS H D Q hB X<|QL ((qt 92 92).trans rfl) U Q hB X)
  .exact .inl (fS H D Q hB X<|QK ((qt 34 92).trans rfl) ((qt 34 34).trans rfl) U Q hB X)
 | @IU tok qd p n c H h h2=>
  exact .inl (fS H D Q hB X<|Wu ((qt c 92).trans<|bne_iff_ne.mpr h) ((qt c 34).trans<|bne_iff_ne.mpr h2) U Q hB X)
 |Rh h=>exact wb h D Q hB X (WW U Q hB X)
 | @aWs tok qd es p n c H hw=>
  have G:=(NA c).trans hw;unfold ends uI;have E:=Fw tok;cases j:tok.isEmpty with
  |false=>rw[j]at E;exact fS H D Q hB X (WT G E U Q hB X)
  |true=>
   rw[j]at E;cases qd with
   |true=>exact fS H D Q hB X (WS G E U Q hB X)
   |false=>exact .inr (fS H D Q hB X<|WR G E U Q hB X)
 | @Q9 tok qd es p n H hn=>
  refine eN (rX (d:=0) (l:=l) (p:=p+1) (by have:=(List.getElem?_eq_some_iff.mp H).1;assumption) hn D) λy hy=>?_;have hy' :=FN.frame hy [bg aj (.str ⟨#[97]⟩) (.str<|S tok) n];unfold ends uI;have E:=Fw tok;cases j:tok.isEmpty with
  |false=>rw[j]at E;exact fS H D Q hB X (Q6 u z E hy' U Q hB X)
  |true=>
   rw[j]at E;cases qd with
   |true=>exact fS H D Q hB X (Q5 u z E hy' U Q hB X)
   |false=>exact .inr (fS H D Q hB X<|Q4 u z E hy' U Q hB X)
 |Rg H=>exact .inl (fS H D Q hB X<|WV w92 c92 ZQ e92 rfl U Q hB X)
 |Ra H hq=>
  rcases hq with rfl|rfl
  .exact .inl (fS H D Q hB X<|NN w39 c39 Ds U Q hB X)
  .exact .inl (fS H D Q hB X<|NN w34 c34 JO U Q hB X)
 | @Rb tok qd es p n c H hq=>
  refine uP (n9 hq) λh1 h2 h3 h4 h5=>?_;have en:=GZ (n:=n) h5;have G:=(NA c).trans h1;have fc:=(R7 c).trans h2;have fe:=(R6 c).trans h3;have fq:=(d_q c).trans h4;refine .inl<|fS H D Q hB X ?_;show dc F [cY] (_,[bg aj _ _<|DX c n,_]) _ _;rw[en];cases fd:decide (c∈(WC++xb).cps.toList)with
  |true=>exact Q3 G fc fq fe fd U Q hB X
  |false=>exact WU G fc fq fe fd U Q hB X
end
inductive pC (l:List Nat):TM ->Bool ->TM ->Prop where
 |stop {m m' :TM} (h:eE l m (.stop m')):pC l m ao m'
 |err {m m' :TM} (h:eE l m (.err m')):pC l m aj m'
 |go {m m' m'' :TM} {b:Bool} (h:eE l m (.go m')) (r:pC l m' b m''):pC l m b m''
def TM.inv(l:List Nat)(m:TM):Prop:=m.tok.length+(if m.st=ah 92 then 1 else 0)<=m.p/\m.p<=l.length
noncomputable def W8.Ig(l:List Nat):W8 ->Prop
 | .go m=>m.inv l
 | .stop m=>m.p<=l.length/\m.tok.length<=m.p/\(m.st=aC\/m.st=ah 32)
 | .err _=>True
theorem pk(a:m.inv l)(c:m.st=aC\/m.st=ah 32):(uI b m).Ig l:=by
 cases b
 .exact a
 .exact(a.2,ai (a9 ..) a.1,c)
theorem o8(h:l.length+1<=p):(l++[c]).length<=p:=by rw[aD];exact h
theorem eE.Ig(h:eE l m o):m.inv l ->o.Ig l:=by
 have lt:∀{p c:Nat},l[p]? =ah c ->p+1<=l.length:=λh=>(List.getElem?_eq_some_iff.mp h).1;cases h with
 |xC=>exact λi=>(i.2,bH _,.inl rfl)
 |yZ=>exact λi=>(i.2,i.1,.inl rfl)
 |OM Q=>exact λi=>pk (ba i.1,lt Q) (.inr rfl)
 |FO=>exact λi=>(ai i.1 i.2,aJ _)
 |FT Q=>exact λi=>(bE i.1,lt Q)
 |FP Q H=>rcases H with rfl|rfl<;>exact λi=>(ba i.1,lt Q)
 |FQ Q=>exact λi=>(bE<|bH _,lt Q)
 |Ck=>exact λU=>trivial
 |Cm D Q=>rcases D with rfl|rfl<;>exact λi=>(ba i.1,lt Q)
 |FJ Q=>exact λi=>(o8<|bE i.1,lt Q)
 |Il Q=>exact λi=>(bE i.1,lt Q)
 |Ik Q=>exact λi=>(o8<|bE i.1,lt Q)
 |IT=>exact λU=>trivial
 |bsA Q=>exact λi=>(o8<|ba i.1,lt Q)
 |QM Q h=>rcases h with rfl|rfl<;>exact λi=>(o8<|ba i.1,lt Q)
 |IU Q=>exact λi=>(o8<|bE<|o8 i.1,lt Q)
 |Rh=>exact λi=>(i.2,i.1,.inl rfl)
 |aWs Q=>exact λi=>pk (ba i.1,lt Q) (.inr rfl)
 |Q9=>exact λi=>pk (ai i.1 i.2,aJ _) (.inr rfl)
 |Rg Q=>exact λi=>(bE i.1,lt Q)
 |Ra Q H=>rcases H with rfl|rfl<;>exact λi=>(ba i.1,lt Q)
 |Rb Q=>exact λi=>(o8<|bE i.1,lt Q)
theorem eE.inv(h:eE l m (.go m'))(i:m.inv l):m'.inv l:=h.Ig i
noncomputable def yR:aW:=XH<|rtB[2]?
section
variable{F:Fx} {l:List Nat}
theorem CG(h:pC l m b m')(i:m.inv l)(H:l.length<=2^16)(Q:F.prog=PR)(hB:BS F.w F.hB)(X:bS F (KK F.w.params) (aQ<|Hd.f1 20 6) 9):WH F yR nf (m.L,m.O l) (if b then .exc mE else .next) (m'.L,m'.O l):=by
 have T:∀st,TV F yR st aj st:=λst=>by exact(tV X rfl (an:=[]) (p:=_/\_) 'k' (@rfl _ aj,@rfl _ st.obs):_)
 induction h with
 |stop h=>exact WH.brk (T _) rfl (turn h (by have:=i.1;have:=i.2;lia) H Q hB X)
 |err h=>exact WH.exc (T _) rfl (turn h (by have:=i.1;have:=i.2;omega) H Q hB X)
 |go h r U=>
  have t:=turn h (by have:=i.1;have:=i.2;omega) H Q hB X;rcases t with t|t
  .exact WH.next (T _) rfl t (U<|h.inv i)
  .exact WH.cont (T _) rfl t (U<|h.inv i)
end
noncomputable def DC(m:TM):V:=if !m.qd&&m.tok.isEmpty then .none else .str (S m.tok)
section
variable{l tok:List Nat} {st:Option Nat} {p:Nat} {n:Int} {m' :TM}
theorem HM(h:pC l (st,tok,ao,32,p,n) aj m')(i:TM.inv l (st,tok,ao,32,p,n))(U:l.length<=2^16):
 dB 700 10 [.ref 0] [] (rO l (kr st) tok n p) (.exc mE) (rO l (kr m'.st) m'.tok m'.ln m'.p):=by
 refine FN.cu (d:=9) (ab:=[("self",.ref 0)]) Nq NF 'k' (bind1 λP S u=>'k') λF H hB X Y=>?_;have Q:WH F yR nf (rL 32 ao,rO l (kr st) tok n p) (.exc mE) (rL m'.es m'.qd,rO l (kr m'.st) m'.tok m'.ln m'.p):=CG h i U H hB X;exact(run X rfl (an:=[.l (FV.exc mE) {loc:=[("escapedstate",V.str (⟨#[m'.es]⟩:aF)),("quoted",V.bool m'.qd),("self",V.ref 0)],obs:=[bg aj (kr m'.st) (V.str<|S m'.tok) m'.ln,bC (S l) m'.p]}]) (p:=_/\_/\_/\_) 'k' (cy Y (Q) (@rfl _<|Oc.exc mE)<|@rfl _<|rO l (kr m'.st) m'.tok m'.ln m'.p):_)
theorem CY(h:pC l (st,tok,ao,32,p,n) ao m')(i:TM.inv l (st,tok,ao,32,p,n))(hl:l.length<=2^16)(ht:m'.tok.length<=2^16):
 dB 700 10 [.ref 0] [] (rO l (kr st) tok n p) (.ok<|DC m') [bg aj (kr m'.st) (.str "") m'.ln,bC (S l) m'.p]:=by
 refine FN.cu (d:=9) (ab:=[("self",.ref 0)]) Nq NF 'k' (bind1 λP S u=>'k') λF hp hB X Y=>?_;have y:WH F yR nf (rL 32 ao,rO l (kr st) tok n p) .next (rL m'.es m'.qd,rO l (kr m'.st) m'.tok m'.ln m'.p):=CG h i hl hp hB X;have m:(S m'.tok=="")=m'.tok.isEmpty:=by rw[show("":aF)=S []from 'k',NS];cases m'.tok<;>rfl
 obtain⟨H,Q,G,U,D,E⟩:=m';have y:WH F yR nf (rL 32 ao,rO l (kr st) tok n p) .next (rL U G,rO l (kr H) Q E D):=y;unfold DC;cases G with
 |true=>
  exact(run X rfl (an:=[.l FV.next {loc:=[("escapedstate",V.str (⟨#[U]⟩:aF)),("quoted",V.bool aj),("self",V.ref 0)],obs:=[bg aj (kr H) (V.str<|S Q) E,bC (S l) D]},.a,.a,.a,.a]) (p:=_/\_/\_/\_) 'k' (cy Y (y) (@rfl _<|Oc.ok<|V.str<|S Q)<|@rfl _ [bg aj (kr H) (V.str "") E,bC (S l) D]):_)
 |false=>
  cases j:Q.isEmpty with
  |true=>
   have z:(S Q=="")=_:=m.trans j;exact(run X rfl (an:=[.l FV.next {loc:=[("escapedstate",V.str (⟨#[U]⟩:aF)),("quoted",V.bool ao),("self",V.ref 0)],obs:=[bg aj (kr H) (V.str<|S Q) E,bC (S l) D]},.a,.a,.b aj,.a,.a]) (p:=_/\_/\_/\_/\_) 'k' (eU Y (y) z (@rfl _<|Oc.ok V.none)<|@rfl _ [bg aj (kr H) (V.str "") E,bC (S l) D]):_)
  |false=>
   have z:(S Q=="")=_:=m.trans j;exact(run X rfl (an:=[.l FV.next {loc:=[("escapedstate",V.str (⟨#[U]⟩:aF)),("quoted",V.bool ao),("self",V.ref 0)],obs:=[bg aj (kr H) (V.str<|S Q) E,bC (S l) D]},.a,.a,.b ao,.a,.a]) (p:=_/\_/\_/\_/\_) 'k' (eU Y (y) z (@rfl _<|Oc.ok<|V.str<|S Q)<|@rfl _ [bg aj (kr H) (V.str "") E,bC (S l) D]):_)
end
noncomputable def Yj:aW:=XH (eA<|Hd.f1 20 5)[3]?
noncomputable def gtB:List cn:=YZ (eA<|Hd.f1 20 5)[3]?
section
variable{s t s' t' :V} {n n' :Int} {r r' :List O} {x:aF} {e:Ex}
theorem fn_get(h:dB 700 10 [.ref 0] [] (bg aj s t n::r) (.ok<|.str x) (bg aj s' t' n' ::r')):dB 693 11 [.ref 0] [] (bg aj s t n::r) (.ok<|.str x) (bg aj s' t' n' ::r'):=by
 refine FN.cu (d:=10) (ab:=[("self",.ref 0)]) Ic ID 'k' (bind1 λP S u=>'k') λF U hB X Y=>?_;have H:TV F Yj ([("raw",.str x),("self",.ref 0)],bg aj s' t' n' ::r') ao ([("raw",.str x),("self",.ref 0)],bg aj s' t' n' ::r'):=by exact(tV X rfl (an:=[]) (p:=_/\_) 'k' (@rfl _ ao,@rfl _ (bg aj s' t' n' ::r')):_)
 have Q:WH F Yj gtB ([("raw",.str x),("self",.ref 0)],bg aj s' t' n' ::r') .next ([("raw",.str x),("self",.ref 0)],bg aj s' t' n' ::r'):=WH.done H rfl;exact(run X rfl (an:=[.a,.c (Oc.ok<|V.str x) (bg aj s' t' n' ::r'),.a,.l FV.next {loc:=[("raw",V.str x),("self",V.ref 0)],obs:=bg aj s' t' n' ::r'},.a]) (p:=(cL F 700 [V.ref 0] (bg aj s t n::r) (Oc.ok<|V.str x) (bg aj s' t' n' ::r'))/\_/\_/\_/\_) 'k' (eU (uW X U hB h rfl 'k') Y (Q) (@rfl _<|Oc.ok<|V.str x)<|@rfl _ (bg aj s' t' n' ::r')):_)
theorem Ln(h:dB 700 10 [.ref 0] [] (bg aj s t n::r) (.ok .none) (bg aj s' t' n' ::r')):dB 693 11 [.ref 0] [] (bg aj s t n::r) (.ok .none) (bg aj s' t' n' ::r'):=by
 refine FN.cu (d:=10) (ab:=[("self",.ref 0)]) Ic ID 'k' (bind1 λP S u=>'k') λF U hB X Y=>?_;have H:TV F Yj ([("raw",.none),("self",.ref 0)],bg aj s' t' n' ::r') aj ([("raw",.none),("self",.ref 0)],bg aj s' t' n' ::r'):=by exact(tV X rfl (an:=[]) (p:=_/\_) 'k' (@rfl _ aj,@rfl _ (bg aj s' t' n' ::r')):_)
 have D:dc F gtB ([("raw",.none),("self",.ref 0)],bg aj s' t' n' ::r') (.ret .none) ([("raw",.none),("self",.ref 0)],bg aj s' t' n' ::r'):=by exact(ed X rfl _ _ _ (an:=[.a]) (p:=_/\(_/\_/\True)/\_) 'k' (@rfl _<|FV.ret V.none,(@rfl _<|ah V.none,@rfl _<|ah<|V.ref 0,trivial),@rfl _ (bg aj s' t' n' ::r')):_)
 have Q:WH F Yj gtB ([("raw",.none),("self",.ref 0)],bg aj s' t' n' ::r') (.ret .none) ([("raw",.none),("self",.ref 0)],bg aj s' t' n' ::r'):=WH.ret H rfl D;exact(run X rfl (an:=[.a,.c (Oc.ok V.none) (bg aj s' t' n' ::r'),.a,.l (FV.ret V.none) {loc:=[("raw",V.none),("self",V.ref 0)],obs:=bg aj s' t' n' ::r'}]) (p:=(cL F 700 [V.ref 0] (bg aj s t n::r) (Oc.ok V.none) (bg aj s' t' n' ::r'))/\_/\_/\_/\_) 'k' (eU (uW X U hB h rfl 'k') Y (Q) (@rfl _<|Oc.ok V.none)<|@rfl _ (bg aj s' t' n' ::r')):_)
theorem Lm(h:dB 700 10 [.ref 0] [] (bg aj s t n::r) (.exc e) (bg aj s' t' n' ::r')):dB 693 11 [.ref 0] [] (bg aj s t n::r) (.exc e) (bg aj s' t' n' ::r'):=by refine FN.cu (d:=10) (ab:=[("self",.ref 0)]) Ic ID 'k' (bind1 λP S u=>'k') λF Q hB X Y=>?_;exact(run X rfl (an:=[.a,.c (Oc.exc e) (bg aj s' t' n' ::r')]) (p:=(cL F 700 [V.ref 0] (bg aj s t n::r) (Oc.exc e) (bg aj s' t' n' ::r'))/\_/\_) 'k' ((uW X Q hB h rfl 'k'),@rfl _<|Oc.exc e,@rfl _ (bg aj s' t' n' ::r')):_)
end
section
variable{s t s' t' :V} {n n' :Int} {r r' :List O} {x:aF} {e:Ex}
noncomputable abbrev RF:Ex:=(.type "StopIteration",[])
theorem Li(h:dB 693 11 [.ref 0] [] (bg aj s t n::r) (.ok<|.str x) (bg aj s' t' n' ::r')):dB 729 12 [.ref 0] [] (bg aj s t n::r) (.ok<|.str x) (bg aj s' t' n' ::r'):=by refine FN.cu (d:=11) (ab:=[("self",.ref 0)]) Ib IB 'k' (bind1 λP S u=>'k') λF Q hB X Y=>?_;exact(run X rfl (an:=[.c (Oc.ok<|V.str x) (bg aj s' t' n' ::r'),.a]) (p:=(cL F 693 [V.ref 0] (bg aj s t n::r) (Oc.ok<|V.str x) (bg aj s' t' n' ::r'))/\_/\_) 'k' ((uW X Q hB h rfl 'k'),@rfl _<|Oc.ok<|V.str x,@rfl _ (bg aj s' t' n' ::r')):_)
theorem HR(h:dB 693 11 [.ref 0] [] (bg aj s t n::r) (.ok .none) (bg aj s' t' n' ::r')):dB 729 12 [.ref 0] [] (bg aj s t n::r) (.exc RF) (bg aj s' t' n' ::r'):=by refine FN.cu (d:=11) (ab:=[("self",.ref 0)]) Ib IB 'k' (bind1 λP S u=>'k') λF E hB X Y=>?_;have H:∀(D Q:si) (st:St),EX F (.Raise (ah<|.Name "StopIteration" D) aC Q) st (.exc RF) st:=λU U U=>EX.DM X (by exact aM ..) rfl 'k' 'k' 'k' 'k';exact(run X rfl (an:=[An.c (Oc.ok V.none) (bg aj s' t' n' ::r'),An.a,An.s (FV.exc RF) {loc:=[(aa "token",V.none),(aa "self",V.ref 0)],obs:=bg aj s' t' n' ::r'}]) (p:=(cL F 693 [V.ref 0] (bg aj s t n::r) (Oc.ok V.none) (bg aj s' t' n' ::r'))/\EX F (xd (ah<|dg (aa "StopIteration") {line:=723,col:=18,endLine:=723,endCol:=31}) aC {line:=723,col:=12,endLine:=723,endCol:=31}) {loc:=[(aa "token",V.none),(aa "self",V.ref 0)],obs:=bg aj s' t' n' ::r'} (FV.exc RF) {loc:=[(aa "token",V.none),(aa "self",V.ref 0)],obs:=bg aj s' t' n' ::r'}/\Oc.exc RF=Oc.exc RF/\bg aj s' t' n' ::r' =bg aj s' t' n' ::r') 'k' (cy (uW X E hB h rfl 'k') (H _ _ _) rfl rfl):_)
theorem HQ(h:dB 693 11 [.ref 0] [] (bg aj s t n::r) (.exc e) (bg aj s' t' n' ::r')):dB 729 12 [.ref 0] [] (bg aj s t n::r) (.exc e) (bg aj s' t' n' ::r'):=by refine FN.cu (d:=11) (ab:=[("self",.ref 0)]) Ib IB 'k' (bind1 λP S u=>'k') λF Q hB X Y=>?_;exact(run X rfl (an:=[.c (Oc.exc e) (bg aj s' t' n' ::r')]) (p:=(cL F 693 [V.ref 0] (bg aj s t n::r) (Oc.exc e) (bg aj s' t' n' ::r'))/\_/\_) 'k' ((uW X Q hB h rfl 'k'),@rfl _<|Oc.exc e,@rfl _ (bg aj s' t' n' ::r')):_)
theorem x1{st Q:St}(h:dc F B st (.ret v) Q):∃fl st₁,dc F B st fl st₁/\fl.oc= .ok v/\st₁.obs=Q.obs:=(ek _ _ h rfl rfl)
theorem CZ:dB 722 3 [.ref 0] [] obs (.ok<|.ref 0) obs:=by refine FN.cu (d:=2) (ab:=[("self",.ref 0)]) Vq Wm 'k' (bind1 λP S u=>'k') λF Q hB X Y=>?_;exact x1<|dc.stop (EX.ret<|EV.loc X rfl 'k') rfl
end
section
variable{M:yC} {A:fR} {E:aK ->aS ->Prop} {s:aS} {K:hJ} {x C L f:aA} {ox:gy} {od:Option gy}
theorem KU(X:K.In s.heap)(I:InstAt s.heap x ox C od)(j:findIn K (.ref C) "__iter__"=ah (ah<|.ref f))(m:typeIn K (.ref f)=ah (.type "function"))(h:wpAny M A (call (.ref f) [.ref x]) (Jv M A Q E) E s):wpAny M A (pyIter<|.ref x) Q E s:=by
 have fin:wpAny M A (call (.ref f) [.ref x]>>=λv=>pure<|ah v) (λr D=>∃v,r=ah v/\Jv M A Q E v D) E s:=
  ak (aq h (λv D h' =>ay<|bM v rfl h') i3)
 have one:∀H:Sem aK,wpAny M A (callSpecialIfBoundUnlessNone? (.ref x) "__iter__" H) (λr D=>∃v,r=ah v/\Jv M A Q E v D) E s:=by
  intro H;unfold callSpecialIfBoundUnlessNone? bindSpecialIfBound?;refine bo<|ak<|ak<|ak<|I.type.here<|(ew X j).here ?_;refine ak<|yk<|wpAny_ite ?_;have U:wpAny M A (if(cg f==dU)=aj then(H>>=λv=>pure<|ah v)else(call (.ref f) [.ref x]>>=λv=>pure<|ah v)) (λr D=>∃v,r=ah v/\Jv M A Q E v D) E s:=by rw[if_neg<|show¬((cg f==dU)=aj)from Fb];exact fin
  split
  .exact ak ((bind_fn X _ m).here<|ay<|by exact U)
  .exact wpAny_tryCatch (ak<|(bind_fn X _ m).here<|ay<|by exact U)
 skip;refine ak<|ak<|I.type.here<|(ew X j).here ?_;skip;refine ak<|aq (one _) (λr D G=>?_) i3;(refine aR G λv u hv=>?_;clear G;subst u);refine ak<|aq hv (λr z G=>?_) i3;cases r with
 |none=>exact G.elim
 |some g=>exact ay G
theorem Uq(X:K.In s.heap)(I:InstAt s.heap x ox C od)(H:findIn K (.ref C) "__next__"=ah (ah g))(h:Q (.ref x) s):Jv M A Q E (.ref x) s:=by unfold Jv;exact ak<|I.type.here<|(ew X H).here h
theorem xD(X:K.In s.heap)(I:InstAt s.heap x ox C od)(D:findIn K (.ref C) "__next__"=ah (ah<|.ref f))(u:typeIn K (.ref f)=ah (.type "function"))(h:wpAny M A (call (.ref f) [.ref x]) (λv s' =>Q (ah v) s') (OwitStop M A Q E) s):wpAny M A (pyNext<|.ref x) Q E s:=by
 skip;refine ak<|wpAny_attempt<|Rw (name:="__next__") (args:=[]) X I D u<|aq h (λv s' G=>?_) (λe s' z=>?_)
 .exact ay G
 .refine ak (aq z (λb H U=>?_) i3);cases b with
  |true=>exact ay U
  |false=>exact wpAny_throw U
end
inductive Aw (i:Nat) (nx e:Nat):List O ->List V ->Option Ex ->List O ->Prop where
 |stop {obs cS:List O} (h:dB nx e [.ref i] [] obs (.exc (.type "StopIteration",[])) cS):Aw i nx e obs [] aC cS
 |exc {obs cS:List O} (h:dB nx e [.ref i] [] obs (.exc (.type "ValueError",[])) cS):Aw i nx e obs [] (ah (.type "ValueError",[])) cS
 |next{obs cS MJ:List O} {v:V} {vs:List V} {r:Option Ex} (h:dB nx e [.ref i] [] obs (.ok v) cS) (hc:∃C a,objOf ([],cS) (.ref i)=ah (C,a)/\C=732) (n:Aw i nx e cS vs r MJ):Aw i nx e obs (v::vs) r MJ
theorem Us(P:aB):findIn (KK P) (.ref 732) "__iter__"=ah (ah<|.ref 722):='k'
theorem Cs(P:aB):findIn (KK P) (.ref 732) "__next__"=ah (ah<|.ref 729):='k'
theorem SJ(P:aB):typeIn (KK P) (.ref 722)=ah (.type "function"):='k'
theorem Ft(P:aB):typeIn (KK P) (.ref 729)=ah (.type "function"):='k'
theorem GI(P:aB):findIn (KK P) (.ref 732) "__len__"=ah aC:='k'
theorem DS(P:aB):findIn (KK P) (.ref 732) "__length_hint__"=ah aC:='k'
theorem S9:isSubtype (.type "StopIteration") (.type "StopIteration")=pure aj:=by rw[eW];kernel_rfl
theorem SD:isSubtype (.type "ValueError") (.type "StopIteration")=pure ao:=by rw[eW];kernel_rfl
section
variable{F:Fx} {sc:cJ} {d e:Nat} {loc:List (aF×V)} {obs cS fi:List O} {i:Nat} {ρ cO:List (aA×aA)} {P P' :aA ->Prop} {s s₀:aS} {S y:aA} {A:fR}
def abB(F:Fx)(loc:List (aF×V))(S:aA)(ρ:List (aA×aA))(P:aA ->Prop)(s₀:aS)(vs:List V)(r:Option Ex)(cS:List O)(Q:rJ)(s' :aS):Prop:=match r with
 |none=>Q= .ok (.ret .none)/\∃cO P',Inv F (loc,cS) cO P' s' /\eH F.fr kP ρ cO P P' s₀.heap s'.heap/\R (F.fw s' cO P') (.lst vs) (.ref S)
 |some x=>∃cO P' a H es,Q= .error (.ref a)/\Inv F (loc,cS) cO P' s' /\eH F.fr kP ρ cO P P' s₀.heap s'.heap/\NP (F.fw s' cO P') s₀.heap (ah .none) x a H es
set_option tactic.hygienic true in
theorem Kr (hp : F.prog = PR) (hB : BS F.w F.hB) (kb : KB (KK F.w.params) F.hB) (hA : Cx A.in1 F.fr e) (hNo : ¬ P S) (K8 : s₀.heap.get? S = aC) (hn : Aw i 729 e obs vs r cS) : ∀ (ws : List V) (cO : List (aA × aA)) (P' : aA → Prop) (s : aS) (m : Array aK) (c : Nat) (y : aA), ws.length + vs.length ≤ 2 ^ 20 → Inv F ⟨loc, obs⟩ cO P' s → eH F.fr kP ρ cO P P' s₀.heap s.heap → Apart F cO P' S →
      s.heap.get? S = ah { cls := .type "list", dict := aC, data := .seq m c, slots := #[] } → RL (F.fw s cO P') ws m.toList → (∃ C a, objOf ⟨[], obs⟩ (.ref i) = ah (C, a) ∧ C = 732) → R (F.fw s cO P') (.ref i) (.ref y) →
      codeAny F.M A (.builtin "list.extend.loop" ⟨[.ref S, .ref y, .none], []⟩) (abB F loc S ρ P s₀ (ws ++ vs) r cS) s := by
  induction hn with
  | stop h =>
    intro ws cO P' s m c y hz I Du ap hS hr ⟨C, a, ho, hC⟩ ry
    subst hC
    refine cH fun Gq kq => ?_
    refine ej (iG (st := ⟨loc, _⟩) I (by exact ho) ry) fun y' ox dx es n e1 IA R4 MF => ?_
    refine kq ?_
    cases e1
    have XK := I.rh kb
    refine hH kR ?_
    rw [jS fC _]
    skip
    refine ak (xD XK IA (Cs _) (Ft _) (dP ?_))
    have h' := h
    unfold dB at h'
    rw [← hp] at h'
    refine eR (h' F.w F.hB F.fr _ F.os cO P' s hB hA I.toHInv [.ref y] [] (ek _  []  rfl  ry  rfl) rfl) fun rr H z => ?_
    refine cH fun Gq kq => ?_
    (refine z.go fun D j BJ Q zR => ?_; clear z; refine bl zR fun LR oe Mw YU Dr => ?_; clear zR; subst YU)
    refine kq ?_
    have jj := I.after BJ Q
    skip
    skip
    refine yj (T := "StopIteration") (show H.TypeIs (.ref LR) "StopIteration" from (bM oe  Dr.at_  Dr.cls)) S9 ?_
    rw [if_pos rfl]
    refine ay ?_
    have G := ap.step Q hS
    have ux : H.heap.get? S = ah { cls := .type "list", dict := aC, data := .seq m c, slots := #[] } := Q.keep _ _ hS ap.v (fun q => q) ap.f ap.g
    have A7 := RL.mono (I.toHInv.le Q pV) _ _ hr
    have jX := jj.ig (s' := H) G (fun U U U e => e) rfl rfl
    refine (gJ rfl  D  _  jX  ((Du.trans Q).ig K8 hNo (fun U U U e => e))  ?_)
    rw [cb]
    exact (e8 S  _  m  c  rfl  ux  rfl  rfl  (fun q => q.2 rfl)  (RL.mono (σ := F.fw H D j) (τ := F.fw H D fun b => j b ∧ b ≠ S) ⟨rfl, fun U U e U => e, fun U U e => e, fun U q => .inl q.1⟩ _ _ A7))
  | exc h =>
    intro ws cO P' s m c y hz I Du ap hS hr ⟨C, a, ho, hC⟩ ry
    subst hC
    refine cH fun Gq kq => ?_
    refine ej (iG (st := ⟨loc, _⟩) I (by exact ho) ry) fun y' ox dx es n e1 IA R4 MF => ?_
    refine kq ?_
    cases e1
    have XK := I.rh kb
    refine hH kR ?_
    rw [jS fC _]
    skip
    refine ak (xD XK IA (Cs _) (Ft _) (dP ?_))
    have h' := h
    unfold dB at h'
    rw [← hp] at h'
    refine eR (h' F.w F.hB F.fr _ F.os cO P' s hB hA I.toHInv [.ref y] [] (ek _  []  rfl  ry  rfl) rfl) fun rr H z => ?_
    refine cH fun Gq kq => ?_
    (refine z.go fun D j BJ Q zR => ?_; clear z; refine bl zR fun LR oe Mw YU Dr => ?_; clear zR; subst YU)
    refine kq ?_
    have jj := I.after BJ Q
    skip
    skip
    refine yj (T := "ValueError") (show H.TypeIs (.ref LR) "ValueError" from (bM oe  Dr.at_  Dr.cls)) SD ?_
    rw [if_neg (by decide)]
    exact (pn D  j  LR  oe  Mw  rfl  jj  (Du.trans Q)  (Dr.back fun b q => Du.back q))
  | next h hc n ih =>
    rename_i oa ob oc v vs r
    intro ws cO P' s m c y hz I Du ap hS hr ⟨C, a, ho, hC⟩ ry
    subst hC
    refine cH fun Gq kq => ?_
    refine ej (iG (st := ⟨loc, _⟩) I (by exact ho) ry) fun y' ox dx es nn e1 IA R4 MF => ?_
    refine kq ?_
    cases e1
    have XK := I.rh kb
    refine hH kR ?_
    rw [jS fC _]
    skip
    refine ak (xD XK IA (Cs _) (Ft _) (dP ?_))
    have h' := h
    unfold dB at h'
    rw [← hp] at h'
    refine eR (h' F.w F.hB F.fr _ F.os cO P' s hB hA I.toHInv [.ref y] [] (ek _  []  rfl  ry  rfl) rfl) fun rr H z => ?_
    refine cH fun Gq kq => ?_
    (refine z.go fun D j BJ Q zR => ?_; clear z; refine aR zR fun u JN rv => ?_; clear zR; subst JN)
    refine kq ?_
    have jj := I.after BJ Q
    have G := ap.step Q hS
    have ux : H.heap.get? S = ah { cls := .type "list", dict := aC, data := .seq m c, slots := #[] } := Q.keep _ _ hS ap.v (fun q => q) ap.f ap.g
    have A7 := RL.mono (I.toHInv.le Q pV) _ _ hr
    have Tf := R.mono (I.toHInv.le Q pV) _ _ ry
    have xQ : m.size = ws.length := by have := hr.length; rw [dh] at this; exact this
    skip
    refine ak ?_
    refine pI ux rfl (ay ⟨tq fC _, ?_⟩) (by rw [xQ]; simp at hz; exact ai (by lia) (by decide : 2 ^ 20 ≤ sizeLine)) (by show (m.push u).size ≤ sizeLine + 1; rw [Array.size_push, xQ]; simp at hz; exact ai (by lia) (by decide : 2 ^ 20 + 1 ≤ sizeLine + 1))
    have zW := bQ (dJ (·.push u)) ux rfl
    refine fk (jj.v3 (s' := { H with heap := H.heap.update S (dJ (·.push u)) }) G.p G.v G.o G.g G.f (fun b o ne e => (cv _ _ (gu ne)).trans e) ⟨_, zW⟩ rfl rfl) fun jX tC => ?_
    have Rm := jj.toHInv.le tC (fun b q => by rw [q]; exact G.p)
    have Sp := (Du.trans Q).kn tC fun b q => .inr (by rw [q]; exact K8)
    have OY : RL (F.fw { H with heap := H.heap.update S (dJ (·.push u)) } D j) (ws ++ [v]) (m.push u).toList := by
      rw [rM]
      exact (RL.mono Rm _ _ A7).snoc (R.mono Rm _ _ rv)
    have WO : Apart F D j S := G
    have := ih (ws ++ [v]) D j _ (m.push u) _ y (by simp at hz ⊢; exact j5 hz (by omega)) jX Sp WO zW OY hc (R.mono Rm _ _ Tf)
    rw [dj] at this
    exact this
end
section
variable{F:Fx} {sc:cJ} {d e:Nat} {st:St} {obs cS fi:List O} {i:Nat} {ρ cO:List (aA×aA)} {P P' :aA ->Prop} {s s₀:aS} {S y:aA} {A:fR}
noncomputable def Pe(vs:List V):Option Ex ->Oc
 |none=>.ok (.lst vs)
 |some x=>.exc x
theorem dM.CH(X:bS F (KK F.w.params) sc (d+4))(hp:F.prog=PR)(hB:BS F.w F.hB)(he:e<=d+3)(he3:3<=e)(hn:Aw i 729 e st.obs vs r cS)(hit:dB 722 3 [.ref i] [] st.obs (.ok<|.ref i) st.obs)(ho:st.obs[i]? =ah (.inst 732 a))(hz:vs.length<=2^20):dM F (.type "list") [.ref i] [] st (Pe vs r) (st.loc,cS):=λρ P s us ks I ra rk=>by
 have kb:=X.kb;cases rk;(refine aR (ra.one) λu tA ru=>?_;subst tA);refine((bM (.machine) (.inr<|.inl rfl)<|eZ rfl),?_);have RY:objOf st (.ref i)=ah (732,a):=by show DR st.obs[i]? =_;rw[ho];rfl
 have aaA:objOf ([],st.obs) (.ref i)=ah (732,a):=RY;refine cH λGq kq=>?_;(refine ej (iG I RY ru) λy ox dx es n JN IA R4 MF=>?_;subst JN);refine kq ?_;have sv:=bR IA.at_;refine abJ (Q₁:=λobj a7=>obj= .ref s.heap.objs.size/\a7={s with heap:=s.heap.push {cls:=.type "list",data:=.seq #[]} }) PySem.F.called_list (PySem.F.typeCall_list_1 _) PySem.F.entry_list_init
  (code_list_new _ (rfl,rfl)) λobj a7 uu=>?_
 refine cH λGq kq=>?_;(refine fk uu λAQ tA=>?_;subst AQ;subst tA);have hS:(s.heap.push {cls:=.type "list",data:=.seq #[]}).get? s.heap.objs.size=ah {cls:=.type "list",data:=.seq #[]}:=bb _ rfl;have K8:s.heap.get? s.heap.objs.size=aC:=de _;have hNo:¬P s.heap.objs.size:=I.nq K8;refine j7 (I.fresh K8) λf1 f2 f3 f4=>?_;refine fk (I.sD (s' :={s with heap:=s.heap.push {cls:=.type "list",data:=.seq #[]} }) (bI _ _) K8 (_,hS) rfl rfl) λvf mP=>?_;refine kq ?_;refine((bM _ hS rfl),PySem.F.args_list_init_2 _ _,?_);show wpAny _ F.A.in1.in1 (do let old<-YQ (.ref s.heap.objs.size);YL (.ref s.heap.objs.size) (λU=>#[]);letGo old.toList.reverse;YS (.ref s.heap.objs.size) (.ref y) .none) _ _ _;refine ak ?_;skip;refine ak<|abF hS rfl<|ay ?_;skip;refine ak<|pI hS rfl ?_;have ux:=bQ (dJ λU=>(#[]:Array aK)) hS rfl;refine ak<|wpAny_letGo ?_;generalize hsn:s.heap.objs.size=S at *
 have ne:y≠S:=λq=>eK _<|q▸sv;refine cH λGq kq=>?_;refine fk (vf.v3 (s' :={s with heap:=(s.heap.push {cls:=.type "list",data:=.seq #[]}).update S<|dJ λU=>(#[]:Array aK)}) (.inr rfl) f1 f2 f3 f4 (λb o nb eb=>(cv _ _<|gu nb).trans eb) (_,ux) rfl rfl) λE AR=>?_;have Mc:=mP.kn AR λb q=>.inr (by rw[q];exact K8);have abz:=I.toHInv.le Mc pV;have G:=R.mono abz _ _ ru;refine ej (iG E RY G) λacb abT abX abV ack aaV Jn aaI abR=>?_;refine kq ?_;cases aaV;have NO:=E.rh kb;clear IA MF R4;generalize wy:({s with heap:=(s.heap.push {cls:=.type "list",data:=.seq #[]}).update S<|dJ λU=>(#[]:Array aK)}:aS)=fW at E NO Jn G;have W4:eH F.fr kP ρ ρ P (λa=>P a\/a=S) s.heap fW.heap:=by rw[<-wy];exact Mc
 have H:fW.heap.get? S=ah {cls:=.type "list",dict:=aC,data:=.seq #[] 0,slots:=#[]}\/∃c,fW.heap.get? S=ah {cls:=.type "list",dict:=aC,data:=.seq #[] c,slots:=#[]}:=.inr (_,by rw[<-wy];exact ux);obtain⟨c₂,H⟩:∃c,fW.heap.get? S=ah {cls:=.type "list",dict:=aC,data:=.seq #[] c,slots:=#[]}:=by
  rcases H with q|q
  .exact(_,q)
  .exact q
 have hA:Cx F.A.in1.in1 F.fr e:=(X.cx.frames,by have:=X.cx.depth;show F.A.depth+e<_;exact MH he this<|by omega,by have:=X.cx.units;show F.A.units+1+1+50*e<_;lia,λh=>X.cx.handled<|by exact aM ..);have hA3:Cx F.A.in1.in1 F.fr 3:=(X.cx.frames,by have:=X.cx.depth;show F.A.depth+3<_;exact qU this<|by omega,by have:=X.cx.units;show F.A.units+1+1+50*3<_;exact qU this<|by omega,λh=>X.cx.handled<|by exact aM ..);have j:Apart F ρ (λa=>P a\/a=S) S:=(.inr rfl,f1,f2,f3,f4);skip;skip;refine ak<|Jn.type.here ?_;have h1:sk (.ref S) (.ref y)=ao:=by simp[sk,gu ne]
 have h2:(cg 732==cz "list")=ao:='d';have h3:(cg 732==cz "tuple")=ao:='d';simp only[h1,h2,h3,yG,cQ,if_false];refine ak<|KU NO Jn (Us _) (SJ _)<|dP ?_;have Hz:=hit;unfold dB at Hz;rw[<-hp]at Hz;refine eR (Hz F.w F.hB F.fr _ F.os ρ _ fW hB hA3 E.toHInv [.ref y] [] (ek _ [] rfl G rfl) rfl) λrr jT z=>?_;refine cH λGq kq=>?_;(refine z.go λD sG abD m zR=>?_;clear z;refine aR zR λY9 JN Tg=>?_;clear zR;subst JN);have jX:Inv F (st.loc,st.obs) D sG jT:=E.after abD m;have FY:=R.mono (E.toHInv.le m pV) _ _ G;have eu:Y9= .ref y:=by refine aR Tg λp e1 e2=>?_;refine aR FY λp' Lr Nw=>?_;rw[show(F.fw jT D sG).ρ=D from rfl]at Lr;have aba:D[i]? =ah p:=e1;rw[aba]at Lr;cases Lr;rw[e2,Nw]
 subst eu;refine ej (iG jX RY FY) λSn abS abW abU acj aaU Jm aaH abQ=>?_;refine kq ?_;cases aaU;have Jg:=jX.rh kb;have Q:=j.step m H;have zW:jT.heap.get? S=ah {cls:=.type "list",dict:=aC,data:=.seq #[] c₂,slots:=#[]}:=m.keep _ _ H j.v (λq=>q) j.f j.g;skip;refine Uq Jg Jm (Cs _) ?_;refine ak<|bo ?_;skip;refine ak<|ak<|Jm.type.here<|(ew Jg<|GI _).here ?_;skip;refine ak<|ak<|Jm.type.here<|(ew Jg<|DS _).here ?_;refine ay ?_;show wpAny _ F.A.in1.in1 (rule "list.extend.makes-room">>=λU=>YM (.ref S)>>=λU=>
  again (.builtin "list.extend.loop" ([.ref S,.ref y,.none],[]))) _ _ _
 refine ak<|Rt ?_;refine ak ?_;skip;refine ak<|pI zW rfl ?_;have Nh:=bQ (dJ (·.push dU)) zW rfl;refine pI (hz:=by seq_fits) Nh rfl ?_;have Ng:=bQ (dJ (·.pop)) Nh rfl;refine fk (jX.v3 (s' :={jT with heap:=(jT.heap.update S (dJ (·.push dU))).update S (dJ (·.pop))}) Q.p Q.v Q.o Q.g Q.f (λb o nb eb=>(cv _ _<|gu nb).trans<|(cv _ _<|gu nb).trans eb) (_,Ng) rfl rfl) λqy qK=>?_;have aby:=jX.toHInv.le qK (λb q=>by rw[q];exact Q.p);have Mb:=(W4.trans m).kn qK λb q=>.inr (by rw[q];exact K8);refine ay (tq fC _,?_);refine eR (Kr (A:=F.A.in1) hp hB kb hA hNo K8 hn [] D sG _ _ _ y (by simpa using hz) qy Mb Q Ng rfl (f' _ _ aaA rfl) (R.mono aby _ _ FY)) λres Zm z=>?_;cases r with
 |none=>
  refine cH λGq kq=>?_;obtain⟨rfl,yJ,Jj,Es,Jf,Zy⟩:=z;refine kq ?_;exact(Nz rfl _ rfl (yJ,Jj,Es,Jf,Zy))
 |some x=>
  refine cH λGq kq=>?_;(refine ej z λyJ Jj abm oe es JN Es Jf YT=>?_;clear z;subst JN);refine kq ?_;exact(x,rfl,yJ,Jj,abm,oe,es,rfl,Es,Jf,YT)
end
theorem pC.fin(h:pC l m b m')(i:m.inv l)(Q:b=ao):m'.p<=l.length/\m'.tok.length<=m'.p/\(m'.st=aC\/m'.st=ah 32):=by
 induction h with
 |err=>exact tfQ Q
 |go h r H=>exact H (h.inv i) Q
 |stop h=>exact h.Ig i
inductive rG (l:List Nat):Option Nat ->Nat ->Int ->List (List Nat)->Bool ->Prop where
 |stop {st p n m'} (h:pC l (st,[],ao,32,p,n) ao m') (hq:m'.qd=ao) (ht:m'.tok=[]):rG l st p n [] ao
 |err {st p n m'} (h:pC l (st,[],ao,32,p,n) aj m'):rG l st p n [] aj
 |word {st p n m' ws b} (h:pC l (st,[],ao,32,p,n) ao m') (hq:m'.qd=aj\/m'.tok≠[]) (r:rG l m'.st m'.p m'.ln ws b):rG l st p n (m'.tok::ws) b
theorem Nu:("":aF)=S []:='k'
theorem aaa{st:Option Nat}(h:rG l st p n ws b)(U:l.length<=2^16):(st=aC\/st=ah 32)->p<=l.length ->∃cS,Aw 0 729 12 (rO l (kr st) [] n p) (ws.map λw=>V.str<|S w) (if b then ah mE else aC) cS:=by
 have inv:∀{st:Option Nat} {p:Nat} {n:Int},(st=aC\/st=ah 32)->p<=l.length ->TM.inv l (st,[],ao,32,p,n):=λQ H=>by unfold TM.inv;rcases Q with rfl|rfl<;>simp<;>exact H
 induction h with
 |stop h G ht=>
  intro Q H;refine vC (h.fin (inv Q H) rfl) λu h2 j=>?_;have r:=CY h (inv Q H) U (by exact ZP h2 u U (by omega));have z:∀m:TM,m.qd=ao ->m.tok=[]->DC m= .none:=λm a b=>by unfold DC;rw[a,b];rfl
  rw[z _ G ht]at r;exact(_,.stop<|HR<|Ln r)
 |err h=>
  intro Q H;exact(_,.exc<|HQ<|Lm<|HM h (inv Q H) U)
 |word h G r E=>
  intro Q H;refine vC (h.fin (inv Q H) rfl) λu h2 j=>?_;have D:=CY h (inv Q H) U (by omega);have z:∀m:TM,(m.qd=aj\/m.tok≠[])->DC m= .str (S m.tok):=λm a=>by
   unfold DC;rcases a with a|a
   .rw[a];rfl
   .cases h:m.tok with
    |nil=>exact absurd h a
    |cons x y=>simp
  rw[z _ G]at D;rw[Nu]at D;refine eN (E j u) λcS E=>?_;exact(cS,.next (Li<|fn_get D) (f' _ _ rfl rfl) E)
theorem Ep{fd:aB ->oQ}(h:∀P S u Q,peek (KK P) S (bindArgs (fd P) ([u],[("comments",Q)]))=ah [(("s":aF),u),(("comments":aF),Q),(("posix":aF),.bool aj)]):∀P σ us D,RL σ [v] us ->RB σ [("comments",w)] D ->∃binds,(∀S,peek (KK P) S (bindArgs (fd P) (us,D))=ah binds)/\RB σ [("s",v),("comments",w),("posix",.bool aj)] binds:=λP σ us D G E=>by (refine aR (G.one) λu U r=>?_;subst U);(refine cj E λQ z H y e=>?_;subst H);cases e;exact(_,λS=>h P S u Q,u,_,rfl,r,Q,_,rfl,y,_,[],rfl,rfl,rfl)
section
variable{l:List Nat} {ws:List (List Nat)}
theorem wH(h:rG l (ah 32) 0 1 ws b)(G:l.length<=2^16)(y:ws.length<=2^20):∃cS,dB 744 14 [.str<|S l] [("comments",.bool aj)] [] (Pe (ws.map λw=>V.str<|S w) (if b then ah mE else aC)) cS:=by
 obtain⟨cS,z⟩:=aaa h G (.inr rfl)<|bH _;refine(cS,?_);have E:(ws.map λw=>V.str<|S w).length<=2^20:=by rw[ax];exact y
 have j:(S l).length<=2^16:=by rw[fA];exact G
 have Q:Aw 0 729 12 [bg aj (.str " ") (.str "") 1,bC (S l) 0] (ws.map λw=>V.str<|S w) (if b then ah mE else aC) cS:=by rw[Nu,show(" ":aF)=⟨#[32]⟩from 'k'];exact z
 refine FN.cu (d:=13) (ab:=[("s",.str<|S l),("comments",.bool aj),("posix",.bool aj)]) Vp Wk 'k' (Ep λP S u m=>'k') λF U hB X Y=>?_;have H:∀k,dM F (.ref 732) [.str<|S l] [("posix",.bool aj)] (k,[]) (.ok<|.ref 0) (k,[bg ao (.str " ") (.str "") 1,bC (S l) 0]):=λk=>W.make (e:=10) (d:=2) X U hB 'k' 'k' 'k'<|Bt j;cases b with
 |false=>
  rw[if_neg 'd']at Q⊢;have D:∀k,dM F (.type "list") [.ref 0] [] (k,[bg aj (.str " ") (.str "") 1,bC (S l) 0]) (.ok<|.lst<|ws.map λw=>V.str<|S w) (k,cS):=λk=>dM.CH (r:=aC) (st:=(k,[bg aj (.str " ") (.str "") 1,bC (S l) 0])) (d:=9) (e:=12) X U hB (by exact aM ..) (by exact aM ..) Q CZ rfl E;exact(run X rfl (an:=[.a,.c (Oc.ok<|V.ref 0) [bg ao (V.str " ") (V.str "") (1:Int),bC (S l) 0],.a,.c (Oc.ok<|V.lst<|aP (λ(w:List Nat)=>V.str<|S w) ws) cS]) (p:=_/\_/\_/\_) 'k' (H,D,@rfl _<|Pe (aP (λ(w:List Nat)=>V.str<|S w) ws) aC,@rfl _ cS):_)
 |true=>
  rw[if_pos rfl]at Q⊢;have D:∀k,dM F (.type "list") [.ref 0] [] (k,[bg aj (.str " ") (.str "") 1,bC (S l) 0]) (.exc mE) (k,cS):=λk=>dM.CH (r:=ah mE) (st:=(k,[bg aj (.str " ") (.str "") 1,bC (S l) 0])) (d:=9) (e:=12) X U hB (by exact aM ..) (by exact aM ..) Q CZ rfl E;exact(run X rfl (an:=[.a,.c (Oc.ok<|V.ref 0) [bg ao (V.str " ") (V.str "") (1:Int),bC (S l) 0],.a,.c (Oc.exc mE) cS]) (p:=_/\_/\_/\_) 'k' (H,D,@rfl _<|Oc.exc mE,@rfl _ cS):_)
theorem HL(h:rG l (ah 32) 0 1 ws ao)(D:l.length<=2^16)(H:ws.length<=2^20):dB 744 14 [.str<|S l] [("comments",.bool aj)] [] (.ok<|.lst<|ws.map λw=>V.str<|S w) []:=by refine eN (wH h D H) λQ E=>?_;exact FN.drop (cS:=[]) (ex:=Q) E rfl (λU q=>by cases q) (.lst<|lq<|fK λU U=>trivial)
theorem Ed(h:rG l (ah 32) 0 1 ws aj)(D:l.length<=2^16)(H:ws.length<=2^20):dB 744 14 [.str<|S l] [("comments",.bool aj)] [] (.exc mE) []:=by obtain⟨Q,E⟩:=wH h D H;exact FN.drop (cS:=[]) (ex:=Q) E rfl (λU q=>by cases q) (rfl,.nil)
end
noncomputable abbrev gC(x:aF):List Nat×Nat×Nat×Nat:=cM x.cps.toList [] 0 0 0
theorem qL(K:Nat):∀(H cnt:List Nat) (b n nt:Nat),cnt.length<=K ->b+H.length+1<=K ->(cM H cnt b n nt).1.length<=K/\(cM H cnt b n nt).2.1<=K
 |[],cnt,b,n,nt,U,Q=>(U,by simp at Q;show b<=K;exact cN Q)
 |c::H,cnt,b,n,nt,U,Q=>by
  rw[aU]at Q;unfold cM;split
  .exact qL K H cnt (b+1) (n+1) nt U (by exact j5 Q (by omega))
  .split
   .exact qL K H (bump cnt b) 0 (n+1) (nt+1) (by rw[lR];lia) (by exact j5 Q (by omega))
   .exact(U,show b<=K by exact j5 Q (by omega))
theorem xh(h:x.length<=2^13):(gC x).1.length<=2^14/\(gC x).2.1<=2^14:=by
 have Q:x.cps.toList.length<=2^13:=by rw[dh];exact h
 exact qL (2^14) _ _ _ _ _ (bH _) (by lia)
noncomputable def j6(x y:aF):Bool:=
 if decide (((gC x).2.2.1:Int)>=((gC y).2.2.1:Int))=aj then ao
 else if decide (((bf (gC x).1).length:Int)<=1)=aj/\decide (((bf (gC y).1).length:Int)<=1)=aj then decide (((gC x).2.2.2:Int)<=((gC y).2.2.2:Int))
 else !(aE ((iZ (gC x).1 (gC y).1 (gC x).2.1 (gC y).2.1)+1 -2).toNat).any (pY (gC x).2.2.2 (gC y).2.2.2 (gC x).1 (gC y).1 (gC x).2.1 (gC y).2.1)
noncomputable def lu(x y:aF):Bool:=bA (lO (gC x).1 (gC x).2.1)<|lO (gC y).1 (gC y).2.1
noncomputable def kS(x y:aF):List V:=tF (gC x).2.2.2 (gC y).2.2.2 (gC x).1 (gC y).1 (gC x).2.1 (gC y).2.1
section
variable{x y:aF}
theorem wI:dB 838 4 [.obj 862<|cX x,.obj 862<|cX y] [] [] (.ok<|.bool<|lu x y) []:=HY
theorem HI(D:x.length<=2^13)(U:y.length<=2^13):dB 859 8 [.obj 862<|cX x,.obj 862<|cX y] [] [] (.ok<|.lst<|kS x y) []:=by refine fk (xh D) λH G=>?_;refine fk (xh U) λQ E=>?_;exact Lc (by rw[ee];exact ai H 'd') (by rw[ee];exact ai Q 'd') G E H Q
theorem uE(hx:x.length<=2^13)(m:y.length<=2^13):dB 852 8 [.obj 862<|cX x,.obj 862<|cX y] [] [] (.ok<|.bool<|j6 x y) []:=by
 refine fk (xh hx) λG j=>?_;refine fk (xh m) λE z=>?_;have U:(bf (gC x).1).length<=2^16:=by rw[ee];exact ai G 'd'
 have H:(bf (gC y).1).length<=2^16:=by rw[ee];exact ai E 'd'
 unfold j6;cases Q:decide (((gC x).2.2.1:Int)>=((gC y).2.2.1:Int))with
 |true=>exact HV U H Q
 |false=>
  rw[if_neg 'd'];cases D:decide (((bf (gC x).1).length:Int)<=1)with
  |true=>
   cases u:decide (((bf (gC y).1).length:Int)<=1)with
   |true=>rw[if_pos (rfl,rfl)];exact HU U H Q D u
   |false=>rw[if_neg<|by simp];exact z9 U H j z G E Q (.inl (D,u)) rfl
  |false=>rw[if_neg<|by simp];exact z9 U H j z G E Q (.inr D) rfl
end
theorem WI(c:Nat):((⟨#[c]⟩:aF)==" ")=(c==32):=one_beq c 32 'k'
noncomputable def gK(z:Nat)(k:Int)(c:Nat):Int:=if c=32 then k+1 else k+((z:Int) -k.fmod z)
noncomputable def mI(x:aF)(z:Nat):Int:=x.cps.toList.foldl (gK z) 0
noncomputable def oW(x:aF):List V:=(aE 9).map λi=>V.int<|mI x<|1+i
theorem Er:oz (oW x):=fK λU U=>trivial
theorem Dh(g:H ->V):∀(Q:List H) (m:List V),runM (λm i=>m++[g i]) (λU U=>ao) Q m=m++Q.map g
 |[],m=>by simp[runM]
 |c::Q,m=>by unfold runM;rw[if_neg 'd',Dh g Q];simp
noncomputable def VM:List cn:=kX<|(eA<|Hd.f0 31)[1]?
noncomputable def Yp:List cn:=kX<|VM[1]?
noncomputable abbrev Qw(x:aF)(_:List V):List (aF×V):=[("columns",.ref 0),("lead",.str x)]
noncomputable abbrev Qx(x:aF)(i:Nat)(k:Int):List (aF×V):=[("column",.int k),("size",.int ((1+i:Nat):Int)),("columns",.ref 0),("lead",.str x)]
section
variable{F:Fx} {x:aF} {i c:Nat} {k:Int} {m:List V}
theorem LB(X:bS F (KK F.w.params) (aQ<|Hd.f0 31) 3):dc F Yp (("sign",.str ⟨#[c]⟩)::Qx x i k,[.list m]) .next (Qx x i<|gK (1+i) k c,[.list m]):=by
 have U:((1+i:Nat):Int)≠0:=by omega
 by_cases Q:c=32
 .have H:((⟨#[c]⟩:aF)==" ")=aj:=by rw[WI];simp[Q]
  have e:gK (1+i) k c=k+1:=by unfold gK;rw[if_pos Q]
  rw[e];exact(ed X rfl _ _ _ (an:=[.b aj]) (p:=_/\_/\(_/\_/\_/\_/\True)/\_) 'k' (cy H (@rfl _ FV.next) (eU (@rfl _<|ah<|V.int<|k+(1:Int)) (@rfl _<|ah<|V.int (↑(1+i):Int)) (@rfl _<|ah<|V.ref 0) (@rfl _<|ah<|V.str x) trivial)<|@rfl _ [O.list m]):_)
 .have H:((⟨#[c]⟩:aF)==" ")=ao:=by rw[WI];simp[Q]
  have e:gK (1+i) k c=k+(((1+i:Nat):Int) -k.fmod ((1+i:Nat):Int)):=by unfold gK;rw[if_neg Q]
  rw[e];exact(ed X rfl _ _ _ (an:=[.b ao]) (p:=_/\_/\_/\(_/\_/\_/\_/\True)/\_) 'k' (eU H U (@rfl _ FV.next) (eU (@rfl _<|ah<|V.int<|k+((↑(1+i):Int) -k.fmod (↑(1+i):Int))) (@rfl _<|ah<|V.int (↑(1+i):Int)) (@rfl _<|ah<|V.ref 0) (@rfl _<|ah<|V.str x) trivial)<|@rfl _ [O.list m]):_)
theorem LA(D:m.length<=2^24)(X:bS F (KK F.w.params) (aQ<|Hd.f0 31) 3):dc F VM ((Prod.mk "size"<|.int<|(1:Int)+(i:Int))::Qw x m,[.list m]) .next (Qw x m,[.list<|m++[V.int<|mI x<|1+i]]):=by
 rw[NI];have E:∀px,gF F (.Name "sign" px) Yp (x.cps.toList.map λc=>V.str ⟨#[c]⟩) (Qx x i 0,[.list m]) .next (Qx x i<|mI x<|1+i,[.list m]):=λpx=>by have:=gF.DU (λc:Nat=>V.str ⟨#[c]⟩) (Qx x i) (λU=>[O.list m]) (λU U=>True) (gK<|1+i) (λU U=>ao) (x:="sign") (px:=px) (body:=Yp) X 'k' (λk c G H=>(λQ=>absurd Q 'd',λU=>(trivial,LB X))) x.cps.toList 0 trivial;rw[pd]at this;exact this
 exact(ed X rfl _ _ _ (an:=[An.l FV.next {loc:=[(Prod.mk (aa "column")<|V.int<|mI x<|1+i),(Prod.mk (aa "size")<|V.int (↑(1+i):Int)),(Prod.mk (aa "columns")<|V.ref 0),(Prod.mk (aa "lead")<|V.str x)],obs:=[O.list m]}]) (p:=True/\gF F (dg (aa "sign") (Prod.mk (aa "sign")<|{line:=829,col:=12,endLine:=829,endCol:=16}).snd) Yp (aP (λ(c:Nat)=>V.str (⟨#[c]⟩:aF)) x.cps.toList) {loc:=Qx x i (0:Int),obs:=[O.list m]} FV.next {loc:=Qx x i<|mI x<|1+i,obs:=[O.list m]}/\m.length<=2^24/\FV.next=FV.next/\(ah (V.ref 0)=ah (V.ref 0)/\ah (V.str x)=ah (V.str x)/\True)/\[O.list<|m++[V.int<|mI x<|1+i]]=[O.list<|m++[V.int<|mI x<|1+i]]) 'k' (iI trivial (E _) D rfl (rfl,rfl,trivial) rfl):_)
end
theorem HZ:dB 880 4 [.str x] [] [] (.ok<|.ref 0) [.list<|oW x]:=by
 refine FN.cu (d:=3) (ab:=[(Prod.mk "lead"<|.str x)]) Vd VY 'k' (bind1 λP S u=>'k') λF G hB X Y=>?_;have E:∀px,gF F (.Name "size" px) VM ((aE 9).map λi:Nat=>V.int<|(1:Int)+(i:Int)) (Qw x [],[.list []]) .next (Qw x [],[.list<|oW x]):=λpx=>by
  have:=gF.DU (λi:Nat=>V.int<|(1:Int)+(i:Int)) (Qw x) (λm=>[O.list m]) (λH m=>m.length+H.length<=2^16) (λm i=>m++[V.int<|mI x<|1+i]) (λU U=>ao) (x:="size") (px:=px) (body:=VM) X 'k' (λm i H Q=>(λD=>absurd D 'd',λU=>(?_,LA ?_ X))) (aE 9) [] 'd'
  .rw[Dh]at this;exact this
  .rw[aD];rw[aU]at Q;show m.length+1+H.length<=_;exact j5 Q (by omega)
  .rw[aU]at Q;lia
 exact(run X rfl (an:=[An.b aj,An.l FV.next {loc:=[(Prod.mk (aa "columns")<|V.ref 0),(Prod.mk (aa "lead")<|V.str x)],obs:=[O.list<|oW x]}]) (p:=(-(2:Int)^62<=(1:Int)/\(1:Int)<(2:Int)^62/\ -(2:Int)^62<=(10:Int)/\(10:Int)<(2:Int)^62)/\gF F (dg (aa "size") (Prod.mk (aa "size")<|{line:=827,col:=8,endLine:=827,endCol:=12}).snd) VM (aP (λ(i:Nat)=>V.int<|(1:Int)+(↑i:Int)) (aE 9)) {loc:=Qw x [],obs:=[O.list []]} FV.next {loc:=Qw x [],obs:=[O.list<|oW x]}/\Oc.ok (V.ref 0)=Oc.ok (V.ref 0)/\[O.list<|oW x]=[O.list<|oW x]) 'k' (('d','d','d','d'),(E _),rfl,rfl):_)
theorem C0:dB 880 4 [.str x] [] [] (.ok<|.lst<|oW x) []:=
 FN.drop (obs:=[]) (cS:=[]) HZ rfl (λo Q=>nomatch Q) (Fz.list (j:=0) rfl<|lq Er)
noncomputable abbrev Row:=aF×List Int
noncomputable def bY(l:List Int):List V:=l.map V.int
noncomputable def To(r:Row):V:=.tup [.str r.1,.lst<|bY r.2]
noncomputable def bh(p:List Row):List V:=p.map To
noncomputable def bu(x:aF):List Int:=(aE 9).map λi=>mI x<|1+i
theorem Al(x:aF):oW x=bY (bu x):=by unfold oW bY bu;rw[cK];rfl
theorem ki(l:List Int):(bY l).length=l.length:=ax _
theorem fE(l:List Row):(bh l).length=l.length:=ax _
theorem wX:∀l:List Int,V.gV (bY l)=ah (l.map aG)
 |[]=>rfl
 |c::l=>by show nK (V.data<|.int c) (V.gV<|bY l)=_;rw[wX l];rfl
theorem pA(l:List Int):V.data (.lst<|bY l)=ah (.list<|l.map aG):=by show(V.gV<|bY l).map d8=_;rw[wX];rfl
theorem shaped_ints(l:List Int):dQ (.list<|l.map aG)=aj:=by
 have H:cT (l.map aG)=aj:=by
  induction l with
  |nil=>rfl
  |cons c l Q=>rw[bw];simp only[cT,fu,Q,l5]
 have U:dw (l.map aG)<=1:=by
  clear H;induction l with
  |nil=>exact bH _
  |cons c l Q=>rw[bw];simp only[dw,e9];assumption
 unfold dQ;have E:(d8<|l.map aG).canLay0=aj:=by simp only[fu,H]
 have D:(d8<|l.map aG).depth<=64:=by simp only[e9];exact(dz U 'd')
 rw[E,decide_eq_true D];rfl
theorem Ae:∀a b:List Int,fb (a.map aG) (b.map aG)=decide (a=b)
 |[],[]=>by simp[fb]
 |[],c::b=>by simp[fb]
 |c::a,[]=>by simp[fb]
 |c::a,e::b=>by rw[bw,bw,fb,Ae a b];by_cases h:c=e<;>simp[bA,h]
theorem wR(a b:List Int):bA (.list<|a.map aG) (.list<|b.map aG)=decide (a=b):=by rw[bA,Ae]
noncomputable def dI(here:List Int):List Row ->List Row:=λp=>(p.reverse.dropWhile λr=>r.2 !=here).reverse
noncomputable def cm(old here:List Int)(i:Nat):Bool:=decide<|old.getD i 0>=here.getD i 0
theorem gT(p:List Row)(r:Row):place (-1) (bh<|p++[r]).length=ah p.length/\(bh<|p++[r])[p.length]? =ah (To r):=by
 constructor
 .rw[fE,aD,aV];unfold place;rw[if_neg 'd',if_pos<|by lia];congr 1;exact ZM
 .unfold bh;rw[bF,bW];rfl
theorem og{i:Nat}(h:i<l.length):place ((0:Int)+(i:Int)) (bY l).length=ah i/\(bY l)[i]? =ah (.int<|l.getD i 0):=by
 constructor
 .rw[ki];unfold place;rw[if_pos<|by exact aL _,if_pos<|by omega];congr 1;exact sV ..
 .unfold bY;rw[bF,az h,aI,az h];rfl
theorem Ny(l:List Nat):V.data (.lst (l.map λi:Nat=>V.int<|(0:Int)+(i:Int)))=ah (.list<|(l.map λi:Nat=>(0:Int)+(i:Int)).map aG):=by rw[show(l.map λi:Nat=>V.int<|(0:Int)+(i:Int))=bY (l.map λi:Nat=>(0:Int)+(i:Int)) by unfold bY;rw[cK];rfl];exact pA _
theorem MB(l:List Nat):dQ (.list<|(l.map λi:Nat=>(0:Int)+(i:Int)).map aG)=aj:=shaped_ints _
theorem Nv(l:List Nat):bA (.list<|(l.map λi:Nat=>(0:Int)+(i:Int)).map aG) (.list [])=l.isEmpty:=by have:=wR (l.map λi:Nat=>(0:Int)+(i:Int)) [];rw[kO]at this;rw[this];cases l<;>simp
theorem we(H:(aE 9).any (cm old here)=q):((aE 9).filter<|cm old here).isEmpty= !q:=by
 rw[<-H];generalize aE 9=l;induction l with
 |nil=>rfl
 |cons c l Q=>
  rw[List.filter_cons,yD];cases h:cm old here c with
  |true=>rfl
  |false=>rw[if_neg 'd',Q];rfl
noncomputable abbrev zM(pile:List V)(lead:aF)(here:List Int):List (aF×V):=[("pile",.lst pile),("lead",.str lead),("here",.lst<|bY here)]
noncomputable def lfC:aW:=abe<|RV (eA<|Hd.f0 36)[0]?
section
variable{F:Fx} {p:List Row} {aH lead:aF} {old here:List Int} {l:List Row} {q:Bool}
theorem CI(hl:p.length<=1000)(ho:old.length=9)(hh:here.length=9)(X:bS F (KK F.w.params) (aQ<|Hd.f0 36) 7):
 EV F lfC (zM (bh<|p++[(aH,old)]) lead here,[]) (.lst (((aE 9).filter<|cm old here).map λi:Nat=>V.int<|(0:Int)+(i:Int))) (zM (bh<|p++[(aH,old)]) lead here,[]):=by
 have D:=(gT p (aH,old)).1;have Bi:=(gT p (aH,old)).2;have E:(bY old).length=9:=by rw[ki,ho]
 have G:(bY here).length=9:=by rw[ki,hh]
 have u:(bh<|p++[(aH,old)]).length=p.length+1:=by rw[fE,aD];rfl
 refine Iq (y:="size") (v:=.ky 0 9) (cm old here) (λi:Nat=>V.int<|(0:Int)+(i:Int)) (λi:Nat=>V.int<|(0:Int)+(i:Int)) (aE 9) [("pile",.lst<|bh<|p++[(aH,old)]),("here",.lst<|bY here)] X (by exact aM ..) 'k' 'k' (by intros;rfl) ?_ rfl (cy 'd' 'd' 'd' 'd') 'd' (rfl,rfl,trivial) (λv=>(rfl,rfl,trivial)) λF' X' U U U i z=>(?_,λU=>?_)
 .exact(jm X rfl (an:=[]) (p:=_/\([]:List O)=[]) 'k' (@rfl _<|V.ky 0 9,rfl):_)
 .rw[gk]at z;refine fk (og<|by exact ho▸z) λH m=>?_;refine fk (og<|by exact hh▸z) λQ j=>?_;exact(tV X' rfl (an:=[.i p.length<|V.tup [V.str aH,V.lst<|bY old],.i (fU 1)<|V.lst<|bY old,.i i<|V.int<|old.getD i 0,.i i<|V.int<|here.getD i 0]) (p:=(_/\_/\(bh<|p++[(aH,old)]).length<=2^24)/\(_/\_/\[V.str aH,V.lst<|bY old].length<=2^24)/\(_/\_/\_)/\(_/\_/\_)/\_/\([]:List O)=[]) 'k' (iI (D,Bi,(ai (ai (ar u)<|au hl<|aJ _)<|ae rfl)) (@rfl _<|ah<|fU 1,@rfl _<|ah<|V.lst<|bY old,(ae rfl)) (H,m,(g9 E rfl)) (Q,j,(g9 G rfl)) (@rfl _<|cm old here i) rfl):_)
 .exact(jm X' rfl (an:=[]) (p:=_/\([]:List O)=[]) 'k' (@rfl _<|V.int<|0+↑i,rfl):_)
end
theorem HX(H:p.length<=1000)(y:old.length=9)(z:here.length=9)(G:(aE 9).any (cm old here)=ao):dB 907 8 [.lst<|bh<|p++[(Prod.mk aH old)],.str lead,.lst<|bY here] [] [] (.ok<|.lst<|bh<|p++[(Prod.mk aH old)]++[(Prod.mk lead here)]) []:=by
 refine FN.cu (d:=7) (ab:=zM (bh<|p++[(Prod.mk aH old)]) lead here) Nm NC 'k' (xa λP S u u' U=>'k') λF hp hB X Y=>?_;have j:_=aj:=(Nv _).trans<|we G;have Q:(bh<|p++[(Prod.mk aH old)]).length=p.length+1:=by rw[fE,aD];rfl
 have D:=CI (aH:=aH) (lead:=lead) H y z X;have m:∀st,dO F st .Eq (.lst (((aE 9).filter<|cm old here).map λi:Nat=>V.int<|(0:Int)+(i:Int))) (.lst []) _:=λst=>dO.Ym (X.units<|by exact aM ..) (Ny _) rfl (MB _) 'k';have E:bh (p++[(Prod.mk aH old)])++[.tup [.str lead,.lst<|bY here]]=bh (p++[(Prod.mk aH old)]++[(Prod.mk lead here)]):=by unfold bh;rw[bx (l₂:=[(Prod.mk lead here)])];rfl
 rw[<-E];exact(run X rfl (an:=[.x (V.lst<|aP (λ(i:Nat)=>V.int<|(0:Int)+(↑i:Int)) (hZ (cm old here)<|aE 9)) [],.b ao,.b<|(d8<|aP aG<|aP (λ(i:Nat)=>(0:Int)+(↑i:Int)) (hZ (cm old here)<|aE 9)).eqv (d8 []),.b aj]) (p:=_/\_/\_/\[V.str lead,V.lst<|bY here].length<=2^24/\[V.tup [V.str lead,V.lst<|bY here]].length<=2^24/\(bh<|p++[(Prod.mk aH old)]).length+[V.tup [V.str lead,V.lst<|bY here]].length<=2^24/\_/\([]:List O)=[]) 'k' (fH (D) m j (ae rfl) (ae rfl) (ai (au (ai (ar Q)<|au H<|aJ _)<|bE<|aJ _)<|ae rfl) (@rfl _<|Oc.ok<|V.lst<|bh (p++[(Prod.mk aH old)])++[V.tup [V.str lead,V.lst<|bY here]]) rfl):_)
theorem Af(here:List Int)(p:List Row)(r:Row):dI here (p++[r])=if(!decide (r.2=here))=aj then dI here p else p++[r]:=by
 unfold dI;rw[EF,AL,jJ,iK];by_cases h:r.2=here
 .rw[if_neg<|by simp[h],if_neg<|by simp[h]];simp
 .rw[if_pos<|by simp[h],if_pos<|by simp[h]]
theorem WH.dI{F:Fx}{t:aW}{B:List cn}(L:List Row ->List (aF×V))(here:List Int)(N:Nat)(G:TV F t (L [],[]) ao (L [],[]))(E:∀p r,(p++[r]).length<=N ->TV F t (L<|p++[r],[]) (!bA (.list<|r.2.map aG) (.list<|here.map aG)) (L<|p++[r],[]))(D:∀p r,(p++[r]).length<=N ->dc F B (L<|p++[r],[]) .next (L p,[])):
 ∀n p,p.length=n ->n<=N ->WH F t B (L p,[]) .next (L<|dI here p,[]):=by
 intro n;induction n with
 |zero=>
  intro p Q _;have e:=List.length_eq_zero_iff.mp Q;subst e;exact WH.done G rfl
 |succ n U=>
  intro p Q H;have e:=gM (l:=p) (by intro q;rw[q]at Q;cases Q);generalize p.dropLast=i at e;generalize p.getLast _=r at e;subst e;rw[aD,aV]at Q;have z:=E i r (by rw[aD,aV];exact Q▸H);rw[Af];rw[wR]at z;by_cases q:(!decide (r.2=here))=aj
  .rw[if_pos q];exact WH.next z q (D i r (by rw[aD,aV];omega))<|U i (by exact pK Q) (by exact cN H)
  .rw[if_neg q];exact WH.done z (by simpa using q)
noncomputable abbrev oR(pile:List V)(lead:aF)(here:List Int)(l:List Row):List (aF×V):=("left",.lst<|bh l)::zM pile lead here
noncomputable def lfT:aW:=XH (eA<|Hd.f0 36)[2]?
noncomputable def lfB:List cn:=YZ (eA<|Hd.f0 36)[2]?
section
variable{F:Fx} {pile:List V} {lead:aF} {here:List Int} {p:List Row} {r:Row} {q:Bool}
theorem Pr(X:bS F (KK F.w.params) (aQ<|Hd.f0 36) 7):TV F lfT (oR pile lead here [],[]) ao (oR pile lead here [],[]):=by have Q:(bh []).length<=2^24:=bH _;exact(tV X rfl (an:=[.a]) (p:=_/\_/\([]:List O)=[]) 'k' (Q,@rfl _ ao,rfl):_)
theorem KN(G:(!bA (.list (r.2.map aG)) (.list (here.map aG)))=q)(Q:p.length<=1001)(X:bS F (KK F.w.params) (aQ (Hd.f0 36)) 7):TV F lfT (oR pile lead here (p++[r]),[]) q (oR pile lead here (p++[r]),[]):=by
 have U:=(gT p r).1;have E:(bh (p++[r]))[p.length]? =ah (.tup [.str r.1,.lst (bY r.2)]):=(gT p r).2;have H:(bh (p++[r])).length=p.length+1:=by rw[fE,aD];rfl
 have D:(!(bh (p++[r])).isEmpty)=aj:=by unfold bh;simp
 have u:∀st,dO F st .NotEq (.lst (bY r.2)) (.lst (bY here)) _:=λst=>dO.neD (X.units (by exact aM ..)) (pA _) (pA _) (shaped_ints _) (shaped_ints _);cases q with
 |true=>exact(tV X rfl (an:=[.b aj,.i p.length (V.tup [V.str r.fst,V.lst (bY r.snd)]),.i (fU 1) (V.lst (bY r.snd)),.b !(d8 (aP aG r.snd)).eqv (d8 (aP aG here)),.b aj]) (p:=(bh (p++[r])).length<=2^24/\_/\(_/\_/\(bh (p++[r])).length<=2^24)/\(_/\_/\[V.str r.fst,V.lst (bY r.snd)].length<=2^24)/\_/\_/\_/\([]:List O)=[]) 'k' (fH (ai (ai (ar H) (au Q (aJ _))) (ae rfl)) D (U,E,(ai (ai (ar H) (au Q (aJ _))) (ae rfl))) (@rfl _ (ah (fU 1)),@rfl _ (ah (V.lst (bY r.snd))),(ae rfl)) u G (@rfl _ aj) rfl):_)
 |false=>exact(tV X rfl (an:=[.b aj,.i p.length (V.tup [V.str r.fst,V.lst (bY r.snd)]),.i (fU 1) (V.lst (bY r.snd)),.b !(d8 (aP aG r.snd)).eqv (d8 (aP aG here)),.b ao]) (p:=(bh (p++[r])).length<=2^24/\_/\(_/\_/\(bh (p++[r])).length<=2^24)/\(_/\_/\[V.str r.fst,V.lst (bY r.snd)].length<=2^24)/\_/\_/\_/\([]:List O)=[]) 'k' (fH (ai (ai (ar H) (au Q (aJ _))) (ae rfl)) D (U,E,(ai (ai (ar H) (au Q (aJ _))) (ae rfl))) (@rfl _ (ah (fU 1)),@rfl _ (ah (V.lst (bY r.snd))),(ae rfl)) u G (@rfl _ ao) rfl):_)
theorem KO(Q:p.length<=1001)(X:bS F (KK F.w.params) (aQ<|Hd.f0 36) 7):dc F lfB (oR pile lead here<|p++[r],[]) .next (oR pile lead here p,[]):=by
 have U:(bh<|p++[r]).length=p.length+1:=by rw[fE,aD];rfl
 have H:pick (bh<|p++[r]) aC (ah (-1)) aC=bh p:=by rw[qV];unfold bh;rw[bx];simp
 have D:(ah (V.lst<|pick (bh<|p++[r]) aC (ah (-1)) aC):Option V)=ah (.lst<|bh p):=by rw[H]
 exact(ed X rfl .next (oR pile lead here p) [] (an:=[]) (p:=(bh<|p++[r]).length<=2^24/\_/\(_/\_/\_/\_/\True)/\([]:List O)=[]) 'k' (cy (ai (ai (ar U)<|au Q<|aJ _)<|ae rfl) (@rfl _ FV.next) (eU D (@rfl _<|ah<|V.lst pile) (@rfl _<|ah<|V.str lead) (@rfl _<|ah<|V.lst<|bY here) trivial) rfl):_)
end
theorem HW(Q:p.length<=1000)(G:old.length=9)(y:here.length=9)(E:(aE 9).any (cm old here)=aj):dB 907 8 [.lst<|bh<|p++[(aH,old)],.str lead,.lst<|bY here] [] [] (.ok<|.lst<|bh<|dI here<|p++[(aH,old)]) []:=by
 refine FN.cu (d:=7) (ab:=zM (bh<|p++[(aH,old)]) lead here) Nm NC 'k' (xa λP S u m H=>'k') λF hp hB X Y=>?_;have z:_=ao:=(Nv _).trans<|we E;have U:=CI (aH:=aH) (lead:=lead) Q G y X;have j:∀st,dO F st .Eq (.lst (((aE 9).filter<|cm old here).map λi:Nat=>V.int<|(0:Int)+(i:Int))) (.lst []) _:=λst=>dO.Ym (X.units<|by exact aM ..) (Ny _) rfl (MB _) 'k';have D:WH F lfT lfB (oR (bh<|p++[(aH,old)]) lead here<|p++[(aH,old)],[]) .next (oR (bh<|p++[(aH,old)]) lead here<|dI here<|p++[(aH,old)],[]):=
  WH.dI (oR (bh<|p++[(aH,old)]) lead here) here 1001 (Pr X) (λp r h=>KN rfl (by rw[aD,aV]at h;exact cN h) X) (λp r h=>KO (by rw[aD,aV]at h;exact cN h) X) _ (p++[(aH,old)]) rfl (by rw[aD,aV];exact eS Q)
 exact(run X rfl (an:=[.x (V.lst<|aP (λ(i:Nat)=>V.int<|(0:Int)+(↑i:Int)) (hZ (cm old here)<|aE 9)) [],.b ao,.b<|(d8<|aP aG<|aP (λ(i:Nat)=>(0:Int)+(↑i:Int)) (hZ (cm old here)<|aE 9)).eqv (d8 []),.b ao,.l FV.next {loc:=[("left",V.lst<|bh<|dI here<|p++[(aH,old)]),("pile",V.lst<|bh<|p++[(aH,old)]),("lead",V.str lead),("here",V.lst<|bY here)],obs:=[]}]) (p:=_/\_/\_/\_/\_/\_/\([]:List O)=[]) 'k' (jG (U) j z Y (D) (@rfl _<|Oc.ok<|V.lst<|bh<|dI here<|p++[(aH,old)]) rfl):_)
noncomputable def fN(w:aF):aF:=if(w.length !=0&&(iq w "ab"==""))=aj then w else iL w
noncomputable def plainS(ws:List aF):aF:=aY " "<|ws.map fN
noncomputable def Pc:aW:=Jc<|Tp (eA<|Hd.f0 34)[0]?
theorem Kl(Q:w.length<=100)(H:F.prog=PR)(hB:BS F.w F.hB)(X:bS F (KK F.w.params) (jF (oU Pc)<|aQ<|Hd.f0 34) 7):EV F (xK Pc) ([("word",.str w)],[]) (.str<|fN w) ([("word",.str w)],[]):=by
 have hs:=nE (d:=0) (way:=0) (obs:=[]) Q<|.inl rfl;by_cases h1:(w.length !=0)=aj
 .by_cases h2:(iq w "ab"=="")=aj
  .rw[show fN w=w by unfold fN;rw[h1,h2];rfl];exact(jm X (e:=xK Pc) rfl (an:=[.b aj,.b aj,.a]) (p:=_/\_/\_/\_/\_/\([]:List O)=[]) 'k' (iI (CF Q rfl) h1 (CF Q rfl) h2 (@rfl _<|V.str w) rfl):_)
  .have h2:(iq w "ab"=="")=ao:=by simpa using h2
   rw[show fN w=iL w by unfold fN;rw[h1,h2];rfl];exact(jm X (e:=xK Pc) rfl (an:=[.b aj,.b ao,.a,.c (Oc.ok<|V.str<|iL w) []]) (p:=_/\_/\_/\_/\(cL F 892 [V.str w,V.int (0:Int)] [] (Oc.ok<|V.str<|iL w) [])/\_/\([]:List O)=[]) 'k' (jG (CF Q rfl) h1 (CF Q rfl) h2 (j8 X H hB hs rfl 'k'<|by kspl_open zNR) (@rfl _<|V.str<|iL w) rfl):_)
 .have h1:(w.length !=0)=ao:=by simpa using h1
  rw[show fN w=iL w by unfold fN;rw[h1];rfl];exact(jm X (e:=xK Pc) rfl (an:=[.b ao,.a,.c (Oc.ok<|V.str<|iL w) []]) (p:=_/\_/\(cL F 892 [V.str w,V.int (0:Int)] [] (Oc.ok<|V.str<|iL w) [])/\_/\([]:List O)=[]) 'k' (eU (CF Q rfl) h1 (j8 X H hB hs rfl 'k'<|by kspl_open zNR) (@rfl _<|V.str<|iL w) rfl):_)
theorem HP(j:ws.length<=100)(G:∀w∈ws,w.length<=100)(m:gb " " (ws.map fN)=aj):dB 897 8 [.lst<|ws.map V.str] [] [] (.ok<|.str<|plainS ws) []:=by
 refine FN.cu (d:=7) (ab:=[("words",.lst<|ws.map V.str)]) Vb VW 'k' (bind1 λP S u=>'k') λF z hB X Y=>?_;have hi:EV F (wm Pc) ([("words",.lst<|ws.map V.str)],[]) (.lst<|ws.map V.str) ([("words",.lst<|ws.map V.str)],[]):=by exact(jm X rfl (an:=[]) (p:=_/\([]:List O)=[]) 'k' (@rfl _<|V.lst<|aP V.str ws,rfl):_)
 have E:EV F Pc ([("words",.lst<|ws.map V.str)],[]) (.lst<|ws.map λw=>V.str<|fN w) ([("words",.lst<|ws.map V.str)],[]):=
  uS (y:="word") V.str (λw=>V.str<|fN w) ws [] X (by exact aM ..) 'k' 'k' (by intros;rfl) hi rfl trivial (by exact(ai j 'd')) trivial (λv=>trivial) λF' X' H Q D w U=>Kl (G w U) (H.trans z) (by rw[Q,D];exact hB) X'
 have U:ws.map (λw=>V.str<|fN w)=(ws.map fN).map V.str:=by rw[cK];rfl
 exact(run X rfl (an:=[.x (V.lst<|aP (λ(w:aF)=>V.str<|fN w) ws) [],.ss<|aP fN ws]) (p:=_/\_/\_/\_/\([]:List O)=[]) 'k' (eU (E) U m (@rfl _<|Oc.ok<|V.str<|plainS ws) rfl):_)
noncomputable def pP(i:Nat):aF:=aa<|toString<|(1:Int)+(i:Int)
noncomputable def fh(m:Nat)(cols here:List Int):List aF:=((aE<|m+1).filter<|cm cols here).map pP
noncomputable def fo(m:Nat)(cols here:List Int):aF:="at tab size"++(if decide (((fh m cols here).length:Int)>1)=aj then("s ":aF)else " ")++aY ", " (fh m cols here)
noncomputable def ku(old lead:aF):List aF:=aO old "\t"++aO lead "\t"
theorem wt:∀l:List aF,intsOf (l.map λr=>V.int (r.length:Nat))=ah (l.map λr=>((r.length:Nat):Int))
 |[]=>rfl
 |r::l=>by show(intsOf<|l.map λr=>V.int (r.length:Nat)).map _=_;rw[wt l];rfl
theorem wx{i:Nat}(h:i<l.length):place ((1:Int)+(i:Int) -1) (bY l).length=ah i:=by rw[ki];unfold place;rw[show(1:Int)+(i:Int) -1=i by rw[Xz];exact JC ..,if_pos<|aL _,gY,if_pos h]
theorem wk{a:Int}(h:a.natAbs<1000):a.natAbs.log2<1920:=by
 by_cases q:a.natAbs=0
 .rw[q];decide
 .have:=(YI (n:=a.natAbs) (k:=10) q).mpr (by omega);omega
noncomputable abbrev cmA(pile:List V)(lead:aF)(here:List Int):List (aF×V):=[("pile",.lst pile),("lead",.str lead),("here",.lst<|bY here)]
noncomputable abbrev Yq(pile:List V)(old lead:aF)(cols here:List Int):List (aF×V):=("columns",.lst<|bY cols)::("old",.str old)::cmA pile lead here
noncomputable def cmC:aW:=Jc<|QZ (eA<|Hd.f0 37)[1]?
noncomputable def cmS:cn:=OA (eA<|Hd.f0 37)[2]?
section
variable{F:Fx} {p:List Row} {pile:List V} {old lead:aF} {cols here:List Int} {m:Nat}
theorem LD(z:old.length<=100)(u:lead.length<=100)(hb:∀r∈ku old lead,r.length<=m)(h8:m<=8)(X:bS F (KK F.w.params) (aQ<|Hd.f0 37) 7):
 EV F cmC (Yq pile old lead cols here,[]) (.lst<|(ku old lead).map λr=>V.int (r.length:Nat)) (Yq pile old lead cols here,[]):=by
 have H:=split_len old "\t";have Q:=split_len lead "\t";have E:(aP V.str<|aO old "\t").length=(aO old "\t").length:=ax _;have D:(aP V.str<|aO lead "\t").length=(aO lead "\t").length:=ax _;refine uS (y:="run") (v:=.lst<|aP V.str (aO old "\t")++aP V.str (aO lead "\t")) V.str (λr=>V.int (r.length:Nat)) (ku old lead) [] X (by omega) 'k' 'k' (by intros;rfl) ?_ ?_ trivial ?_ trivial (λv=>trivial) λF' X' U U U r j=>?_
 .exact(jm X rfl (an:=[]) (p:=old.length<=2^20/\lead.length<=2^20/\(aP V.str<|aO old<|oS "\t").length+(aP V.str<|aO lead<|oS "\t").length<=2^24/\_/\([]:List O)=[]) 'k' (eU (ai z<|ae rfl) (ai u<|ae rfl) (ai (au (ai (ar E)<|ai H<|au z<|aJ _)<|ai (ar D)<|ai Q<|au u<|aJ _)<|ae rfl) (@rfl _<|V.lst<|aP V.str (aO old<|oS "\t")++aP V.str (aO lead<|oS "\t")) rfl):_)
 .unfold ku;rw[bx];rfl
 .unfold ku;rw[aD];exact ai (au (ai H<|pH z 2)<|ai Q<|pH u 2)<|ae rfl
 .have G:r.length<=100:=ai (hb r j)<|ai h8<|ae rfl;exact(jm X' (e:=xK cmC) rfl (an:=[]) (p:=_/\_/\([]:List O)=[]) 'k' ((CF G rfl),@rfl _<|V.int (↑r.length:Int),rfl):_)
theorem Iv(u:cols.length=9)(hh:here.length=9)(h8:m<=8)(X:bS F (KK F.w.params) (aQ<|Hd.f0 37) 7):
 EX F cmS (("longest",.int (m:Nat))::Yq pile old lead cols here,[]) .next (("sizes",.lst (((aE<|m+1).filter<|cm cols here).map λi:Nat=>V.str<|pP i))::("longest",.int (m:Nat))::Yq pile old lead cols here,[]):=by
 have z:(bY cols).length=9:=by rw[ki,u]
 have j:(bY here).length=9:=by rw[ki,hh]
 refine abq (x:="sizes") (y:="size") (v:=.ky 1<|(m:Int)+2) (cm cols here) (λi:Nat=>V.int<|(1:Int)+(i:Int)) (λi:Nat=>V.str<|pP i) (aE<|m+1) [("columns",.lst<|bY cols),("here",.lst<|bY here)] X (by exact aM ..) 'k' 'k' 'k' (by intros;rfl) ?_ ?_ (by omega,by omega,by omega,by omega) (by rw[bJ];omega) (rfl,rfl,trivial) (λv=>(rfl,rfl,trivial)) λF' X' U U U i D=>(?_,λU=>?_)
 .exact(jm X rfl (an:=[]) (p:=_/\([]:List O)=[]) 'k' (@rfl _<|V.ky (1:Int)<|(↑m:Int)+(2:Int),rfl):_)
 .show ah _=_;rw[show((m:Int)+2 -1).toNat=m+1 by rw[Int.add_sub_assoc];rfl]
 .rw[gk]at D;have Q:=eG D<|bE h8;have G:=wx (l:=cols) (i:=i)<|u▸Q;have hg2:=(og (l:=cols) (i:=i)<|u▸Q).2;have E:=wx (l:=here) (i:=i)<|hh▸Q;have hg3:=(og (l:=here) (i:=i)<|hh▸Q).2;exact(tV X' (e:=Uk<|oY cmS) rfl (an:=[.i i<|V.int<|cols.getD i (0:Int),.i i<|V.int<|here.getD i (0:Int)]) (p:=(_/\_/\_)/\(_/\_/\_)/\_/\([]:List O)=[]) 'k' ((G,hg2,(g9 z rfl)),(E,hg3,(g9 j rfl)),@rfl _<|cm cols here i,rfl):_)
 .rw[gk]at D;have H:((1:Int)+(i:Int)).natAbs.log2<1920:=wk<|lA i<|eG D<|bE h8;exact(jm X' (e:=xK<|oY cmS) rfl (an:=[]) (p:=_/\_/\([]:List O)=[]) 'k' (H,@rfl _<|V.str<|pP i,rfl):_)
theorem QE(U:∃r∈ku old lead,r.length=m)(D:∀r∈ku old lead,r.length<=m)(X:bS F (KK F.w.params) (aQ<|Hd.f0 37) 7):∀l,dM F (.builtin "max") [.lst<|(ku old lead).map λr=>V.int (r.length:Nat)] [] (l,[]) (.ok<|.int (m:Int)) (l,[]):=λl=>by
 refine dM.bi rfl<|BI.aal (m:=(m:Int)) (bS.pZ X<|by omega) rfl (wt _) ?_ ?_
 .refine aR U λr H e=>?_;exact List.mem_map.mpr<|bM r H (by rw[e])
 .intro a E;(refine aR (List.mem_map.mp E) λr H Q=>?_;subst Q);exact Int.ofNat_le.mpr<|D r H
end
theorem xY(hl:p.length<=1000)(ho:cols.length=9)(hh:here.length=9)(h1:old.length<=100)(h2:lead.length<=100)(hm:∃r∈ku old lead,r.length=m)(hb:∀r∈ku old lead,r.length<=m)(h8:m<=8)(hj:gb ", " (fh m cols here)=aj)(UQ:(aY ", "<|fh m cols here).length<=2^16):dB 912 8 [.lst<|bh<|p++[(old,cols)],.str lead,.lst<|bY here] [] [] (.ok<|.str<|fo m cols here) []:=by
 refine FN.cu (d:=7) (ab:=cmA (bh<|p++[(old,cols)]) lead here) Va VV 'k' (xa λP S u u' Zc=>'k') λF hp hB X Y=>?_;have z:=(gT p (old,cols)).1;have Bi:(bh<|p++[(old,cols)])[p.length]? =ah (.tup [.str old,.lst<|bY cols]):=(gT p (old,cols)).2;have j:(bh<|p++[(old,cols)]).length=p.length+1:=by rw[fE,aD];rfl
 have y:(aP (λi:Nat=>V.str<|pP i) (hZ (cm cols here)<|aE<|m+1)).length<=10:=by have:=oF (cm cols here)<|aE<|m+1;rw[bJ]at this;rw[ax];omega
 have hse:(fh m cols here).length=(aP (λi:Nat=>V.str<|pP i) (hZ (cm cols here)<|aE<|m+1)).length:=by unfold fh;rw[ax,ax]
 have Q:(aa "at tab size").length=11:='k';have UN:(aa "s ").length=2:='k';have hl3:(aa " ").length=1:='k';have G:=LD (pile:=bh<|p++[(old,cols)]) (cols:=cols) (here:=here) h1 h2 hb h8 X;have E:=Iv (pile:=bh<|p++[(old,cols)]) (old:=old) (lead:=lead) ho hh h8 X;have hmx:=QE hm hb X;have H:aP (λi:Nat=>V.str<|pP i) (hZ (cm cols here)<|aE<|m+1)=(fh m cols here).map V.str:=by unfold fh;rw[cK];rfl
 rcases yI (decide<|((fh m cols here).length:Int)>1)with hs|hs<;>have U:=hs<;>rw[hse]at U
 .have D:fo m cols here="at tab size"++"s "++aY ", " (fh m cols here):=by unfold fo;rw[hs];rfl
  rw[D];exact(run X rfl (an:=[.i p.length<|V.tup [V.str old,V.lst<|bY cols],.x (V.lst<|aP (λ(r:aF)=>V.int (↑r.length:Int)) (ku old lead)) [],.c (Oc.ok<|V.int (↑m:Int)) [],.s FV.next {loc:=[("sizes",V.lst<|aP (λ(i:Nat)=>V.str<|pP i) (hZ (cm cols here)<|aE<|m+1)),("longest",V.int (↑m:Int)),("columns",V.lst<|bY cols),("old",V.str old),("pile",V.lst<|bh<|p++[(old,cols)]),("lead",V.str lead),("here",V.lst<|bY here)],obs:=[]},.b aj,.ss<|fh m cols here]) (p:=(_/\_/\(bh<|p++[(old,cols)]).length<=2^24)/\_/\_/\_/\_/\_/\(oS "at tab size").length+(oS "s ").length<=2^24/\_/\_/\(oS "at tab size"++oS "s ").length+(aY (oS ", ")<|fh m cols here).length<=2^24/\_/\([]:List O)=[]) 'k' (gz (z,Bi,(ai (ai (ar j)<|au hl<|aJ _)<|ae rfl)) (G) hmx (E) (CF y rfl) U (ai (au (ar Q)<|ar UN)<|ae rfl) H hj (ai (au (tB (ar Q)<|ar UN) UQ)<|ae rfl) (@rfl _<|Oc.ok<|V.str<|oS "at tab size"++oS "s "++aY (oS ", ") (fh m cols here)) rfl):_)
 .have D:fo m cols here="at tab size"++" "++aY ", " (fh m cols here):=by unfold fo;rw[hs];rfl
  rw[D];exact(run X rfl (an:=[.i p.length<|V.tup [V.str old,V.lst<|bY cols],.x (V.lst<|aP (λ(r:aF)=>V.int (↑r.length:Int)) (ku old lead)) [],.c (Oc.ok<|V.int (↑m:Int)) [],.s FV.next {loc:=[("sizes",V.lst<|aP (λ(i:Nat)=>V.str<|pP i) (hZ (cm cols here)<|aE<|m+1)),("longest",V.int (↑m:Int)),("columns",V.lst<|bY cols),("old",V.str old),("pile",V.lst<|bh<|p++[(old,cols)]),("lead",V.str lead),("here",V.lst<|bY here)],obs:=[]},.b ao,.ss<|fh m cols here]) (p:=(_/\_/\(bh<|p++[(old,cols)]).length<=2^24)/\_/\_/\_/\_/\_/\(oS "at tab size").length+(oS " ").length<=2^24/\_/\_/\(oS "at tab size"++oS " ").length+(aY (oS ", ")<|fh m cols here).length<=2^24/\_/\([]:List O)=[]) 'k' (gz (z,Bi,(ai (ai (ar j)<|au hl<|aJ _)<|ae rfl)) (G) hmx (E) (CF y rfl) U (ai (au (ar Q)<|ar hl3)<|ae rfl) H hj (ai (au (tB (ar Q)<|ar hl3) UQ)<|ae rfl) (@rfl _<|Oc.ok<|V.str<|oS "at tab size"++oS " "++aY (oS ", ") (fh m cols here)) rfl):_)
def bt(l:List Nat):Prop:=∀c∈l,c=32\/c=9
noncomputable def wsum(z:Nat):Nat ->List Nat ->Nat
 |_,[]=>0
 |i,c::r=>i/z*c+wsum z (i+1) r
theorem tD(z:Nat):∀(i:Nat) (l m:List Nat),wsum z i (l++m)=wsum z i l+wsum z (i+l.length) m
 |i,[],m=>(d9 _).symm
 |i,c::l,m=>by show i/z*c+wsum z (i+1) (l++m)=i/z*c+wsum z (i+1) l+_;rw[tD z (i+1) l m,aU,show i+1+l.length=i+(l.length+1) by exact cZ ..];exact(qF ..).symm
theorem yO(z:Nat):∀(i k:Nat),wsum z i (bU k 0)=0
 |i,0=>rfl
 |i,k+1=>by show i/z*0+wsum z (i+1) (bU k 0)=0;rw[yO z (i+1) k,Xu]
theorem yN(z:Nat):∀(i b:Nat) (l:List Nat),b<l.length ->wsum z i (l.set b<|l.getD b 0+1)=wsum z i l+(i+b)/z
 |i,b,[],h=>absurd h (vH _)
 |i,0,c::l,h=>by show i/z*(c+1)+wsum z (i+1) l=i/z*c+wsum z (i+1) l+i/z;rw[BU];exact cZ ..
 |i,b+1,c::l,h=>by show i/z*c+wsum z (i+1) (l.set b<|l.getD b 0+1)=i/z*c+wsum z (i+1) l+(i+(b+1))/z;rw[yN z (i+1) b l<|by simpa using h,show i+1+b=i+(b+1) by exact cZ ..];exact(qF ..).symm
theorem Dv(z:Nat)(cnt:List Nat)(b:Nat):wsum z 0 (exts cnt b)=wsum z 0 cnt:=by
 unfold exts;split
 .rw[tD,yO];rfl
 .rfl
theorem vO(z:Nat)(cnt:List Nat)(b:Nat):wsum z 0 (bump cnt b)=wsum z 0 cnt+b/z:=by unfold bump;rw[yN z 0 b _ (by rw[kF];exact cU ..),Dv,d9]
theorem l6(z:Nat):∀(i:Nat) (l:List Nat),i+l.length<=z ->wsum z i l=0
 |i,[],_=>rfl
 |i,c::l,h=>by rw[aU]at h;show i/z*c+wsum z (i+1) l=0;rw[l6 z (i+1) l<|by exact j5 h (by omega),Ml<|by exact qU h (by omega),BR]
noncomputable def lv(cnt:List Nat)(b nt z:Nat):Nat:=b+z*(wsum z 0 cnt+nt)
theorem Hr(cnt:List Nat)(z:Nat)(hz:1<=z):MW cnt z=(wsum z 0 cnt:Nat):=by
 unfold MW;by_cases h:cnt.length<=z
 .rw[Nat.sub_eq_zero_of_le h,l6 z 0 cnt<|by exact j5 h (by omega)];rfl
 .have e:wsum z 0 cnt=wsum z z (cnt.drop z):=by
   conv=>lhs;rw[<-jI z cnt]
   rw[tD,l6 z 0 (cnt.take z) (by rw[dA];lia),dA,N0<|by exact j5 (ck h) (by omega),d9,d9]
  rw[e];have g:∀(l:List Nat) (i:Nat) (Q:Int),(∀j,l.getD j 0=cnt.getD (z+(i+j)) 0)->((Dp i l.length).foldl (ph cnt z) Q)=Q+(wsum z (z+i) l:Nat):=by
   intro l;induction l with
   |nil=>intro i Q _;exact(Int.add_zero Q).symm
   |cons c l D=>
    intro i Q H;rw[aU,List.range'_succ,eh,D (i+1) _ λj=>by have:=H<|j+1;rw[show i+(j+1)=i+1+j by(simp+arith only;done)]at this;exact this]
    have U:=H 0;show _=Q+((((z+i)/z*c+wsum z (z+i+1) l:Nat)):Int);unfold ph;rw[show z+(i+0)=z+i by exact RK]at U;rw[<-U,show z+(i+1)=z+i+1 by exact RK,show((z:Int)+(i:Nat)).fdiv z=(((z+i)/z:Nat):Int)from by rw[<-ei];exact(Int.ofNat_fdiv _ _).symm];simp only[List.getD_cons_zero,ei,fV];(simp+arith only;done)
  have:=g (cnt.drop z) 0 0 λj=>by rw[aI,aI,gA,d9]
  rw[mK]at this;rw[List.range_eq_range',this,Xy,Xw]
theorem qZ(nt b z:Nat)(cnt:List Nat)(hz:1<=z):lvl nt cnt b z=(lv cnt b nt z:Nat):=by unfold lvl lv;rw[Hr cnt z hz];simp[ei,fV]
theorem Ir{cnt:List Nat}(hz:1<=z)(Q:c=32\/c=9):gK z (lv cnt b nt z:Nat) c=((if c=32 then lv cnt (b+1) nt z else lv (bump cnt b) 0 (nt+1) z:Nat):Int):=by
 unfold gK;rcases Q with rfl|rfl
 .rw[if_pos rfl,if_pos rfl];unfold lv;(simp+arith only[ei,fV,gH];done)
 .rw[if_neg 'd',if_neg 'd'];unfold lv;rw[vO];have U:((b+z*(wsum z 0 cnt+nt):Nat):Int).fmod z=((b%z:Nat):Int):=by
   rw[show((b+z*(wsum z 0 cnt+nt):Nat):Int).fmod z=(((b+z*(wsum z 0 cnt+nt))%z:Nat):Int)from(RE _ _).symm,Nat.add_mul_mod_self_left]
  rw[U];have D:=Nat.div_add_mod b z;have H:z*(wsum z 0 cnt+b/z+(nt+1))=z*(wsum z 0 cnt+nt)+z*(b/z)+z:=by rw[show wsum z 0 cnt+b/z+(nt+1)=(wsum z 0 cnt+nt)+b/z+1 by(simp+arith only;done),YH,YH,Nat.mul_one]
  rw[H];omega
theorem uU(hz:1<=z):∀(l cnt:List Nat) (b n nt:Nat),bt l ->l.foldl (gK z) (lv cnt b nt z:Nat)=(lv (cM l cnt b n nt).1 (cM l cnt b n nt).2.1 (cM l cnt b n nt).2.2.2 z:Nat)
 |[],cnt,b,n,nt,_=>rfl
 |c::l,cnt,b,n,nt,h=>by
  rw[eh,Ir hz<|h c<|.head _];unfold cM;have Q:bt l:=λd hd=>h d<|.tail _ hd;rcases h c (.head _)with rfl|rfl
  .rw[if_pos rfl,if_pos rfl];exact uU hz l cnt (b+1) (n+1) nt Q
  .rw[if_neg 'd',if_neg 'd',if_pos rfl];exact uU hz l (bump cnt b) 0 (n+1) (nt+1) Q
structure NQ (cnt:List Nat) (b n nt:Nat):Prop where
 one:n=lv cnt b nt 1
 sum:nt=cnt.sum
 last:∀h:cnt≠[],cnt.getLast h≠0
 len:cnt.length<=n+1/\(cnt≠[]->cnt.length<=n)/\b<=n
theorem sum_set:∀(l:List Nat) (b:Nat),b<l.length ->(l.set b<|l.getD b 0+1).sum=l.sum+1
 |[],b,h=>absurd h (vH _)
 |c::l,0,h=>by show(c+1)+l.sum=c+l.sum+1;exact cZ ..
 |c::l,b+1,h=>by show c+(l.set b<|l.getD b 0+1).sum=c+l.sum+1;rw[sum_set l b<|by simpa using h];exact RK
theorem FG(cnt:List Nat)(b:Nat):(exts cnt b).sum=cnt.sum:=by
 unfold exts;split
 .simp
 .rfl
theorem II(cnt:List Nat)(b:Nat):(bump cnt b).sum=cnt.sum+1:=by unfold bump;rw[sum_set _ _ (by rw[kF];exact cU ..),FG]
theorem En{cnt:List Nat}(h:∀h:cnt≠[],cnt.getLast h≠0):∀h:bump cnt b≠[],(bump cnt b).getLast h≠0:=by
 intro E;rw[mL];have U:=lR cnt b;by_cases H:cnt.length<=b+1
 .have e:(bump cnt b).length -1=b:=by rw[U,iB H];rfl
  have:(bump cnt b)[(bump cnt b).length -1]? =ah ((exts cnt b).getD b 0+1):=by rw[e];exact IJ cnt b
  rw[az<|ZW E]at this;rw[dG this];exact λk=>RM (ar k) (by omega)
 .have Q:cnt≠[]:=λq=>by rw[q]at H;simp at H
  have e:(bump cnt b).length -1=cnt.length -1:=by rw[U,oD<|cN<|ck H]
  have u:(bump cnt b)[cnt.length -1]? =cnt[cnt.length -1]? :=by unfold bump exts;rw[if_neg<|by exact λk=>XM (ck H) k<|by omega,Dq<|by omega]
  have D:=h Q;rw[mL]at D;have G:(bump cnt b)[(bump cnt b).length -1]? =cnt[cnt.length -1]? :=by rw[e];exact u
  rw[az<|ZW E,az<|ZW Q]at G;rw[dG G];exact D
theorem xq:∀(l cnt:List Nat) (b n nt:Nat),bt l ->NQ cnt b n nt ->NQ (cM l cnt b n nt).1 (cM l cnt b n nt).2.1 (cM l cnt b n nt).2.2.1 (cM l cnt b n nt).2.2.2/\(cM l cnt b n nt).2.2.1=n+l.length
 |[],cnt,b,n,nt,_,i=>(i,rfl)
 |c::l,cnt,b,n,nt,h,i=>by
  have Q:bt l:=λd hd=>h d<|.tail _ hd;unfold cM;rw[aU];rcases h c (.head _)with rfl|rfl
  .rw[if_pos rfl];have i' :NQ cnt (b+1) (n+1) nt:=(by have:=i.one;unfold lv at this⊢;exact ZN this<|by omega,i.sum,i.last,by refine vC (i.len) λa b c=>?_;exact(by exact ba a,λh=>by have:=b h;omega,by exact eS c));refine fk (xq l cnt (b+1) (n+1) nt Q i') λa b=>?_;exact(a,by rw[b];exact cZ ..)
  .rw[if_neg 'd',if_pos rfl];have i' :NQ (bump cnt b) 0 (n+1) (nt+1):=by
    refine(?_,by rw[II,<-i.sum],En i.last,?_)
    .have:=i.one;unfold lv at this⊢;rw[vO,Nat.div_one];exact ZN this (by omega)
    .refine vC (i.len) λE H D=>?_;rw[lR];refine(by lia,λU=>?_,by exact bH _);by_cases q:cnt=[]
     .rw[q];simp;omega
     .have:=H q;omega
   refine fk (xq l (bump cnt b) 0 (n+1) (nt+1) Q i') λa b=>?_;exact(a,by rw[b];exact cZ ..)
theorem J' :NQ [] 0 0 0:=(rfl,rfl,λh=>absurd rfl h,bH _,λh=>absurd rfl h,aJ _)
theorem qS:∀(l r cnt:List Nat) (b n nt:Nat),bt l ->(∀c U,r=c::U ->c≠32/\c≠9)->cM (l++r) cnt b n nt=cM l cnt b n nt
 |[],[],cnt,b,n,nt,_,_=>rfl
 |[],c::r,cnt,b,n,nt,_,h=>by refine fk (h c r rfl) λE D=>?_;show cM (c::r) cnt b n nt=_;unfold cM;rw[if_neg E,if_neg D]
 |c::l,r,cnt,b,n,nt,H,h=>by
  have Q:bt l:=λd hd=>H d<|.tail _ hd;show cM (c::(l++r)) cnt b n nt=_;unfold cM;rcases H c (.head _)with rfl|rfl
  .rw[if_pos rfl,if_pos rfl];exact qS l r _ _ _ _ Q h
  .rw[if_neg 'd',if_pos rfl,if_neg 'd',if_pos rfl];exact qS l r _ _ _ _ Q h
theorem rY:∀l Q:List Nat,fb (l.map λc=>aG (c:Nat)) (Q.map λc=>aG (c:Nat))=decide (l=Q)
 |[],[]=>rfl
 |[],c::l=>by simp[fb]
 |c::l,[]=>by simp[fb]
 |c::l,H::Q=>by rw[bw,bw];show(bA (.int (c:Nat)) (.int (H:Nat))&&fb (l.map _) (Q.map _))=_;rw[rY l Q];show(((c:Int)==(H:Int))&&decide (l=Q))=_;rw[eT];simp only[aw,beq_iff_eq,decide_eq_true_eq,List.cons.injEq,N3]
theorem Lo(cnt aX:List Nat)(b b' :Nat):bA (lO cnt b) (lO aX b')=decide (cnt=aX/\b=b'):=by skip;show(fb (cnt.map λc=>aG (c:Nat)) (aX.map λc=>aG (c:Nat))&&(((b:Int)==(b' :Int))&&aj))=_;rw[rY,eT];simp only[aw,beq_iff_eq,decide_eq_true_eq,and_true,N3]
structure Md (cnt:List Nat) (b n nt:Nat) (aX:List Nat) (b' n' dS:Nat):Prop where
 i:NQ cnt b n nt
 i' :NQ aX b' n' dS
 n8:n<=8
 n8' :n' <=8
theorem cmx(a b:Nat):((max a b:Nat):Int)=max (a:Int) (b:Int):=by
 rcases Nat.le_total a b with h|h
 .rw[iB h,jZ<|Int.ofNat_le.mpr h]
 .rw[oD h,vJ<|Int.ofNat_le.mpr h]
theorem mx(k b:Nat):max ((k:Int) -1) (b:Int)=((max (k -1) b:Nat):Int):=by
 cases k with
 |zero=>rw[show((0:Nat) -1:Nat)=0 from rfl,iB<|bH _];exact jZ (nV 'd'<|aL b)
 |succ k=>rw[lE,ei,show((1:Nat):Int)=1 from rfl,JC,cmx]
noncomputable def rN(cnt:List Nat)(b:Nat):Nat:=max (cnt.length -1) b
theorem Fu(cnt aX:List Nat)(b b' :Nat):iZ cnt aX b b' =((max (rN cnt b) (rN aX b'):Nat):Int)+1:=by unfold iZ;rw[ee,ee,mx,mx,<-cmx];rfl
section
variable{cnt aX:List Nat} {b n nt b' n' dS:Nat}
theorem jU(h:cnt.length<=z):lv cnt b nt z=b+z*nt:=by unfold lv;rw[l6 z 0 cnt<|by exact j5 h (by omega),d9]
theorem Md.nine(T:Md cnt b n nt aX b' n' dS):cnt.length<=9/\aX.length<=9/\b<=8/\b' <=8:=by refine vC (T.i.len) λG E D=>?_;refine vC (T.i'.len) λH U Q=>?_;have:=T.n8;have:=T.n8';exact(cy (by lia) (by exact rS H this (by omega)) (by lia) (by exact ai Q this))
theorem G'(T:Md cnt b n nt aX b' n' dS):(if decide ((n:Int)>=(n' :Int))=aj then ao
 else if decide (((bf cnt).length:Int)<=1)=aj/\decide (((bf aX).length:Int)<=1)=aj then decide ((nt:Int)<=(dS:Int))
 else !(aE ((iZ cnt aX b b')+1 -2).toNat).any (pY nt dS cnt aX b b'))=aj↔∀z,1<=z ->z<=9 ->lv cnt b nt z<lv aX b' dS z:=by
 refine j7 (T.nine) λn1 m n3 n4=>?_;have j:=T.i.one;have y:=T.i'.one;have f9:=jU (b:=b) (nt:=nt) n1;have E:=jU (b:=b') (nt:=dS) m;by_cases hn:n<n'
 .rw[if_neg (by simp;omega),ee,ee];by_cases U:cnt.length<=1/\aX.length<=1
  .rw[if_pos (by simp;exact(XN U.1,XN U.2))];rw[decide_eq_true_iff];constructor
   .intro h z H h9;rw[jU<|ai U.1 H,jU<|ai U.2 H];rw[jU U.1]at j;rw[jU U.2]at y;obtain⟨k,rfl⟩:∃k,z=k+1:=(z -1,by exact(jl H).symm);have h' :nt<=dS:=by lia
    have:=kM k h';rw[sU,sU];lia
   .intro h;have:=h 9 'd' 'd';rw[f9,E]at this;lia
  .rw[if_neg (by simp;lia)];rw[Fu];generalize D:max (rN cnt b) (rN aX b')=R;have u:cnt.length -1<=R/\b<=R:=D▸(ai (gP _ b)<|gP _ _,ai (cU _ b)<|gP _ _);have G:aX.length -1<=R/\b' <=R:=D▸(ai (gP _ b')<|cU _ _,ai (cU _ b')<|cU _ _);have r8:R<=8:=D▸Nat.max_le.mpr (Nat.max_le.mpr (EA n1 1,n3),Nat.max_le.mpr (EA m 1,n4));rw[show(((R:Nat):Int)+1+1 -2).toNat=R by exact ZL];rw[dk,sj];constructor
   .intro h;have Q:∀z,1<=z ->z<=R+1 ->lv cnt b nt z<lv aX b' dS z:=by
     intro z H h2;by_cases q:z=1
     .subst q;exact qm3 (ar y) hn (ar j.symm) (by omega)
     .have:=h (z -2)<|List.mem_range.mpr (by lia);unfold pY at this;rw[show 2+(z -2)=z by lia,qZ _ _ _ _ H,qZ _ _ _ _ H]at this;simp at this;omega
    have top:=Q (R+1) (by exact eJ _) (aJ _);rw[jU<|kg u.1,jU<|kg G.1]at top;have le:nt<=dS:=by
     apply gZ;intro q;have H:dS+1<=nt:=by exact ck q
     have:=kM (R+1) H;rw[BU]at this;lia
    intro z H h9;by_cases q:z<=R+1
    .exact Q z H q
    .have q:=cN<|ck q;rw[jU<|ai (kg u.1) q,jU<|ai (kg G.1) q];obtain⟨k,rfl⟩:∃k,z=(R+1)+k:=(z -(R+1),(kN q).symm);have:=kM k le;rw[YJ (R+1) k nt,YJ (R+1) k dS];lia
   .intro h i hi;have:=h (2+i) (by(simp+arith only;done)) (by have:=List.mem_range.mp hi;exact rS this r8<|by omega);unfold pY;rw[qZ _ _ _ _<|ai 'd'<|a9 2 i,qZ _ _ _ _<|ai 'd'<|a9 2 i];simp;omega
 .rw[if_pos (by simp;exact dD hn)];refine(λq=>absurd q 'd',λh=>?_);have:=h 1 'd' 'd';lia
theorem rm(z:Nat):∀(k i:Nat) (l:List Nat),l.length<=k ->wsum z i l=((aE k).map λj=>(i+j)/z*l.getD j 0).sum
 |0,i,l,h=>by have:=List.length_eq_zero_iff.mp<|Nat.le_zero.mp h;subst this;rfl
 |k+1,i,[],h=>by
  have e:∀m:Nat,((aE m).map λj=>(i+j)/z*([]:List Nat).getD j 0).sum=0:=λm=>by
   induction m with
   |zero=>rfl
   |succ m Q=>rw[nU,bx,nT,Q];simp
  exact(e _).symm
 |k+1,i,c::l,h=>by rw[AM,bw,lZ,cK];show i/z*c+wsum z (i+1) l=(i+0)/z*c+_;rw[rm z k (i+1) l<|by simpa using h,Xw];congr 2;apply gi;intro j _;show(i+1+j)/z*l.getD j 0=(i+(j+1))/z*l.getD j 0;rw[show i+1+j=i+(j+1) by exact cZ ..]
theorem tP:∀(k:Nat) (l:List Nat),l.length<=k ->l.sum=((aE k).map λj=>l.getD j 0).sum
 |0,l,h=>by have:=List.length_eq_zero_iff.mp<|Nat.le_zero.mp h;subst this;rfl
 |k+1,[],h=>by
  have e:∀m:Nat,((aE m).map λj=>([]:List Nat).getD j 0).sum=0:=λm=>by
   induction m with
   |zero=>rfl
   |succ m Q=>rw[nU,bx,nT,Q];simp
  exact(e _).symm
 |k+1,c::l,h=>by rw[AM,bw,lZ,cK,lZ,tP k l<|by simpa using h];rfl
theorem rW{l m:List Nat}(H:∀h:l≠[],l.getLast h≠0)(h:∀i,l.getD i 0=m.getD i 0):l.length<=m.length:=by
 apply gZ;intro q;have Q:l≠[]:=λe=>by rw[e]at q;simp at q
 have:=H Q;rw[mL]at this;have e:=h<|l.length -1;rw[aI,az<|by omega,aI,jO<|by omega]at e;exact this (by simpa using e)
theorem By(H:∀h:l≠[],l.getLast h≠0)(Q:∀h:m≠[],m.getLast h≠0)(h:∀i,l.getD i 0=m.getD i 0):l=m:=by have D:=rW H h;have U:=rW Q λi=>(h i).symm;refine mO (by exact gQ D U) λi a b=>?_;have:=h i;rw[aI,az a,aI,az b]at this;simpa using this
theorem xm{f g:Nat ->Nat}:∀n,z<n ->(∀j,j≠z ->f j=g j)->((aE n).map f).sum=((aE n).map g).sum ->f z=g z
 |n+1,Q,h,e=>by
  rw[nU,bx,bx,nT,nT]at e;have e:((aE n).map f).sum+(f n+0)=((aE n).map g).sum+(g n+0):=e;by_cases q:z=n
  .subst q;rw[gi λj H=>h j<|iA<|List.mem_range.mp H]at e;exact EZ e
  .rw[h n<|gu q]at e;exact xm n (Nat.lt_of_le_of_ne (jz Q) q) h<|pG e
theorem zZ{l:List Nat}(h:l.length<=i):l.getD i 0=0:=by rw[aI,jO h];rfl
theorem z0(U:cnt.length<=9)(H:aX.length<=9)(w:∀z,1<=z ->z<=9 ->wsum z 0 cnt=wsum z 0 aX)(D:cnt.sum=aX.sum):∀k,k<=9 ->∀i,9<=i+k ->cnt.getD i 0=aX.getD i 0
 |0,_,i,h=>by exact(zZ<|ai U h).trans (zZ<|ai H h).symm
 |k+1,u,i,h=>by
  have E:=z0 U H w D k<|Nat.le_of_succ_le u;by_cases q:9<=i+k
  .exact E i q
  have up:∀j,i<j ->cnt.getD j 0=aX.getD j 0:=λj Q=>E j<|ai h (by rw[sV k 1,<-qF];exact pH Q k);have G:i<9:=dz (a9 i k)<|ck q;cases i with
  |zero=>
   rw[tP 9 cnt U,tP 9 aX H]at D;exact xm (f:=λj=>cnt.getD j 0) (g:=λj=>aX.getD j 0) 9 'd' (λj Q=>up j<|Jx Q) D
  |succ i=>
   have e:=w (i+1) (eJ i)<|cN G;rw[rm _ 9 0 cnt U,rm _ 9 0 aX H]at e;have:=xm (f:=λj=>(0+j)/(i+1)*cnt.getD j 0) (g:=λj=>(0+j)/(i+1)*aX.getD j 0) 9 G (λj Q=>by
    rcases Nat.lt_or_gt_of_ne Q with h|h
    .rw[d9,Ml h,BR,BR]
    .rw[up j h]) e
   rw[d9,Nat.div_self<|eJ i,EC,EC]at this;exact this
theorem Ei(T:Md cnt b n nt aX b' n' dS):bA (lO cnt b) (lO aX b')=aj↔∀z,1<=z ->z<=9 ->lv cnt b nt z=lv aX b' dS z:=by
 refine j7 (T.nine) λD U n3 n4=>?_;have H:=T.i.sum;have Q:=T.i'.sum;rw[Lo,decide_eq_true_iff];constructor
 .rintro⟨rfl,rfl⟩ z _ _;rw[<-H]at Q;rw[Q]
 .intro h;have y:=h 9 'd' 'd';have j:=h 8 'd' 'd';rw[jU D,jU U]at y;have bt:b=b' /\nt=dS:=by clear j;lia
  refine fk bt λu G=>?_;subst u G;have w:∀z,1<=z ->z<=9 ->wsum z 0 cnt=wsum z 0 aX:=λz E m=>by have:=h z E m;unfold lv at this;exact pG<|Nat.eq_of_mul_eq_mul_left E<|EZ this
  exact(By T.i.last T.i'.last λi=>z0 D U w (H.symm.trans Q) 9 (aJ _) i<|aM 9 i,rfl)
end
noncomputable abbrev LX:=Option<|List (List Nat)×Bool
noncomputable def zN(w:List Nat):LX ->LX
 |some (Q,b)=>ah (w::Q,b)
 |none=>aC
noncomputable def lx(st:Nat)(tok:List Nat)(qd:Bool)(es:Nat):List Nat ->LX
 |[]=>if st=32 then ah ([],ao)else if st=97 then ah ([tok],ao)else ah ([],aj)
 |c::r=>
  if st=32 then(if yv c=aj then lx 32 [] ao es r else if c=35 then(if 10∈r then aC else ah ([],ao))else if c=92 then lx 92 [] ao 97 r else if c=39\/c=34 then lx c [] ao es r else lx 97 [c] ao es r)
  else if st=97 then(if yv c=aj then zN tok (lx 32 [] ao 32 r)else if c=35 then(if 10∈r then aC else ah ([tok],ao))else if c=92 then lx 92 tok qd 97 r else if c=39\/c=34 then lx c tok qd es r else lx 97 (tok++[c]) qd es r)
  else if st=92 then(if es=97 then lx 97 (tok++[c]) qd 97 r else if c=92\/c=34 then lx 34 (tok++[c]) qd 34 r else lx 34 (tok++[92]++[c]) qd 34 r)
  else if c=st then lx 97 tok aj es r else if st=34/\c=92 then lx 92 tok aj 34 r else lx st (tok++[c]) aj es r
theorem DW{st:Nat}:lx st tok qd es (c::r)=
 (
 if st=32 then(if yv c=aj then lx 32 [] ao es r else if c=35 then(if 10∈r then aC else ah ([],ao))else if c=92 then lx 92 [] ao 97 r else if c=39\/c=34 then lx c [] ao es r else lx 97 [c] ao es r)
 else if st=97 then(if yv c=aj then zN tok (lx 32 [] ao 32 r)else if c=35 then(if 10∈r then aC else ah ([tok],ao))else if c=92 then lx 92 tok qd 97 r else if c=39\/c=34 then lx c tok qd es r else lx 97 (tok++[c]) qd es r)
 else if st=92 then(if es=97 then lx 97 (tok++[c]) qd 97 r else if c=92\/c=34 then lx 34 (tok++[c]) qd 34 r else lx 34 (tok++[92]++[c]) qd 34 r)
 else if c=st then lx 97 tok aj es r else if st=34/\c=92 then lx 92 tok aj 34 r else lx st (tok++[c]) aj es r):=rfl
def LT(l:List Nat)(m:TM)(ws:List (List Nat))(b:Bool):Prop:=
 (∃Q,pC l m aj Q/\ws=[]/\b=aj)\/
 (∃Q,pC l m ao Q/\Q.qd=ao/\Q.tok=[]/\ws=[]/\b=ao)\/
 ∃Q H,pC l m ao Q/\(Q.qd=aj\/Q.tok≠[])/\ws=Q.tok::H/\rG l Q.st Q.p Q.ln H b
theorem LT.go(h:eE l m (.go m'))(r:LT l m' ws b):LT l m ws b:=by
 rcases r with⟨k,a,e⟩|⟨k,a,e⟩|⟨k,w,a,e⟩
 .exact .inl (bM k (.go h a) e)
 .exact .inr (.inl<|bM k (.go h a) e)
 .exact .inr (.inr<|f' k w (.go h a) e)
theorem LT.run{l:List Nat}{st:Option Nat}{p:Nat}{n:Int}{ws:List (List Nat)}{b:Bool}(h:LT l (st,[],ao,32,p,n) ws b):rG l st p n ws b:=by
 rcases h with⟨k,a,rfl,rfl⟩|⟨k,a,b,c,rfl,rfl⟩|⟨k,w,a,e,rfl,r⟩
 .exact .err a
 .exact .stop a b c
 .exact .word a e r
def Z3(st:Nat)(tok:List Nat)(qd:Bool)(es:Nat):Prop:=
 (st=32/\tok=[]/\qd=ao)\/(st=97/\(qd=aj\/tok≠[]))\/(st=92/\(es=97\/(es=34/\qd=aj)))\/st=39\/st=34
theorem Lu{l:List Nat}{p c:Nat}{r:List Nat}(h:l.drop p=c::r):l[p]? =ah c/\l.drop (p+1)=r:=by
 constructor
 .rw[<-List.head?_drop,h];rfl
 .rw[<-List.tail_drop,h];rfl
theorem drop_nil{l:List Nat}{p:Nat}(h:l.drop p=[]):l.length<=p:=List.drop_eq_nil_iff.mp h
theorem Qg(Q:l.length<=p):rG l aC p n [] ao:=.stop (.stop<|.xC Q) rfl rfl
theorem S7(Q:l.length<=p):rG l (ah 32) p n [] ao:=.stop (.stop<|.yZ Q) rfl rfl
def OX(x:LX)(P:List (List Nat)->Bool ->Prop):Prop:=match x with
 |some q=>P q.1 q.2
 |none=>True
theorem OX.if[Decidable c](a:c ->OX x P)(b:¬c ->OX y P):OX (if c then x else y) P:=by
 by_cases h:c
 .rw[if_pos h];exact a h
 .rw[if_neg h];exact b h
theorem OX.go(h:eE l m (.go m'))(r:OX x (LT l m')):OX x (LT l m):=by
 cases x with
 |none=>exact trivial
 |some q=>exact LT.go h r
theorem OX.cons{l:List Nat}{m m' :TM}{x:LX}(h:eE l m (.stop m'))(Q:m'.qd=aj\/m'.tok≠[])(r:OX x (LT l (m'.st,[],ao,32,m'.p,m'.ln))):OX (zN m'.tok x) (LT l m):=by
 cases x with
 |none=>exact trivial
 |some q=>exact .inr<|.inr<|qp _ _ (.stop h) Q rfl<|LT.run r
theorem Lq(Q:qd=aj\/tok≠[]):ends tok qd=aj:=by
 unfold ends;rcases Q with Q|Q
 .rw[Q,sm]
 .cases tok with
  |nil=>exact absurd rfl Q
  |cons _ _=>rfl
theorem Hj(D:¬yv c=aj)(U:c≠35)(H:c≠92)(Q:¬(c=39\/c=34)):JF c=aj:=by rw[not_or]at Q;unfold JF;simp[D,U,H,Q.1,Q.2]
theorem Uc{l r:List Nat}:∀(st:Nat) (tok:List Nat) (qd:Bool) (es p:Nat) (n:Int),Z3 st tok qd es ->l.drop p=r ->OX (lx st tok qd es r) (LT l (ah st,tok,qd,es,p,n)):=by
 induction r with
 |nil=>
  intro st tok qd es p n ok hd;have j:=drop_nil hd;rcases ok with⟨rfl,rfl,rfl⟩|⟨rfl,y⟩|⟨rfl,y⟩|rfl|rfl
  .exact .inr (.inl<|C5 _ (.stop<|.yZ j) rfl rfl rfl rfl)
  .exact .inr (.inr<|qp _ [] (.stop<|.Rh j) y rfl<|Qg j)
  .exact .inl (uQ _ (.err<|.IT j) rfl rfl)
  .exact .inl (uQ _ (.err<|.Ck (.inl rfl) j) rfl rfl)
  .exact .inl (uQ _ (.err<|.Ck (.inr rfl) j) rfl rfl)
 |cons c r E=>
  intro st tok qd es p n ok hd;refine fk (Lu hd) λD H=>?_;rcases ok with⟨rfl,rfl,rfl⟩|⟨rfl,y⟩|⟨rfl,y⟩|rfl|rfl
  .refine OX.if (λU=>?_) λq=>absurd rfl q;refine OX.if (λz=>.go (.OM (tok:=[]) (qd:=ao) D z)<|E _ _ _ _ _ _ (.inl (rfl,rfl,rfl)) H) λz=>?_;refine OX.if (λu=>.if (λU=>trivial) λm=>.inr<|.inl ?_) λu=>?_
   .exact C5 _ (.go (.FO (u▸D) (by rw[H];exact m))<|.stop<|.yZ<|aJ _) rfl rfl rfl rfl
   refine OX.if (λG=>.go (.FT<|G▸D)<|E _ _ _ _ _ _ (.inr<|.inr<|.inl (rfl,.inl rfl)) H) λG=>?_;refine OX.if (λQ=>.go (.FP D Q)<|E _ _ _ _ _ _ (.inr<|.inr<|.inr Q) H) λQ=>?_;exact .go (.FQ D<|Hj z u G Q)<|E _ _ _ _ _ _ (.inr<|.inl (rfl,.inr<|cF _ _)) H
  .refine OX.if (λq=>absurd q 'd') λU=>.if (λU=>?_) λq=>absurd rfl q;have he:=Lq y;refine OX.if (λz=>?_) λz=>?_
   .have st:=eE.aWs (tok:=tok) (qd:=qd) (es:=es) (n:=n) D z;rw[he]at st;exact .cons st y<|E _ _ _ _ _ _ (.inl (rfl,rfl,rfl)) H
   refine OX.if (λu=>.if (λU=>trivial) λm=>.inr<|.inr ?_) λu=>?_
   .have st:=eE.Q9 (tok:=tok) (qd:=qd) (es:=es) (n:=n) (u▸D) (by rw[H];exact m);rw[he]at st;exact qp _ _ (.stop st) y rfl<|S7<|aJ _
   refine OX.if (λG=>.go (.Rg<|G▸D)<|E _ _ _ _ _ _ (.inr<|.inr<|.inl (rfl,.inl rfl)) H) λG=>?_;refine OX.if (λQ=>.go (.Ra D Q)<|E _ _ _ _ _ _ (.inr<|.inr<|.inr Q) H) λQ=>?_;exact .go (.Rb D<|Hj z u G Q)<|E _ _ _ _ _ _ (.inr<|.inl (rfl,.inr<|qH _<|cF _ _)) H
  .refine OX.if (λq=>absurd q 'd') λU=>.if (λq=>absurd q 'd') λU=>.if (λU=>?_) λq=>absurd rfl q;rcases y with rfl|⟨rfl,y⟩
   .exact OX.if (λU=>.go (.bsA D)<|E _ _ _ _ _ _ (.inr<|.inl (rfl,.inr<|qH _<|cF _ _)) H) λq=>absurd rfl q
   .refine OX.if (λq=>absurd q 'd') λU=>.if (λQ=>.go (.QM D Q)<|E _ _ _ _ _ _ (.inr<|.inr<|.inr<|.inr rfl) H) λQ=>?_;exact .go (.IU D (λq=>Q<|.inl q) (λq=>Q<|.inr q)) (E _ _ _ _ _ _ (.inr<|.inr<|.inr<|.inr rfl) H)
  .refine OX.if (λq=>absurd q 'd') λU=>.if (λq=>absurd q 'd') λU=>.if (λq=>absurd q 'd') λU=>?_;refine OX.if (λQ=>.go (.Cm (.inl rfl)<|Q▸D)<|E _ _ _ _ _ _ (.inr<|.inl (rfl,.inl rfl)) H) λQ=>.if (λq=>absurd q.1 'd') λU=>?_;exact .go (.FJ D Q)<|E _ _ _ _ _ _ (.inr<|.inr<|.inr<|.inl rfl) H
  .refine OX.if (λq=>absurd q 'd') λU=>.if (λq=>absurd q 'd') λU=>.if (λq=>absurd q 'd') λU=>?_;refine OX.if (λQ=>.go (.Cm (.inr rfl)<|Q▸D)<|E _ _ _ _ _ _ (.inr<|.inl (rfl,.inl rfl)) H) λQ=>?_;refine OX.if (λq=>.go (.Il<|q.2▸D)<|E _ _ _ _ _ _ (.inr<|.inr<|.inl (rfl,.inr (rfl,rfl))) H) λq=>?_;exact .go (.Ik D Q λe=>q (rfl,e)) (E _ _ _ _ _ _ (.inr<|.inr<|.inr<|.inr rfl) H)
theorem CE(h:lx 32 [] ao 32 l=ah (ws,b)):rG l (ah 32) 0 1 ws b:=by have:=Uc (l:=l) (r:=l) 32 [] ao 32 0 1 (.inl (rfl,rfl,rfl)) rfl;rw[h]at this;exact LT.run this
structure Tk (u w:List Nat):Prop where
 read:∀e r,∃qd e',(qd=aj\/w≠[])/\lx 32 [] ao e (u++r)=lx 97 w qd e' r
 cut:∀a b,u=a++10::b ->∀e,lx 32 [] ao e a=ah ([],aj)
theorem pf(h:x::l=a++10::b)(H:x≠10):∃Q,a=x::Q/\l=Q++10::b:=by
 cases a with
 |nil=>exact absurd (dn h).1 H
 |cons y Q=>obtain⟨D,U⟩:=dn h;exact(bM Q (by rw[D]) U)
noncomputable def EN(c:Nat):List Nat:=if c=39 then[39,34,39,34,39]else[c]
noncomputable def Bz(c:Nat):List Nat:=if c=92 then[92,92]else if c=34 then[92,34]else[c]
noncomputable def LK(c:Nat):List Nat:=[92,c]
theorem Ua(h:c≠39):lx 39 tok qd e (c::r)=lx 39 (tok++[c]) aj e r:=by rw[DW,if_neg 'd',if_neg 'd',if_neg 'd',if_neg h,if_neg λq=>absurd q.1 'd']
theorem GX:lx 39 tok qd e (39::r)=lx 97 tok aj e r:='k'
theorem KG(h:c≠34)(Q:c≠92):lx 34 tok qd e (c::r)=lx 34 (tok++[c]) aj e r:=by rw[DW,if_neg 'd',if_neg 'd',if_neg 'd',if_neg h,if_neg λq=>Q q.2]
theorem GY:lx 34 tok qd e (34::r)=lx 97 tok aj e r:='k'
theorem CA(h:c=92\/c=34):lx 34 tok qd e (92::c::r)=lx 34 (tok++[c]) aj 34 r:=by rw[DW,if_neg 'd',if_neg 'd',if_neg 'd',if_neg 'd',if_pos (rfl,rfl),DW,if_neg 'd',if_neg 'd',if_pos rfl,if_neg 'd',if_pos h]
theorem Cz(h:c=39\/c=34):lx 97 tok qd e (c::r)=lx c tok qd e r:=by rw[DW,if_neg 'd',if_pos rfl,if_neg (by rcases h with rfl|rfl<;>decide),if_neg (by rcases h with rfl|rfl<;>decide),if_neg (by rcases h with rfl|rfl<;>decide),if_pos h]
theorem CC(h:c=39\/c=34):lx 32 tok qd e (c::r)=lx c [] ao e r:=by rw[DW,if_pos rfl,if_neg (by rcases h with rfl|rfl<;>decide),if_neg (by rcases h with rfl|rfl<;>decide),if_neg (by rcases h with rfl|rfl<;>decide),if_pos h]
theorem MP:lx 97 tok qd e (92::c::r)=lx 97 (tok++[c]) qd 97 r:='k'
theorem Po:lx 97 tok qd e [92]=ah ([],aj):='k'
theorem MQ:lx 32 tok qd e (92::c::r)=lx 97 [c] ao 97 r:='k'
theorem Pp:lx 32 tok qd e [92]=ah ([],aj):='k'
theorem T'(h:JF c=aj):lx 97 tok qd e (c::r)=lx 97 (tok++[c]) qd e r:=by
 refine cH λu H=>?_;refine uP (n9 h) λE D U Q G=>?_;refine H ?_;rw[DW,if_neg 'd',if_pos rfl,if_neg (by rw[E];decide),if_neg<|beq_eq_false_iff_ne.mp D,if_neg<|beq_eq_false_iff_ne.mp U,if_neg (by
  intro q;rw[ka]at Q;rcases q with q|q
  .exact beq_eq_false_iff_ne.mp Q.1 q
  .exact beq_eq_false_iff_ne.mp Q.2 q)]
theorem Ub(h:JF c=aj):lx 32 tok qd e (c::r)=lx 97 [c] ao e r:=by
 refine cH λu H=>?_;refine uP (n9 h) λE D U Q G=>?_;refine H ?_;rw[DW,if_pos rfl,if_neg (by rw[E];decide),if_neg<|beq_eq_false_iff_ne.mp D,if_neg<|beq_eq_false_iff_ne.mp U,if_neg (by
  intro q;rw[ka]at Q;rcases q with q|q
  .exact beq_eq_false_iff_ne.mp Q.1 q
  .exact beq_eq_false_iff_ne.mp Q.2 q)]
theorem xo:∀(w tok:List Nat) (qd:Bool) (e:Nat) (r:List Nat),lx 39 tok qd e (w.flatMap EN++39::r)=lx 97 (tok++w) aj e r
 |[],tok,qd,e,r=>by rw[cb];exact GX
 |c::w,tok,qd,e,r=>by
  rw[cW];unfold EN;by_cases h:c=39
  .subst h;rw[if_pos rfl];show lx 39 tok qd e (39::34::39::34::39::(w.flatMap EN++39::r))=_;rw[GX,Cz<|.inr rfl,KG 'd' 'd',GY,Cz<|.inl rfl,xo w];simp
  .rw[if_neg h];show lx 39 tok qd e (c::(w.flatMap EN++39::r))=_;rw[Ua h,xo w];simp
theorem A4:∀(w tok:List Nat) (qd:Bool) (e:Nat) (a b:List Nat),w.flatMap EN++[39]=a++10::b ->lx 39 tok qd e a=ah ([],aj)
 |[],tok,qd,e,a,b,h=>by (refine aR (pf (x:=39) h 'd') λa' Q z=>?_;subst Q);exact absurd z (by simp)
 |c::w,tok,qd,e,a,b,h=>by
  by_cases H:c=39
  .subst H;(refine aR (pf (x:=39) h 'd') λa1 Q u=>?_;subst Q);(refine aR (pf (x:=34) u 'd') λa2 Q G=>?_;subst Q);(refine aR (pf (x:=39) G 'd') λa3 Q E=>?_;subst Q);(refine aR (pf (x:=34) E 'd') λa4 Q D=>?_;subst Q);(refine aR (pf (x:=39) D 'd') λa5 Q U=>?_;subst Q);rw[GX,Cz<|.inr rfl,KG 'd' 'd',GY,Cz<|.inl rfl];exact A4 w _ _ _ _ _ U
  .rw[cW,show EN c=[c]from if_neg H]at h;cases a with
   |nil=>rfl
   |cons y a' =>
    refine fk (dn h) λm j=>?_;subst m;rw[Ua H];exact A4 w _ _ _ _ _ j
theorem Mz(w:List Nat):Tk (39::(w.flatMap EN++[39])) w where
 read:=λe r=>(f' aj e (.inl rfl) (by show lx 32 [] ao e (39::((w.flatMap EN++[39])++r))=_;rw[CC<|.inl rfl,dj,jJ,xo];rfl))
 cut:=λa b h e=>by (refine aR (pf (x:=39) h 'd') λU Q H=>?_;subst Q);rw[CC<|.inl rfl];exact A4 w _ _ _ _ _ H
theorem ti:∀(w tok:List Nat) (qd:Bool) (e:Nat) (r:List Nat),∃Q,lx 34 tok qd e (w.flatMap Bz++34::r)=lx 97 (tok++w) aj Q r
 |[],tok,qd,e,r=>(e,by rw[cb];exact GY)
 |c::w,tok,qd,e,r=>by
  rw[cW];unfold Bz;by_cases h:c=92
  .subst h;obtain⟨Q,H⟩:=ti w (tok++[92]) aj 34 r;rw[if_pos rfl];refine(Q,?_);show lx 34 tok qd e (92::92::(w.flatMap Bz++34::r))=_;rw[CA<|.inl rfl,H];simp
  .rw[if_neg h];by_cases U:c=34
   .subst U;obtain⟨Q,H⟩:=ti w (tok++[34]) aj 34 r;rw[if_pos rfl];refine(Q,?_);show lx 34 tok qd e (92::34::(w.flatMap Bz++34::r))=_;rw[CA<|.inr rfl,H];simp
   .rw[if_neg U];obtain⟨Q,H⟩:=ti w (tok++[c]) aj e r;refine(Q,?_);show lx 34 tok qd e (c::(w.flatMap Bz++34::r))=_;rw[KG U h,H];simp
theorem x4:∀(w tok:List Nat) (qd:Bool) (e:Nat) (a b:List Nat),w.flatMap Bz++[34]=a++10::b ->lx 34 tok qd e a=ah ([],aj)
 |[],tok,qd,e,a,b,h=>by (refine aR (pf (x:=34) h 'd') λm Q E=>?_;subst Q);exact absurd E (by simp)
 |c::w,tok,qd,e,a,b,h=>by
  by_cases U:c=92
  .subst U;(refine aR (pf (x:=92) h 'd') λj Q D=>?_;subst Q);(refine aR (pf (x:=92) D 'd') λz Q H=>?_;subst Q);rw[CA<|.inl rfl];exact x4 w _ _ _ _ _ H
  .by_cases H:c=34
   .subst H;(refine aR (pf (x:=92) h 'd') λj Q D=>?_;subst Q);(refine aR (pf (x:=34) D 'd') λz Q H=>?_;subst Q);rw[CA<|.inr rfl];exact x4 w _ _ _ _ _ H
   .rw[cW,show Bz c=[c]from(if_neg U).trans (if_neg H)]at h;cases a with
    |nil=>rfl
    |cons y m=>
     refine fk (dn h) λu G=>?_;subst u;rw[KG H U];exact x4 w _ _ _ _ _ G
theorem SU(w:List Nat):Tk (34::(w.flatMap Bz++[34])) w where
 read:=λe r=>by refine eN (ti w [] ao e r) λU h=>?_;refine(f' aj U (.inl rfl) ?_);show lx 32 [] ao e (34::((w.flatMap Bz++[34])++r))=_;rw[CC<|.inr rfl,dj,jJ,h];rfl
 cut:=λa b h e=>by (refine aR (pf (x:=34) h 'd') λD Q H=>?_;subst Q);rw[CC<|.inr rfl];exact x4 w _ _ _ _ _ H
theorem De:∀(w tok:List Nat) (e:Nat) (r:List Nat),∃Q,lx 97 tok ao e (w.flatMap LK++r)=lx 97 (tok++w) ao Q r
 |[],tok,e,r=>(e,by rw[cb];rfl)
 |c::w,tok,e,r=>by obtain⟨Q,H⟩:=De w (tok++[c]) 97 r;refine(Q,?_);show lx 97 tok ao e (92::c::(w.flatMap LK++r))=_;rw[MP,H];simp
theorem IS:∀(w tok:List Nat) (e:Nat) (a b:List Nat),w.flatMap LK=a++10::b ->lx 97 tok ao e a=ah ([],aj)
 |[],tok,e,a,b,h=>absurd h (by simp)
 |c::w,tok,e,a,b,h=>by
  (refine aR (pf (x:=92) h 'd') λH Q U=>?_;subst Q);cases H with
  |nil=>exact Po
  |cons y H=>
   refine fk (dn U) λE D=>?_;subst E;rw[MP];exact IS w _ _ _ _ D
theorem SV(w:List Nat)(U:w≠[]):Tk (w.flatMap LK) w:=by
 cases w with
 |nil=>exact absurd rfl U
 |cons c w=>
  refine(λe r=>?_,λa b h e=>?_)
  .refine eN (De w [c] 97 r) λu h=>?_;refine(f' ao u (.inr<|cF _ _) ?_);show lx 32 [] ao e (92::c::(w.flatMap LK++r))=_;rw[MQ,h];rfl
  ·(refine aR (pf (x:=92) h 'd') λH Q D=>?_;subst Q);cases H with
   |nil=>exact Pp
   |cons y H=>
    refine fk (dn D) λG E=>?_;subst G;rw[MQ];exact IS w _ _ _ _ E
theorem Co:∀(w tok:List Nat) (e:Nat) (r:List Nat),(∀c∈w,JF c=aj)->lx 97 tok ao e (w++r)=lx 97 (tok++w) ao e r
 |[],tok,e,r,_=>by rw[cb];rfl
 |c::w,tok,e,r,h=>by show lx 97 tok ao e (c::(w++r))=_;rw[T'<|h c<|.head _,Co w _ _ _ λd hd=>h d<|.tail _ hd];simp
theorem SS(w:List Nat)(Q:w≠[])(h:∀c∈w,JF c=aj):Tk w w:=by
 refine(λe r=>?_,λa b e U=>?_)
 .cases w with
  |nil=>exact absurd rfl Q
  |cons c w=>
   refine(f' ao e (.inr<|cF _ _) ?_);show lx 32 [] ao e (c::(w++r))=_;rw[Ub<|h c<|.head _,Co w _ _ _ λd hd=>h d<|.tail _ hd];rfl
 .have:=h 10 (by rw[e];simp);exact absurd this 'd'
noncomputable def a8(n i:Nat):Nat:=n/10^i%10
theorem pj(n i:Nat):a8 n i<10:=d' _ 'd'
noncomputable def tY:List aF:=[" ","\t","  "," \t","\t ","   "]
noncomputable def dN(f:Nat):aF:=tY.getD (f%6) ""
noncomputable def xv:List aF:=["","# it's","#\""]
noncomputable def iE(f:Nat):aF:=xv.getD (f%3) ""
theorem md(f:Nat):(dN f).length<=3:=(by decide+kernel:∀k,k<6 ->(tY.getD k "").length<=3) _<|d' f 'd'
theorem zh(f:Nat):(iE f).length<=6:=(by decide+kernel:∀k,k<3 ->(xv.getD k "").length<=6) _<|d' f 'd'
noncomputable abbrev ie(n:Nat)(i:Nat):V:=V.int<|((n:Int).fdiv<|10^i).fmod 10
theorem DL(n i:Nat):ie n i=V.int ((a8 n i:Nat):Int):=by
 unfold ie a8;have Q:((n:Int).fdiv<|10^i)=((n/10^i:Nat):Int):=by
  have H:((10:Int)^i)=((10^i:Nat):Int):=by simp
  rw[H,yt _<|aL _];rfl
 rw[Q,fD _ 'd'];rfl
theorem gU(n:Nat)(h:k<9):(aP (ie n)<|aE 9)[k]? =ah (V.int ((a8 n k:Nat):Int)):=by rw[bF,EG h];exact congrArg ah<|DL n k
theorem kh{f k N:Nat}(H:N=k)(Q:0<k):place (((f:Nat):Int).fmod (k:Int)) N=ah (f%k):=by
 subst H;unfold place;have e:((f:Nat):Int).fmod (N:Int)=((f%N:Nat):Int):=by rw[fD _<|by exact aL _];rfl
 rw[e,if_pos<|by exact aL _,if_pos (by have:=d' f Q;assumption),gY]
theorem nz{L:List aF}(h:l=L.map V.str)(Q:L.length=k)(H:0<k):l[f%k]? =ah (.str<|L.getD (f%k) ""):=by subst h;have:=d' f H;rw[bF,az<|by(rw[Q];exact this),aI,az<|by omega];rfl
noncomputable def rwS:cn:=OA (eA<|Hd.f0 35)[0]?
theorem Cf{n:Nat}(X:bS F (KK F.w.params) (aQ<|Hd.f0 35) 7):EX F rwS ([("number",.int n),("pile",.lst p)],[]) .next ([("figures",.lst<|aP (ie n)<|aE 9),("number",.int n),("pile",.lst p)],[]):=by
 refine abp (x:="figures") (y:="place") X 'k' 'k' 'k' 'k'<|uS (y:="place") (v:=.ky 0 9) (λi:Nat=>V.int<|(0:Int)+(i:Int)) (ie n) (aE 9) [("number",.int n)] X (by exact aM ..) 'k' 'k' (by intros;rfl) ?_ rfl (cy 'd' 'd' 'd' 'd') 'd' (rfl,trivial) (λv=>(rfl,trivial)) λj z U U U i D=>?_
 .exact(jm X rfl (an:=[]) (p:=_/\([]:List O)=[]) 'k' (@rfl _<|V.ky (0:Int) (9:Int),rfl):_)
 .rw[gk]at D;have u:((10:Int)^i)=((10^i:Nat):Int):=by simp
  have H:((10:Int)^i)≠0:=by have:0<10^i:=Nat.pow_pos 'd';lia
  have Q:((10:Int)^i).natAbs<2^30:=by have G:10^i<=10^8:=Nat.pow_le_pow_right 'd' (by exact jz D);rw[u,Int.natAbs_natCast];exact(dz G 'd')
  rw[show(0:Int)+(i:Int)=(i:Int) by(simp+arith only;done)];have E:∀st,lG j st .Pow (.int 10) (.int (i:Int)) (.int<|10^i):=λst=>lG.pow10 (by exact j5 D (by omega));exact(jm z (e:=xK<|oY rwS) rfl (an:=[.w<|V.int<|(10:Int)^i]) (p:=_/\(_/\_)/\(10:Int)≠(0:Int)/\_/\([]:List O)=[]) 'k' (eU E (H,Q) (by omega) (@rfl _<|ie n i) rfl):_)
theorem Lg(hn:n<10^9)(h8:a8 n 0=8):dB 902 8 [.int n,.lst<|bh p] [] [] (.ok<|.tup [.str "",.lst [],.str<|dN (a8 n 1)++iE (a8 n 2)]) []:=by
 refine FN.cu (d:=7) (ab:=[("number",.int n),("pile",.lst<|bh p)]) Nn ND 'k' (jq λP S u u' =>'k') λF hp hB X Y=>?_;obtain⟨Q,U⟩:∃f,f=aP (ie n) (aE 9):=(_,rfl);have D:=gU n (k:=0) 'd';have G:=gU n (k:=1) 'd';have E:=gU n (k:=2) 'd';rw[<-U]at D G E;rw[h8]at D;have H:Q.length=9:=by rw[U,ax,bJ]
 have p0:place 0 Q.length=ah 0:=by rw[H];rfl
 have p1:place 1 Q.length=ah 1:=by rw[H];rfl
 have m:place 2 Q.length=ah 2:=by rw[H];rfl
 have j:place (((a8 n 1:Nat):Int).fmod 6) [V.str " ",V.str "\t",V.str "  ",V.str " \t",V.str "\t ",V.str "   "].length=ah (a8 n 1%6):=kh rfl 'd';have g1:[V.str " ",V.str "\t",V.str "  ",V.str " \t",V.str "\t ",V.str "   "][a8 n 1%6]? =ah (.str<|dN<|a8 n 1):=nz (L:=tY) rfl rfl 'd';have z:place (((a8 n 2:Nat):Int).fmod 3) [V.str "",V.str "# it's",V.str "#\""].length=ah (a8 n 2%3):=kh rfl 'd';have g2:[V.str "",V.str "# it's",V.str "#\""][a8 n 2%3]? =ah (.str<|iE<|a8 n 2):=nz (L:=xv) rfl rfl 'd';have l1:=md<|a8 n 1;have l2:=zh<|a8 n 2;have y:=Cf (n:=n) (p:=bh p) X;rw[<-U]at y;exact(run X rfl (an:=[.s FV.next {loc:=[("figures",V.lst Q),("number",V.int (↑n:Int)),("pile",V.lst<|bh p)],obs:=[]},.i 1<|V.int (↑(a8 n 1):Int),.i (a8 n 1%6)<|V.str<|dN<|a8 n 1,.i 0<|V.int ((8:Nat):Int),.a,.b ao,.i 2<|V.int (↑(a8 n 2):Int),.i (a8 n 2%3)<|V.str<|iE<|a8 n 2]) (p:=_/\[V.str " ",V.str "\t",V.str "  ",V.str " \t",V.str "\t ",V.str "   "].length<=2^24/\(_/\_/\_)/\(6:Int)≠(0:Int)/\(_/\_/\[V.str " ",V.str "\t",V.str "  ",V.str " \t",V.str "\t ",V.str "   "].length<=2^24)/\(_/\_/\_)/\[V.str "",V.str "# it's",V.str "#\""].length<=2^24/\(_/\_/\_)/\(3:Int)≠(0:Int)/\(_/\_/\[V.str "",V.str "# it's",V.str "#\""].length<=2^24)/\(dN<|a8 n 1).length+(iE<|a8 n 2).length<=2^24/\[V.str "",V.lst [],V.str<|dN (a8 n 1)++iE (a8 n 2)].length<=2^24/\_/\([]:List O)=[]) 'k' ((y),(ae rfl),(p1,G,(g9 H rfl)),(by omega),(j,g1,(ae rfl)),(p0,D,(g9 H rfl)),(ae rfl),(m,E,(g9 H rfl)),(by omega),(z,g2,(ae rfl)),(ai (au l1 l2)<|ae rfl),(ae rfl),@rfl _<|Oc.ok<|V.tup [V.str "",V.lst [],V.str<|dN (a8 n 1)++iE (a8 n 2)],rfl):_)
theorem wG(Q:Nat)(B:Nat):∀(l:List aF) (a:Nat),(∀x∈l,x.length<=B)->l.foldl (λs x=>s+x.length+Q) a<=a+l.length*(B+Q)
 |[],a,_=>by simp
 |x::l,a,h=>by have D:=h x<|.head _;have U:=wG Q B l (a+x.length+Q) λy H=>h y<|.tail _ H;rw[eh,aU,sU];exact rS U D (by omega)
theorem fL(B:Nat)(h:∀x∈l,x.length<=B)(U:l.length*(B+Q.length)<=2^20):gb Q l=aj:=by have:=wG Q.length B l 0 h;unfold gb tooLong;rw[List.foldl_toArray];have H:sizeLine=16777216:=rfl;rw[H];simp;omega
noncomputable def d0(w:aF)(way:Int):aF:=if(way==0||w=="")=aj then iL w else if(way==1)=aj then qk w else qr w
theorem z5(Q:x.length<=100):dB 892 4 [.str x,.int way] [] [] (.ok<|.str<|d0 x way) []:=by
 unfold d0;cases H:(way==0)with
 |true=>exact nE (d:=0) Q (.inl H)
 |false=>
  cases E:(x=="")with
  |true=>exact nE (d:=0) Q (.inr (H,E))
  |false=>
   rw[if_neg 'd'];cases G:(way==1)with
   |true=>rw[if_pos rfl];exact z7 (d:=0) Q H G E
   |false=>
    rw[if_neg 'd'];refine z6 (d:=0) Q H G E<|fL 2 (λy u=>?_) ?_
    ·(refine aR (List.mem_map.mp u) λc U D=>?_;subst D);have e:=fA [c];rw[bp,Hb,e];exact aJ 2
    .rw[ax,dh];have z:x.cps.size<=100:=Q;rw[JD];lia
noncomputable def chS(n:Nat):aF:=⟨#[(256+((n:Int).fmod 50000)).toNat]⟩
noncomputable def Cd(n:Nat):List aF:=["a"," ","\t","\n","'","\"","#","\\","\n\t ",chS n]
noncomputable def bc(n f:Nat):aF:=(Cd n).getD f ""
noncomputable abbrev vZ(n:Nat):List V:=[.str "a",.str " ",.str "\t",.str "\n",.str "'",.str "\"",.str "#",.str "\\",.str "\n\t ",.str ⟨#[(256+((n:Int).fmod 50000)).toNat]⟩]
theorem o9(h:f<10):place ((f:Nat):Int) (vZ n).length=ah f/\(vZ n)[f]? =ah (.str<|bc n f):=by
 constructor
 .show place f 10=ah f;unfold place;rw[if_pos<|by exact aL _,if_pos<|by assumption,gY]
 .have e:vZ n=(Cd n).map V.str:=rfl;unfold bc;rw[e,bF,az<|by assumption,aI,az<|by assumption];rfl
theorem lL:(bc n f).length<=3:=by
 unfold bc;rw[aI];by_cases h:f<10
 .have H:(chS n).length=1:=rfl;have:∀x∈Cd n,x.length<=3:=by
   intro x Q;unfold Cd at Q;simp only[l0,tw,or_false]at Q;rcases Q with rfl|rfl|rfl|rfl|rfl|rfl|rfl|rfl|rfl|rfl<;>first|(rw[H];decide)|decide+kernel
  rw[az h];exact this _<|mM _
 .rw[jO<|dD h];decide+kernel
noncomputable def bj(n:Nat):List aF:=
 let a:=bc n (a8 n 2)++bc n (a8 n 3);let b:=bc n<|a8 n 4
 [[a],[a,""],[b,a],["",b,a++"b"]].getD (a8 n 5%4) []
noncomputable abbrev Ms(a b:aF):List V:=[.lst [.str a],.lst [.str a,.str ""],.lst [.str b,.str a],.lst [.str "",.str b,.str<|a++"b"]]
theorem Dz(n:Nat):(Ms (bc n (a8 n 2)++bc n (a8 n 3))<|bc n<|a8 n 4)[a8 n 5%4]? =ah (.lst<|(bj n).map V.str):=by
 unfold bj;have h:=d' (a8 n 5) (show 0<4 from 'd');generalize a8 n 5%4=k at h;refine RQ h ?_ ?_ ?_ ?_
 .rfl
 .rfl
 .rfl
 .rfl
theorem g0(n:Nat):(bj n).length<=3:=by
 unfold bj;have h:=d' (a8 n 5) (show 0<4 from 'd');generalize a8 n 5%4=k at h;refine RQ h ?_ ?_ ?_ ?_
 .exact ae rfl
 .exact ae rfl
 .exact ae rfl
 .exact ae rfl
theorem lJ(Q:w∈bj n):w.length<=7:=by
 unfold bj at Q;have E:=lL (n:=n) (f:=a8 n 2);have D:=lL (n:=n) (f:=a8 n 3);have U:=lL (n:=n) (f:=a8 n 4);have H:(bc n (a8 n 2)++bc n (a8 n 3)).length<=6:=by rw[bp];exact au E D
 have G:(bc n (a8 n 2)++bc n (a8 n 3)++aa "b").length<=7:=by rw[bp];exact eS H
 have h:=d' (a8 n 5) (show 0<4 from 'd');generalize a8 n 5%4=k at h Q;revert Q;refine RQ h ?_ ?_ ?_ ?_<;>intro Q
 .simp at Q;subst Q;exact ba H
 .simp at Q;rcases Q with rfl|rfl<;>(first|exact ba H|exact bH _|omega)
 .simp at Q;rcases Q with rfl|rfl<;>(first|exact(ai U 'd')|exact ba H|omega)
 .simp at Q;rcases Q with rfl|rfl|rfl<;>(first|exact bH _|omega)
noncomputable def Ea:List aF:=[" ","\t"," \t","\r "]
noncomputable def i0(f:Nat):aF:=Ea.getD (f%4) ""
noncomputable def rR:List aF:=[""," ","\t# it's","#\""]
noncomputable def jd(f:Nat):aF:=rR.getD (f%4) ""
noncomputable def bz(n:Nat):List aF:=(aE (bj n).length).map λi=>d0 ((bj n).getD i "")<|(((a8 n 6:Nat):Int)+((0:Int)+(i:Int))).fmod 3
noncomputable def lK(n:Nat)(lead:aF):aF:=lead++(if decide (((a8 n 7:Nat):Int)>7)=aj then("\r\t":aF)else "")++aY (i0<|a8 n 7) (bz n)++jd (a8 n 8)
theorem uB(f:Nat):(i0 f).length<=2:=(by decide+kernel:∀k,k<4 ->(Ea.getD k "").length<=2) _<|d' f 'd'
theorem vU(f:Nat):(jd f).length<=7:=(by decide+kernel:∀k,k<4 ->(rR.getD k "").length<=7) _<|d' f 'd'
theorem DG{l:List aF}(h:i<l.length):place ((0:Int)+(i:Int)) (l.map V.str).length=ah i/\(l.map V.str)[i]? =ah (.str<|l.getD i ""):=by
 constructor
 .rw[ax];unfold place;rw[if_pos<|by exact aL _,if_pos<|by omega];congr 1;exact sV ..
 .rw[bF,az h,aI,az h];rfl
noncomputable abbrev O2(L:aF)(Q:List V)(n:Nat):List (aF×V):=[("lead",.str L),("figures",.lst Q),("number",.int n)]
noncomputable abbrev rtM(L:aF)(Q:List V)(n:Nat):List (aF×V):=("words",.lst<|(bj n).map V.str)::("first",.str<|bc n (a8 n 2)++bc n (a8 n 3))::("second",.str<|bc n<|a8 n 4)::("signs",.tup<|vZ n)::O2 L Q n
noncomputable def ZF:cn:=OA (eA<|Hd.f0 35)[11]?
theorem tW(j:Q[6]? =ah (V.int ((a8 n 6:Nat):Int)))(p6:place 6 Q.length=ah 6)(z:Q.length=9)(h1:ef [("figures",.lst Q),("words",.lst<|(bj n).map V.str)] l)(hp:F.prog=PR)(hB:BS F.w F.hB)(X:bS F (KK F.w.params) (aQ<|Hd.f0 35) 7)(hi:EV F (wm<|oY ZF) (l,[]) (.ky 0 ((aP V.str<|bj n).length:Nat)) (l,[])):EX F ZF (l,[]) .next (("spelled",.lst ((aE (bj n).length).map λi:Nat=>V.str<|d0 ((bj n).getD i "")<|(((a8 n 6:Nat):Int)+((0:Int)+(i:Int))).fmod 3))::l,[]):=by
 have H:=g0 n;have E:(aP V.str<|bj n).length=(bj n).length:=ax _;refine abr (x:="spelled") (y:="place") (v:=.ky 0 ((aP V.str<|bj n).length:Nat)) (λi:Nat=>V.int<|(0:Int)+(i:Int)) (λi:Nat=>V.str<|d0 ((bj n).getD i "")<|(((a8 n 6:Nat):Int)+((0:Int)+(i:Int))).fmod 3) (aE (bj n).length) [("figures",.lst Q),("words",.lst<|(bj n).map V.str)] X (by exact aM ..) 'k' 'k' 'k' (by intros;rfl) hi ?_ (cy (by exact aL _) (by exact aL _) (by exact aL _) (by lia)) (by rw[bJ];exact(ai H 'd')) h1 (λv=>(rfl,rfl,trivial)) λU X' u G m i hi=>?_
 .show ah _=_;rw[ax,show(((bj n).length:Nat) -(0:Int)).toNat=(bj n).length by exact ZL]
 .rw[gk]at hi;refine fk (DG hi) λa1 a2=>?_;have X3:U.prog=PR:=u.trans hp;have Yi:BS U.w U.hB:=by rw[G,m];exact hB
  have D:((bj n).getD i "").length<=100:=by rw[aI,az hi];have:=lJ<|mM hi;exact ai this 'd'
  exact(jm X' (e:=xK<|oY ZF) rfl (an:=[.i i<|V.str<|(bj n).getD i<|oS "",.i 6<|V.int (↑(a8 n 6):Int),.c (Oc.ok<|V.str<|d0 ((bj n).getD i<|oS "")<|((↑(a8 n 6):Int)+((0:Int)+(↑i:Int))).fmod (3:Int)) []]) (p:=(_/\_/\(aP V.str<|bj n).length<=2^24)/\(_/\_/\_)/\(3:Int)≠0/\(∀(l:List (aF×V)),dM U (cg 892) [V.str<|(bj n).getD i<|oS "",V.int<|((↑(a8 n 6):Int)+(0+↑i)).fmod 3] [] (l,[]) (Oc.ok<|V.str<|d0 ((bj n).getD i<|oS "")<|((↑(a8 n 6):Int)+(0+↑i)).fmod 3) (l,[]))/\_/\([]:List O)=[]) 'k' (iI (a1,a2,(ai (ai (ar E) H)<|ae rfl)) (p6,j,(g9 z rfl)) (by omega) (j8 ‹bS _ _ _ _› ‹_› ‹_› (z5 D) rfl 'k'<|by kspl_open zNR) (@rfl _<|V.str<|d0 ((bj n).getD i<|oS "")<|((↑(a8 n 6):Int)+(0+↑i)).fmod 3) rfl):_)
@[irreducible] noncomputable def qT:List cn:=List.drop 8<|eA<|Hd.f0 35
theorem Gb(hL:L.length<=100)(hsl:∀y∈bz n,y.length<=100)(D:(aY (i0<|a8 n 7)<|bz n).length<=2^16)(hp:F.prog=PR)(hB:BS F.w F.hB)(X:bS F (KK F.w.params) (aQ<|Hd.f0 35) 7)(Y:sd F)(hfe:H=aP (ie n) (aE 9)):dc F qT (O2 L H n,[]) (.ret<|.tup [.str L,.lst<|(bj n).map V.str,.str<|lK n L]) ([],[]):=by
 have hf2:=gU n (k:=2) 'd';have m:=gU n (k:=3) 'd';have j:=gU n (k:=4) 'd';have z:=gU n (k:=5) 'd';have u:=gU n (k:=6) 'd';have U:=gU n (k:=7) 'd';have G:=gU n (k:=8) 'd';rw[<-hfe]at hf2 m j z u U G;have Q:H.length=9:=by rw[hfe,ax,bJ]
 have p2:place 2 H.length=ah 2:=by rw[Q];rfl
 have p3:place 3 H.length=ah 3:=by rw[Q];rfl
 have p4:place 4 H.length=ah 4:=by rw[Q];rfl
 have p5:place 5 H.length=ah 5:=by rw[Q];rfl
 have p6:place 6 H.length=ah 6:=by rw[Q];rfl
 have p7:place 7 H.length=ah 7:=by rw[Q];rfl
 have p8:place 8 H.length=ah 8:=by rw[Q];rfl
 refine fk (o9 (n:=n)<|pj n 2) λs2 t2=>?_;refine fk (o9 (n:=n)<|pj n 3) λs3 t3=>?_;refine fk (o9 (n:=n)<|pj n 4) λs4 t4=>?_;have w1:=Dz n;have w2:place (((a8 n 5:Nat):Int).fmod 4) (Ms (bc n (a8 n 2)++bc n (a8 n 3))<|bc n<|a8 n 4).length=ah (a8 n 5%4):=kh rfl 'd';have l2:=lL (n:=n) (f:=a8 n 2);have l3:=lL (n:=n) (f:=a8 n 3);have lb:(aa "b").length=1:='k';have c0:(0:Int)<=256+(n:Int).fmod 50000:=by rw[fD _ 'd'];exact aL _
 have c1:256+(n:Int).fmod 50000<=1114111:=by rw[fD _ 'd'];lia
 have E:=g0 n;have hwm:(aP V.str<|bj n).length=(bj n).length:=ax _;have q7:place (((a8 n 7:Nat):Int).fmod 4) [V.str " ",V.str "\t",V.str " \t",V.str "\r "].length=ah (a8 n 7%4):=kh rfl 'd';have g7:[V.str " ",V.str "\t",V.str " \t",V.str "\r "][a8 n 7%4]? =ah (.str<|i0<|a8 n 7):=nz (L:=Ea) rfl rfl 'd';have q8:place (((a8 n 8:Nat):Int).fmod 4) [V.str "",V.str " ",V.str "\t# it's",V.str "#\""].length=ah (a8 n 8%4):=kh rfl 'd';have g8:[V.str "",V.str " ",V.str "\t# it's",V.str "#\""][a8 n 8%4]? =ah (.str<|jd<|a8 n 8):=nz (L:=rR) rfl rfl 'd';have l7:=uB<|a8 n 7;have l8:=vU<|a8 n 8;have lr:(aa "\r\t").length=2:='k';have hsp:(bz n).length<=3:=by unfold bz;rw[ax,bJ];exact E
 have hj:gb (i0<|a8 n 7) (bz n)=aj:=by refine fL 100 hsl ?_;have:(bz n).length*(100+(i0<|a8 n 7).length)<=3*102:=lD hsp (by exact j5 l7 (by omega));exact(ai this 'd')
 have hm:((aE (bj n).length).map λi:Nat=>V.str<|d0 ((bj n).getD i "")<|(((a8 n 6:Nat):Int)+((0:Int)+(i:Int))).fmod 3)=(bz n).map V.str:=by unfold bz;rw[cK];rfl
 unfold lK;rcases yI (decide<|((a8 n 7:Nat):Int)>7)with hs|hs
 .rw[show(if decide (((a8 n 7:Nat):Int)>7)=aj then("\r\t":aF)else "")="\r\t" by rw[hs];rfl];have hx:=tW (l:=rtM L H n) u p6 Q (rfl,rfl,trivial) hp hB X ?hi;case hi=>exact(jm X rfl (an:=[]) (p:=(aP V.str<|bj n).length<=2^24/\_/\([]:List O)=[]) 'k' ((ai (ai (ar hwm) E)<|ae rfl),@rfl _<|V.ky (0:Int) (↑(aP V.str<|bj n).length:Int),rfl):_)
  exact(ed X rfl _ _ _ (an:=[.i 2<|V.int (↑(a8 n 2):Int),.i (a8 n 2)<|V.str<|bc n<|a8 n 2,.i 3<|V.int (↑(a8 n 3):Int),.i (a8 n 3)<|V.str<|bc n<|a8 n 3,.i 4<|V.int (↑(a8 n 4):Int),.i (a8 n 4)<|V.str<|bc n<|a8 n 4,.i 5<|V.int (↑(a8 n 5):Int),.i (a8 n 5%4)<|V.lst<|aP V.str<|bj n,.s FV.next {loc:=[("spelled",V.lst<|aP (λ(i:Nat)=>V.str<|d0 ((bj n).getD i<|oS "")<|((↑(a8 n 6):Int)+((0:Int)+(↑i:Int))).fmod (3:Int)) (aE (bj n).length)),("words",V.lst<|aP V.str<|bj n),("first",V.str<|bc n (a8 n 2)++bc n (a8 n 3)),("second",V.str<|bc n<|a8 n 4),("signs",V.tup<|vZ n),("lead",V.str L),("figures",V.lst H),("number",V.int (↑n:Int))],obs:=[]},.i 7<|V.int (↑(a8 n 7):Int),.i (a8 n 7%4)<|V.str<|i0<|a8 n 7,.i 8<|V.int (↑(a8 n 8):Int),.i (a8 n 8%4)<|V.str<|jd<|a8 n 8,.i 7<|V.int (↑(a8 n 7):Int),.b aj,.ss<|bz n]) (p:=(50000:Int)≠(0:Int)/\(_/\_)/\[V.str "a",V.str " ",V.str "\t",V.str "\n",V.str "'",V.str "\"",V.str "#",V.str "\\",V.str "\n\t ",V.str (⟨#[((256:Int)+(↑n:Int).fmod (50000:Int)).toNat]⟩:aF)].length<=2^24/\(_/\_/\_)/\(_/\_/\[V.str "a",V.str " ",V.str "\t",V.str "\n",V.str "'",V.str "\"",V.str "#",V.str "\\",V.str "\n\t ",V.str (⟨#[((256:Int)+(↑n:Int).fmod (50000:Int)).toNat]⟩:aF)].length<=2^24)/\(_/\_/\_)/\(_/\_/\[V.str "a",V.str " ",V.str "\t",V.str "\n",V.str "'",V.str "\"",V.str "#",V.str "\\",V.str "\n\t ",V.str (⟨#[((256:Int)+(↑n:Int).fmod (50000:Int)).toNat]⟩:aF)].length<=2^24)/\(bc n<|a8 n 2).length+(bc n<|a8 n 3).length<=2^24/\(_/\_/\_)/\(_/\_/\[V.str "a",V.str " ",V.str "\t",V.str "\n",V.str "'",V.str "\"",V.str "#",V.str "\\",V.str "\n\t ",V.str (⟨#[((256:Int)+(↑n:Int).fmod (50000:Int)).toNat]⟩:aF)].length<=2^24)/\[V.str<|bc n (a8 n 2)++bc n (a8 n 3),V.str<|bc n<|a8 n 4].length<=2^24/\[V.str<|bc n (a8 n 2)++bc n (a8 n 3)].length<=2^24/\[V.str<|bc n (a8 n 2)++bc n (a8 n 3),V.str ""].length<=2^24/\[V.str<|bc n<|a8 n 4,V.str<|bc n (a8 n 2)++bc n (a8 n 3)].length<=2^24/\(bc n (a8 n 2)++bc n (a8 n 3)).length+(oS "b").length<=2^24/\[V.str "",V.str<|bc n<|a8 n 4,V.str<|bc n (a8 n 2)++bc n (a8 n 3)++oS "b"].length<=2^24/\[V.lst [V.str<|bc n (a8 n 2)++bc n (a8 n 3)],V.lst [V.str<|bc n (a8 n 2)++bc n (a8 n 3),V.str ""],V.lst [V.str<|bc n<|a8 n 4,V.str<|bc n (a8 n 2)++bc n (a8 n 3)],V.lst [V.str "",V.str<|bc n<|a8 n 4,V.str<|bc n (a8 n 2)++bc n (a8 n 3)++oS "b"]].length<=2^24/\(_/\_/\_)/\(4:Int)≠(0:Int)/\(_/\_/\[V.lst [V.str<|bc n (a8 n 2)++bc n (a8 n 3)],V.lst [V.str<|bc n (a8 n 2)++bc n (a8 n 3),V.str ""],V.lst [V.str<|bc n<|a8 n 4,V.str<|bc n (a8 n 2)++bc n (a8 n 3)],V.lst [V.str "",V.str<|bc n<|a8 n 4,V.str<|bc n (a8 n 2)++bc n (a8 n 3)++oS "b"]].length<=2^24)/\_/\[V.str " ",V.str "\t",V.str " \t",V.str "\x0d "].length<=2^24/\(_/\_/\_)/\(4:Int)≠(0:Int)/\(_/\_/\[V.str " ",V.str "\t",V.str " \t",V.str "\x0d "].length<=2^24)/\[V.str "",V.str " ",V.str "\t# it's",V.str "#\""].length<=2^24/\(_/\_/\_)/\(4:Int)≠0/\(_/\_/\[V.str "",V.str " ",V.str "\t# it's",V.str "#\""].length<=2^24)/\(_/\_/\_)/\decide ((↑(a8 n 7))>(7:Int))=aj/\L.length+(oS "\x0d\t").length<=2^24/\_/\_/\(L++oS "\x0d\t").length+(aY (i0<|a8 n 7)<|bz n).length<=2^24/\(L++oS "\x0d\t"++aY (i0<|a8 n 7) (bz n)).length+(jd<|a8 n 8).length<=2^24/\[V.str L,V.lst<|aP V.str<|bj n,V.str<|L++oS "\x0d\t"++aY (i0<|a8 n 7) (bz n)++jd (a8 n 8)].length<=2^24/\_/\True/\([]:List O)=[]) 'k' ((by omega),(c0,c1),(ae rfl),(p2,hf2,(g9 Q rfl)),(s2,t2,(ae rfl)),(p3,m,(g9 Q rfl)),(s3,t3,(ae rfl)),(ai (au l2 l3)<|ae rfl),(p4,j,(g9 Q rfl)),(s4,t4,(ae rfl)),(ae rfl),(ae rfl),(ae rfl),(ae rfl),(ai (au (tB l2 l3)<|ar lb)<|ae rfl),(ae rfl),(ae rfl),(p5,z,(g9 Q rfl)),(by omega),(w2,w1,(ae rfl)),(hx),(ae rfl),(p7,U,(g9 Q rfl)),(by omega),(q7,g7,(ae rfl)),(ae rfl),(p8,G,(g9 Q rfl)),(by omega),(q8,g8,(ae rfl)),(p7,U,(g9 Q rfl)),hs,(ai (au hL<|ar lr)<|ae rfl),hm,hj,(ai (au (tB hL<|ar lr) D)<|ae rfl),(ai (au (tB (tB hL<|ar lr) D) l8)<|ae rfl),(ae rfl),@rfl _<|FV.ret<|V.tup [V.str L,V.lst<|aP V.str<|bj n,V.str<|L++oS "\x0d\t"++aY (i0<|a8 n 7) (bz n)++jd (a8 n 8)],trivial,rfl):_)
 .rw[show(if decide (((a8 n 7:Nat):Int)>7)=aj then("\r\t":aF)else "")="" by rw[hs];rfl];have hx:=tW (l:=rtM L H n) u p6 Q (rfl,rfl,trivial) hp hB X ?hi;case hi=>exact(jm X rfl (an:=[]) (p:=(aP V.str<|bj n).length<=2^24/\_/\([]:List O)=[]) 'k' ((ai (ai (ar hwm) E)<|ae rfl),@rfl _<|V.ky (0:Int) (↑(aP V.str<|bj n).length:Int),rfl):_)
  exact(ed X rfl _ _ _ (an:=[.i 2<|V.int (↑(a8 n 2):Int),.i (a8 n 2)<|V.str<|bc n<|a8 n 2,.i 3<|V.int (↑(a8 n 3):Int),.i (a8 n 3)<|V.str<|bc n<|a8 n 3,.i 4<|V.int (↑(a8 n 4):Int),.i (a8 n 4)<|V.str<|bc n<|a8 n 4,.i 5<|V.int (↑(a8 n 5):Int),.i (a8 n 5%4)<|V.lst<|aP V.str<|bj n,.s FV.next {loc:=[("spelled",V.lst<|aP (λ(i:Nat)=>V.str<|d0 ((bj n).getD i<|oS "")<|((↑(a8 n 6):Int)+((0:Int)+(↑i:Int))).fmod (3:Int)) (aE (bj n).length)),("words",V.lst<|aP V.str<|bj n),("first",V.str<|bc n (a8 n 2)++bc n (a8 n 3)),("second",V.str<|bc n<|a8 n 4),("signs",V.tup<|vZ n),("lead",V.str L),("figures",V.lst H),("number",V.int (↑n:Int))],obs:=[]},.i 7<|V.int (↑(a8 n 7):Int),.i (a8 n 7%4)<|V.str<|i0<|a8 n 7,.i 8<|V.int (↑(a8 n 8):Int),.i (a8 n 8%4)<|V.str<|jd<|a8 n 8,.i 7<|V.int (↑(a8 n 7):Int),.b ao,.ss<|bz n]) (p:=(50000:Int)≠(0:Int)/\(_/\_)/\[V.str "a",V.str " ",V.str "\t",V.str "\n",V.str "'",V.str "\"",V.str "#",V.str "\\",V.str "\n\t ",V.str (⟨#[((256:Int)+(↑n:Int).fmod (50000:Int)).toNat]⟩:aF)].length<=2^24/\(_/\_/\_)/\(_/\_/\[V.str "a",V.str " ",V.str "\t",V.str "\n",V.str "'",V.str "\"",V.str "#",V.str "\\",V.str "\n\t ",V.str (⟨#[((256:Int)+(↑n:Int).fmod (50000:Int)).toNat]⟩:aF)].length<=2^24)/\(_/\_/\_)/\(_/\_/\[V.str "a",V.str " ",V.str "\t",V.str "\n",V.str "'",V.str "\"",V.str "#",V.str "\\",V.str "\n\t ",V.str (⟨#[((256:Int)+(↑n:Int).fmod (50000:Int)).toNat]⟩:aF)].length<=2^24)/\(bc n<|a8 n 2).length+(bc n<|a8 n 3).length<=2^24/\(_/\_/\_)/\(_/\_/\[V.str "a",V.str " ",V.str "\t",V.str "\n",V.str "'",V.str "\"",V.str "#",V.str "\\",V.str "\n\t ",V.str (⟨#[((256:Int)+(↑n:Int).fmod (50000:Int)).toNat]⟩:aF)].length<=2^24)/\[V.str<|bc n (a8 n 2)++bc n (a8 n 3),V.str<|bc n<|a8 n 4].length<=2^24/\[V.str<|bc n (a8 n 2)++bc n (a8 n 3)].length<=2^24/\[V.str<|bc n (a8 n 2)++bc n (a8 n 3),V.str ""].length<=2^24/\[V.str<|bc n<|a8 n 4,V.str<|bc n (a8 n 2)++bc n (a8 n 3)].length<=2^24/\(bc n (a8 n 2)++bc n (a8 n 3)).length+(oS "b").length<=2^24/\[V.str "",V.str<|bc n<|a8 n 4,V.str<|bc n (a8 n 2)++bc n (a8 n 3)++oS "b"].length<=2^24/\[V.lst [V.str<|bc n (a8 n 2)++bc n (a8 n 3)],V.lst [V.str<|bc n (a8 n 2)++bc n (a8 n 3),V.str ""],V.lst [V.str<|bc n<|a8 n 4,V.str<|bc n (a8 n 2)++bc n (a8 n 3)],V.lst [V.str "",V.str<|bc n<|a8 n 4,V.str<|bc n (a8 n 2)++bc n (a8 n 3)++oS "b"]].length<=2^24/\(_/\_/\_)/\(4:Int)≠(0:Int)/\(_/\_/\[V.lst [V.str<|bc n (a8 n 2)++bc n (a8 n 3)],V.lst [V.str<|bc n (a8 n 2)++bc n (a8 n 3),V.str ""],V.lst [V.str<|bc n<|a8 n 4,V.str<|bc n (a8 n 2)++bc n (a8 n 3)],V.lst [V.str "",V.str<|bc n<|a8 n 4,V.str<|bc n (a8 n 2)++bc n (a8 n 3)++oS "b"]].length<=2^24)/\_/\[V.str " ",V.str "\t",V.str " \t",V.str "\x0d "].length<=2^24/\(_/\_/\_)/\(4:Int)≠(0:Int)/\(_/\_/\[V.str " ",V.str "\t",V.str " \t",V.str "\x0d "].length<=2^24)/\[V.str "",V.str " ",V.str "\t# it's",V.str "#\""].length<=2^24/\(_/\_/\_)/\(4:Int)≠(0:Int)/\(_/\_/\[V.str "",V.str " ",V.str "\t# it's",V.str "#\""].length<=2^24)/\(_/\_/\_)/\decide ((↑(a8 n 7):Int)>(7:Int))=ao/\L.length+(oS "").length<=2^24/\_/\_/\(L++oS "").length+(aY (i0<|a8 n 7)<|bz n).length<=2^24/\(L++oS ""++aY (i0<|a8 n 7) (bz n)).length+(jd<|a8 n 8).length<=2^24/\[V.str L,V.lst<|aP V.str<|bj n,V.str<|L++oS ""++aY (i0<|a8 n 7) (bz n)++jd (a8 n 8)].length<=2^24/\_/\True/\([]:List O)=[]) 'k' ((by omega),(c0,c1),(ae rfl),(p2,hf2,(g9 Q rfl)),(s2,t2,(ae rfl)),(p3,m,(g9 Q rfl)),(s3,t3,(ae rfl)),(ai (au l2 l3)<|ae rfl),(p4,j,(g9 Q rfl)),(s4,t4,(ae rfl)),(ae rfl),(ae rfl),(ae rfl),(ae rfl),(ai (au (tB l2 l3)<|ar lb)<|ae rfl),(ae rfl),(ae rfl),(p5,z,(g9 Q rfl)),(by omega),(w2,w1,(ae rfl)),(hx),(ae rfl),(p7,U,(g9 Q rfl)),(by omega),(q7,g7,(ae rfl)),(ae rfl),(p8,G,(g9 Q rfl)),(by omega),(q8,g8,(ae rfl)),(p7,U,(g9 Q rfl)),hs,(ai (au hL<|ar JD)<|ae rfl),hm,hj,(ai (au (tB hL<|ar JD) D)<|ae rfl),(ai (au (tB (tB hL<|ar JD) D) l8)<|ae rfl),(ae rfl),@rfl _<|FV.ret<|V.tup [V.str L,V.lst<|aP V.str<|bj n,V.str<|L++oS ""++aY (i0<|a8 n 7) (bz n)++jd (a8 n 8)],trivial,rfl):_)
noncomputable def glue(g:List Nat):List (List Nat)->List Nat
 |[]=>[]
 |[u]=>u
 |u::v::r=>u++(g++glue g (v::r))
def Fj(l:List Nat):Prop:=∀c∈l,yv c=aj/\c≠10
theorem zJ:∀(g:List Nat) (e:Nat) (r:List Nat),(∀c∈g,yv c=aj)->lx 32 [] ao e (g++r)=lx 32 [] ao e r
 |[],e,r,_=>rfl
 |c::g,e,r,h=>by show lx 32 [] ao e (c::(g++r))=_;rw[DW,if_pos rfl,if_pos<|h c<|.head _,zJ g e r λd hd=>h d<|.tail _ hd]
theorem Cy(Q:g≠[])(h:∀c∈g,yv c=aj):lx 97 w qd e (g++r)=zN w (lx 32 [] ao 32 r):=by
 cases g with
 |nil=>exact absurd rfl Q
 |cons c g=>
  show lx 97 w qd e (c::(g++r))=_;rw[DW,if_neg 'd',if_pos rfl,if_pos<|h c<|.head _,zJ g 32 r λd hd=>h d<|.tail _ hd]
def ni(t:List Nat):Prop:=(∀w qd e,lx 97 w qd e t=ah ([w],ao))/\10∉t
inductive Tks:List (List Nat)->List (List Nat)->Prop
 |nil:Tks [] []
 |cons {u w:List Nat} {us ws:List (List Nat)}:Tk u w ->Tks us ws ->Tks (u::us) (w::ws)
theorem Gd(E:g≠[])(H:∀c∈g,yv c=aj)(D:ni t):∀{us ws:List (List Nat)},Tks us ws ->us≠[]->∀e,lx 32 [] ao e (glue g us++t)=ah (ws,ao):=by
 intro us ws K;induction K with
 |nil=>exact λh=>absurd rfl h
 | @cons u w us ws k K Q=>
  intro _ e;cases K with
  |nil=>
   refine f7 (k.read e t) λqd G U h=>?_;show lx 32 [] ao e (u++t)=_;rw[h,D.1]
  | @cons v y us ws j z=>
   refine f7 (k.read e<|g++(glue g (v::us)++t)) λqd G U h=>?_;show lx 32 [] ao e (u++(g++glue g (v::us))++t)=_;rw[dj,dj,h,Cy E H,Q<|cF _ _];rfl
theorem ye(h:u++v=a++10::b):(∃G,u=a++10::G)\/∃U,a=u++U/\v=U++10::b:=by
 rcases List.append_eq_append_iff.mp h with⟨U,H,Q⟩|⟨D,H,Q⟩
 .exact .inr (U,H,Q)
 .cases D with
  |nil=>exact .inr ([],by simpa using H.symm,by simpa using Q.symm)
  |cons x D=>
   obtain⟨E,y⟩:=dn Q;exact .inl (D,by rw[H,E])
theorem z4(h:u++v=a++10::b)(H:10∉u):∃Q,a=u++Q/\v=Q++10::b:=by
 rcases ye h with⟨U,e⟩|r
 .exact absurd (by rw[e];simp) H
 .exact r
theorem Ke(m:g≠[])(G:Fj g)(y:ni t):∀{us ws:List (List Nat)},Tks us ws ->∀e a b,glue g us++t=a++10::b ->∃Q,lx 32 [] ao e a=ah (Q,aj):=by
 intro us ws K;induction K with
 |nil=>exact λe a b h=>absurd (by rw[show t=a++10::b from h];simp) y.2
 | @cons u w us ws k K E=>
  intro e a b h;cases K with
  |nil=>
   rcases ye (u:=u) (v:=t) h with⟨b',H⟩|⟨a',_,H⟩
   .exact(_,k.cut _ _ H e)
   .exact absurd (by rw[H];simp) y.2
  | @cons v w' us ws k' ks=>
   have h:u++(g++(glue g (v::us)++t))=a++10::b:=by rw[<-h];show _=u++(g++glue g (v::us))++t;simp
   rcases ye h with⟨b',H⟩|⟨a',rfl,H⟩
   .exact(_,k.cut _ _ H e)
   ·(refine aR (z4 H λq=>(G 10 q).2 rfl) λz D h2=>?_;subst D);refine f7 (k.read e<|g++z) λqd e' U j=>?_;refine eN (E 32 z b h2) λQ E=>?_;exact(w::Q,by rw[j,Cy m λc hc=>(G c hc).1,E];rfl)
structure yf (x:List Nat) (ws:List (List Nat)):Prop where
 read:lx 32 [] ao 32 x=ah (ws,ao)
 cut:∀a b,x=a++10::b ->∃ws',lx 32 [] ao 32 a=ah (ws',aj)
theorem zf{l g t:List Nat}{us ws:List (List Nat)}(D:Fj l)(y:g≠[])(E:Fj g)(G:ni t)(u:Tks us ws)(j:us≠[]):yf (l++(glue g us++t)) ws where
 read:=by rw[zJ l _ _ λc Q=>(D c Q).1];exact Gd y (λc Q=>(E c Q).1) G u j 32
 cut:=λa b h=>by (refine aR (z4 h λq=>(D 10 q).2 rfl) λa' H m=>?_;subst H);refine eN (Ke y E G u 32 a' b m) λU z=>?_;exact(U,by rw[zJ l _ _ λc Q=>(D c Q).1,z])
theorem tail_nil:ni []:=(λw qd e=>rfl,by simp)
theorem JZ(h:Fj t)(Q:t≠[]):ni t:=(λw qd e=>by have:=Cy (w:=w) (qd:=qd) (e:=e) (r:=[]) Q λc H=>(h c H).1;rw[cb]at this;rw[this];rfl,λq=>(h 10 q).2 rfl)
theorem FA(h:10∉t):ni (35::t):=(λw qd e=>by
 rw[DW,if_neg 'd',if_pos rfl,if_neg 'd',if_pos rfl,if_neg h],λq=>by
 rcases List.mem_cons.mp q with q|q
 .cases q
 .exact h q)
theorem AZ(H:g≠[])(Q:Fj g)(h:10∉t):ni (g++35::t):=(λw qd e=>by
 rw[Cy H λc U=>(Q c U).1,DW,if_pos rfl,if_neg 'd',if_pos rfl,if_neg h];rfl,λq=>by
 rcases List.mem_append.mp q with q|q
 .exact(Q 10 q).2 rfl
 .rcases List.mem_cons.mp q with q|q
  .cases q
  .exact h q)
theorem BE{l t:List Nat}(U:Fj l)(H:t=[]\/∃Q,t=35::Q/\10∉Q):yf (l++t) [] where
 read:=by
  rw[zJ l _ _ λc D=>(U c D).1];rcases H with rfl|⟨Q,rfl,h⟩
  .rfl
  .rw[DW,if_pos rfl,if_neg 'd',if_pos rfl,if_neg h]
 cut:=λa b h=>by
  have:10∈l++t:=by rw[h];simp
  rcases List.mem_append.mp this with q|q
  .exact absurd rfl (U 10 q).2
  .rcases H with rfl|⟨Q,rfl,E⟩
   .cases q
   .rcases List.mem_cons.mp q with q|q
    .cases q
    .exact absurd q E
noncomputable abbrev bZ(x:aF):List Nat:=x.cps.toList
theorem eB(x y:aF):bZ (x++y)=bZ x++bZ y:=by show(x.cps++y.cps).toList=_;simp
theorem C8(l:List Nat):bZ (S l)=l:=by simp
theorem gX(Q:aF):∀l:List aF,bZ (Rz Q l)=glue (bZ Q) (l.map bZ)
 |[]=>rfl
 |[x]=>rfl
 |x::y::r=>by show bZ (x++Q++Rz Q (y::r))=_;rw[eB,eB,gX Q (y::r)];exact dj ..
theorem iU(Q:aF)(l:List aF):bZ (aY Q l)=glue (bZ Q) (l.map bZ):=by show bZ (fy Q l)=_;rw[eg,gX]
noncomputable def Ga(c:Nat)(z:List Nat)(k:Nat):List Nat:=if k=c then z else[k]
theorem xu:∀{l:List Nat},c∉l ->l.flatMap (Ga c z)=l
 |[],_=>rfl
 |k::l,h=>by rw[cW,xu λq=>h<|.tail _ q,show Ga c z k=[k]from if_neg λ(q:k=c)=>h<|q▸qG ..];rfl
theorem Ci:∀{us:List (List Nat)},(∀u∈us,c∉u)->(glue [c] us).flatMap (Ga c z)=glue z us
 |[],_=>rfl
 |[u],h=>xu (h u<|.head _)
 |u::v::r,h=>by show(u++([c]++glue [c] (v::r))).flatMap (Ga c z)=u++(z++glue z (v::r));rw[EI,EI,xu<|h u<|.head _,Ci λw Q=>h w<|.tail _ Q];rw[show[c].flatMap (Ga c z)=z by show Ga c z c++[]=z;rw[cb];exact if_pos rfl]
theorem nJ(x z:aF)(c:Nat):bZ (bX x ⟨#[c]⟩ z)=(bZ x).flatMap (Ga c<|bZ z):=by
 rw[StrLaws.replace_one,gX,<-Ci (c:=c)]
 .rw[show glue [c] ((aO x ⟨#[c]⟩).map bZ)=bZ (Rz ⟨#[c]⟩<|aO x ⟨#[c]⟩)from(gX ⟨#[c]⟩ _).symm,iR]
 .intro u H;(refine aR (List.mem_map.mp H) λp U Q=>?_;subst Q);exact kK x c p U
theorem q39:(aa "'")=⟨#[39]⟩:='k'
theorem q34:(aa "\"")=⟨#[34]⟩:='k'
theorem ZQ:(aa "\\")=⟨#[92]⟩:='k'
theorem qq5:bZ (aa "'\"'\"'")=[39,34,39,34,39]:='k'
theorem qq2:bZ (aa "\\\\")=[92,92]:='k'
theorem qq3:bZ (aa "\\\"")=[92,34]:='k'
theorem jw(x:aF):bZ (iL x)=39::((bZ x).flatMap EN++[39]):=by unfold iL;rw[eB,eB,q39,nJ,qq5];skip;simp;rfl
theorem Lv(c:Nat):(Ga 92 [92,92] c).flatMap (Ga 34 [92,34])=Bz c:=by
 unfold Bz;by_cases h:c=92
 .subst h;rfl
 .rw[if_neg h,show Ga 92 [92,92] c=[c]from if_neg h];show Ga 34 [92,34] c++[]=_;rw[cb];rfl
theorem my(x:aF):bZ (qk x)=34::((bZ x).flatMap Bz++[34]):=by unfold qk;rw[eB,eB,q34,ZQ,nJ,nJ,qq2,qq3,List.flatMap_assoc];skip;simp only[Lv];rfl
theorem HD(us:List (List Nat)):glue [] us=us.flatten:=by
 induction us with
 |nil=>rfl
 |cons u us Q=>
  cases us with
  |nil=>exact(cb u).symm
  |cons v r=>rw[show glue [] (u::v::r)=u++([]++glue [] (v::r))from rfl,Q];simp
theorem mz(x:aF):bZ (qr x)=(bZ x).flatMap LK:=by unfold qr;rw[iU,show bZ (aa "")=[]from 'k',HD,cK,List.flatMap_def];congr 1
theorem mi{x:aF}:(x=="")=aj↔bZ x=[]:=by
 rw[beq_iff_eq];constructor
 .rintro rfl;kernel_rfl
 .intro h;have:=congrArg S h;rw[show S (bZ x)=x from ve x]at this;rw[this];kernel_rfl
theorem AY(w:aF)(way:Int):Tk (bZ<|d0 w way) (bZ w):=by
 unfold d0;split
 .rw[jw];exact Mz _
 .rename_i h;split
  .rw[my];exact SU _
  .rw[mz];refine SV _ λq=>h ?_;rw[mi.mpr q,sm]
theorem HG(f:Nat):Fj (bZ<|i0 f)/\bZ (i0 f)≠[]:=by
 have:∀k,k<4 ->(bZ<|Ea.getD k "").all (λc=>yv c&&c !=10)=aj/\(bZ<|Ea.getD k "").isEmpty=ao:=by decide+kernel
 refine fk (this (f%4)<|d' _ 'd') λU Q=>?_;refine(λc H=>?_,λq=>?_)
 .have:=List.all_eq_true.mp U c H;simp only[aw,bne_iff_ne,ne_eq]at this;exact this
 .unfold i0 at q;rw[q]at Q;cases Q
theorem yP(h:l.all (λc=>yv c&&c !=10)=aj):Fj l:=λc Q=>by have:=List.all_eq_true.mp h c Q;simp only[aw,bne_iff_ne,ne_eq]at this;exact this
theorem J0(f:Nat):ni (bZ<|jd f):=by
 have h:=d' f (show 0<4 from 'd');unfold jd;generalize f%4=k at h;refine RQ h ?_ ?_ ?_ ?_
 .rw[show bZ (rR.getD 0 "")=[]from 'k'];exact tail_nil
 .rw[show bZ (rR.getD 1 "")=[32]from 'k'];exact JZ (yP 'd') 'd'
 .rw[show bZ (rR.getD 2 "")=[9]++35::[32,105,116,39,115]from 'k'];exact AZ 'd' (yP 'd') 'd'
 .rw[show bZ (rR.getD 3 "")=35::[34]from 'k'];exact FA 'd'
theorem B9{f g:Nat ->aF}(h:∀i,Tk (bZ<|f i)<|bZ<|g i):∀l:List Nat,Tks (l.map λi=>bZ<|f i) (l.map λi=>bZ<|g i)
 |[]=>.nil
 |i::l=>.cons (h i)<|B9 h l
theorem zk{Q:Type}(L:List Q)(d:Q):(aE L.length).map (λj=>L.getD j d)=L:=YD L d
theorem JY(n:Nat):Tks ((bz n).map bZ) ((bj n).map bZ):=by
 have e:(bj n).map bZ=(aE (bj n).length).map λi=>bZ ((bj n).getD i ""):=by
  conv=>lhs;rw[<-zk (bj n) ""]
  rw[cK];rfl
 rw[e];unfold bz;rw[cK];exact B9 (λi=>AY _ _) _
noncomputable def qY(n:Nat):aF:=if decide (((a8 n 7:Nat):Int)>7)=aj then("\r\t":aF)else ""
theorem GS(n:Nat):Fj (bZ<|qY n)/\∀c r,bZ (qY n)=c::r ->c=13:=by
 unfold qY;split
 .rw[show bZ (aa "\r\t")=[13,9]from 'k'];exact(yP 'd',λc r h=>(dn h).1.symm)
 .rw[show bZ (aa "")=[]from 'k'];exact(yP 'd',λc r h=>by cases h)
theorem jE(n:Nat):bj n≠[]:=by
 unfold bj;have h:=d' (a8 n 5) (show 0<4 from 'd');generalize a8 n 5%4=k at h;refine RQ h ?_ ?_ ?_ ?_
 .simp
 .simp
 .simp
 .simp
theorem DK(n:Nat)(Q:Fj (bZ lead)):yf (bZ<|lK n lead) ((bj n).map bZ):=by
 have e:bZ (lK n lead)=(bZ lead++bZ (qY n))++(glue (bZ<|i0<|a8 n 7) ((bz n).map bZ)++bZ (jd<|a8 n 8)):=by unfold lK;rw[eB,eB,eB,iU];show bZ lead++bZ (qY n)++_++_=_;rw[dj _ _<|bZ<|jd _]
 rw[e];refine zf (λc H=>?_) (HG _).2 (HG _).1 (J0 _) (JY n) λq=>?_
 .rcases List.mem_append.mp H with h|h
  .exact Q c h
  .exact(GS n).1 c h
 .have:=congrArg eP q;rw[ax]at this;unfold bz at this;rw[ax,bJ]at this;exact jE n<|List.length_eq_zero_iff.mp this
end Internal
section
set_option backward.match.sparseCases true
namespace Internal
noncomputable def fM:Array Nat:=#[14,17,4,1,1,21,9,0,604043296,1,0,0,0,0,0,8,4,0,13,14,21,9,0,604043296,1,0,0,0,0,0,8,4,0,1]
noncomputable def Yo(k:Nat):Nat:=#[0,604043296,1,0,0,0,0,0].getD k 0
noncomputable def j4(c:Nat):Bool:=(decide (c<256)&&(Yo<|c/32).testBit (c%32))||Sre.isWord c
theorem Qv(b:Nat)(Q:b=6\/b=21)(h:c<256):fM.getD (b+(1+c/32)) 0=Yo (c/32):=by
 have q:((aE 8).all λk=>fM.getD (b+(1+k)) 0==Yo k)=aj:=by rcases Q with rfl|rfl<;>kernel_rfl
 exact eq_of_beq<|List.all_eq_true.mp q _<|List.mem_range.mpr<|pF h
theorem Hq:∃s' :sQ,(if A=aj then Except.ok (ao,U)else if(W !=ao)=aj then .ok (ao,H)else .ok (aj,Q):Except String (Bool×sQ))= .ok (!(A||W),s'):=by cases A<;>cases W<;>exact(_,rfl)
theorem wu(b c:Nat)(H:b=5\/b=20)(seen:sQ):∃Q,AH fM c fM.size b aj seen= .ok (!j4 c,Q):=by
 have U:AH fM c fM.size b aj seen=if(decide (c<256)&&(fM.getD (b+1+(1+c/32)) 0).testBit (c%32))=aj then .ok (ao,(seen.add 21).add 9)
  else if(abK c !=ao)=aj then .ok (ao,(((seen.add 21).add 9).add 8).add 59)else .ok (aj,((((seen.add 21).add 9).add 8).add 59).add 0):=by
  rcases H with rfl|rfl<;>kernel_rfl
 have e:(decide (c<256)&&(fM.getD (b+1+(1+c/32)) 0).testBit (c%32))=(decide (c<256)&&(Yo<|c/32).testBit (c%32)):=by
  by_cases h:c<256
  .rw[Qv (b+1) (H.imp (congrArg (·+1)) (congrArg (·+1))) h]
  .rw[decide_eq_false h];rfl
 rw[U,e];exact Hq
theorem Ar(m:JJ)(hc:m.code=fM):∀H s seen,m.lim+1<=H+s ->∃Q,
 (m.admitted H s seen= .ok (aC,Q)/\∀i,s<=i ->i<m.lim ->j4 (m.text.getD i 0)=aj)\/∃j,m.admitted H s seen= .ok (ah j,Q)/\s<=j/\j<m.lim/\j4 (m.text.getD j 0)=ao:=by
 intro H;induction H with
 |zero=>exact λs seen h=>(seen,.inl (rfl,λi a b=>absurd (eG b<|cN<|Jy h<|d9 s)<|vn a))
 |succ f y=>
  intro s seen h;have e0:m.admitted (f+1) s seen=if s>=m.lim then .ok (aC,seen)else match AH m.code (m.text.getD s 0) m.code.size 5 aj seen with
   | .ok (aj,seen)=>.ok (ah s,seen)
   | .ok (ao,seen)=>m.admitted f (s+1) seen
   | .error G=>.error G:=rfl
  rw[e0];by_cases D:s>=m.lim
  .rw[if_pos D];exact(seen,.inl (rfl,λi a b=>absurd (eG b D)<|vn a))
  .rw[if_neg D,hc];refine eN (wu 5 (m.text.getD s 0) (.inl rfl) seen) λQ e=>?_;rw[e];cases u:j4 (m.text.getD s 0)with
   |true=>
    show∃U,(m.admitted f (s+1) Q=_/\_)\/_;refine eN (y (s+1) Q<|by exact j5 h (by omega)) λU z=>?_;refine(U,z.imp (λE=>fk E λa b=>(a,λi hi hl=>?_)) λE=>jo E λj a b c=>(j,a,by exact cN b,c));by_cases hh:i=s
    .rw[hh];exact u
    .exact b i (by lia) hl
   |false=>exact(Q,.inr (s,rfl,aJ _,by exact ck D,u))
noncomputable def ma(cps:Array Nat):JJ:=
 {code:=fM,text:=cps,lim:=cps.size,start:=0,lastStart:=cps.size,pc:=18,pos:=0,handed:=0,marks:=#[],seen:=({}:sQ).add 14}
theorem xW(h:0<cps.size):qE fM cps 0 0 cps.size ao=(ma cps).attemptFrom 0 aj:=by unfold qE;show(if(decide (0>cps.size)||decide (cps.size -0<1))=aj then _ else _)=_;rw[if_neg (by rw[gO,decide_eq_true_eq,decide_eq_true_eq];lia)];rfl
noncomputable def atM(cps:Array Nat)(Q:sQ)(j:Nat):JJ:=Sre.M.attemptAt {ma cps with mustAdvance:=ao,seen:=Q} j aj
noncomputable def abn(cps:Array Nat)(H Q:sQ)(j:Nat):JJ:={atM cps H j with seen:=Q,pc:=33,pos:=j+1}
theorem I6(D:j<cps.size)(E:AH fM (cps.getD j 0) fM.size 20 aj (H.add 13)= .ok (aj,Q)):Xo (atM cps H j)=abn cps H Q j:=by show(if j>=cps.size then _ else _)=_;refine(if_neg<|Mk D).trans ?_;show(match Yz fM 18 (cps.getD j 0) (H.add 13)with| .error U=>_| .ok (ao,seen)=>_| .ok (aj,seen)=>_)=_;rw[show Yz fM 18 (cps.getD j 0) (H.add 13)= .ok (aj,Q)from E];rfl
theorem OZ(h:0<cps.size):∃m:JJ,(qE fM cps 0 0 cps.size ao).runFor 4=m/\m.outcome=ah (if cps.toList.all j4=aj then .failed else .matched):=by
 refine(_,rfl,?_);rw[xW h];unfold Sre.M.attemptFrom;rw[if_neg (by rw[show(ma cps).hasFirstSet=aj from rfl];decide)];refine eN (Ar (ma cps) rfl ((ma cps).lim+1 -0) 0 (ma cps).seen<|by exact fx _) λQ z=>?_;rcases z with⟨e,a⟩|⟨j,e,_,U,E⟩
 .rw[e,if_pos]
  .rfl
  .refine List.all_eq_true.mpr λc u=>?_;obtain⟨i,D,y⟩:=List.getElem_of_mem u;rw[dh]at D;have:=a i (bH _) D;rw[show(ma cps).text=cps from rfl,kL,lF D]at this;rw[<-y,Array.getElem_toList];exact this
 .rw[e,if_neg]
  .refine eN (wu 20 (cps.getD j 0) (.inr rfl)<|(Q).add 13) λH G=>?_;rw[show j4 (cps.getD j 0)=ao from E]at G;show(Sre.M.runFor 3<|Xo<|atM cps Q j).outcome=_;rw[I6 U G];rfl
  .intro q;have:=List.all_eq_true.mp q (cps.getD j 0) (by
    rw[kL,lF U];exact Array.getElem_mem_toList U)
   exact Fb<|E.symm.trans this
end Internal
end
section
open Builtin.Re
namespace Internal
noncomputable def ON:Manifest.Signature:=(.keywords,"Pattern.search","search",.self,[("string",.posOrKw,aj),("pos",.posOrKw,ao),("endpos",.posOrKw,ao)])
theorem A6:Manifest.signature? "re.Pattern.search"=ah ON:='k'
theorem zP:builtinKind "re.Pattern.search"=ah .method:='k'
theorem x3:entryFor table "re.Pattern.search"=ah Builtin.«re.Pattern.search»:=oM 'k'
theorem xy:plainId "re.Pattern.search"=aj:=by decide+kernel
theorem Aq(a v:aK):xg "re.Pattern.search" {ON with full:="Pattern.search"} ([a,v],[])=pure ():='k'
theorem yX:isSubtype (.type "re.Pattern") (.type "module")=pure ao:=by rw[eW];kernel_rfl
theorem tE(m:JJ)(h:Q ⟨⟩ s):∀l:List Nat,
 wpAny M A (forIn l Ey λi r=>if m.seen.has i=aj then do rule (Sre.names.getD i "");pure (fB Ey)else pure (fB Ey)) Q E s
 |[]=>by rw[List.forIn_nil];exact ay h
 |i::l=>by
  rw[Mp];refine ak ?_;split
  .exact ak (Rt<|ay<|tE m h l)
  .exact ay (tE m h l)
theorem rP(H:(m.runFor 4).outcome=ah o)(h:match o with| .matched=>Q (ah<|m.runFor 4) s| .failed=>Q aC s| .stuck _=>False):wpAny M A (reRunToEnd m) Q E s:=by
 unfold reRunToEnd;rw[show(2:Nat)^64=18446744073709551615+1 from rfl];show wpAny M A (bind (if((m.runFor 4).outcome.isSome)=aj then pure (m.runFor 4)else _) _) Q E s;rw[H];refine ak<|ay ?_;refine ak<|tE _ ?_ _;rw[H];cases o with
 |matched=>exact ay h
 |failed=>exact ay h
 |stuck _=>exact h.elim
theorem zi(v:aK):reNamed "re.Pattern.search" "search" ["string","pos","endpos"] 1 [v] []=pure [ah v,aC,aC]:=by rfl
noncomputable def Kq(t u:Tok):gy:=(.type "re.Pattern",aC,.fields #[.str (aa "[^\\w@%+=:,./-]") t,.int 256 u,.int 0 0,.none,.none,.ref 48,.int 0 0],#[])
noncomputable def C9:gy:=(.type "tuple",aC,.seq (fM.map λ(n:Nat)=>Value.int (n:Int) 0) 0,#[])
noncomputable def jn:gy:=(.type "builtin_function_or_method",aC,.fields #[.builtin "re.Pattern.search",.ref 49],#[])
section
variable{prog:jt} {w:dC} {A:fR} {E:aK ->aS ->Prop} {s:aS}
theorem Dw(y:s.heap.get? 48=ah C9)(u:s.heap.get? 49=ah (Kq a b))(j:x.length<2^62)(h:Q (.ref 49,.str x t,fM,x.cps,0,0,0,x.cps.size) s):wpAny (model prog w) A (reTarget "re.Pattern.search" "search" ([.ref 49,.str x t],[])) Q E s:=by
 unfold reTarget;dsimp only;rw[zi];refine ak<|ay ?_;dsimp only;refine ak<|ay<|ak<|ay<|ak<|BM u rfl<|ak ?_;refine ay ?_;dsimp only;rw[if_neg];case hnc=>exact λh=>jR (show ao=aj from h)
 rw[if_neg];case hnc=>exact λh=>jR (show ao=aj from h)
 have e0:wpAny (model prog w) A (reNoCollectionInside (.str x t) 0) (λU D=>D=s) E s:=by
  unfold reNoCollectionInside;rw[if_neg];case hnc=>exact λh=>jR (show ao=aj from h)
  exact ay rfl
 refine ak<|aq e0 (λU D G=>?_) i3;subst G;have m:wpAny (model prog w) A (reRawItems<|.ref 48) (λl H=>H=D/\l.map fU=fM) E D:=by unfold reRawItems;refine ak<|abF y rfl<|ay (rfl,'k')
 refine ak<|aq m (λl H z=>fk z λG hl=>?_) i3;subst G;refine ay ?_;have hm:min (2^63 -1:Int).toNat x.cps.size=x.cps.size:=by have:x.cps.size<2^62:=j;lia
 have h0:min (0:Int).toNat x.cps.size=0:=by show min 0 _=0;exact RK
 rw[hm,h0,hl];exact h
theorem Dy(y:0<x.cps.size)(h:∀v G,(∀b o,s.heap.get? b=ah o ->G.get? b=ah o)->(if x.cps.toList.all j4=aj then v= .none else∃a,v= .ref a)->Q (.done<|.ret v) {s with heap:=G}):wpAny (model prog w) A (reAnswer (.ref 49,.str x t,fM,x.cps,0,0,0,x.cps.size)<|qE fM x.cps 0 0 x.cps.size ao) Q E s:=by
 unfold reAnswer;refine aR (OZ y) λm u D=>?_;subst u;by_cases H:x.cps.toList.all j4=aj
 .rw[if_pos H]at D;refine ak<|rP D ?_;dsimp only;refine ay<|h .none s.heap (λU U e=>e) ?_;rw[if_pos H]
 .rw[if_neg H]at D;refine ak<|rP D ?_;dsimp only;unfold reNewMatch;refine ak ?_;dsimp only;rw[if_neg];case hnc=>exact λh=>jR (show ao=aj from h)
  refine ak<|wpAny_newTuple ?_ (show 2<=sizeLine from 'd');unfold newFields;refine m5 ?_ ?_
  .refine ay (h _ _ (λb o e=>bD _<|bD _ e) ?_);rw[if_neg H];exact(_,rfl)
  .exact(show 6<=sizeLine+2 from 'd')
theorem Dx(z:s.heap.get? 48=ah C9)(H:s.heap.get? 49=ah (Kq a b))(D:s.heap.get? 752=ah jn)(h0:0<x.length)(j:x.length<2^62)(h:∀v u,(∀b o,s.heap.get? b=ah o ->u.get? b=ah o)->(if x.cps.toList.all j4=aj then v= .none else∃a,v= .ref a)->Q v {s with heap:=u}):wpAny (model prog w) A (call (.ref 752) [.str x t] []) Q E s:=by
 refine dP<|pJ ?_;show wpAny _ _ (callAny (.ref 752) ([.str x t],[])) _ _ s;unfold callAny;refine ak<|vh D ?_;have c1:(jn.cls==cz "method"||jn.cls==cz "builtin_function_or_method"||jn.cls==cz "method-wrapper")=aj:=by decide+kernel
 have c2:(jn.cls !=cz "method")=aj:=by decide+kernel
 show wpAny _ _ (if(jn.cls==cz "method"||jn.cls==cz "builtin_function_or_method"||jn.cls==cz "method-wrapper")=aj then _ else _) _ _ s;rw[if_pos c1];show wpAny _ _ (if(jn.cls !=cz "method")=aj then _ else _) _ _ s;rw[if_pos c2];have T:s.TypeIs (.ref 49) "re.Pattern":=(_,H,rfl);have hc:wpAny (model prog w) (A.under<|.call (.ref 752) ([.str x t],[])) (checkBoundCall "re.Pattern.search" ([.ref 49,.str x t],[])) (λU G=>G=s) (λe G=>E e G) s:=by
  unfold checkBoundCall;rw[A6,zP];dsimp only;rw[if_neg];case hnc=>decide
  refine ak<|yj T yX ?_;rw[if_neg];case hnc=>decide+kernel
  unfold isType;refine ak<|ak<|ak<|gG H ?_;refine ay<|ay ?_;rw[if_neg];case hnc=>exact λh=>jR (show ao=aj from h)
  refine ak<|wpAny_typeOf T ?_;show wpAny _ _ (xg "re.Pattern.search" {ON with full:=s!"{Bind.lastOf "y.Pattern"}.{Bind.lastOf "y.Pattern.search"}"} ([.ref 49,.str x t],[])) _ _ _;rw[show s!"{Bind.lastOf "y.Pattern"}.{Bind.lastOf "y.Pattern.search"}"="Pattern.search" by decide+kernel,Aq];exact ay rfl
 refine ak<|aq hc (λU G hs=>?_) i3;subst hs;refine ay (tq xy _,hH x3 ?_);refine ak<|Dw z H j<|Dy h0 λv u k m=>?_;exact h v u k m
end
end Internal
end
section
set_option backward.match.sparseCases true
namespace Internal
abbrev Kept(hB:dR)(s:aS):Prop:=∀b o,hB.get? b=ah o ->¬Grows b ->s.heap.get? b=ah o
theorem zD(e:(KK P).lookup a=ah o):¬Grows a:=by refine fk (ny e) λQ U=>?_;have:=List.all_eq_true.mp jH _ Q;simp only[aw,decide_eq_true_eq]at this;exact λg=>by rcases g with g|g;exact this.1.2 g;exact this.2 g
theorem kG(Q:BS w hB)(H:Kept hB s)(e:(KK w.params).lookup a=ah o):s.heap.get? a=ah o:=H _ _ ((oZ Q.says).vr _ _ e)<|zD e
theorem He(H:BS w hB)(E:Kept hB s):s.heap.NoLimit:=by (refine aR (H.lim) λD Q q=>?_;obtain⟨U,es,G,u,r⟩:=Q);exact(bM D (br U es G (E _ _ u (by unfold Grows;decide)) r) q)
theorem Gn{w:dC}{hB:dR}{A:fR}{R:rJ ->aS ->Prop}{s:aS}{f c:aA}{st:cn}{ql:String}{df kd pm:aK}{us:List aK}{binds:List (aF×aK)}(H:BS w hB)(u:Kept hB s)(hl:∀P,(KK P).lookup f=ah (Hd.iN st ql df kd pm<|.ref c))(hc:∀P,codeAt (KK P) c ql=aj)(hd:(CO st&&((aQ st).kind== .function)&& !(aQ st).isCoroutine&& !(aQ st).isGenerator&&(aQ st).names.all (λx=>x.2 != .cell))=aj)(j:∀x∈binds,(aQ st).names.lookup x.1=ah .local)(hb:∀S,peek (KK w.params) S (bindArgs (Hd.Br st ql 3 df kd pm<|.ref c) (us,[]))=ah binds)(D:A.depth<recursionLimit)(h:∀env Q,env.scope=aQ st ->env.globals=mainGlobals ->env.builtins=builtinsNs ->env.code= .ref c ->Fr s.heap env.locals Q (λx=>binds.reverse.lookup x)->env.locals=s.heap.objs.size ->env.cells=[]->
  wpAny (model PR w) (A.deeper env) (execs (eA st) env) (λf s' =>R (.ok<|.ret<|match f with| .ret v=>v|_=>.none) s') (λU U=>False) {s with heap:=Q,toks:=s.toks+binds.length}):
 codeAny (model PR w) A (.call (.ref f) (us,[])) R s:=by
 simp only[aw,dk,beq_iff_eq]at hd;refine cH λGq kq=>?_;(refine fk hd λy h5=>?_;obtain⟨⟨⟨h1,h2⟩,h3⟩,h4⟩:=y);refine uO (xX (ql:=ql) (gl:=3) (df:=df) (kd:=kd) (pm:=pm) (cd:=.ref c) h1) λb1 m b3 b4 b5 b6 b7=>?_;refine ji (ow<|hc w.params) λoc vs t e1 e2 e3=>?_;refine kq ?_;have X:(KK w.params).In s.heap:=λa o e=>kG H u e;have E:∀x∈(aQ st).names,x.2≠ .cell:=λx hx q=>by have:=List.all_eq_true.mp h5 x hx;rw[q]at this;exact absurd this 'd'
 refine qB D (kG H u<|hl _) rfl (by rw[m];exact h3) (by rw[m];exact h4) b1 (Ek c oc vs t b6 (kG H u e1) e2 (by rw[b7];exact e3))<|kp_binds X hb _ _ _ _ ?_;rw[b3,b4,b5,m];refine Me E j (λQ z G=>((He H u).fresh _ G,?_)) h2;refine Js<|aq (h _ Q rfl rfl rfl b6 (z,λb o e=>G.extBut b o (iA<|bR e)<|bD _ e,aJ _) rfl rfl) i3 i4
end Internal
end
namespace Internal
noncomputable def cf(x:aF):aF:=if x.length=0 then "''"else if x.cps.toList.all j4=aj then x else(aa "'"++bX x "'" "'\"'\"'")++aa "'"
theorem Kp(P:aB):∃a b,(KK P).lookup 49=ah (Kq a b):=(332,369,'k')
theorem It(P:aB):(KK P).lookup 48=ah C9:='k'
theorem Ih(P:aB):(KK P).lookup 752=ah jn:='k'
theorem Bl(P:aB):nsIn (KK P) mainGlobals "_find_unsafe"=ah (ah<|.ref 752):='k'
section
variable{M:yC} {A:fR} {E:aK ->aS ->Prop} {s:aS} {env:vK} {m:aF ->Option aK} {h₀:dR}
theorem v8(G:env.scope.kind= .function)(D:env.kindOf x=ah .local)(F:Fr h₀ env.locals s.heap m)(H:m x=ah v)(U:bV x=aj)(h:Q v s):wpAny M A (eval (.Name x pos) env) Q E s:=vi (gg G D F.ns H h) (bV.C7 U).1
end
theorem Gp(hz:x.length+y.length<=2^24)(h:∀U H,Q (.str (x++y) U) {s with toks:=H}):wpAny (model prog w) A (binaryOp .Add (.str x t)<|.str y u) Q E s:=YG h hz
theorem KQ(Q:h.get? 752=ah jn):gh M h (keeperOf<|.ref 752) .machine:=by
 unfold keeperOf;refine(mB (part:=aC) Q).andThen ?_;have U:(jn.cls !=cz "method")=aj:=by decide+kernel
 have H:(jn.cls==cz "builtin_function_or_method"||jn.cls==cz "method-wrapper")=aj:=by decide+kernel
 show gh M h (if(jn.cls !=cz "method")=aj then(pure<|if(jn.cls==cz "builtin_function_or_method"||jn.cls==cz "method-wrapper")=aj then oG else Keeper.caller)else _) _;rw[if_pos U,if_pos H];exact Looks.now
theorem zm(Bj:BS w hB)(hk:Kept hB s)(CS:A.depth<recursionLimit)(hx:x.length<=2^16)(hq:∀s' t',Keeps s s' ->Q (.str (cf x) t') s'):wpAny (model PR w) A (call (.ref 759) [.str x t] []) Q E s:=by
 refine dP<|Gn (binds:=[(Prod.mk "s"<|.str x t)]) Bj hk Np Wi 'k' (λy hy=>by rw[List.mem_singleton.mp hy];kernel_rfl) (λS=>'k') CS λenv H e1 e2 e3 e4 F eL eC=>?_;have j:env.scope.kind= .function:=by rw[e1];kernel_rfl
 have R1:env.kindOf ("s":aF)=ah .local:=by show env.scope.names.lookup ("s":aF)=_;rw[e1];kernel_rfl
 have Yb:env.kindOf ("_find_unsafe":aF)=ah .globalImplicit:=by show env.scope.names.lookup ("_find_unsafe":aF)=_;rw[e1];kernel_rfl
 have hm:(λy:aF=>[(Prod.mk (("s":aF))<|ip x t)].reverse.lookup y) "s"=ah (.str x t):='k';refine uM (Kp w.params) λpa pb aay=>?_;have X:(KK w.params).In H:=λa o e=>F.keep _ _<|kG Bj hk e;have h48:H.get? 48=ah C9:=X _ _<|It _;have h49:H.get? 49=ah (Kq pa pb):=X _ _ aay;have U5:H.get? 752=ah jn:=X _ _<|Ih _;refine cj Bj.top λmg mb R0 U U=>?_;have CT:H.Ns env.globals mg:=by rw[e2];(refine bl R0 λo es ep a b=>?_;clear R0);exact(o,es,ep,F.keep _ _<|hk _ _ a (by unfold Grows;decide),b)
 have hun:mg ("_find_unsafe":aF)=ah (.ref 752):=Mh (oZ Bj.says).vr R0<|Bl _;have n5:(aa "'\"'\"'").length=5:='k';have n1:(aa "'").length=1:='k';have hr:=kT x (aa "'")<|aa "'\"'\"'";rw[n5]at hr;conv=>arg 3;arg 1;whnf
 refine cB<|Mg<|Xh ?_;rw[oV<|by rfl];refine ak<|v8 j R1 F hm 'k'<|ak<|dm<|bo<|BP (by lia) ?_;by_cases h0:x.length=0
 .rw[show(!((x.length:Int) !=0))=aj by rw[h0];rfl,if_pos rfl];refine cB<|ff<|dZ ?_;show Q (.str (aa "''") _) _;rw[<-show cf x=aa "''"from if_pos h0];exact hq _ _ (H,_,rfl,F.keep)
 .have hn:(!((x.length:Int) !=0))=ao:=by
   rw[Bool.not_eq_false',bne_iff_ne];lia
  rw[hn,if_neg 'd'];refine gc ?_;refine cB<|Mg ?_;refine qA ?_ (by rfl);refine ym<|dE j Yb (m7 CT hun ?_) (by decide+kernel);refine jC (P:=λh=>gh (model PR w) h (keeperOf<|.ref 752) .machine) rfl (λh z=>(_,.inr<|.inl rfl,z)) ?_;refine iQ rfl<|cA ?_;refine v8 j R1 F hm 'k'<|d6<|er (KQ U5,?_);refine Dx h48 h49 U5 (by exact Jx h0) (by exact(dz hx 'd')) λv D k₂ hv=>?_;refine wpAny_Constant_none ?_;refine is_none ?_;refine m1 ?_;have G:Fr s.heap env.locals D (λy:aF=>[(Prod.mk ("s":aF)<|ip x t)].reverse.lookup y):=F.keeps k₂;by_cases hs:x.cps.toList.all j4=aj
  .rw[if_pos hs]at hv;rw[hv,show(dU==dU)=aj from rfl,if_pos rfl];refine cB<|ff<|v8 j R1 G hm 'k' ?_;show Q (.str x _) _;have hz:cf x=x:=by unfold cf;rw[if_neg h0,if_pos hs]
   rw[<-hz];have:=hq {s with heap:=D,toks:=s.toks+[(Prod.mk ("s":aF)<|ip x t)].length+1+1} t (D,_,rfl,G.keep);rw[hz]at this⊢;exact this
  .rw[if_neg hs]at hv;obtain⟨a,hv⟩:=hv;rw[hv,show(cg a==dU)=ao from rfl,if_neg 'd'];refine gc ?_;refine cB<|ff ?_;refine iP<|iP<|dZ ?_;rw[nR,iO<|by rfl];refine ak<|v8 j R1 G hm 'k' ?_;refine ak<|dm ?_;unfold methodCall;rw[show methodCallForm (([fZ (jP<|aa "'") 0 (742,27,742,30),fZ (jP<|aa "'\"'\"'") 0 (742,32,742,42)]:List aW).length+([]:List iu).length) (backTo (742,17,742,43)<|starEach [fZ (jP<|aa "'") 0 (742,27,742,30),fZ (jP<|aa "'\"'\"'") 0 (742,32,742,42)] env) (backToKw (742,17,742,43)<|keywordEach [] env)=aj from rfl];refine ak<|bo ?_;refine jY (id:="str.replace") (fQ _ _ _) gq lz vG kl ?_;refine ak<|m4 (show methodCallPos aj (dg (aa "s") (742,17,742,18)) env (742,17,742,26) (742,17,742,43)=pure (742,17,742,43)from by unfold methodCallPos;rfl) ?_;refine jC (P:=λh=>gh (model PR w) h (keeperOf<|.builtin "str.replace") .machine) rfl (λh z=>(_,.inr<|.inl rfl,z)) ?_;refine iQ rfl<|cA ?_;show wpAny _ _ (eval (.Constant (.str<|aa "'") 0 (742,27,742,30)) env) _ _ _;refine dZ<|cA ?_;show wpAny _ _ (eval (.Constant (.str<|aa "'\"'\"'") 0 (742,32,742,42)) env) _ _ _;refine dZ<|d6<|er ?_;refine(eZ rfl,?_);refine zg (u:=s.toks+[(Prod.mk ("s":aF)<|ip x t)].length+1+1+1) (v:=s.toks+[(Prod.mk ("s":aF)<|ip x t)].length+1+1+1+1) (vm _) (vm _) (iA<|fx _) 'k' ?_ λt' k hk' =>?_
   .rw[n5];lia
   .dsimp only;have z1:(aa "'").length+(bX x (aa "'")<|aa "'\"'\"'").length<=2^24:=by rw[n1];lia
    with_reducible refine Gp z1 ?_
    .intro DA k₂;refine dZ ?_;dsimp only;with_reducible refine Gp ?_ λSH acn=>?_
     .rw[PySem.Str.length_append,n1];lia
     .show Q (.str ((aa "'"++bX x "'" "'\"'\"'")++aa "'") _) _;have hz:cf x=(aa "'"++bX x "'" "'\"'\"'")++aa "'":=by unfold cf;rw[if_neg h0,if_neg hs]
      rw[<-hz];exact hq _ _ (D,_,rfl,G.keep)
section
variable{M:yC} {A:fR} {E:aK ->aS ->Prop} {s:aS}
theorem U6(hc:env.code= .ref c)(y:s.heap.IsCode c T ps)(D:s.heap.TableAt c T ps)(hQ:∀code m tk H,vp T s.heap m ->s.heap.objs.size<=m.objs.size ->m.TableAt c T (ps++H)->yo (ps++H).toList ->Q code {s with heap:=m,toks:=tk}):wpAny M A (genexprCode env pos ql scope) Q E s:=by
 cases hf:codeAmong pos ps.toList with
 |some code=>
  refine cH λGq kq=>?_;obtain⟨o,vs,file,tf,j,tg,inF,text,tt,op,ho,hd,h11,h2,h7,h9,h10,hop,hpd,G,D5⟩:=id y;refine kq ?_;refine wpAny_genexprCode_hit hc y hf<|hQ code s.heap s.toks #[] (abL _ _) (aJ _) ?_ ?_
  .rw[EL];exact D
  .rw[EL];exact G
 |none=>
  refine wpAny_genexprCodeX hc y D hf λc' m tk hx hge sv z U u U=>?_;refine cH λGq kq=>?_;obtain⟨o,vs,file,tf,j,tg,inF,text,tt,op,ho,hd,h11,h2,h7,h9,h10,hop,hpd,G,D5⟩:=z;refine kq ?_;exact hQ _ m tk _ hx (by exact rS hge sv (by omega)) u G
end
def Et(w:dC)(A:fR)(a:Nat)(n:Nat)(F:Nat ->aK ->Prop)(lo:Nat)(L:Nat)(s:aS):Prop:=
 ∃U D g C G Q H,WalksS PR w A.in4 a (a::C::U) (C::D) (GenOnlyQ g) n F (GenAt PR w A.in4 a g C U D G Q H)/\GenAt PR w A.in4 a g C U D G Q H 0 s/\(∀b∈a::C::U,b<s.heap.objs.size)/\(∀b∈C::D,lo<=b)/\L∉a::C::U/\cStatics∈U
section
variable{w:dC} {A:fR} {a n:Nat} {F:Nat ->aK ->Prop} {lo L:Nat} {s:aS} {E:aK ->aS ->Prop}
theorem Et.frame(X:Et w A a n F lo L s)(hg:s'.gens=s.gens)(y:∀b o,b≠L ->s.heap.get? b=ah o ->s'.heap.get? b=ah o)(hz:s.heap.objs.size<=s'.heap.objs.size):Et w A a n F lo L s' :=by refine cH λGq kq=>?_;obtain⟨fp,wr,g,C,pz,H,U,W,⟨⟨o,nm,qn,ho,r⟩,⟨mc,G,u⟩,gs,z,j⟩,h2,h3,h4,h5⟩:=X;refine kq ?_;have ne:∀b∈a::C::fp,b≠L:=λb Q q=>h4<|q▸Q;refine(fp,wr,g,C,pz,H,U,W,((o,nm,qn,y _ _ (ne a<|qG ..) ho,r),(mc,G.at' λo e=>y cStatics o (ne _<|o5 _<|o5 _ h5) e,u),gs,by rw[hg];exact z,λD m=>j D λb Q o e=>m b Q o<|y b o (ne b<|o5 _ Q) e),λb Q=>eG (h2 b Q) hz,h3,h4,h5)
theorem Et.join(X:Et w A a n F lo L s)(m:Nat ->aF)(D:∀j v,F j v ->∃u,v= .str (m j) u)(Hu:gb U ((aE n).map m)=aj)(G:vN s.gens)(hQ:∀s' t',(∀b o,b<lo ->s.heap.get? b=ah o ->s'.heap.get? b=ah o)->vN s'.gens ->s'.os=s.os ->Q (.str (aY U<|(aE n).map m) t') s')(xQ:n<=sizeLine):wpAny (model PR w) A (call (.builtin "str.join") [.str U t,.ref a]) Q E s:=by
 refine cH λGq kq=>?_;obtain⟨fp,wr,g,C,pz,acm,acp,W,X2,h2,h3,h4,h5⟩:=X;refine kq ?_;have W:=W.in4_2;refine SC.joinGen W (λi s st=>st.1.typeIs) X2 h2 (qG ..) (λj v hv=>let⟨u,e⟩:=D j v hv;(_,u,e)) (λs' lt hm H=>?_) xQ;have y:lt.length=n:=by simpa[strValues] using H.1
 have hl:lt.map (·.1)=(aE n).map m:=by
  refine mO (by simp[y]) λj h1 h2=>?_;have hj' :j<lt.length:=by simpa using h1
  obtain⟨u,hv⟩:=D j _<|H.2 j (.str lt[j].1 lt[j].2) (by simp[strValues,az hj']);injection hv with e1 _;simp[e1]
 rw[hl];have g1:=G.movedS hm;have o1:=hm.os;have k1:∀b o,b<lo ->s.heap.get? b=ah o ->s'.heap.get? b=ah o:=λb o hb e=>hm.heap b o (λz=>eK _<|eG hb<|h3 b z) e;exact(Hu,λt' k=>hQ {s' with toks:=k} t' k1 g1 o1)
theorem CW{elt iter:aW}(UX:env.code= .ref c)(hIC:s.heap.IsCode c T ps)(U4:s.heap.TableAt c T ps)(hBM:BMod s.heap env.globals mg bm ob)(D6:s.heap.NoLimit)(hLT:L≠T)(hLs:L<s.heap.objs.size)(hcL:cStatics≠L)(hlL:l≠L)(hl:s.heap.IsList l items)(hh:A.handled=aC)(Yd:scope.isCoroutine=ao)(UZ:closureFor scope env=pure [])(HB:∀y∈scope.names,y.2≠ .cell)(h0:scope.names.lookup (".0":aF)=ah NameKind.local)(hx:scope.names.lookup x=ah .local)(Nb:scope.kind= .function)(CS:A.depth<recursionLimit)(hgf:∀v,genFold iter env v=pure v)(hit:∀Q:aK ->aS ->Prop,Q (.ref l) s ->wpAny (model PR w) A (eval iter env) Q E s)(hq:∀(C:aA) (code:aK) (A' :fR) E' i v (t:aS) m₂,A'.handled=aC ->A'.depth<=A.depth+1 ->A'.units<=A.units+8 ->items[i]? =ah v ->(∀b o,b≠T ->b≠L ->s.heap.get? b=ah o ->t.heap.get? b=ah o)->t.heap.Ns C m₂ ->m₂ x=ah v ->
 wpAny (model PR w) A' (eval elt<|genEnv scope [] C code builtinsNs env) (λy jT=>F i y/\Keeps t jT) E' t)(G:vN s.gens)(hQ:∀a more z,vp T s.heap z.heap ->z.heap.TableAt c T (ps++more)->yo (ps++more).toList ->vN z.gens ->z.os=s.os ->s.heap.objs.size<=z.heap.objs.size ->Et w A a items.size F s.heap.objs.size L z ->Q (.ref a) z):wpAny (model PR w) A (eval (.GeneratorExp elt [(.Name x px,iter,[],0)] scope pos) env) Q E s:=by
 have sv:l<s.heap.objs.size:=by refine aR hl λU e U=>?_;exact bR e
 have aaM:T<s.heap.objs.size:=bR U4.2;have hlT:l≠T:=λe=>by refine jo hl λo ho hc U=>?_;rw[e,U4.2]at ho;cases ho;exact absurd hc (by simp)
 have hcT:cStatics≠T:=λe=>by refine aR D6 λU CT U=>?_;refine ji CT λo es ep ho hd U=>?_;rw[e,U4.2]at ho;cases ho;cases hd
 refine wpAny_GeneratorExp_make Yd UZ HB h0 Nb CS (hit _ ?_) hgf;refine R' hl (D6.push _,?_);refine U6 UX (hIC.push _) (U4.push _) λcode H tk more MX PY Uz PU=>?_;have kx:vp T s.heap H:=λb o u e=>MX b o u<|bD _ e;have yW:s.heap.objs.size<H.objs.size:=by rw[jv]at PY;assumption
 have BH:BMod H env.globals mg bm ob:=hBM.extBut U4 kx;have M' :H.NoLimit:=D6.extBut kx hcT;refine wpAny_builtinsFor BH.ns BH.name BH.ne BH.obj BH.cls BH.dict BH.data ?_;intro h' X9 RX;have Ht:h'.objs.size=H.objs.size+1:=by rw[RX.1,jv]
 have Un:∀b o,H.get? b=ah o ->h'.get? b=ah o:=λb o e=>RX.extBut b o (iA<|bR e)<|bD _ e;generalize hgo:({cls:=.type "generator",data:=.fields #[.int (s.gens.size:Nat) 0,.str "<genexpr>"<|tk+1,.str (env.qual++"<genexpr>")<|tk+1+1]}:gy)=go;have D:∀b o,H.get? b=ah o ->(h'.push go).get? b=ah o:=λb o e=>bD _<|Un b o e;let fp:=(aE H.objs.size).filter (λb=>b !=L);have mem:∀b,b∈fp↔b<H.objs.size/\b≠L:=λb=>by simp[fp]
 have UY:cStatics<H.objs.size:=let⟨_,hn,_⟩:=M';hn.lt;have hcf:cStatics∈fp:=(mem _).mpr (UY,hcL);have Ur:s.heap.objs.size∈fp:=(mem _).mpr (yW,by exact nS hLs);have lf:l∈fp:=(mem _).mpr (by exact BV sv yW,hlL);have PZ:∀b∈[s.heap.objs.size],b∈fp:=λb u=>by rw[List.mem_singleton.mp u];exact Ur
 have hcw:cStatics∉[s.heap.objs.size]:=λq=>by
  have:=List.mem_singleton.mp q;have h2:cStatics<s.heap.objs.size:=by refine aR D6 λU hn U=>?_;exact hn.lt
  rw[this]at h2;exact eK _ h2
 have haf:h'.objs.size∉fp:=λq=>by have:=((mem _).mp q).1;exact XM this (ar Ht.symm) (by omega)
 have hCf:H.objs.size∉fp:=λq=>by have:=((mem _).mp q).1;exact RM this (by omega)
 have ep:(passing (λU=>aj) items.size 0)=aE items.size:=by simp[passing]
 have W:=WalksS.genexpQ (prog:=PR) (w:=w) (A:=A.in4) hh h'.objs.size s.gens.size H.objs.size fp [s.heap.objs.size] (λU=>aj) items.size F (by rw[Ht];exact Nat.succ_ne_self _) haf PZ CS hcf (iA UY) hcw;have UH:(s.heap.push {cls:=.type "list_iterator",data:=.fields #[.ref l,.int 0 0]}).get? s.heap.objs.size=ah {cls:=.type "list_iterator",data:=.fields #[.ref l,.int 0 0]}:=bb _ rfl;refine hQ _ more _ (λb o u e=>D b o<|kx b o u e) (Uz.keeps D) PU (G.push rfl) rfl (by show _<=(h'.push go).objs.size;rw[jv];exact rS yW (ar Ht.symm)<|by omega)
  (fp,[s.heap.objs.size],s.gens.size,H.objs.size,λU=>aj,items.size,F,?_,?_,?_,?_,?_,hcf)
 .rw[ep,bJ]at W;have e:(λj y=>∃i,(aE items.size)[j]? =ah i/\F i y)=λj y=>j<items.size/\F j y:=by
   funext j y;refine propext (λzU=>aR zU λi hi h=>?_,λzU=>fk zU λhi h=>(j,by simp[hi],h));(refine eN (List.getElem?_eq_some_iff.mp hi) λhj tA=>?_;subst tA);rw[E8]at h;exact(by simpa using hj,h)
  rw[e]at W;exact{W with item:=λi s Q E hi st hQ=>W.item i s Q E hi st λv s' h=>hQ v s' h.2}
 .refine GenAt.freshD (A:=A.in4) (cenv:=genEnv scope [] H.objs.size code builtinsNs env) (m:=λy=>if y=".0"then ah (.ref s.heap.objs.size)else aC) (P:=λi v=>items[i]? =ah v) (St₀:=λi h=>h.IsListIter s.heap.objs.size l i/\h.IsList l items) hh
   (λA' hA=>(Walks.list hA _ _ (iA sv) items).mono_fp λb u=>?_) (λU=>aj) F hx (by simp[genEnv,Nb]) Yd hCf (λA' E' i v t m₂ U U U U U U U=>ay (rfl,t.heap,t.toks,rfl,λU U e=>e),λA' E' i v t m₂ hA hD hU hi U hn hm hk=>?_)
   ?_ (Array.getElem?_push_size ..) ((_,D _ _<|MX _ _ (nS aaM) UH,rfl,rfl),let⟨o,e,r⟩:=hl;(o,D _ _<|kx _ _ hlT e,r)) (X9.push _) (M'.keeps D)
  .rcases List.mem_cons.mp u with rfl|u
   .exact Ur
   .rw[List.mem_singleton.mp u];exact lf
  .refine hq _ code A' E' i v t m₂ hA hD hU hi (λb o hbT hbL e=>?_) hn hm;have:=bR e;exact hk b ((mem _).mpr (BV this yW,hbL)) (λq=>by rw[List.mem_singleton.mp q]at this;exact eK _ this) o (D _ _<|kx _ _ hbT e)
  .subst hgo;exact(_,_,_,bb _ rfl,rfl,rfl,rfl)
 .intro b u;show b<(h'.push go).objs.size;rw[jv];rcases List.mem_cons.mp u with rfl|u
  .exact fx _
  .rcases List.mem_cons.mp u with rfl|u
   ·(rw[Ht];simp+arith only;done)
   .have:=((mem _).mp u).1;exact MH (ar Ht.symm) this (by omega)
 .intro b u;rcases List.mem_cons.mp u with rfl|u
  .exact cN yW
  .rw[List.mem_singleton.mp u];exact aJ _
 .intro u;rcases List.mem_cons.mp u with e|u
  .lia
  .rcases List.mem_cons.mp u with e|u
   .lia
   .exact((mem _).mp u).2 rfl
end
theorem HInv.grown{os:ey}(I:HInv w hB fr os obs ρ P s)(hT:Grows T)(H:hB.TableAt c T u)(ht:s.heap.TableAt c T m)(Q:∀b o,b≠T ->s.heap.get? b=ah o ->s'.heap.get? b=ah o)(D:s'.heap.TableAt c T (m++G))(y:yo (m++G).toList)(j:T≠cStatics)(hg:vN s'.gens)(ho:s'.os=s.os):HInv w hB fr os obs ρ P s' /\eH fr kP ρ ρ P P s.heap s'.heap:=by
 have ne:∀{b},¬Grows b ->b≠T:=λh q=>h<|q▸hT;have L:jQ.Le (w.params,s.heap,ρ,P) (w.params,s'.heap,ρ,P):=(rfl,λb o e n=>Q b o (λq=>n<|q▸I.gw T hT) e,λU U e=>e,λU p=>.inl p);have st:∀b o,s.heap.get? b=ah o ->∃o',s'.heap.get? b=ah o' :=λb o e=>by
  by_cases q:b=T
  .subst q;exact(_,D.2)
  .exact(o,Q b o q e)
 refine((λb o e g=>Q b o (ne g)<|I.base b o e g,(I.old.toOldK.step_table H ht D Q j,λb o g e=>?_),I.hK,I.gw,λb p=>let⟨o,e⟩:=I.there b p;st b o e,I.wB.of_keeps λb o e nd=>?_,I.wD,I.vt,?_,hg,ho.trans I.os),?_)
 .by_cases q:b=T
  .subst q;exact(_,D.2,y)
  .refine aR (I.old.tabs b o g e) λqs x t=>?_;exact(qs,Q _ _ q x,t)
 .by_cases q:b=T
  .subst q;rw[ht.2]at e;cases e;exact absurd rfl<|nd _
  .exact(o,Q b o q e,rfl)
 .refine(I.view.len,λi o p e q=>(I.view.at_ i o p e q).mono L (λU z=>Q _ _ (ne (I.view.gr p<|aT q).1) z) (λU z=>Q _ _ (ne (I.view.gr p<|aT q).2) z),I.view.iV,I.view.apart,I.view.gr)
 .exact(λb o e U U U g=>Q b o (ne g) e,λb o e U U g=>(o.slots,Q b o (ne g) e),st,λU U e=>e,λU p=>p,λU p=>.inl p,λp h=>.inl h)
noncomputable def isStr:aK ->Bool
 | .str _ _=>aj
 |_=>ao
noncomputable def isInt:aK ->Bool
 | .int _ _=>aj
 |_=>ao
noncomputable def Uv:aK ->Bool
 | .bool _=>aj
 |_=>ao
theorem D3(h:isStr v=aj):∃x t,v= .str x t:=by cases v<;>first|exact(_,_,rfl)|cases h
theorem wq(h:isInt v=aj):∃x t,v= .int x t:=by cases v<;>first|exact(_,_,rfl)|cases h
theorem Hn(h:Uv v=aj):∃b,v= .bool b:=by cases v<;>first|exact(_,rfl)|cases h
noncomputable def VL(T:aA)(vs:Array aK):Bool:=vs[11]? ==ah (.ref T)&&(isStr (vs.getD 18 .none)&&(isInt (vs.getD 7 .none)&&(Uv (vs.getD 9 .none)&&isInt (vs.getD 10 .none))))
noncomputable def Dc(K:hJ)(c T:aA):Bool:=(K.lookup c).map (·.cls)==ah (.type "code")&&(Ie<|K.lookup c).any (VL T)
theorem qw(h:(a&&b)=aj):a=aj/\b=aj:=Bool.and_eq_true_iff.mp h
theorem Iu{K:hJ}(h:Dc K c T=aj):∃o vs H j Q z G text y,K.lookup c=ah o/\o.cls= .type "code"/\o.data= .fields vs/\vs[11]? =ah (.ref T)/\vs.getD 11 .none= .ref T/\vs.getD 18 .none= .str H j/\vs.getD 7 .none= .int Q z/\vs.getD 9 .none= .bool G/\vs.getD 10 .none= .int text y:=by
 refine fk (qw h) λD h=>?_;cases e:Ie (K.lookup c)with
 |none=>rw[e]at h;cases h
 |some vs=>
  rw[e]at h;refine aR (Ac e) λo u e2=>?_;have D:=eq_of_beq D;rw[u]at D;refine fk (qw h) λU h=>?_;refine fk (qw h) λh3 h=>?_;refine fk (qw h) λh4 h=>?_;refine fk (qw h) λh5 h=>?_;have U:=eq_of_beq U;refine uM (D3 h3) λa1 a2 q1=>?_;refine uM (wq h4) λb1 b2 q2=>?_;refine eN (Hn h5) λc1 q3=>?_;refine uM (wq h) λd1 d2 m=>?_;exact(o,vs,a1,a2,b1,b2,c1,d1,d2,u,dG D,e2,U,by rw[kL,U];rfl,q1,q2,q3,m)
theorem LH(P:aB):(KK P).lookup 4=ah (Hd.pl (Hd.Y "module") (ah 0) []):='k'
theorem IM(P:aB):nsIn (KK P) mainGlobals "__builtins__"=ah (ah<|.ref 4):='k'
section
variable{M:yC} {A:fR} {E:aK ->aS ->Prop} {s:aS} {env:vK}
theorem MG(hb:f5 ob=aj)(u:notStar arg=aj)(D:(U.endLine==pos.line)=aj)(hs:nA (.builtin fid)=aj)(h:wpAny M A (eval ob env) (λov a7=>(∀pl (j:(aK×List aK)->aS ->Prop),j (.builtin fid,[ov]) a7 ->wpAny M A (getMethod ov name pl) j E a7)/\wpAny M A (eval arg env) (λv H=>wpAny M A (call (.builtin fid) [ov,v] []) Q E H) E a7) E s):wpAny M A (eval (.Call (.Attribute ob name U) [arg] [] pos) env) Q E s:=by
 have y:methodCallPos aj ob env U pos=pure pos:=by unfold methodCallPos;simp[D]
 rw[nR,iO hb];refine ak<|aq h (λov a7 m=>fk m λhg ha=>?_) i3;refine ak<|dm ?_;unfold methodCall;have G:methodCallForm ([arg].length+([]:List iu).length) (backTo pos<|starEach [arg] env) (backToKw pos<|keywordEach [] env)=aj:=by rw[cC u];rfl
 rw[G];refine ak<|bo<|hg _ _ ?_;refine ak<|m4 y ?_;rw[cC u];refine jC (P:=λh=>gh M h (keeperOf<|.builtin fid) .machine) rfl (λh z=>(_,.inr<|.inl rfl,z)) ?_;refine iQ rfl<|cA ?_;refine aq ha (λv H hc=>?_) i3;exact d6<|er (eZ hs,hc)
end
theorem Lz(P:aB):Dc (KK P) 750 746=aj:='k'
theorem Ly(P:aB):Dc (KK P) 872 868=aj:='k'
theorem FD(P:aB):(Hd.tc P)[746]? =ah (.none,aC,.fields #[],#[]):='k'
theorem FC(P:aB):(Hd.tc P)[868]? =ah (.none,aC,.fields #[],#[]):='k'
structure Ro (w:dC) (hB:dR) (s:aS) (uu:dR) (L c T:aA) (ps:Array aK):Prop where
 ic:uu.IsCode c T ps
 ta:uu.TableAt c T ps
 RH:s.heap.TableAt c T ps
 tb:∃Gu,hB.TableAt c T Gu
 bm:∃mg ob,BMod uu mainGlobals mg 4 ob/\∀x v,nsIn (KK w.params) mainGlobals x=ah (ah v)->mg x=ah v
 lim:uu.NoLimit
theorem HE{os:ey}(Q:BS w hB)(I:HInv w hB fr os obs ρ P s)(hT:Grows T)(hc:Dc (KK w.params) c T=aj)(ht:(Hd.tc w.params)[T]? =ah (.none,aC,.fields #[],#[]))(hcT:c≠T)(G:∀b o,s.heap.get? b=ah o ->H.get? b=ah o):∃ps,Ro w hB s H L c T ps:=by
 refine cH λGq z=>?_;obtain⟨o,vs,m,tf,u,tg,inF,y,tt,e,k1,k2,k3,k4,k5,k6,k7,k8⟩:=Iu hc;have kb:=oZ Q.says;have hBc:hB.get? c=ah o:=kb.vr _ _ e;have U:s.heap.get? c=ah o:=kG Q I.base e;have j:=Q.says _ _ ht;obtain⟨ps,D,PU⟩:=I.old.tabs T _ hT j;obtain⟨mg,mb,E,_,_⟩:=Q.top;refine z ?_;have CT:H.Ns mainGlobals mg:=by refine cH λGq z=>?_;obtain⟨o,es,ep,a,b⟩:=E;refine z ?_;exact(o,es,ep,G _ _<|I.base _ _ a (by unfold Grows;decide),b)
 refine(ps,(o,vs,m,tf,u,tg,inF,y,tt,_,G _ _ U,k2,k4,k5,k6,k7,k8,G _ _ D,rfl,PU,hcT),((o,vs,G _ _ U,k1,k2,k3),G _ _ D),((o,vs,U,k1,k2,k3),D),(_,((o,vs,hBc,k1,k2,k3),j)),?_,?_)
 .exact(mg,_,(CT,Mh kb.vr E<|IM _,'d',G _ _<|kG Q I.base<|LH _,rfl,rfl,rfl),λx v e=>Mh kb.vr E e)
 .refine cH λGq z=>?_;obtain⟨mc,⟨o',es,ep,e1,r⟩,q⟩:=Q.lim;refine z ?_;exact(mc,(o',es,ep,G _ _<|I.base _ _ e1 (by unfold Grows;decide),r),q)
set_option maxHeartbeats 400000 in
theorem Ll {words : List aF} (hw : ∀ x ∈ words, x.length ≤ 2 ^ 16) (Hu : gb " " (words.map cf) = aj) (hn : words.length ≤ 2 ^ 20) :
    dB 751 5 [.lst (words.map V.str)] [] [] (.ok (.str (aY " " (words.map cf)))) [] := by
  intro w hB fr A os ρ P s G hC I us ks Uy UP
  refine cH fun Gq E => ?_
  obtain ⟨u, rfl, ra⟩ := Uy.one
  cases UP
  obtain ⟨a, o, xs, n, rfl, ga, ca, da, na, rl⟩ := ra
  refine E ?_
  have hk : Kept hB s := I.base
  refine Gn (binds := [("split_command", .ref a)]) G hk Vo Wj (by kernel_rfl) (fun y hy => by rw [List.mem_singleton.mp hy]; kernel_rfl) (fun S => by kernel_rfl) (by have := hC.depth; exact qU this (by omega)) fun env uu e1 e2 e3 e4 F eL eC => ?_
  have CU : env.scope.kind = .function := by rw [e1]; kernel_rfl
  have R1 : env.kindOf ("split_command" : aF) = ah .local := by show env.scope.names.lookup ("split_command" : aF) = _; rw [e1]; kernel_rfl
  have hm : (fun y : aF => [((("split_command" : aF)), cg a)].reverse.lookup y) "split_command" = ah (.ref a) := by kernel_rfl
  refine cH fun Gq E => ?_
  obtain ⟨ps, S⟩ := HE (L := env.locals) G I (.inl rfl) (Lz _) (FD _) (by decide) F.keep
  obtain ⟨mg, ob, B, R0⟩ := S.bm
  refine E ?_
  have D : ∀ b o, s.heap.get? b = ah o → b ≠ env.locals := fun b o e q => by rw [q, eL] at e; exact eK _ (bR e)
  have m : ∀ (i : Nat) (v : aK), xs[i]? = ah v → ∃ x t, x ∈ words ∧ words[i]? = ah x ∧ v = .str x t := fun i v e => by
    have e' : xs.toList[i]? = ah v := by rw [di]; exact e
    have hi : i < words.length := by
      have := rl.length
      rw [ax] at this
      rw [← this]; exact (List.getElem?_eq_some_iff.mp e').1
    refine cH fun Gq E => ?_
    obtain ⟨y, hy, t, ht⟩ := rl.get (i := i) (v := V.str words[i]) (by rw [bF, az hi]; rfl)
    refine E ?_
    rw [e'] at hy; cases hy
    exact ⟨_, t, mM hi, az hi, ht⟩
  have xQ : xs.size = words.length := by have := rl.length; rw [ax] at this; rw [← this]; simp
  conv => arg 3; arg 1; whnf
  refine cB (ff ?_)
  refine MG (fid := "str.join") (by rfl) (by rfl) (by rfl) (by rfl) ?_
  refine dZ ⟨fun pl Q' h => jY (id := "str.join") (fQ _ _ _) gq js mX kl h, ?_⟩
  refine CW (L := env.locals) (c := 750) (T := 746) (l := a) (items := xs) (F := fun i y => ∃ x t, words[i]? = ah x ∧ y = ip (cf x) t) (e4) S.ic S.ta (e2 ▸ B) S.lim ?c1 ?c2 ?c3 (D _ _ ga) ⟨o, F.keep _ _ ga, ca, n, da⟩
    ?c4 (by rfl) ?c5 (by decide +kernel) (by kernel_rfl) (by kernel_rfl) (by rfl) ?c6 (fun U => rfl) (fun Q h => v8 CU R1 F hm (by kernel_rfl) h) ?c7 ?c8 ?c9
  case c1 => exact (D _ _ S.RH.2).symm
  case c2 => exact F.ns.lt
  case c3 =>
    refine cH fun Gq E => ?_
    obtain ⟨mc, ⟨o', es, ep, Lr, r⟩, q⟩ := G.lim
    refine E ?_
    exact D _ _ (I.base _ _ Lr (by unfold Grows; decide))
  case c4 => exact hC.handled (by exact aM ..)
  case c5 => unfold closureFor; rfl
  case c6 => show A.depth + 1 < _; have := hC.depth; exact qU this (by omega)
  case c7 =>
    intro C code A' E' i v t m₂ hA hD hU hi UO Hv Hw
    refine cH fun Gq E => ?_
    obtain ⟨x, tt, hx, hxi, rfl⟩ := m i v hi
    refine E ?_
    have Yc : Kept hB t := fun b o e g => UO b o (fun q => g (.inl q)) (D _ _ (hk b o e g)) (F.keep _ _ (hk b o e g))
    have aaN : t.heap.get? 759 = ah _ := kG G Yc (Np _)
    refine ym (dE (by rfl) (by rfl) (m7 (mg := mg) ?_ (R0 _ _ (D' _)) ?_) (by decide +kernel))
    · show t.heap.Ns env.globals mg
      rw [e2]
      exact B.ns.at' fun o e => UO _ _ (by decide) (fun q => by
        have := B.ns.lt
        rw [q, eL] at this
        refine cH fun Gq E => ?_
        obtain ⟨T4, XU, ⟨o', es, ep, a', b'⟩, _⟩ := G.top
        refine E ?_
        have h3 := D _ _ (hk _ _ a' (by unfold Grows; decide))
        exact h3 q) e
    refine jC (P := fun h => gh (model PR w) h (keeperOf (.ref 759)) .frame) rfl (fun h z => ⟨_, .inl rfl, z⟩) ?_
    refine iQ rfl (cA ?_)
    refine ldG Hv Hw (d6 (er ⟨(mB (part := aC) aaN).andThen (fY (by rfl)), ?_⟩)) (by rfl) (by rfl) (by decide +kernel)
    refine zm G Yc ?_ (hw _ hx) fun s' t' k => ⟨⟨x, t', hxi, rfl⟩, k⟩
    have := hC.depth
    have hD' : A'.depth ≤ A.depth + 1 + 1 := hD
    exact MH this hD' (by omega)
  case c8 => exact I.gens
  case c9 =>
    intro a' more qP hx ht PU hg ho PW X
    have et : (aE xs.size).map (fun i => cf (words.getD i "")) = words.map cf := by
      rw [xQ]; refine mO (by simp) fun i h1 h2 => ?_
      simp at h1; simp [aI, h1]
    refine X.join (fun i => cf (words.getD i "")) (fun j v zU => f7 zU fun x t hj e => ⟨t, by rw [e, aI, hj]; rfl⟩) (by rw [et]; exact Hu) hg (fun s' t' k g o' => ?_) (by rw [xQ]; exact ai hn (by decide))
    rw [et]
    have kk : ∀ b o, b ≠ 746 → s.heap.get? b = ah o → s'.heap.get? b = ah o := fun b o hb e => k b o (bR (F.keep _ _ e)) (hx b o hb (F.keep _ _ e))
    refine cH fun Gq E => ?_
    obtain ⟨⟨oc, vc, hoc, r⟩, htt⟩ := ht
    refine E ?_
    have lC : 750 < uu.objs.size := by obtain ⟨⟨_, _, z, _⟩, _⟩ := S.ta; exact bR z
    have hT' : s'.heap.TableAt 750 746 (ps ++ more) := ⟨⟨oc, vc, k _ _ lC hoc, r⟩, k _ _ (bR S.ta.2) htt⟩
    obtain ⟨Gu, hb0⟩ := S.tb
    obtain ⟨H, ST⟩ := I.grown (s' := s') (.inl rfl) hb0 S.RH kk hT' PU (by decide) g (o'.trans ho)
    exact ⟨ρ, P, H, ST, .str (aY " " (words.map cf)) t', rfl, t', rfl⟩
noncomputable def gv(ns:List Int):List aF:=ns.map λn=>aa<|toString n
noncomputable def rp(ns:List Int):aF:=(if ns.length>1 then aa "at tab size"++aa "s"else aa "at tab size")++aa " "++aY ", " (gv ns)
section
variable{M:yC} {A:fR} {E:aK ->aS ->Prop} {s:aS} {env:vK} {m:aF ->Option aK}
theorem Cn(u:env.scope.kind= .function)(G:env.kindOf x=ah .local)(D:s.heap.Ns env.locals m)(H:m x=ah v)(U:bV x=aj)(h:Q v s):wpAny M A (eval (.Name x pos) env) Q E s:=vi (gg u G D H h) (bV.C7 U).1
theorem Gm(U:notStar arg=aj)(G:nA f=aj)(h:wpAny M A (eval (.Name x p) env) (λg a7=>g=f/\wpAny M A (eval arg env) (λv H=>wpAny M A (call f [v] []) Q E H) E a7) E s):wpAny M A (eval (.Call (.Name x p) [arg] [] pos) env) Q E s:=by refine ym (aq h (λg a7 D=>fk D λe y=>?_) i3);subst e;rw[cC U];refine jC (P:=λh=>gh M h (keeperOf g) .machine) rfl (λh z=>(_,.inr<|.inl rfl,z)) ?_;refine iQ rfl<|cA ?_;exact aq y (λv H u=>d6<|er (eZ G,u)) i3
end
theorem zQ{Q:dR}(H:BS w hB)(k:∀b o,hB.get? b=ah o ->¬Grows b ->Q.get? b=ah o):∃mg mb,Q.Ns mainGlobals mg/\Q.Ns builtinsNs mb/\(∀x:aF,x≠"__name__"->mb x=bootBuiltins x)/\
 (∀x v,nsIn (KK w.params) mainGlobals x=ah (ah v)->mg x=ah v)/\∀x,nsIn (KK w.params) mainGlobals x=ah aC ->mg x=aC:=by
 refine cH λGq kq=>?_;obtain⟨mg,mb,⟨G,u,D,y,U⟩,⟨o2,e2,j,a2,z⟩,t⟩:=H.top;refine kq ?_;have kb:=oZ H.says;exact(mg,mb,(G,u,D,k _ _ y (by unfold Grows;decide),U),(o2,e2,j,k _ _ a2 (by unfold Grows;decide),z),t,λx v e=>Mh kb.vr (G,u,D,y,U) e,λx e=>BN kb.vr (G,u,D,y,U) e)
theorem K9(P:aB):nsIn (KK P) mainGlobals "str"=ah aC:='k'
theorem K'(P:aB):nsIn (KK P) mainGlobals "len"=ah aC:='k'
set_option maxHeartbeats 800000 in
theorem Ef (hws : ∀ (i : Nat) v, ws[i]? = ah v → ∃ n r, ns[i]? = ah n ∧ v = .tup (.int n :: r)) (hl : ns.length = ws.length) (hn : ∀ n ∈ ns, n.natAbs.log2 < 1920) (hz : ws.length ≤ 2 ^ 20) (Hu : gb ", " (gv ns) = aj) (UQ : (aY ", " (gv ns)).length ≤ 2 ^ 16) : dB 873 5 [.lst ws] [] [] (.ok (.str (rp ns))) [] := by
  intro w hB fr A os ρ P s Bj hC I us ks Uy UP
  refine cH fun Gq kq => ?_
  obtain ⟨u, rfl, ra⟩ := Uy.one
  cases UP
  obtain ⟨a, o, xs, n, rfl, ga, ca, da, na, rl⟩ := ra
  refine kq ?_
  have hk : Kept hB s := I.base
  refine Gn (binds := [("w", .ref a)]) Bj hk Ve VZ (by kernel_rfl) (fun y hy => by rw [List.mem_singleton.mp hy]; kernel_rfl) (fun S => by kernel_rfl) (by have := hC.depth; exact qU this (by omega)) fun env uu e1 e2 e3 e4 F eL eC => ?_
  have CU : env.scope.kind = .function := by rw [e1]; kernel_rfl
  have R3 : ∀ x, env.kindOf x = (aQ (Hd.f0 29)).names.lookup x := fun x => by show env.scope.names.lookup x = _; rw [e1]
  have hlw : env.kindOf ("w" : aF) = ah .local := by rw [R3]; kernel_rfl
  have Yb : env.kindOf ("firsts" : aF) = ah .local := by rw [R3]; kernel_rfl
  have R2 : env.kindOf ("prefix" : aF) = ah .local := by rw [R3]; kernel_rfl
  have UK : env.kindOf ("len" : aF) = ah .globalImplicit := by rw [R3]; kernel_rfl
  have hm : (fun y : aF => [((("w" : aF)), cg a)].reverse.lookup y) "w" = ah (.ref a) := by kernel_rfl
  have hp : (env.scope.kind == .class || (env.scope.kind == .module && env.locals != env.globals)) = ao := by rw [CU]; rfl
  refine cH fun Gq kq => ?_
  obtain ⟨ps, S⟩ := HE (L := env.locals) Bj I (.inr rfl) (Ly _) (FC _) (by decide) F.keep
  obtain ⟨mg, ob, B, R0⟩ := S.bm
  refine kq ?_
  have D : ∀ b o, s.heap.get? b = ah o → b ≠ env.locals := fun b o e q => by rw [q, eL] at e; exact eK _ (bR e)
  have xQ : xs.size = ws.length := by have := rl.length; rw [← this]; simp
  have items : ∀ (i : Nat) (v : aK), xs[i]? = ah v → ∃ n t tt Up, ns[i]? = ah n ∧ v = .ref t ∧ Up[0]? = ah (.int n tt) ∧ t ≠ 868 ∧ t ≠ env.locals ∧ IsTup uu t Up := fun i v e => by
    have e' : xs.toList[i]? = ah v := by rw [di]; exact e
    have hi : i < ws.length := by rw [← xQ]; exact (Array.getElem?_eq_some_iff.mp e).1
    refine cH fun Gq kq => ?_
    obtain ⟨n, r, MZ, RZ⟩ := hws i _ (az hi)
    obtain ⟨y, hy, ry⟩ := rl.get (i := i) (az hi)
    refine kq ?_
    rw [e'] at hy; cases hy
    rw [RZ] at ry
    refine cH fun Gq kq => ?_
    obtain ⟨t, ot, ys, nn, rfl, gt, ct, dt, nt, rlt⟩ := ry
    obtain ⟨z, zs, ez, ⟨tt, rfl⟩, _⟩ := rlt
    refine kq ?_
    refine ⟨n, t, tt, ys, MZ, rfl, by rw [← di, ez]; rfl, fun q => nt (q ▸ I.gw 868 (.inr rfl)), D _ _ gt, ⟨ot, F.keep _ _ gt, ct, nn, dt⟩⟩
  conv => arg 3; arg 1; whnf
  refine cB (ir ?_ (by rfl))
  refine CW (L := env.locals) (c := 872) (T := 868) (l := a) (items := xs) (F := fun i y => ∃ n t, ns[i]? = ah n ∧ y = ip (aa (toString n)) t) (e4) S.ic S.ta (e2 ▸ B) S.lim ?c1 ?c2 ?c3 (D _ _ ga) ⟨o, F.keep _ _ ga, ca, n, da⟩
    ?c4 (by rfl) ?c5 (by decide +kernel) (by kernel_rfl) (by kernel_rfl) (by rfl) ?c6 (fun U => rfl) (fun Q h => v8 CU hlw F hm (by kernel_rfl) h) ?c7 ?c8 ?c9
  case c1 => exact (D _ _ S.RH.2).symm
  case c2 => exact F.ns.lt
  case c3 =>
    refine cH fun Gq kq => ?_
    obtain ⟨mc, ⟨o', es, ep, Lr, r⟩, q⟩ := Bj.lim
    refine kq ?_
    exact D _ _ (I.base _ _ Lr (by unfold Grows; decide))
  case c4 => exact hC.handled (by exact aM ..)
  case c5 => unfold closureFor; rfl
  case c6 => show A.depth + 1 < _; have := hC.depth; exact qU this (by omega)
  case c7 =>
    intro C code A' E' i v t m₂ hA hD hU hi UO Hv Hw
    refine cH fun Gq kq => ?_
    obtain ⟨n, tu, tt, Up, hni, rfl, hit, htT, htL, aax⟩ := items i v hi
    have Yc : ∀ b o, hB.get? b = ah o → ¬ Grows b → t.heap.get? b = ah o := fun b o e g => UO b o (fun q => g (.inr q)) (D _ _ (hk b o e g)) (F.keep _ _ (hk b o e g))
    obtain ⟨T4, XU, g', b', t', y', z'⟩ := zQ Bj Yc
    refine kq ?_
    refine Gm (f := .type "str") (by rfl) (by rfl) (dE (by rfl) (by rfl) (jy (mg := T4) (mb := XU) (by show t.heap.Ns env.globals T4; rw [e2]; exact g') (z' _ (K9 _)) b' ((t' _ (by decide)).trans LG) ⟨rfl, ?_⟩) (by decide +kernel))
    refine Ry (ldG Hv Hw ?_ (by rfl) (by rfl) (by decide +kernel))
    refine vj ?_
    have ht3 : IsTup t.heap tu Up := let ⟨o3, a3, r3⟩ := aax; ⟨o3, UO _ _ htT htL a3, r3⟩
    refine item_tuple (j := 0) (x := .int n tt) ht3 (by decide) (by decide) ?_ hit ?_
    · have : 0 < Up.size := (Array.getElem?_eq_some_iff.mp hit).1
      unfold seqIndex?
      simp [this]
    · refine BQ (hn n (aT hni)) ⟨⟨n, _, hni, rfl⟩, ?_⟩
      exact ⟨_, _, rfl, fun U U e => e⟩
  case c8 => exact I.gens
  case c9 =>
    intro a' more G hx ht PU hg ho PW X
    have UJ : ("w" : aF) ≠ "firsts" ∧ ("w" : aF) ≠ "prefix" ∧ ("firsts" : aF) ≠ "prefix" := by decide
    have hn5 : G.heap.Ns env.locals _ := F.ns.at' fun o e => hx _ _ (D _ _ S.RH.2).symm e
    refine ij Yb hn5 (fun h6 hn6 hs6 => ?_) hp
    refine cB (ir (dZ ?_) (by rfl))
    refine ij R2 hn6 (fun h7 X7 hs7 => ?_) hp
    have K5 : ∀ b o, b ≠ env.locals → G.heap.get? b = ah o → h7.get? b = ah o := fun b o q e => (hs7.2 b q).trans ((hs6.2 b q).trans e)
    have aaw : G.heap.objs.size ≤ h7.objs.size := by rw [hs7.1, hs6.1]; exact aJ _
    have hwl : h7.IsList a xs := ⟨o, K5 _ _ (D _ _ ga) (hx _ _ (fun q => na (q ▸ I.gw 868 (.inr rfl))) (F.keep _ _ ga)), ca, n, da⟩
    have mw : (fun x => if x = ("prefix" : aF) then ah (ip (aa "at tab size") (G.toks + 1)) else if x = ("firsts" : aF) then ah (.ref a') else [((("w" : aF)), cg a)].reverse.lookup x) "w" = ah (.ref a) := by
      show (if _ then _ else if _ then _ else _) = _
      rw [if_neg UJ.2.1, if_neg UJ.1]; exact hm
    have bm7 : ∀ (p : aF) (tp : Tok) (h8 : dR) (m8 : aF → Option aK) (tk : Nat), p.length ≤ 100 → h8.Ns env.locals m8 → m8 "prefix" = ah (.str p tp) → m8 "firsts" = ah (.ref a') → (∀ b o, b ≠ env.locals → h7.get? b = ah o → h8.get? b = ah o) → h7.objs.size ≤ h8.objs.size →
        p ++ aa " " ++ aY ", " (gv ns) = rp ns → ∀ p1 p2 p3 p4 p5 p6 p7 p8, (p6.endLine == p8.line) = aj →
        wpAny (model PR w) (A.deeper env) (eval (.BinOp (.BinOp (.Name "prefix" p1) .Add (.Constant (.str " ") 0 p2) p3) .Add (.Call (.Attribute (.Constant (.str ", ") 0 p4) "join" p6) [.Name "firsts" p5] [] p8) p7) env)
          (fun v s' => PF w hB fr os ρ P s.heap (.ok (.str (rp ns))) [] (.ok (.ret v)) s') (fun U U => False) { G with heap := h8, toks := tk } := by
      intro p tp h8 m8 tk hpl X6 hm8 hf8 k8 z8 aaD p1 p2 p3 p4 p5 p6 p7 p8 UL
      have et : (aE xs.size).map (fun i => aa (toString (ns.getD i 0))) = gv ns := by
        rw [xQ, ← hl]; unfold gv; refine mO (by simp) fun i h1 h2 => ?_
        simp at h1; simp [aI, h1]
      refine iP (iP (Cn CU R2 X6 hm8 (by kernel_rfl) (dZ ?_)))
      have n1 : (aa " ").length = 1 := by kernel_rfl
      refine Gp (by rw [n1]; exact (dz hpl (by decide))) fun t' tk' => ?_
      refine MG (fid := "str.join") (by rfl) (by rfl) UL (by rfl) ?_
      refine dZ ⟨fun pl Q' h => jY (id := "str.join") (fQ _ _ _) gq js mX kl h, ?_⟩
      refine Cn CU Yb X6 hf8 (by kernel_rfl) ?_
      have X8 := X.frame (s' := { G with heap := h8, toks := tk' + 1 }) rfl (fun b o q e => k8 _ _ q (K5 _ _ q e)) (ai aaw z8)
      refine X8.join (fun i => aa (toString (ns.getD i 0))) (fun j v zU => f7 zU fun n t hj e => ⟨t, by rw [e, aI, hj]; rfl⟩) (by rw [et]; exact Hu) hg (fun s' t' k g o' => ?_) (by rw [xQ]; exact ai hz (by decide))
      rw [et]
      refine Gp (by rw [bp, n1]; lia) fun DA SR => ?_
      have xN : ∀ b o, b ≠ env.locals → b < uu.objs.size → G.heap.get? b = ah o → s'.heap.get? b = ah o := fun b o q1 q2 e => k b o q2 (k8 _ _ q1 (K5 _ _ q1 e))
      have kk : ∀ b o, b ≠ 868 → s.heap.get? b = ah o → s'.heap.get? b = ah o := fun b o hb e => xN b o (D _ _ e) (bR (F.keep _ _ e)) (hx b o hb (F.keep _ _ e))
      refine cH fun Gq kq => ?_
      obtain ⟨⟨oc, vc, hoc, r⟩, htt⟩ := ht
      obtain ⟨⟨oc0, vc0, UI, _⟩, UA⟩ := S.RH
      have hT' : s'.heap.TableAt 872 868 (ps ++ more) := ⟨⟨oc, vc, xN _ _ (D _ _ UI) (bR (F.keep _ _ UI)) hoc, r⟩, xN _ _ (D _ _ UA) (bR (F.keep _ _ UA)) htt⟩
      obtain ⟨Gu, hb0⟩ := S.tb
      obtain ⟨H, ST⟩ := I.grown (s' := { s' with toks := SR }) (.inr rfl) hb0 S.RH kk hT' PU (by decide) g (o'.trans ho)
      refine kq ?_
      rw [aaD]
      exact ⟨ρ, P, H, ST, .str (rp ns) DA, rfl, DA, rfl⟩
    have n11 : (aa "at tab size").length = 11 := by kernel_rfl
    have n12 : (aa "s").length = 1 := by kernel_rfl
    have mp7 : (fun x => if x = ("prefix" : aF) then ah (ip (aa "at tab size") (G.toks + 1)) else if x = ("firsts" : aF) then ah (.ref a') else [((("w" : aF)), cg a)].reverse.lookup x) "prefix" = ah (ip (aa "at tab size") (G.toks + 1)) := if_pos rfl
    have mf7 : (fun x => if x = ("prefix" : aF) then ah (ip (aa "at tab size") (G.toks + 1)) else if x = ("firsts" : aF) then ah (.ref a') else [((("w" : aF)), cg a)].reverse.lookup x) "firsts" = ah (.ref a') := by
      show (if _ then _ else if _ then _ else _) = _
      rw [if_neg UJ.2.2, if_pos rfl]
    have bB : ∀ b o, hB.get? b = ah o → ¬ Grows b → h7.get? b = ah o := fun b o e g => K5 _ _ (D _ _ (hk b o e g)) (hx _ _ (fun q => g (.inr q)) (F.keep _ _ (hk b o e g)))
    refine cH fun Gq kq => ?_
    obtain ⟨T4, XU, g', b', t', y', z'⟩ := zQ Bj bB
    refine kq ?_
    refine cB (Mg (qA ?_ (by rfl)))
    refine Gm (f := .builtin "len") (by rfl) (by rfl) (dE CU UK (jy (mg := T4) (mb := XU) (by rw [e2]; exact g') (z' _ (K' _)) (e3 ▸ b') ((t' _ (by decide)).trans LJ) ⟨rfl, ?_⟩) (by decide +kernel))
    refine Cn CU hlw X7 mw (by kernel_rfl) ?_
    refine call_len_list hwl (by rw [xQ]; lia) ?_
    refine vj ?_
    refine Ju (m1 ?_)
    by_cases hq : ws.length > 1
    · rw [xQ, decide_eq_true (show ((ws.length : Nat) : Int) > 1 by exact qcL hq), if_pos rfl]
      refine cB (ir (iP (Cn CU R2 X7 mp7 (by kernel_rfl) (dZ ?_))) (by rfl))
      refine Gp (by rw [n11, n12]; decide) fun t' tk' => ?_
      refine ij R2 X7 (fun h8 X6 hs8 => ?_) hp
      refine gc ?_
      refine cB (ff ?_)
      refine bm7 _ _ h8 _ _ ?_ X6 (if_pos rfl) ?_ (fun b o q e => (hs8.2 b q).trans e) (by rw [hs8.1]; exact aJ _) ?_ _ _ _ _ _ _ _ _ (by rfl)
      · rw [bp, n11, n12]; decide
      · show (if _ then _ else if _ then _ else if _ then _ else _) = _
        rw [if_neg UJ.2.2, if_neg UJ.2.2, if_pos rfl]
      · unfold rp; rw [if_pos (by rw [hl]; exact hq)]
    · rw [xQ, decide_eq_false (show ¬ ((ws.length : Nat) : Int) > 1 by lia), if_neg (by decide)]
      refine gc ?_
      refine cB (ff ?_)
      refine bm7 _ _ h7 _ _ ?_ X7 mp7 mf7 (fun b o q e => e) (aJ _) ?_ _ _ _ _ _ _ _ _ (by rfl)
      · rw [n11]; decide
      · unfold rp; rw [if_neg (by rw [hl]; exact hq)]
structure Ld (X x:aF):Prop where
 scan:gC X=gC x
 bt:bt (bZ x)
 le:x.length<=8
theorem Ld.sc(h:Ld X x):NQ (gC x).1 (gC x).2.1 (gC x).2.2.1 (gC x).2.2.2/\(gC x).2.2.1<=8:=by
 obtain⟨a,b⟩:=xq (bZ x) [] 0 0 0 h.bt J';refine(a,?_);show(cM (bZ x) [] 0 0 0).2.2.1<=8;rw[b];have:=h.le;have e:(bZ x).length=x.length:=by show x.cps.toList.length=x.cps.size;simp
 exact rS this (ar e) (by omega)
theorem iy(h:bt (bZ x))(hz:1<=z):mI x z=(lv (gC x).1 (gC x).2.1 (gC x).2.2.2 z:Nat):=by have:=uU hz (bZ x) [] 0 0 0 h;rw[show((lv [] 0 0 z:Nat))=0 by unfold lv;simp[wsum]]at this;exact this
theorem eO(x:aF)(h:i<9):(bu x).getD i 0=mI x (1+i):=by unfold bu;rw[aI,bF,EG h];rfl
theorem ou(x:aF):(bu x).length=9:=by unfold bu;simp
theorem Md.of(H:Ld X x)(Q:Ld Y y):Md (gC x).1 (gC x).2.1 (gC x).2.2.1 (gC x).2.2.2 (gC y).1 (gC y).2.1 (gC y).2.2.1 (gC y).2.2.2:=(H.sc.1,Q.sc.1,H.sc.2,Q.sc.2)
theorem DY(U:Ld X x)(H:Ld Y y):j6 X Y=aj↔(aE 9).any (cm (bu x)<|bu y)=ao:=by
 unfold j6;rw[U.scan,H.scan,G'<|Md.of U H,sj];constructor
 .intro h i Q;have Q:=List.mem_range.mp Q;unfold cm;rw[eO x Q,eO y Q,iy U.bt<|by exact a9 ..,iy H.bt<|by exact a9 ..];have:=h (1+i) (by exact a9 ..) (by exact j5 Q (by omega));simp;omega
 .intro h z D E;have:=h (z -1)<|List.mem_range.mpr (by omega);unfold cm at this;rw[eO x<|by omega,eO y<|by omega,show 1+(z -1)=z by exact kN D,iy U.bt D,iy H.bt D]at this;simp at this;omega
theorem Bx(H:Ld X x)(Q:Ld Y y):lu X Y=aj↔bu x=bu y:=by
 unfold lu;rw[H.scan,Q.scan,Ei<|Md.of H Q];constructor
 .intro h;unfold bu;apply gi;intro i D;have D:=List.mem_range.mp D;rw[iy H.bt<|by exact a9 ..,iy Q.bt<|by exact a9 ..,h (1+i) (by exact a9 ..) (by omega)]
 .intro h z U E;have:(bu x).getD (z -1) 0=(bu y).getD (z -1) 0:=by rw[h]
  rw[eO x<|by omega,eO y<|by omega,show 1+(z -1)=z by exact kN U,iy H.bt U,iy Q.bt U]at this;exact Int.ofNat.inj this
theorem DI:∀(Q:List (List Nat)) (cnt:List Nat) (n nt:Nat),Q≠[]->(∀p∈Q,∀c∈p,c=32)->
 cnt.length<=(cM (glue [9] Q) cnt 0 n nt).1.length/\(∀p∈Q,p.length<=rN (cM (glue [9] Q) cnt 0 n nt).1 (cM (glue [9] Q) cnt 0 n nt).2.1)/\
 ((cM (glue [9] Q) cnt 0 n nt).1.length<=cnt.length\/∃p∈Q,(cM (glue [9] Q) cnt 0 n nt).1.length=p.length+1)/\∃p∈Q,(cM (glue [9] Q) cnt 0 n nt).2.1=p.length:=by
 have run:∀(p r cnt:List Nat) (b n nt:Nat),(∀c∈p,c=32)->cM (p++r) cnt b n nt=cM r cnt (b+p.length) (n+p.length) nt:=by
  intro p;induction p with
  |nil=>intro r cnt b n nt _;rfl
  |cons c p G=>
   intro r cnt b n nt h;have:=h c<|.head _;subst this;show cM (32::(p++r)) cnt b n nt=_;rw[YW,if_pos rfl,G _ _ _ _ _ λd hd=>h d<|.tail _ hd,aU];congr 1<;>exact cZ ..
 intro Q;induction Q with
 |nil=>intro _ _ _ h;exact absurd rfl h
 |cons p Q G=>
  intro cnt n nt _ z;cases Q with
  |nil=>
   have:=run p [] cnt 0 n nt<|z p<|.head _;rw[cb]at this;show _<=(cM p cnt 0 n nt).1.length/\_;rw[show glue [9] [p]=p from rfl,this];refine(aJ _,λq y=>?_,.inl<|aJ _,p,.head _,by show 0+p.length=_;exact sV ..);rw[List.mem_singleton.mp y];show p.length<=max _ (0+p.length);rw[d9];exact cU ..
  |cons q r=>
   have e:cM (glue [9] (p::q::r)) cnt 0 n nt=cM (glue [9] (q::r)) (bump cnt p.length) 0 (n+p.length+1) (nt+1):=by rw[show glue [9] (p::q::r)=p++([9]++glue [9] (q::r))from rfl,run _ _ _ _ _ _<|z p<|.head _];show cM (9::glue [9] (q::r)) cnt (0+p.length) (n+p.length) nt=_;rw[YW,if_neg 'd',if_pos rfl,d9]
   rw[e];obtain⟨E,m,U,D⟩:=G (bump cnt p.length) (n+p.length+1) (nt+1) (cF _ _) λq y=>z q<|.tail _ y;rw[lR]at E U;refine(ai (gP ..) E,λu H=>?_,?_,?_)
   .rcases List.mem_cons.mp H with rfl|H
    .exact rls (ai (cU ..) E)
    .exact m u H
   .rcases U with U|⟨u,H,U⟩
    .clear m D;by_cases j:cnt.length<=p.length
     .exact .inr (p,.head _,gQ (ai U<|Nat.max_le.mpr (ba j,aJ _))<|ai (cU ..) E)
     .exact .inl (ai U<|Nat.max_le.mpr (aJ _,ck j))
    .exact .inr (u,.tail _ H,U)
   .obtain⟨u,H,D⟩:=D;exact(u,.tail _ H,D)
theorem J1:(aa "\t")=⟨#[9]⟩:='k'
theorem Cg(h:bt (bZ x)):(∀r∈aO x "\t",r.length<=rN (gC x).1 (gC x).2.1)/\∃r∈aO x "\t",r.length=rN (gC x).1 (gC x).2.1:=by
 have e:bZ x=glue [9] ((aO x "\t").map bZ):=by rw[J1,show([9]:List Nat)=bZ ⟨#[9]⟩from rfl,<-gX,iR]
 have Q:∀r:aF,(bZ r).length=r.length:=λr=>by show r.cps.toList.length=r.cps.size;simp
 have D5:(aO x "\t").map bZ≠[]:=λq=>by have:=se x "\t";have q2:=congrArg eP q;rw[ax]at q2;rw[q2]at this;exact absurd this 'd'
 have h32:∀p∈(aO x "\t").map bZ,∀c∈p,c=32:=by
  intro p G c y;obtain⟨r,E,rfl⟩:=List.mem_map.mp G;have h9:c≠9:=λq=>by rw[J1]at E;exact kK x 9 r E<|q▸y
  have hx:c∈bZ x:=by
   rw[e];have j:∀(D:List (List Nat)),bZ r∈D ->c∈glue [9] D:=by
    intro D;induction D with
    |nil=>intro h;cases h
    |cons u D ih=>
     intro hm;cases D with
     |nil=>rw[List.mem_singleton.mp hm]at y;exact y
     |cons v z=>
      show c∈u++([9]++glue [9] (v::z));rcases List.mem_cons.mp hm with q|q
      .rw[i8];left;rw[<-q];exact y
      .rw[i8,i8];right;right;exact ih q
   exact j _ G
  rcases h c hx with q|q
  .exact q
  .exact absurd q h9
 obtain⟨h1,h2,H,U⟩:=DI _ [] 0 0 D5 h32;rw[<-e]at h2 H U;have h2' :∀r∈aO x "\t",r.length<=rN (gC x).1 (gC x).2.1:=λr E=>by rw[<-Q];exact h2 _<|iJ E
 refine(h2',?_);obtain⟨p,G,U⟩:=U;obtain⟨r,E,rfl⟩:=List.mem_map.mp G;rw[Q]at U;have U:(gC x).2.1=r.length:=U;by_cases q:(gC x).1.length -1<=(gC x).2.1
 .exact(r,E,U.symm.trans (iB q).symm)
 .rcases H with H|⟨p,G,H⟩
  .have H:=H;exact absurd (ai (Jw ..)<|ai H<|bH _) q
  .obtain⟨z,m,rfl⟩:=List.mem_map.mp G;rw[Q]at H;have H:=H;exact(z,m,(Nat.pred_eq_of_eq_succ H).symm.trans (oD<|cN<|ck q).symm)
noncomputable def nu(x y:aF):Nat:=max (rN (gC x).1 (gC x).2.1)<|rN (gC y).1 (gC y).2.1
theorem DV(G:bt (bZ x))(E:bt (bZ y)):(∃r∈ku x y,r.length=nu x y)/\∀r∈ku x y,r.length<=nu x y:=by
 refine cH λGq D=>?_;obtain⟨a1,H,U,j⟩:=Cg G;obtain⟨m,Q,m2,z⟩:=Cg E;refine D ?_;unfold ku nu;refine(?_,λr u=>?_)
 .by_cases q:rN (gC y).1 (gC y).2.1<=rN (gC x).1 (gC x).2.1
  .exact(H,List.mem_append.mpr<|.inl U,j.trans (oD q).symm)
  .exact(Q,List.mem_append.mpr<|.inr m2,z.trans (iB<|cN<|ck q).symm)
 .rcases List.mem_append.mp u with h|h
  .exact ai (a1 r h) (gP ..)
  .exact ai (m r h) (cU ..)
theorem xI(H:Ld X x)(Q:Ld Y y):nu x y<=8:=by have:=(Md.of H Q).nine;exact Nat.max_le.mpr (Nat.max_le.mpr (EB this.1,this.2.2.1),Nat.max_le.mpr (EB this.2.1,this.2.2.2))
noncomputable def i7(x y:aF):List Int:=((aE<|nu x y+1).filter<|cm (bu x)<|bu y).map λi:Nat=>(1:Int)+(i:Int)
theorem Fl(H:Ld X x)(Q:Ld Y y):(∀(i:Nat) v,(kS X Y)[i]? =ah v ->∃n r,(i7 x y)[i]? =ah n/\v= .tup (.int n::r))/\(i7 x y).length=(kS X Y).length:=by
 have e:kS X Y=((aE<|nu x y+1).filter<|cm (bu x)<|bu y).map (AS (gC x).2.2.2 (gC y).2.2.2 (gC x).1 (gC y).1 (gC x).2.1 (gC y).2.1):=by unfold kS tF;rw[H.scan,Q.scan,Fu];show((aE (((nu x y:Nat):Int)+1+1 -1).toNat).filter _).map _=_;rw[show(((nu x y:Nat):Int)+1+1 -1).toNat=nu x y+1 by exact ZM];congr 1;apply List.filter_congr;intro i U;have U:=List.mem_range.mp U;have:=xI H Q;unfold cm;rw[eO x<|by exact MH this U (by omega),eO y<|by omega,iy H.bt<|by exact a9 ..,iy Q.bt<|by exact a9 ..];show decide (lvl _ _ _ (1+i)>=lvl _ _ _ (1+i))=_;rw[qZ _ _ _ _<|by exact a9 ..,qZ _ _ _ _<|by exact a9 ..]
 rw[e];unfold i7;refine(λi v h=>?_,by simp);rw[bF]at h⊢;obtain⟨j,D,rfl⟩:=Option.map_eq_some_iff.mp h;rw[D];exact(_,_,rfl,by unfold AS;rw[show((1+j:Nat):Int)=1+(j:Int) by(simp+arith only[ei,fV,gH];done)])
theorem qX(x y:aF):gv (i7 x y)=fh (nu x y) (bu x) (bu y):=by unfold gv i7 fh;rw[cK];rfl
theorem Eh:aa "at tab size"++aa "s"++aa " "=aa "at tab size"++aa "s ":='k'
theorem vA(x y:aF):rp (i7 x y)=fo (nu x y) (bu x) (bu y):=by
 have Q:(i7 x y).length=(fh (nu x y) (bu x)<|bu y).length:=by rw[<-qX];unfold gv;rw[ax]
 unfold rp fo;rw[qX];by_cases h:(i7 x y).length>1
 .rw[if_pos h,Eh,if_pos<|decide_eq_true<|by omega]
 .rw[if_neg h,if_neg (by rw[decide_eq_false<|by omega];decide)]
noncomputable abbrev MD(n:Nat)(L:aF):V:=.tup [.str L,.lst<|(bj n).map V.str,.str<|lK n L]
@[irreducible] noncomputable def xr:List cn:=eA<|Hd.f0 35
@[irreducible] noncomputable def v5:List cn:=xr.drop 5
theorem DJ:xr=eA (Hd.f0 35):=by unfold xr;rfl
noncomputable abbrev pS:List V:=[V.str " ",V.str "\t",V.str "  ",V.str " \t",V.str "\t ",V.str "   "]
noncomputable abbrev RI(n:Nat)(p:List V)(gE:List V)(L:aF):List (aF×V):=[("lead",.str L),("piece",.str<|dN<|a8 n 1),("pieces",.tup pS),("figures",.lst gE),("number",.int n),("pile",.lst p)]
theorem mm(Q:gE=aP (ie n) (aE 9))(h:k<9):gE[k]? =ah (V.int ((a8 n k:Nat):Int)):=by rw[Q];exact gU n h
theorem nF(Q:gE=aP (ie n) (aE 9)):gE.length=9:=by rw[Q,ax,bJ]
theorem zq(f:Nat):place (((f:Nat):Int).fmod 6) pS.length=ah (f%6)/\pS[f%6]? =ah (.str<|dN f):=(kh rfl 'd',nz rfl rfl 'd')
theorem CQ(X:bS F (KK F.w.params) (aQ<|Hd.f0 35) 7)(f:Nat):∀st,dO F st .In (.int ((f:Nat):Int)) (.tup [.int 3,.int 4,.int 5]) ([aG 3,aG 4,aG 5].any λy=>bA y<|.int ((f:Nat):Int)):=λst=>dO.inT (X.units<|by exact aM ..) rfl rfl rfl rfl (ae rfl)
theorem K3(X:bS F (KK F.w.params) (aQ<|Hd.f0 35) 7)(f:Nat):∀st,dO F st .In (.int ((f:Nat):Int)) (.tup [.int 6,.int 7]) ([aG 6,aG 7].any λy=>bA y<|.int ((f:Nat):Int)):=λst=>dO.inT (X.units<|by exact aM ..) rfl rfl rfl rfl (ae rfl)
section
variable{n:Nat} {p:List Row} {aH L:aF} {old:List Int} {v:V} {F:Fx} {gE:List V}
theorem Kd(u:a8 n 0≠8)(U:p.length<=1000)(G:L.length<=100)(D:dB 887 4 [.str aH] [] [] (.ok<|.str L) [])(H:F.prog=PR)(hB:BS F.w F.hB)(X:bS F (KK F.w.params) (aQ<|Hd.f0 35) 7)(Q:gE=aP (ie n) (aE 9))(E:dc F v5 (RI n (bh<|p++[(aH,old)]) gE L,[]) (.ret v) ([],[])):dc F xr ([("number",.int n),("pile",.lst<|bh<|p++[(aH,old)])],[]) (.ret v) ([],[]):=by
 have MY:=(gT p (aH,old)).1;have Bi:(bh<|p++[(aH,old)])[p.length]? =ah (.tup [.str aH,.lst<|bY old]):=(gT p (aH,old)).2;have MZ:(bh<|p++[(aH,old)]).length=p.length+1:=by rw[fE,aD];rfl
 have hf0:=mm Q (k:=0) 'd';have hf1:=mm Q (k:=1) 'd';have Nc:=nF Q;have p0:place 0 gE.length=ah 0:=by rw[Nc];rfl
 have p1:place 1 gE.length=ah 1:=by rw[Nc];rfl
 obtain⟨q1,g1⟩:=zq<|a8 n 1;have b8:(((a8 n 0:Nat):Int)==8)=ao:=by simp;lia
 have hx:=Cf (n:=n) (p:=bh<|p++[(aH,old)]) X;rw[<-Q]at hx;exact(xt 5 X rfl _ _ (by with_reducible assumption) 'k' (an:=[.s FV.next {loc:=[("figures",V.lst gE),("number",V.int (↑n:Int)),("pile",V.lst<|bh<|p++[(aH,old)])],obs:=[]},.i 1<|V.int (↑(a8 n 1):Int),.i (a8 n 1%6)<|V.str<|dN<|a8 n 1,.i 0<|V.int (↑(a8 n 0):Int),.b ao,.i p.length<|V.tup [V.str aH,V.lst<|bY old],.i (fU (0:Int))<|V.str aH,.c (Oc.ok<|V.str L) []]) (p:=_/\[V.str " ",V.str "\t",V.str "  ",V.str " \t",V.str "\t ",V.str "   "].length<=2^24/\(_/\_/\_)/\(6:Int)≠(0:Int)/\(_/\_/\[V.str " ",V.str "\t",V.str "  ",V.str " \t",V.str "\t ",V.str "   "].length<=2^24)/\(_/\_/\_)/\_/\(_/\_/\(bh<|p++[(aH,old)]).length<=2^24)/\(_/\_/\[V.str aH,V.lst<|bY old].length<=2^24)/\(cL F 887 [V.str aH] [] (Oc.ok<|V.str L) [])/\_/\(_/\_/\_/\_/\_/\_/\True)/\([]:List O)=[]) 'k' ((hx),(ae rfl),(p1,hf1,(g9 Nc rfl)),(by omega),(q1,g1,(ae rfl)),(p0,hf0,(g9 Nc rfl)),b8,(MY,Bi,(ai (ai (ar MZ)<|au U<|aJ _)<|ae rfl)),(@rfl _<|ah<|fU (0:Int),@rfl _<|ah<|V.str aH,(ae rfl)),(j8 X H hB D rfl 'k'<|by kspl_open zNR),@rfl _ FV.next,(@rfl _<|ah<|V.str L,@rfl _<|ah<|V.str<|dN<|a8 n 1,@rfl _<|ah<|V.tup pS,@rfl _<|ah<|V.lst gE,@rfl _<|ah<|V.int ↑n,@rfl _<|ah<|V.lst<|bh<|p++[(aH,old)],trivial),rfl):_)
theorem Tn(z:a8 n 0<=2)(X:bS F (KK F.w.params) (aQ<|Hd.f0 35) 7)(U:gE=aP (ie n) (aE 9))(u:dc F qT (O2 L gE n,[]) (.ret v) ([],[])):dc F v5 (RI n (bh<|p++[(aH,old)]) gE L,[]) (.ret v) ([],[]):=by
 have H:=mm U (k:=0) 'd';have Q:=nF U;have D:place 0 gE.length=ah 0:=by rw[Q];rfl
 have b9:(((a8 n 0:Nat):Int)==9)=ao:=by simp;lia
 have G:([aG 3,aG 4,aG 5].any λy=>bA y<|.int ((a8 n 0:Nat):Int))=ao:=by simp[bA];exact(by lia,(by lia,by lia))
 have E:([aG 6,aG 7].any λy=>bA y<|.int ((a8 n 0:Nat):Int))=ao:=by simp[bA];exact(by lia,by lia)
 have c3:=CQ X<|a8 n 0;have c6:=K3 X<|a8 n 0;exact(xt 3 X rfl _ _ (by with_reducible assumption) 'k' (an:=[.i 0<|V.int (↑(a8 n 0):Int),.b<|[aG (3:Int),aG (4:Int),aG (5:Int)].any λ(y:eF)=>y.eqv<|aG (↑(a8 n 0):Int),.b ao,.i 0<|V.int (↑(a8 n 0):Int),.b<|[aG (6:Int),aG (7:Int)].any λ(y:eF)=>y.eqv<|aG (↑(a8 n 0):Int),.b ao,.i 0<|V.int (↑(a8 n 0):Int),.b ao]) (p:=(_/\_/\_)/\[V.int (3:Int),V.int (4:Int),V.int (5:Int)].length<=2^24/\_/\_/\(_/\_/\_)/\[V.int (6:Int),V.int (7:Int)].length<=2^24/\_/\_/\(_/\_/\_)/\_/\_/\(_/\_/\_/\True)/\([]:List O)=[]) 'k' ((D,H,(g9 Q rfl)),(ae rfl),c3,G,(D,H,(g9 Q rfl)),(ae rfl),c6,E,(D,H,(g9 Q rfl)),b9,@rfl _ FV.next,(@rfl _<|ah<|V.str L,@rfl _<|ah<|V.lst gE,@rfl _<|ah<|V.int ↑n,trivial),rfl):_)
theorem Tj(m:3<=a8 n 0/\a8 n 0<=5)(G:L.length<=100)(X:bS F (KK F.w.params) (aQ<|Hd.f0 35) 7)(U:gE=aP (ie n) (aE 9))(j:dc F qT (O2 (dX (L++dN (a8 n 1)) aC<|ah 8) gE n,[]) (.ret v) ([],[])):dc F v5 (RI n (bh<|p++[(aH,old)]) gE L,[]) (.ret v) ([],[]):=by
 have H:=mm U (k:=0) 'd';have Q:=nF U;have D:place 0 gE.length=ah 0:=by rw[Q];rfl
 have E:=md<|a8 n 1;have b9:(((a8 n 0:Nat):Int)==9)=ao:=by simp;lia
 have z:([aG 3,aG 4,aG 5].any λy=>bA y<|.int ((a8 n 0:Nat):Int))=aj:=by simp[bA];lia
 have u:([aG 6,aG 7].any λy=>bA y<|.int ((a8 n 0:Nat):Int))=ao:=by simp[bA];exact(by lia,by lia)
 have c3:=CQ X<|a8 n 0;have c6:=K3 X<|a8 n 0;exact(xt 3 X rfl _ _ (by with_reducible assumption) 'k' (an:=[.i 0<|V.int (↑(a8 n 0):Int),.b<|[aG (3:Int),aG (4:Int),aG (5:Int)].any λ(y:eF)=>y.eqv<|aG (↑(a8 n 0):Int),.b aj,.i 0<|V.int (↑(a8 n 0):Int),.b<|[aG (6:Int),aG (7:Int)].any λ(y:eF)=>y.eqv<|aG (↑(a8 n 0):Int),.b ao,.i 0<|V.int (↑(a8 n 0):Int),.b ao]) (p:=(_/\_/\_)/\[V.int (3:Int),V.int (4:Int),V.int (5:Int)].length<=2^24/\_/\_/\L.length+(dN<|a8 n 1).length<=2^24/\(L++dN (a8 n 1)).length<=2^24/\(_/\_/\_)/\[V.int (6:Int),V.int (7:Int)].length<=2^24/\_/\_/\(_/\_/\_)/\_/\_/\(_/\_/\_/\True)/\([]:List O)=[]) 'k' ((D,H,(g9 Q rfl)),(ae rfl),c3,z,(ai (au G E)<|ae rfl),(ai (tB G E)<|ae rfl),(D,H,(g9 Q rfl)),(ae rfl),c6,u,(D,H,(g9 Q rfl)),b9,@rfl _ FV.next,(@rfl _<|ah<|V.str<|dX (L++dN (a8 n 1)) aC<|ah 8,@rfl _<|ah<|V.lst gE,@rfl _<|ah<|V.int ↑n,trivial),rfl):_)
theorem Th(h0:a8 n 0=9)(X:bS F (KK F.w.params) (aQ<|Hd.f0 35) 7)(H:gE=aP (ie n) (aE 9))(hT:dc F qT (O2 (dN (a8 n 1)++dN (a8 n 8)) gE n,[]) (.ret v) ([],[])):dc F v5 (RI n (bh<|p++[(aH,old)]) gE L,[]) (.ret v) ([],[]):=by
 have U:=mm H (k:=0) 'd';have E:=mm H (k:=8) 'd';have Q:=nF H;have D:place 0 gE.length=ah 0:=by rw[Q];rfl
 have u:place 8 gE.length=ah 8:=by rw[Q];rfl
 obtain⟨G,m⟩:=zq<|a8 n 8;have j:=md<|a8 n 1;have z:=md<|a8 n 8;have b9:(((a8 n 0:Nat):Int)==9)=aj:=by simp;lia
 have b3:([aG 3,aG 4,aG 5].any λy=>bA y<|.int ((a8 n 0:Nat):Int))=ao:=by simp[bA];exact(by lia,(by lia,by lia))
 have b6:([aG 6,aG 7].any λy=>bA y<|.int ((a8 n 0:Nat):Int))=ao:=by simp[bA];exact(by lia,by lia)
 have c3:=CQ X<|a8 n 0;have c6:=K3 X<|a8 n 0;exact(xt 3 X rfl _ _ (by with_reducible assumption) 'k' (an:=[.i 0<|V.int (↑(a8 n 0):Int),.b<|[aG (3:Int),aG (4:Int),aG (5:Int)].any λ(y:eF)=>y.eqv<|aG (↑(a8 n 0):Int),.b ao,.i 0<|V.int (↑(a8 n 0):Int),.b<|[aG (6:Int),aG (7:Int)].any λ(y:eF)=>y.eqv<|aG (↑(a8 n 0):Int),.b ao,.i 0<|V.int (↑(a8 n 0):Int),.b aj,.i 8<|V.int (↑(a8 n 8):Int),.i (a8 n 8%6)<|V.str<|dN<|a8 n 8]) (p:=(_/\_/\_)/\[V.int (3:Int),V.int (4:Int),V.int (5:Int)].length<=2^24/\_/\_/\(_/\_/\_)/\[V.int (6:Int),V.int (7:Int)].length<=2^24/\_/\_/\(_/\_/\_)/\_/\(_/\_/\_)/\(6:Int)≠(0:Int)/\(_/\_/\pS.length<=2^24)/\(dN<|a8 n 1).length+(dN<|a8 n 8).length<=2^24/\_/\(_/\_/\_/\True)/\([]:List O)=[]) 'k' ((D,U,(g9 Q rfl)),(ae rfl),c3,b3,(D,U,(g9 Q rfl)),(ae rfl),c6,b6,(D,U,(g9 Q rfl)),b9,(u,E,(g9 Q rfl)),(by omega),(G,m,(ae rfl)),(ai (au j z)<|ae rfl),@rfl _ FV.next,(@rfl _<|ah<|V.str<|dN (a8 n 1)++dN (a8 n 8),@rfl _<|ah<|V.lst gE,@rfl _<|ah<|V.int ↑n,trivial),rfl):_)
theorem Ti(h0:a8 n 0=6\/a8 n 0=7)(m:p.length<=1000)(z:place (max 0<|((bh<|p++[(aH,old)]).length:Int)+4 -((a8 n 0:Nat):Int)) (bh<|p++[(aH,old)]).length=ah k)(u:(bh<|p++[(aH,old)])[k]? =ah (.tup [.str l₁,.lst<|bY old₁]))(j:dB 887 4 [.str l₁] [] [] (.ok<|.str Q) [])(hp:F.prog=PR)(hB:BS F.w F.hB)(X:bS F (KK F.w.params) (aQ<|Hd.f0 35) 7)(E:gE=aP (ie n) (aE 9))(hT:dc F qT (O2 Q gE n,[]) (.ret v) ([],[])):dc F v5 (RI n (bh<|p++[(aH,old)]) gE L,[]) (.ret v) ([],[]):=by
 have D:(bh<|p++[(aH,old)]).length=p.length+1:=by rw[fE,aD];rfl
 have U:=mm E (k:=0) 'd';have H:=nF E;have G:place 0 gE.length=ah 0:=by rw[H];rfl
 have b9:(((a8 n 0:Nat):Int)==9)=ao:=by simp;lia
 have b3:([aG 3,aG 4,aG 5].any λy=>bA y<|.int ((a8 n 0:Nat):Int))=ao:=by simp[bA];exact(by lia,(by lia,by lia))
 have b6:([aG 6,aG 7].any λy=>bA y<|.int ((a8 n 0:Nat):Int))=aj:=by simp[bA];lia
 have c3:=CQ X<|a8 n 0;have c6:=K3 X<|a8 n 0;exact(xt 3 X rfl _ _ (by with_reducible assumption) 'k' (an:=[.i 0<|V.int (↑(a8 n 0):Int),.b<|[aG (3:Int),aG (4:Int),aG (5:Int)].any λ(y:eF)=>y.eqv<|aG (↑(a8 n 0):Int),.b ao,.i 0<|V.int (↑(a8 n 0):Int),.b<|[aG (6:Int),aG (7:Int)].any λ(y:eF)=>y.eqv<|aG (↑(a8 n 0):Int),.b aj,.i 0<|V.int (↑(a8 n 0):Int),.i k<|V.tup [V.str l₁,V.lst<|bY old₁],.i (fU (0:Int))<|V.str l₁,.c (Oc.ok<|V.str Q) [],.i 0<|V.int (↑(a8 n 0):Int),.b ao]) (p:=(_/\_/\_)/\[V.int (3:Int),V.int (4:Int),V.int (5:Int)].length<=2^24/\_/\_/\(_/\_/\_)/\[V.int (6:Int),V.int (7:Int)].length<=2^24/\_/\_/\(bh<|p++[(aH,old)]).length<=2^24/\(_/\_/\_)/\(_/\_/\(bh<|p++[(aH,old)]).length<=2^24)/\(_/\_/\[V.str l₁,V.lst<|bY old₁].length<=2^24)/\(cL F 887 [V.str l₁] [] (Oc.ok<|V.str Q) [])/\(_/\_/\_)/\_/\_/\(_/\_/\_/\True)/\([]:List O)=[]) 'k' ((G,U,(g9 H rfl)),(ae rfl),c3,b3,(G,U,(g9 H rfl)),(ae rfl),c6,b6,(ai (ai (ar D)<|au m<|aJ _)<|ae rfl),(G,U,(g9 H rfl)),(z,u,(ai (ai (ar D)<|au m<|aJ _)<|ae rfl)),(@rfl _<|ah<|fU (0:Int),@rfl _<|ah<|V.str l₁,(ae rfl)),(j8 X hp hB j rfl 'k'<|by kspl_open zNR),(G,U,(g9 H rfl)),b9,@rfl _ FV.next,(@rfl _<|ah<|V.str Q,@rfl _<|ah<|V.lst gE,@rfl _<|ah<|V.int ↑n,trivial),rfl):_)
theorem Vz{st:St}(h:dc F B st (.ret v) ([],[])):∃fl Q,dc F B st fl Q/\fl.oc= .ok v/\Q.obs=[]:=(_,_,h,rfl,rfl)
theorem te(m:a8 n 0≠8)(G:p.length<=1000)(j:L.length<=100)(ft:dB 887 4 [.str aH] [] [] (.ok<|.str L) [])(D:E.length<=100)(Q:∀y∈bz n,y.length<=100)(U:(aY (i0<|a8 n 7)<|bz n).length<=2^16)(z:∀(F:Fx) (gE:List V) (v:V),F.prog=PR ->BS F.w F.hB ->bS F (KK F.w.params) (aQ<|Hd.f0 35) 7 ->gE=aP (ie n) (aE 9)->dc F qT (O2 E gE n,[]) (.ret v) ([],[])->dc F v5 (RI n (bh<|p++[(aH,old)]) gE L,[]) (.ret v) ([],[])):dB 902 8 [.int n,.lst<|bh<|p++[(aH,old)]] [] [] (.ok<|MD n E) []:=
 FN.cu (ab:=[("number",.int n),("pile",.lst<|bh<|p++[(aH,old)])]) Nn ND 'k' (jq λP S u u' =>'k') λF H hB X Y=>
by have h1:=Gb D Q U H hB X Y rfl;have h2:=z F _ _ H hB X rfl (by with_reducible assumption);have h3:=Kd m G j ft H hB X rfl (by with_reducible assumption);rw[DJ]at h3;exact Vz (by with_reducible assumption)
end
theorem fs(r:aF):(bZ r).length=r.length:=by show r.cps.toList.length=r.cps.size;simp
def GL(x:aF):Prop:=bt (bZ x)/\x.length<=8
theorem uA:∀{us:List (List Nat)},c∈glue g us ->c∈g\/∃u∈us,c∈u
 |[],h=>by cases h
 |[u],h=>.inr (u,.head _,h)
 |u::v::r,h=>by
  rcases List.mem_append.mp (show c∈u++(g++glue g (v::r))from h)with h|h
  .exact .inr (u,.head _,h)
  .rcases List.mem_append.mp h with h|h
   .exact .inl h
   .rcases uA h with h|⟨w,Q,h⟩
    .exact .inl h
    .exact .inr (w,.tail _ Q,h)
theorem zH(Q:c∈u):∀{us:List (List Nat)},u∈us ->c∈glue g us
 |[],h=>by cases h
 |[v],h=>by rw[List.mem_singleton.mp h]at Q;exact Q
 |w::v::r,h=>by
  show c∈w++(g++glue g (v::r));rcases List.mem_cons.mp h with q|q
  .rw[i8];left;rw[<-q];exact Q
  .rw[i8,i8];right;right;exact zH Q q
theorem qa(g:List Nat):∀us:List (List Nat),(glue g us).length=(us.map eP).sum+(us.length -1)*g.length
 |[]=>by simp[show glue g []=[]from rfl]
 |[u]=>by simp[show glue g [u]=u from rfl]
 |u::v::r=>by show(u++(g++glue g (v::r))).length=_;rw[aD,aD,qa g (v::r)];simp only[bw,lZ,aU,lE];rw[sU];(simp+arith only;done)
theorem tT(x:aF):bZ x=glue [9] ((aO x "\t").map bZ):=by rw[J1,show([9]:List Nat)=bZ ⟨#[9]⟩from rfl,<-gX,iR]
theorem AX(l:List aF):jA l=l.dropLast.reverse++l.drop (l.length -1):=by unfold jA;rw[qV,zr,DP]
theorem rQ(h:1<=l.length):(jA l).Perm l:=by rw[AX];refine(List.Perm.append_right _<|List.reverse_perm _).trans ?_;rw[BX,jI]
theorem tI(x:aF):bZ (iD x)=glue [9] ((jA<|aO x "\t").map bZ):=by unfold iD;rw[iU,J1]
theorem nW(h:GL x):GL (iD x):=by
 have Q:=rQ<|se x "\t";constructor
 .intro c H;rw[tI]at H;rcases uA H with q|⟨u,U,q⟩
  .right;exact List.mem_singleton.mp q
  .obtain⟨r,D,rfl⟩:=List.mem_map.mp U;refine h.1 c ?_;rw[tT];exact zH q<|iJ<|Q.mem_iff.mp D
 .rw[<-fs,tI,qa,((Q.map bZ).map eP).sum_nat,ax,Q.length_eq];have:=h.2;rw[<-fs,tT,qa,ax]at this;exact this
theorem yS(h:GL x):gb "\t" (jA<|aO x "\t")=aj:=by
 have Q:=rQ<|se x "\t";refine fL 100 (λy H=>?_) ?_
 .have:=part_short<|Q.mem_iff.mp H;have:=h.2;lia
 .rw[Q.length_eq];have:=split_le x "\t";have U:=h.2;have:(aO x "\t").length<=10:=by exact rS U this (by omega)
  have e:(aa "\t").length=1:='k';rw[e];have:=dy (100+1) this;lia
theorem kB(f:Nat):bt (bZ<|dN f)/\(dN f).length<=3:=by
 have:∀k,k<6 ->(bZ<|tY.getD k "").all (λc=>c==32||c==9)=aj/\(tY.getD k "").length<=3:=by decide+kernel
 obtain⟨U,H⟩:=this (f%6)<|d' _ 'd';refine(λc Q=>?_,H);have:=List.all_eq_true.mp U c Q;simpa using this
theorem IQ(U:bt (bZ x))(H:bt (bZ y)):bt (bZ<|x++y):=λc Q=>by
 rw[eB]at Q;rcases List.mem_append.mp Q with h|h
 .exact U c h
 .exact H c h
theorem VK(x:aF):bZ (dX x aC<|ah 8)=(bZ x).take 8:=by
 conv=>lhs;rw[<-ve x]
 rw[Cc,C8];exact wa _ 8
theorem Qu(h:bt (bZ x)):GL (dX x aC<|ah 8):=by
 constructor
 .intro c Q;rw[VK]at Q;exact h c<|j' Q
 .rw[<-fs,VK,dA];exact oA ..
noncomputable def mH(n:Nat)(p:List Row)(aH:aF):aF:=
 if a8 n 0<=2 then iD aH else if a8 n 0<=5 then dX (iD aH++dN (a8 n 1)) aC (ah 8)
 else if a8 n 0<=7 then iD ((p.map (·.1)).getD (p.length+4 -a8 n 0) "")else dN (a8 n 1)++dN (a8 n 8)
theorem FL(h:w.length<=7):(d0 w way).length<=100:=by
 have Q:∀(f:Nat ->List Nat) (l:List Nat),(∀c,(f c).length<=5)->(l.flatMap f).length<=5*l.length:=λf l U=>by
  induction l with
  |nil=>simp
  |cons c l H=>rw[cW,aD,aU];have:=U c;exact rS this H (by omega)
 have D:(bZ w).length<=7:=by rw[fs];exact h
 have u:=Q EN (bZ w) λc=>by unfold EN;split<;>simp
 have G:=Q Bz (bZ w) λc=>by unfold Bz;split;simp;split<;>simp
 have E:=Q LK (bZ w) λc=>by unfold LK;simp
 rw[<-fs];unfold d0;split
 .rw[jw,aU,aD,aV];lia
 .split
  .rw[my,aU,aD,aV];lia
  .rw[mz];lia
theorem pO(n:Nat):(∀y∈bz n,y.length<=100)/\(aY (i0<|a8 n 7)<|bz n).length<=2^16:=by
 have D:∀y∈bz n,y.length<=100:=λy H=>by unfold bz at H;obtain⟨i,Q,rfl⟩:=List.mem_map.mp H;have Q:=List.mem_range.mp Q;refine FL ?_;rw[aI,az Q];exact lJ<|mM Q
 refine(D,?_);rw[<-fs,iU,qa,ax];have m:(bz n).length<=3:=by unfold bz;rw[ax,bJ];exact g0 n
 have U:=uB<|a8 n 7;rw[<-fs]at U;have j:∀l:List aF,(∀y∈l,y.length<=100)->(((l.map bZ).map eP).sum<=100*l.length):=λl=>by
  induction l with
  |nil=>intro _;simp
  |cons y l G=>
   intro h;have:=G λz u=>h z<|.tail _ u;have E:=h y<|.head _;rw[<-fs]at E;rw[bw,bw,lZ,aU];exact rS this E (by omega)
 have:=j _ D;have h3:((bz n).length -1)*(bZ<|i0<|a8 n 7).length<=3*2:=lD (by omega) U;lia
theorem qb:GL (aa ""):=by refine(λc Q=>?_,by rw[show(aa "").length=0 from 'k'];decide);rw[show bZ (aa "")=[]from 'k']at Q;cases Q
theorem n7(U:∀r∈p,GL r.1)(Q:GL aH):GL (mH n p aH):=by
 unfold mH;split
 .exact nW Q
 .split
  .exact Qu (IQ (nW Q).1 (kB _).1)
  .split
   .refine nW ?_;rw[aI];cases h:(p.map (·.1))[p.length+4 -a8 n 0]? with
    |none=>exact qb
    |some x=>
     obtain⟨r,H,rfl⟩:=List.mem_map.mp<|aT h;exact U r H
   .refine(IQ (kB _).1 (kB _).1,?_);rw[bp];have:=(kB<|a8 n 1).2;have:=(kB<|a8 n 8).2;lia
theorem xS(h:GL x):x.length<=100:=ai h.2 'd'
theorem HK(h:GL x):dB 887 4 [.str x] [] [] (.ok<|.str<|iD x) []:=Ec (d:=0) (obs:=[]) (ai h.2 'd')<|yS h
theorem aam(h:¬f<=5)(Q:0<L):L+4 -f<L:=by omega
theorem mx4{L f:Nat}:(max 0<|(L:Int)+4 -(f:Int)).toNat=L+4 -f:=by
 rw[<-AB (L+4) f];rcases Int.le_total 0 (((L+4:Nat):Int) -(f:Int))with h|h
 .exact congrArg fU (jZ h)
 .exact(congrArg fU<|vJ h).trans (Int.toNat_of_nonpos h).symm
theorem Qb(y:p.length<=1000)(hP:∀r∈p++[(Prod.mk aH old)],GL r.1)(h8:a8 n 0≠8):dB 902 8 [.int n,.lst<|bh<|p++[(Prod.mk aH old)]] [] [] (.ok<|MD n<|mH n (p++[(Prod.mk aH old)]) aH) []:=by
 have h0:GL aH:=hP (Prod.mk aH old) (by simp);have G:=xS<|n7 (n:=n) hP h0;obtain⟨m,j⟩:=pO n;have h9:=pj n 0;have ft:=HK h0;have D:=xS<|nW h0;by_cases u:a8 n 0<=2
 .have e:mH n (p++[(Prod.mk aH old)]) aH=iD aH:=if_pos u;rw[e];exact te h8 y D ft D m j λF E v hp hB X Q hT=>Tn u X Q (by with_reducible assumption)
 .by_cases z:a8 n 0<=5
  .have e:mH n (p++[(Prod.mk aH old)]) aH=dX (iD aH++dN (a8 n 1)) aC (ah 8):=(if_neg u).trans (if_pos z);rw[e]at G⊢;exact te h8 y D ft G m j λF E v hp hB X Q hT=>Tj (by exact ck u,z) D X Q (by with_reducible assumption)
  .by_cases c3:a8 n 0<=7
   .have e:mH n (p++[(Prod.mk aH old)]) aH=iD (((p++[(Prod.mk aH old)]).map (·.1)).getD ((p++[(Prod.mk aH old)]).length+4 -a8 n 0) ""):=(if_neg u).trans<|(if_neg z).trans (if_pos c3);have hk:(p++[(Prod.mk aH old)]).length+4 -a8 n 0<(p++[(Prod.mk aH old)]).length:=aam z (by rw[aD];exact eJ _);have hr:=az hk;generalize(p++[(Prod.mk aH old)])[(p++[(Prod.mk aH old)]).length+4 -a8 n 0]=r at hr;obtain⟨U,H⟩:=r;have h1:GL U:=hP (Prod.mk U H)<|aT hr;have e1:((p++[(Prod.mk aH old)]).map (·.1)).getD ((p++[(Prod.mk aH old)]).length+4 -a8 n 0) ""=U:=by rw[aI,bF,hr];rfl
    rw[e,e1]at G⊢;refine te h8 y D ft G m j λF E v hp hB X Q hT=>Ti (k:=(p++[(Prod.mk aH old)]).length+4 -a8 n 0) (l₁:=U) (old₁:=H) (by lia) y ?_ ?_ (HK h1) hp hB X Q (by with_reducible assumption)
    .rw[fE];unfold place;rw[mx4,if_pos hk,if_pos<|N4 ..]
    .unfold bh;rw[bF,hr];rfl
   .have e:mH n (p++[(Prod.mk aH old)]) aH=dN (a8 n 1)++dN (a8 n 8):=(if_neg u).trans<|(if_neg z).trans (if_neg c3);rw[e]at G⊢;exact te h8 y D ft G m j λF E v hp hB X Q hT=>Th (by lia) X Q (by with_reducible assumption)
theorem MC(P:aB):findIn (KK P) (.ref 797) "__setattr__"=ah (ah<|.builtin "object.__setattr__"):='k'
theorem Uw(P:aB):findIn (KK P) (.ref 797) "__init__"=ah (ah<|.ref 773):='k'
theorem SI(P:aB):typeIn (KK P) (.ref 773)=ah (.type "function"):='k'
theorem MN(P:aB):(clsIn (KK P) 797).any (λcd=>cd.mro==[.ref 797,.type "Exception",.type "BaseException",.type "object"]&&cd.hasDict)=aj:='k'
theorem T3(P:aB):mroIn (KK P) 797 (.type "object")=ah aj:='k'
theorem tk1(P:aB):takerIn (KK P) 797 "lineno"=ah aC:='k'
theorem tk2(P:aB):takerIn (KK P) 797 "msg"=ah aC:='k'
theorem tk3(P:aB):takerIn (KK P) 797 "line"=ah aC:='k'
section
variable{prog:jt} {w:dC} {A:fR} {E:aK ->aS ->Prop} {Rr:rJ ->aS ->Prop} {s:aS} {x:aA} {K:hJ}
theorem wc(X:(KK w.params).In s.heap)(I:InstAt s.heap x ox 797 od)(G:takerIn (KK w.params) 797 name=ah aC)(h:∀b,wpAny (model prog w) A.in1 (storeInOwnDict (.ref x) (.ref 797) (.str name H) name v b)
 (λfin s' =>match fin with| .done f=>Rr (.ok f) s' | .again D=>D.quiet=aj/\codeAny (model prog w) A D Rr s') (λe s' =>Rr (.error e) s') s):codeAny (model prog w) A (.call (.builtin "object.__setattr__") ([.ref x,.str name H,v],[])) Rr s:=by
 have Q:=PySem.F.store_object;obtain⟨cd,z,U⟩:=vF<|MN w.params;simp only[aw,beq_iff_eq]at U;have sub:gh (model prog w) s.heap (isInstance (.ref x)<|.type "object") aj:=I.type.andThen<|rI X<|T3 _;refine Mi Q.slot.plain Q.entry<|@Rx (model prog w) _ _ s "object.__setattr__" "object" "__setattr__" (.ref x) [.str name H,v] [] _ Q.kind Q.split sub (Q.args (.ref x) (.str name H) v) ?_;obtain⟨attr,m,u⟩:=Option.bind_eq_some_iff.mp G;have y:gh (model prog w) s.heap (mroOf<|.ref 797) cd.mro:=(yy X z).andThen .now;have L3:gh (model prog w) s.heap (storeTaker? attr) aC:=by
  cases attr with
  |none=>exact .now
  |some a=>
   obtain⟨b,j,q⟩:=Option.map_eq_some_iff.mp u;refine(looks_takesIn X j).andThen ?_;cases b
   .exact .now
   .cases q
 rw[osa_eq,refuse_eq];refine ak<|ak<|I.type.here<|ak<|y.here ?_;rw[U.1,refuseLoop_ref,PySem.F.store_Exception.passes];refine ay<|ak<|I.type.here<|ak<|(ew X m).here<|ak<|L3.here ?_;exact h _
def ExD(par:aB)(h:dR)(x:aA)(H:Option aA)(a:List (aF×V)):Prop:=match H with
 |none=>a=[]
 |some Q=>Q≠x/\∃es n,h.get? Q=ah (dictOf es n)/\∀ρ P,RA (par,h,ρ,P) a es
noncomputable def qi:V ->Bool
 | .int _| .str _=>aj
 |_=>ao
theorem Qf(h:qi v=aj)(r:R σ v u):R τ v u:=by cases v<;>first|(cases h;done)|exact r
theorem xZ(H:τ.par=σ.par):∀{a:List (aF×V)} {es:List dK},a.all (λp=>qi p.2)=aj ->RA σ a es ->RA τ a es
 |[],_,_,h=>h
 |(n,v)::r,_,Q,h=>by rw[cD,aw]at Q;obtain⟨y,U,t,rfl,u,z,D,G⟩:=h;exact(y,U,t,rfl,u,by rw[H];exact z,Qf Q.1 D,xZ H Q.2 G)
theorem uH(h:qi v=aj):∀{a:List (aF×V)},a.all (λp=>qi p.2)=aj ->(kz name v a).all (λp=>qi p.2)=aj
 |[],_=>by unfold kz;simp[h]
 |(n,w)::r,Q=>by
  rw[cD,aw]at Q;unfold kz;split
  .rw[cD,aw];exact(h,Q.2)
  .rw[cD,aw];exact(Q.1,uH h Q.2)
theorem vY(hp:σ.par=w.params)(z:s.heap.get? d=ah (dictOf es n))(q:RA σ a es)(m:R σ v H)(hz:(kz name v a).length<=1000)(hQ:∀y j D n',gB d s.heap y ->y.get? d=ah (dictOf D n')->RA σ (kz name v a) D ->Q (.done<|.ret .none) {s with heap:=y,toks:=j}):wpAny (model prog w) A (storeInDict d (.str name tk) name H) Q E s:=by
 unfold storeInDict newKeyGuard;refine ak<|ay<|ak ?_;unfold nsSet;refine ak<|ak<|yk<|ay<|ak<|Jp<|ak<|gG z ?_;dsimp only;have cc:(!es.toArray.any (·.key.isStr name)&&es.toArray.any (·.refKey))=ao:=by rw[<-mC,<-mC,show es.toArray.toList=es by simp,(RA.find (name:=name) q).2,N5]
 rw[Jt,cc];have e:=putName_dict name (dv w.params name) (.str name s.toks) H es n;have u:=gR s.heap d<|vv name (dv w.params name) (.str name s.toks) H;have U:(s.heap.update d<|vv name (dv w.params name) (.str name s.toks) H).get? d=ah (dictOf (putL name (dv w.params name) (.str name s.toks) H es)<|putN name es n):=by rw[bQ _ z (by rw[e];rfl),e]
 have G:=q.put (name:=name) (t:=s.toks) m;rw[hp]at G;refine Xf z ?_;refine ak<|Xg U (Xl (by rw[JA,sizeLine_eq,G.len];exact(ai hz 'd'))) ?_;exact ay<|hQ _ _ _ _ u U G
theorem Zs(X:(KK w.params).In s.heap)(ht:takerIn (KK w.params) 797 name=ah aC)(z:s.heap.get? x=ah ox)(hc:ox.cls= .ref 797)(hd:ox.data= .fields vs)(hD:ExD w.params s.heap x ox.dict a)(hf:a.all (λp=>qi p.2)=aj)(hv:qi v=aj)(hz:(kz name v a).length<=1000)(rv:∀σ,R σ v uv)(hQ:∀G tk u,G.get? x=ah {ox with dict:=ah u}->(u=ox.dict.getD u/\(ox.dict=aC ->s.heap.get? u=aC))->ExD w.params G x (ah u) (kz name v a)->(∀b o,b≠x ->b≠u ->s.heap.get? b=ah o ->G.get? b=ah o)->Q () {s with heap:=G,toks:=tk}):wpAny (model prog w) A (setAttr (.ref x) name uv) Q E s:=by
 obtain⟨cd,hcd,ho⟩:=vF<|MN w.params;simp only[aw,beq_iff_eq]at ho;have nc:notCls ox=aj:=by unfold notCls;rw[hd]
 cases H:ox.dict with
 |none=>
  rw[H]at hD;have ha:a=[]:=hD;subst ha;have I:InstAt s.heap x ox 797 aC:=(z,hc,nc,by rw[H];trivial);refine Xk X I (MC _)<|wc (s:={s with toks:=s.toks+1}) X I ht λb=>?_;refine ak<|ay<|ak<|ak<|gG z ?_;rw[hc];refine ak<|ED (s:={s with toks:=s.toks+1}) (yy X hcd) ?_;rw[ho.2,H,hd];have D:(s.heap.push {cls:=.type "dict",data:=.dict #[]}).get? x=ah ox:=bD _ z;have y:x≠s.heap.objs.size:=iA<|bR z;refine ak<|wpAny_alloc'<|ak<|wpAny_update' D<|ay ?_;have hgd:((s.heap.push {cls:=.type "dict",data:=.dict #[]}).update x λo=>{cls:=o.cls,dict:=ah s.heap.objs.size,data:=o.data,slots:=o.slots}).get? s.heap.objs.size=ah (dictOf [] 0):=
   (EK _ _ _ _ y.symm).trans (Heap.get?_push_at rfl rfl)
  show wpAny _ _ (storeInDict s.heap.objs.size _ _ _) _ _ _;refine vY (σ:=(w.params,s.heap,[],λU=>False)) rfl hgd (a:=[]) rfl (rv _) hz λG t' j n' hs m hr=>?_;have hx2:((s.heap.push {cls:=.type "dict",data:=.dict #[]}).update x λo=>{cls:=o.cls,dict:=ah s.heap.objs.size,data:=o.data,slots:=o.slots}).get? x=ah {ox with dict:=ah s.heap.objs.size}:=by rw[bQ _ D (by obtain⟨oc,od,odt,osl⟩:=ox;cases hd;rfl)]
  refine hQ G t' s.heap.objs.size ((hs.2 x y).trans hx2) (by rw[H];rfl,λU=>de _) (y.symm,j,n',m,λρ P=>xZ (σ:=(w.params,s.heap,[],λU=>False)) (τ:=(w.params,G,ρ,P)) rfl (uH hv hf) hr) λb o n1 n2 e=>?_;exact(hs.2 b n2).trans ((EK _ _ _ _ n1).trans<|bD _ e)
 |some u=>
  rw[H]at hD;obtain⟨D5,es,n,m,hr⟩:=hD;have I:InstAt s.heap x ox 797 (ah<|dictOf es n):=(z,hc,nc,by rw[H];exact m);refine Xk X I (MC _)<|wc (s:={s with toks:=s.toks+1}) X I ht λb=>?_;refine ak<|ay<|ak<|ak<|gG z ?_;rw[hc];refine ak<|ED (s:={s with toks:=s.toks+1}) (yy X hcd) ?_;rw[ho.2,H];refine ay ?_;show wpAny _ _ (storeInDict u _ _ _) _ _ _;refine vY (σ:=(w.params,s.heap,[],λU=>False)) rfl m (hr _ _) (rv _) hz λG t' j n' hs m hr=>?_;refine hQ G t' u ?_ (by rw[H];rfl,λq=>by rw[H]at q;cases q) (D5,j,n',m,λρ P=>xZ (σ:=(w.params,s.heap,[],λU=>False)) (τ:=(w.params,G,ρ,P)) rfl (uH hv hf) hr) λb o n1 n2 e=>(hs.2 b n2).trans e;rw[hs.2 x<|gu D5,z];obtain⟨oc,od,odt,osl⟩:=ox;cases H;rfl
end
structure NJ (w:dC) (s₀:aS) (x:aA) (ox:gy) (a:List (aF×V)) (s:aS):Prop where
 at_:∃od,s.heap.get? x=ah {ox with dict:=od}/\ExD w.params s.heap x od a/\(∀dx,od=ah dx ->s₀.heap.get? dx=aC)
 keep:∀b o,b≠x ->s₀.heap.get? b=ah o ->s.heap.get? b=ah o
 gens:s.gens=s₀.gens
 os:s.os=s₀.os
section
variable{prog:jt} {w:dC} {A:fR} {E:aK ->aS ->Prop} {s s₀:aS} {x:aA} {K:hJ} {env:vK} {m:aF ->Option aK} {ox:gy} {vs:Array aK} {a:List (aF×V)}
theorem td(G:env.scope.kind= .function)(D:env.kindOf y=ah .local)(H:s.heap.Ns env.locals m)(U:m y=ah u)(hd:(y==("__debug__":aF))=ao)(h:Q u s):wpAny (model prog w) A (eval (.Name y p) env) Q E s:=
 vi (gg G D H U h) hd
theorem NJ.ns(j:NJ w s₀ x ox a s)(Q:env.locals≠x)(D:s₀.heap.Ns env.locals m):s.heap.Ns env.locals m:=by refine cH λu H=>?_;obtain⟨o,es,G,U,r⟩:=D;refine H ?_;exact(o,es,G,j.keep _ _ Q U,r)
theorem yd(X:(KK w.params).In s₀.heap)(G:∀o,(KK w.params).lookup x≠ah o)(hk:env.scope.kind= .function)(hl:env.kindOf "self"=ah .local)(hn:s₀.heap.Ns env.locals m)(hm:m "self"=ah (.ref x))(u:env.locals≠x)(ht:takerIn (KK w.params) 797 name=ah aC)(hc:ox.cls= .ref 797)(hd:ox.data= .fields vs)(hf:a.all (λp=>qi p.2)=aj)(hv:qi v=aj)(hz:(kz name v a).length<=1000)(rv:∀σ,R σ v uv)(j:NJ w s₀ x ox a s):wpAny (model prog w) A (mW (.Attribute (.Name "self" np) name ap) env uv) (λU s' =>NJ w s₀ x ox (kz name v a) s') E s:=by
 have XK:(KK w.params).In s.heap:=λb o e=>j.keep b o (λq=>G o<|q▸e) (X b o e);rw[Mj];refine ak<|bo<|td hk hl (j.ns u hn) hm 'd'<|ak<|dm<|ak<|bo ?_;refine cH λGq kq=>?_;obtain⟨y,z,h2,h3⟩:=j.at_;refine kq ?_;refine Zs (ox:={ox with dict:=y}) XK ht z hc hd h2 hf hv hz rv λh' tk Q g1 g2 g3 g4=>?_;refine λΓ p hΓ=>by
  rw[yp];have H:s₀.heap.get? Q=aC:=by
   cases y with
   |some d=>have:Q=d:=g2.1;rw[this];exact h3 d rfl
   |none=>
    have n:=g2.2 rfl;cases q:s₀.heap.get? Q with
    |none=>rfl
    |some o=>
     have D:Q≠x:=λe=>by rw[e,z]at n;cases n
     have:=j.keep Q o D q;rw[n]at this;cases this
  exact((ah Q,g1,g3,λd e=>by cases e;exact H),λb o n e=>g4 b o n (λq=>by rw[q,H]at e;cases e) (j.keep b o n e),j.gens,j.os)
theorem Kz(X:(KK w.params).In s₀.heap)(Q:∀o,(KK w.params).lookup x≠ah o)(hh:A.handled=aC)(G:env.scope.kind= .function)(hs:env.scope=aQ (Hd.f1 27 0))(D:s₀.heap.Ns env.locals m)(h1:m "self"=ah (.ref x))(h2:m "lineno"=ah un)(h3:m "msg"=ah um)(h4:m "line"=ah ul)(r2:∀σ,R σ (.int n) un)(r3:∀σ,R σ (.str m') um)(r4:∀σ,R σ (.str ln) ul)(H:env.locals≠x)(hx:s₀.heap.get? x=ah ox)(hc:ox.cls= .ref 797)(hd:ox.data= .fields vs)(P6:ox.dict=aC):wpAny (model prog w) A (execs (eA<|Hd.f1 27 0) env) (λf s' =>f= .next/\NJ w s₀ x ox [("lineno",.int n),("msg",.str m'),("line",.str ln)] s') E s₀:=by
 have k:∀y,env.kindOf y=(aQ<|Hd.f1 27 0).names.lookup y:=λy=>by show env.scope.names.lookup y=_;rw[hs]
 have k1:env.kindOf "self"=ah .local:=(k _).trans 'k';have k2:env.kindOf "lineno"=ah .local:=(k _).trans 'k';have k3:env.kindOf "msg"=ah .local:=(k _).trans 'k';have k4:env.kindOf "line"=ah .local:=(k _).trans 'k';have hj:NJ w s₀ x ox [] s₀:=((aC,by rw[hx];obtain⟨c,d,dt,sl⟩:=ox;cases P6;rfl,rfl,λU q=>by cases q),λU U U e=>e,rfl,rfl);conv=>arg 3;arg 1;whnf
 refine cB<|NW (wpAny_Tuple ?_) (lg rfl) ?_
 .rw[cC rfl,cC rfl,cC rfl];refine cA<|td G k2 D h2 'd'<|cA<|td G k3 D h3 'd'<|cA<|td G k4 D h4 'd'<|d6 ?_;refine(ae rfl,?_);rw[eQ rfl];show wpAny _ _ (mW _ env<|.ref s₀.heap.objs.size) _ _ _;have ht:IsTup (s₀.heap.push {cls:=.type "tuple",data:=.seq [un,um,ul].toArray}) s₀.heap.objs.size [un,um,ul].toArray:=(_,bb _ rfl,rfl,_,rfl);refine vk hh ht (by rfl) (kH (env:=env) rfl).2 λh' he=>?_;have kk:∀b o,s₀.heap.get? b=ah o ->h'.get? b=ah o:=λb o e=>oi he b o<|bI _ _ b o e;have j0:NJ w s₀ x ox [] {s₀ with heap:=h'}:=by
   obtain⟨od,g1,g2,g3⟩:=hj.at_;refine((od,kk _ _ g1,?_,g3),λb o U e=>kk b o e,rfl,rfl);cases od with
   |none=>exact g2
   |some d=>rw[hx]at g1;obtain⟨c,dd,dt,sl⟩:=ox;cases P6;cases g1
  rw[eQ rfl,eQ rfl,eQ rfl];refine ak<|bo<|aq (yd X Q G k1 D h1 H (tk1 _) hc hd rfl rfl (ae rfl) r2 j0) (λU a7 j=>?_) i3;refine ak<|bo<|aq (yd X Q G k1 D h1 H (tk2 _) hc hd rfl rfl (ae rfl) r3 j) (λU fW z=>?_) i3;refine ak<|bo<|aq (yd X Q G k1 D h1 H (tk3 _) hc hd rfl rfl (ae rfl) r4 z) (λU jT u=>?_) i3;exact ay<|gc (rfl,u)
 .unfold swappedStores;dsimp only;by_cases hb:(env.blockKind != .function)=aj
  .rw[if_pos<|by rw[hb,sm]]
  .rw[if_neg (by rw[Bool.not_eq_true]at hb;rw[hb];decide)];rfl
end
noncomputable def zF(P:aB):ClassData:=match(KK P).lookup 797 with
 |some (_,_,.cls c,_)=>c
 |_=>default
noncomputable def TY(P:aB):Option aA:=match(KK P).lookup 797 with
 |some o=>o.dict
 |none=>aC
noncomputable def GN(P:aB)(i:Nat):Option aK:=match(KK P).lookup 797 with
 |some o=>(o.slots[i]?).getD aC
 |none=>aC
noncomputable abbrev GO(P:aB):gy:=excClassObj (zF P).name (zF P).qualname 797 (zF P).ns (zF P).bases [.type "Exception",.type "BaseException",.type "object"] aj (zF P).slotNames (zF P).subclasses (zF P).abstract (zF P).collection (TY P) (GN P 0) (GN P 1) (GN P 2) (GN P 3) (GN P 5) "Exception.__new__"
theorem Ph(P:aB):(KK P).lookup 797=ah (GO P):='k'
theorem xG(X:(KK P).In h):h.get? 797=ah (GO P):=X _ _<|Ph P
structure Xb (par:aB) (s s' :aS) (x:aA) (a:List (aF×V)):Prop where
 keep:∀b o,s.heap.get? b=ah o ->s'.heap.get? b=ah o
 gens:s'.gens=s.gens
 os:s'.os=s.os
 new:s.heap.get? x=aC
 at_:∃t dx es n,s'.heap.get? x=ah {cls:=.ref 797,dict:=ah dx,data:=.fields #[.ref t,.none,.none,.none,.bool ao,.none]}/\dx≠x/\s.heap.get? dx=aC/\s'.heap.get? dx=ah (dictOf es n)/\∀ρ P,RA (par,s'.heap,ρ,P) a es
section
variable{F:Fx} {sc:cJ} {d:Nat} {st:St} {ρ:List (aA×aA)} {P:aA ->Prop} {s:aS} {E:aK ->aS ->Prop}
theorem Kx(hB:BS F.w F.hB)(I:Inv F st ρ P s)(hA:Cx A F.fr 4)(r2:∀σ,R σ (.int n) un)(r3:∀σ,R σ (.str m') um)(r4:∀σ,R σ (.str ln) ul)(hx:s.heap.get? x=ah ox)(hxB:F.hB.get? x=aC)(hc:ox.cls= .ref 797)(hd:ox.data= .fields vs)(P6:ox.dict=aC)(hq:∀s',(∀b o,b≠x ->s.heap.get? b=ah o ->s'.heap.get? b=ah o)->s'.gens=s.gens ->s'.os=s.os ->(∃dx es k,s'.heap.get? x=ah {ox with dict:=ah dx}/\dx≠x/\s.heap.get? dx=aC/\s'.heap.get? dx=ah (dictOf es k)/\∀ρ P,RA (F.w.params,s'.heap,ρ,P) [(Prod.mk "lineno"<|.int n),(Prod.mk "msg"<|.str m'),(Prod.mk "line"<|.str ln)] es)->Rr (.ok<|.ret .none) s'):codeAny F.M A (.call (.ref 773) ([.ref x,un,um,ul],[])) Rr s:=by
 have kb:=oZ hB.says;have XK:=I.rh kb;refine cH λGq kq=>?_;obtain⟨b1,b2,b3,b4,b5,b6,b7⟩:=xX (ql:="NannyNag.__init__") (gl:=3) (df:=.none) (kd:=.none) (pm:=.str (aa "cpy313.tabnanny") 1255) (cd:=.ref 772) (st:=Hd.f1 27 0) 'k';obtain⟨oc,cvs,ct,e1,e2,e3⟩:=ow<|Wh F.w.params;refine kq ?_;have Hy:s.heap.NoLimit:=by refine cH λGq kq=>?_;obtain⟨mc,⟨o',es,ep,e1,r⟩,q⟩:=hB.lim;refine kq ?_;exact(mc,(o',es,ep,I.base _ _ e1 (by unfold Grows;decide),r),q)
 have HC:∀S,peek (KK F.w.params) S (bindArgs (Hd.Br (Hd.f1 27 0) "NannyNag.__init__" 3 .none .none (.str (aa "cpy313.tabnanny") 1255)<|.ref 772) ([.ref x,un,um,ul],[]))=ah [(Prod.mk ("self":aF)<|.ref x),(Prod.mk ("lineno":aF) un),(Prod.mk ("msg":aF) um),(Prod.mk ("line":aF) ul)]:=λS=>'k';have D:(aQ<|Hd.f1 27 0).kind= .function:='k';refine qB (by have:=hA.depth;exact qU this<|by omega) (XK _ _<|Vn F.w.params) rfl (by rw[b2];kernel_rfl) (by rw[b2];kernel_rfl) b1 (772,oc,cvs,ct,b6,XK _ _ e1,e2,by rw[b7];exact e3)<|kp_binds XK HC _ _ _ _ ?_;rw[b3,b4,b5,b2];refine BL D (λy hy=>?_) λenv he a7 xx=>?_
 .simp only[l0,tw,or_false]at hy;rcases hy with rfl|rfl|rfl|rfl<;>exact .inl 'k'
 have H:=xx.toInCall.keep;obtain⟨UG,tk,Q⟩:=xx.toInCall.same;have K6:env.locals=s.heap.objs.size:=by subst he;rfl
 have G:env.scope=aQ (Hd.f1 27 0):=by subst he;rfl
 refine(Hy.keeps H,Js ?_);have D5:env.locals≠x:=by rw[K6];exact λq=>eK _<|q▸bR hx
 have W5:(KK F.w.params).In a7.heap:=XK.keeps H;have hxK:∀o,(KK F.w.params).lookup x≠ah o:=λo q=>by have:=kb.vr x o q;rw[hxB]at this;cases this
 have u:(([(Prod.mk ("self":aF)<|cg x),(Prod.mk ("lineno":aF) un),(Prod.mk ("msg":aF) um),(Prod.mk ("line":aF) ul)]:List (aF×aK)).map (·.1)).Nodup:=by show List.Nodup [("self":aF),"lineno","msg","line"];decide+kernel
 have m:∀y,env.kindOf y=(aQ<|Hd.f1 27 0).names.lookup y:=λy=>by show env.scope.names.lookup y=_;rw[G]
 have CT:=xx.toInCall.ns;refine aq (Kz (s₀:=a7) (E:=λU U=>False) W5 hxK (hA.handled 'd') (by rw[G];exact D) G CT (kj u 'k'<|(m _).trans 'k') (kj u 'k'<|(m _).trans 'k') (kj u 'k'<|(m _).trans 'k') (kj u 'k'<|(m _).trans 'k') r2 r3 r4 D5 (H _ _ hx) hc hd P6) (λf fW z=>?_) i4;refine cH λGq kq=>?_;obtain⟨rfl,j⟩:=z;obtain⟨od,g1,g2,g3⟩:=j.at_;refine kq ?_;refine hq fW (λb o nb e=>j.keep b o nb<|H _ _ e) (by rw[j.gens,Q]) (by rw[j.os,Q]) ?_;cases od with
 |none=>cases(show[(Prod.mk ("lineno":aF)<|V.int n),(Prod.mk ("msg":aF)<|V.str m'),(Prod.mk ("line":aF)<|V.str ln)]=[]from g2)
 |some dx=>
  refine cH λGq kq=>?_;obtain⟨h1,es,k,h2,h3⟩:=g2;refine kq ?_;have:s.heap.get? dx=aC:=by
   cases q:s.heap.get? dx with
   |none=>rfl
   |some o=>have:=H _ _ q;rw[g3 dx rfl]at this;cases this
  exact(dx,es,k,g1,h1,this,h2,h3)
end
theorem TZ(P:aB):mroIn (KK P) 797 (.ref 797)=ah aj:='k'
section
variable{F:Fx} {sc:cJ} {d:Nat} {st:St} {ρ:List (aA×aA)} {P:aA ->Prop} {s:aS} {E:aK ->aS ->Prop}
theorem Ky(X:bS F (KK F.w.params) sc (d+6))(hB:BS F.w F.hB)(I:Inv F st ρ P s)(r2:∀σ,R σ (.int n) un)(r3:∀σ,R σ (.str m') um)(r4:∀σ,R σ (.str ln) ul)(hq:∀x s',Xb F.w.params s s' x [("lineno",.int n),("msg",.str m'),("line",.str ln)]->Q (.ref x) s'):wpAny F.M F.A (call (.ref 797) [un,um,ul]) Q E s:=by
 have kb:=X.kb;have XK:=I.rh kb;have FB:=PySem.F.excBase_Exception;refine cH λGq kq=>?_;have z:=xG XK;have hIB:∀b o,F.hB.get? b=ah o ->¬Grows b ->s.heap.get? b=ah o:=I.base;have I' :=I;obtain⟨h,g,u,t,os⟩:=s;refine kq ?_;have f1:=tc_lookup;have f2:=tc_bind<|.ref 797;have hT:((h,g,u,t,os):aS).TypeIs (.ref 797) "type":=(_,z,rfl);refine dP<|pJ ?_;show wpAny _ _ (callAny (.ref 797) _) _ _ _;repeat(any_goals(first|assumption|with_reducible refine m6 z ?_|wp_step))
 refine(rfl,?_);refine EY (k9 _<|by decide+kernel) abI<|wpAny_check_type_call_sub z ?_;repeat(first|with_reducible refine m6 z ?_|with_reducible refine wpAny_madeBy_exc z ?_|wp_step)
 refine Dl (k9 _ FB.quiet)<|wpAny_check_new_sub FB z ?_;refine codeAny_exc_new_sub FB z ?_<|ae rfl;show wpAny _ _ _ _ _ _;generalize htp:({cls:=.type "tuple",data:=.seq (List.append [] [un,um,ul]).toArray}:gy)=j;have m:∀b o,h.get? b=ah o ->((h.push j).push {cls:=.ref 797,data:=.fields #[.ref h.objs.size,.none,.none,.none,.bool ao,.none]}).get? b=ah o:=λb o e=>bI _ _ b o<|bI _ _ b o e;have U:((h.push j).push {cls:=.ref 797,data:=.fields #[.ref h.objs.size,.none,.none,.none,.bool ao,.none]}).get? (h.objs.size+1)=ah
  {cls:=.ref 797,data:=.fields #[.ref h.objs.size,.none,.none,.none,.bool ao,.none]}:=by
  have:=bb (h.push j) (o:={cls:=.ref 797,data:=.fields #[.ref h.objs.size,.none,.none,.none,.bool ao,.none]}) rfl;rw[jv]at this;exact this
 generalize hh2:(h.push j).push {cls:=.ref 797,data:=.fields #[.ref h.objs.size,.none,.none,.none,.bool ao,.none]}=H at m U;have y:Inv F st ρ P (H,g,u,t,os):=I'.keeps (s:=(h,g,u,t,os)) (s' :=(H,g,u,t,os)) m rfl rfl;have D:(KK F.w.params).In H:=y.rh kb;have t1:gh F.M H (typeOf<|.ref<|h.objs.size+1) (.ref 797):=(mB U).andThen .now;have self:gh F.M H (isSubtype (.ref 797)<|.ref 797) aj:=rI D<|TZ _;have IA:InstAt H (h.objs.size+1) {cls:=.ref 797,data:=.fields #[.ref h.objs.size,.none,.none,.none,.bool ao,.none]} 797 aC:=(U,rfl,rfl,trivial);have hA:Cx (F.A.under<|Code.builtin "type.__call__" {pos:=[cg 797]++{pos:=[un,um,ul]:Args}.pos}) F.fr 4:=((X.cx.frames,by have:=X.cx.depth;exact qU this<|by omega,by have:=X.cx.units;exact qU this<|by omega,λq=>X.cx.handled<|by exact aM ..):Cx F.A F.fr (4+1)).sub (show F.A.depth+1<=F.A.depth+1 from aJ _) (show F.A.units+1<=F.A.units+40 from iS 'd' _) rfl rfl;have G:h.get? (h.objs.size+1)=aC:=by
  cases q:h.get? (h.objs.size+1)with
  |none=>rfl
  |some o=>exact absurd (bR q)<|Nat.not_lt.mpr<|pE _
 have hxB:F.hB.get? (h.objs.size+1)=aC:=by
  cases q:F.hB.get? (h.objs.size+1)with
  |none=>rfl
  |some o=>
   by_cases gr:Grows (h.objs.size+1)
   .obtain⟨o',e⟩:=I'.there _<|I'.gw _ gr;rw[show(AJ (h,g,u,t,os))=h from rfl,G]at e;cases e
   .have:=hIB _ _ q gr;rw[show(AJ (h,g,u,t,os))=h from rfl,G]at this;cases this
 unfold isInstance;refine ak<|ak<|t1.at ?_;refine self.at ?_;rw[if_neg 'd'];refine ak<|bo<|Rw (s:=(H,g,u,t,os)) D IA (Uw _) (SI _)<|dP ?_;refine Kx hB y hA r2 r3 r4 U hxB rfl rfl rfl λs' k1 k2 k3 k4=>?_;refine cH λGq kq=>?_;obtain⟨dx,es,k,g1,g2,g3,g4,g5⟩:=k4;refine kq ?_;refine ay ?_;refine hq _ _ (λb o e=>k1 b o (λq=>by rw[q,G]at e;cases e) (m b o e),k2,k3,G,h.objs.size,dx,es,k,g1,g2,?_,g4,g5);cases q:h.get? dx with
 |none=>rfl
 |some o=>have:=m _ _ q;rw[show(AJ (H,g,u,t,os))=H from rfl]at g3;rw[g3]at this;cases this
end
theorem LF(P:aB):specialIn (KK P) (.ref 797) "__call__"=ah (ah<|.builtin "type.__call__"):='k'
section
variable{M:yC} {A:fR} {E:aK ->aS ->Prop} {s:aS} {env:vK}
variable{q:aB}
theorem A9(y:A.handled=aC)(h:wpAny M A x (λv a7=>∃e t d,v= .ref e/\a7.heap.get? 797=ah (GO q)/\
 a7.heap.get? e=ah {cls:=.ref 797,dict:=d,data:=.fields #[.ref t,.none,.none,.none,.bool ao,.none]}/\E (.ref e) a7) E s):wpAny M A (raiseStmt env (ah x) aC) Q E s:=by
 have D:(cg 797::[.type "Exception",.type "BaseException",.type "object"]).contains (.type "BaseException")=aj:='d';unfold raiseStmt;refine ak<|aq h (λv a7 H=>?_) λU U x=>x;refine cH λGq u=>?_;obtain⟨e,t,d,rfl,G,z,j⟩:=H;obtain⟨hp,g,dr,m,os⟩:=a7;refine u ?_;repeat(first|with_reducible refine m6 z ?_|with_reducible refine m6 G ?_|(with_reducible refine wpAny_isSubtype_exc G ?_;rw[D])|wp_step)
 exact wpAny_raiseNew_none y j
end
section
variable{F:Fx} {sc:cJ} {d:Nat} {st st₁ aN:St} {ρ:List (aA×aA)} {P:aA ->Prop} {s:aS}
theorem DZ(X:(KK F.w.params).In h):gh F.M h (keeperOf<|.ref 797) .machine:=by refine cH λU Q=>?_;have H:=xG X;refine Q ?_;have call:=Az (M:=F.M) X<|LF _;unfold keeperOf;refine(mB (part:=aC) H).andThen ?_;dsimp only;refine call.andThen ?_;exact fY (by simp)
noncomputable abbrev mQ(n:Int)(m ln:aF):Ex:=(.ref 797,[("lineno",.int n),("msg",.str m),("line",.str ln)])
theorem EX.Gl(X:bS F (KK F.w.params) sc (d+6))(hB:BS F.w F.hB)(X2:(a::args).all notStar=aj)(hf:EV F (.Name x np) st (.val<|.ref 797) st₁)(ha:vE F (a::args) st₁ [.int n,.str m',.str ln] aN):EX F (.Raise (ah<|.Call (.Name x np) (a::args) [] G) aC pos) st (.exc<|mQ n m' ln) aN:=λρ P s I=>by
 show wpAny F.M F.A (do standAt pos;raiseStmt F.env (ah (do let v<-eval (.Call (.Name x np) (a::args) [] G) F.env;standAt pos;pure v)) aC) _ _ s;have U2:=X2;rw[cD,aw]at U2;have j:(backTo G<|starEach (a::args) F.env).any (·.1)=ao:=by
  clear ha;have:∀l:List aW,l.all notStar=aj ->(backTo G<|starEach l F.env).any (·.1)=ao:=λl hl=>by
   induction l with
   |nil=>rfl
   |cons e r ih=>
    rw[cD,aw]at hl;rw[cC hl.1];show(ao||_)=ao;rw[qD];exact ih hl.2
  exact this _ X2
 refine ak<|dm<|A9 (q:=F.w.params) (X.pZ<|by exact aM ..) ?_;refine ak<|aq (Q:=λv H=>∃e t d,v= .ref e/\H.heap.get? 797=ah (GO F.w.params)/\
  H.heap.get? e=ah {cls:=.ref 797,dict:=d,data:=.fields #[.ref t,.none,.none,.none,.bool ao,.none]}/\PX F ρ P s.heap (.exc<|mQ n m' ln) aN (.ref e) H) ?_ (λv H Hs=>ak<|dm<|ay Hs) i3
 refine wpAny_Call_ofName<|aq (hf ρ P s I) (λu m z=>?_) i4;refine cH λGq kq=>?_;obtain⟨ρ₁,bN,vf,mP,FX⟩:=z;refine kq ?_;cases FX;refine jC (P:=λh=>(KK F.w.params).In h) (by rw[j];rfl) (λh z=>(_,.inr<|.inl rfl,DZ z)) ?_;have main:wpAny F.M F.A (spliced<|backTo G<|starEach (a::args) F.env) (λus U=>wpAny F.M F.A (evalAll ([]:List (Sem aK))) (λks U=>(KK F.w.params).In U.heap/\wpAny F.M F.A (call (.ref 797) ([]++us)<|([]:List aF).zip ks)
  (λv H=>∃e t d,v= .ref e/\H.heap.get? 797=ah (GO F.w.params)/\
  H.heap.get? e=ah {cls:=.ref 797,dict:=d,data:=.fields #[.ref t,.none,.none,.none,.bool ao,.none]}/\PX F ρ P s.heap (.exc<|mQ n m' ln) aN (.ref e) H) (PX F ρ P s.heap (.exc<|mQ n m' ln) aN) U) (PX F ρ P s.heap (.exc<|mQ n m' ln) aN) U) (PX F ρ P s.heap (.exc<|mQ n m' ln) aN) m:=by
  refine aq (ha G ρ₁ bN m vf) (λus U z=>?_) i4;refine cH λGq kq=>?_;obtain⟨yK,mU,D,AR,A7⟩:=z;obtain⟨un,us',rfl,⟨tn,rfl⟩,um,acf,rfl,⟨tm,rfl⟩,ul,us3,rfl,⟨tl,rfl⟩,rfl⟩:=A7;refine kq ?_;refine er (D.rh X.kb,?_);refine Ky (n:=n) (m' :=m') (ln:=ln) X hB D (λσ=>(tn,rfl)) (λσ=>(tm,rfl)) (λσ=>(tl,rfl)) λy H z=>?_;refine cH λGq kq=>?_;obtain⟨t,dx,es,k,g1,g2,g3,g4,g5⟩:=z.at_;refine kq ?_;have hC3:=xG<|(D.rh X.kb).keeps z.keep;refine(y,t,ah dx,rfl,hC3,g1,?_);obtain⟨jX,tC⟩:=D.sD (s' :=H) z.keep z.new (_,g1) z.gens z.os;refine PX.trans (a7:=U) (mP.trans AR).up (_,rfl,aC,.inl rfl,yK,_,y,_,_,rfl,jX,tC.up,(g1,rfl,rfl,ae rfl,z.new,(D.fresh z.new).1,.inr rfl,.inr (dx,es,k,rfl,g4,?_,g5 _ _),rfl));intro q;rcases q with q|q
  .exact D.nq g3 q
  .exact g2 q
 rw[cC U2.1]at main⊢;exact iQ (keywords:=[]) rfl main
end
noncomputable def d5{Q:Type}(q:Q ->Bool)(p:List Q):List Q:=(p.reverse.dropWhile q).reverse
theorem uL(q:Q ->Bool)(p:List Q)(r:Q):d5 q (p++[r])=if q r=aj then d5 q p else p++[r]:=by
 unfold d5;rw[EF,AL,jJ,iK];split
 .rfl
 .simp
theorem WH.d5(L:List D ->List (aF×V))(q:D ->Bool)(N:Nat)(j:TV F t (L [],o) ao (L [],o))(u:∀p r,(p++[r]).length<=N ->TV F t (L<|p++[r],o) (q r) (L<|p++[r],o))(G:∀p r,(p++[r]).length<=N ->dc F B (L<|p++[r],o) .next (L p,o)):∀n p,p.length=n ->n<=N ->WH F t B (L p,o) .next (L<|Internal.d5 q p,o):=by
 intro n;induction n with
 |zero=>
  intro p Q _;have e:=List.length_eq_zero_iff.mp Q;subst e;exact WH.done j rfl
 |succ n E=>
  intro p Q U;have e:=gM (l:=p) (by intro q;rw[q]at Q;cases Q);generalize p.dropLast=i at e;generalize p.getLast _=r at e;subst e;rw[aD,aV]at Q;have z:=u i r (by rw[aD,aV];exact Q▸U);rw[uL];by_cases H:q r=aj
  .rw[if_pos H];exact WH.next z H (G i r (by rw[aD,aV];omega))<|E i (by exact pK Q) (by exact cN U)
  .rw[if_neg H];exact WH.done z (by simpa using H)
noncomputable def YX(x:aF):V:=.obj 862<|cX x
noncomputable def fz(p:List aF):List V:=p.map YX
theorem jg(l:List aF):(fz l).length=l.length:=ax _
theorem NR_wsV:NR (YX x):=NRA_wsObj x
theorem NRL_wsP:oz (fz l):=fK λU U=>NR_wsV
theorem iw(p:List aF)(r:aF):place (-1) (fz<|p++[r]).length=ah p.length/\(fz<|p++[r])[p.length]? =ah (YX r):=by
 constructor
 .rw[jg,aD,aV];unfold place;rw[if_neg 'd',if_pos<|by lia];congr 1;exact ZM
 .unfold fz;rw[bx,bG (by rw[ax];exact aJ _),ax,Xr];rfl
section
variable{F:Fx} {p p0:List aF} {aH y r:aF} {k:Int}
noncomputable abbrev D1(y:aF)(k:Int)(p0:List aF):List (aF×V):=[("pile",.lst<|fz p0),("text",.str y),("number",.int k)]
noncomputable abbrev mT(y:aF)(k:Int)(p0 p:List aF):List (aF×V):=("left",.lst<|fz p)::("here",.obj 862<|cX y)::D1 y k p0
noncomputable abbrev iv(y:aF)(x:aF):Bool:=!lu x y
noncomputable def juT:aW:=XH (eA<|Hd.f0 39)[3]?
noncomputable def juB:List cn:=YZ (eA<|Hd.f0 39)[3]?
theorem xO(Q:y.length<=2^13)(H:F.prog=PR)(hB:BS F.w F.hB)(X:bS F (KK F.w.params) (aQ<|Hd.f0 39) 11):dM F (.ref 862) [.str y] [] (D1 y k p0,[]) (.ok<|.obj 862<|cX y) (D1 y k p0,[]):=by
 refine W.zI (e:=4) X (by exact aM ..) H hB 'k' 'k' 'k' (Nl (d:=0)<|by exact(ai Q 'd')) ?_ ?_ ?_ ?_
 .kspl_open zNR
 .exact NRA_wsObj _
 .intro _ q;cases q
 .exact rn (NRL_wsP,trivial,trivial,trivial)
theorem PG(X:bS F (KK F.w.params) (aQ<|Hd.f0 39) 11):TV F juT (mT y k p0 [],[]) ao (mT y k p0 [],[]):=by have H:(!(fz []).isEmpty)=ao:=rfl;have Q:(fz []).length<=2^24:=bH _;exact(tV X rfl (an:=[.b ao]) (p:=_/\_/\_/\([]:List O)=[]) 'k' (Q,H,@rfl _ ao,rfl):_)
theorem KR(H:iv y r=q)(Q:p.length<=1001)(U:F.prog=PR)(hB:BS F.w F.hB)(X:bS F (KK F.w.params) (aQ<|Hd.f0 39) 11):TV F juT (mT y k p0<|p++[r],[]) q (mT y k p0<|p++[r],[]):=by
 have MY:=(iw p r).1;have Bi:=(iw p r).2;have RZ:(fz<|p++[r]).length=p.length+1:=by rw[jg,aD];rfl
 have D5:(!(fz<|p++[r]).isEmpty)=aj:=by unfold fz;simp
 cases q with
 |true=>exact(tV X rfl (an:=[.b aj,.i p.length<|V.obj 862<|cX r,.c (Oc.ok<|V.bool<|lu r y) [],.b aj]) (p:=(fz<|p++[r]).length<=2^24/\_/\(_/\_/\(fz<|p++[r]).length<=2^24)/\(cL F 838 [V.obj 862<|cX r,V.obj 862<|cX y] [] (Oc.ok<|V.bool<|lu r y) [])/\_/\_/\([]:List O)=[]) 'k' ((ai (ai (ar RZ)<|au Q<|aJ _)<|ae rfl),D5,(MY,Bi,(ai (ai (ar RZ)<|au Q<|aJ _)<|ae rfl)),(j8 X U hB wI rfl 'k'<|by kspl_open zNR),H,@rfl _ aj,rfl):_)
 |false=>exact(tV X rfl (an:=[.b aj,.i p.length<|V.obj 862<|cX r,.c (Oc.ok<|V.bool<|lu r y) [],.b ao]) (p:=(fz<|p++[r]).length<=2^24/\_/\(_/\_/\(fz<|p++[r]).length<=2^24)/\(cL F 838 [V.obj 862<|cX r,V.obj 862<|cX y] [] (Oc.ok<|V.bool<|lu r y) [])/\_/\_/\([]:List O)=[]) 'k' ((ai (ai (ar RZ)<|au Q<|aJ _)<|ae rfl),D5,(MY,Bi,(ai (ai (ar RZ)<|au Q<|aJ _)<|ae rfl)),(j8 X U hB wI rfl 'k'<|by kspl_open zNR),H,@rfl _ ao,rfl):_)
theorem KS(Q:p.length<=1001)(X:bS F (KK F.w.params) (aQ<|Hd.f0 39) 11):dc F juB (mT y k p0<|p++[r],[]) .next (mT y k p0 p,[]):=by
 have U:(fz<|p++[r]).length=p.length+1:=by rw[jg,aD];rfl
 have H:pick (fz<|p++[r]) aC (ah (-1)) aC=fz p:=by rw[qV];unfold fz;rw[bx];simp
 have D:(ah (V.lst<|pick (fz<|p++[r]) aC (ah (-1)) aC):Option V)=ah (.lst<|fz p):=by rw[H]
 exact(ed X rfl .next (mT y k p0 p) [] (an:=[]) (p:=(fz<|p++[r]).length<=2^24/\_/\(_/\_/\_/\_/\_/\True)/\([]:List O)=[]) 'k' ((ai (ai (ar U)<|au Q<|aJ _)<|ae rfl),@rfl _ FV.next,(D,@rfl _<|ah<|V.obj 862<|cX y,@rfl _<|ah<|V.lst<|fz p0,@rfl _<|ah<|V.str y,@rfl _<|ah<|V.int k,trivial),rfl):_)
theorem CN(H:p.length<=1000)(Q:F.prog=PR)(hB:BS F.w F.hB)(X:bS F (KK F.w.params) (aQ<|Hd.f0 39) 11):WH F juT juB (mT y k (p++[aH])<|p++[aH],[]) .next (mT y k (p++[aH])<|d5 (iv y)<|p++[aH],[]):=
 WH.d5 (mT y k<|p++[aH]) (iv y) 1001 (PG X) (λp r h=>KR rfl (by rw[aD,aV]at h;exact cN h) Q hB X) (λp r h=>KS (by rw[aD,aV]at h;exact cN h) X) _ (p++[aH]) rfl (by rw[aD,aV];exact eS H)
theorem Bw(H:p.length<=1000)(D:aH.length<=2^13)(Q:y.length<=2^13)(U:j6 aH y=aj):
 dB 926 12 [.lst<|fz<|p++[aH],.str y,.int k] [] [] (.ok<|.lst<|fz<|p++[aH]++[y]) []:=by
 refine FN.cu (d:=11) (ab:=D1 y k<|p++[aH]) H6 Iw 'k' (xa λP S u u' Zc=>'k') λF hp hB X Y=>?_;have MY:=(iw p aH).1;have Bi:(fz<|p++[aH])[p.length]? =ah (.obj 862<|cX aH):=(iw p aH).2;have MZ:(fz<|p++[aH]).length=p.length+1:=by rw[jg,aD];rfl
 have hmk:=xO (k:=k) (p0:=p++[aH]) Q hp hB X;have hv:fz (p++[aH])++[.obj 862<|cX y]=fz (p++[aH]++[y]):=by unfold fz;rw[bx (l₂:=[y])];rfl
 rw[<-hv];exact(run X rfl (an:=[.cl (Oc.ok<|V.obj (862:aA)<|cX y) [],.i p.length<|V.obj (862:aA)<|cX aH,.c (Oc.ok<|V.bool<|j6 aH y) [],.b aj]) (p:=_/\(_/\_/\(fz<|p++[aH]).length<=2^24)/\(cL F 852 [V.obj (862:aA)<|cX aH,V.obj (862:aA)<|cX y] [] (Oc.ok<|V.bool<|j6 aH y) [])/\_/\[V.obj (862:aA)<|cX y].length<=2^24/\(fz<|p++[aH]).length+[V.obj (862:aA)<|cX y].length<=2^24/\_/\([]:List O)=[]) 'k' (hmk,(MY,Bi,(ai (ai (ar MZ)<|au H<|aJ _)<|ae rfl)),(j8 X hp hB (uE D Q) rfl 'k'<|by kspl_open zNR),U,(ae rfl),(ai (au (ai (ar MZ)<|au H<|aJ _)<|bE<|aJ _)<|ae rfl),@rfl _<|Oc.ok<|V.lst<|fz (p++[aH])++[V.obj 862<|cX y],rfl):_)
theorem Bv(hl:p.length<=1000)(h0:aH.length<=2^13)(m:y.length<=2^13)(hq:j6 aH y=ao)(hd:d5 (iv y) (p++[aH])≠[]):
 dB 926 12 [.lst<|fz<|p++[aH],.str y,.int k] [] [] (.ok<|.lst<|fz<|d5 (iv y)<|p++[aH]) []:=by
 refine FN.cu (d:=11) (ab:=D1 y k<|p++[aH]) H6 Iw 'k' (xa λP S u u' Zc=>'k') λF U hB X Y=>?_;have H:=(iw p aH).1;have z:(fz<|p++[aH])[p.length]? =ah (.obj 862<|cX aH):=(iw p aH).2;have E:(fz<|p++[aH]).length=p.length+1:=by rw[jg,aD];rfl
 have Q:(fz<|d5 (iv y)<|p++[aH]).length<=2^24:=by rw[jg];unfold d5;rw[dH];have:=(ju (iv y) (l:=(p++[aH]).reverse)).length_le;rw[dH,aD,aV]at this;lia
 have j:(!(fz<|d5 (iv y)<|p++[aH]).isEmpty)=aj:=by
  unfold fz;rw[List.isEmpty_map];cases h:d5 (iv y) (p++[aH])with
  |nil=>exact absurd h hd
  |cons a b=>rfl
 have G:=xO (k:=k) (p0:=p++[aH]) m U hB X;have D:(!!(fz<|d5 (iv y)<|p++[aH]).isEmpty)=ao:=by rw[j];rfl
 have hw:=CN (aH:=aH) (y:=y) (k:=k) hl U hB X;exact(run X rfl (an:=[.cl (Oc.ok<|V.obj (862:aA)<|cX y) [],.i p.length<|V.obj (862:aA)<|cX aH,.c (Oc.ok<|V.bool<|j6 aH y) [],.b ao,.l FV.next {loc:=[("left",V.lst<|fz<|d5 (iv y)<|p++[aH]),("here",V.obj (862:aA)<|cX y),("pile",V.lst<|fz<|p++[aH]),("text",V.str y),("number",V.int k)],obs:=[]},.b ao]) (p:=_/\(_/\_/\(fz<|p++[aH]).length<=2^24)/\(cL F 852 [V.obj (862:aA)<|cX aH,V.obj (862:aA)<|cX y] [] (Oc.ok<|V.bool<|j6 aH y) [])/\_/\_/\_/\_/\_/\_/\([]:List O)=[]) 'k' (G,(H,z,(ai (ai (ar E)<|au hl<|aJ _)<|ae rfl)),(j8 X U hB (uE h0 m) rfl 'k'<|by kspl_open zNR),hq,Y,(hw),Q,D,@rfl _<|Oc.ok<|V.lst<|fz<|d5 (iv y)<|p++[aH],rfl):_)
end
theorem NRL_witsW:oz (kS x y):=by unfold kS tF;exact fK λU U=>(trivial,trivial,trivial,trivial)
noncomputable def ifB:Option cn ->List cn
 |some (.If _ b _ _)=>b
 |_=>[]
noncomputable def ZA:cn ->aW
 | .Raise (ah e) _ _=>e
 |_=>.Name "" (0,0,0,0)
noncomputable def rzP:cn ->si
 | .Raise _ _ p=>p
 |_=>(0,0,0,0)
noncomputable def clF:aW ->aW
 | .Call f _ _ _=>f
 |e=>e
noncomputable def clA:aW ->List aW
 | .Call _ a _ _=>a
 |_=>[]
noncomputable def clP:aW ->si
 | .Call _ _ _ p=>p
 |_=>(0,0,0,0)
noncomputable def nmP:aW ->si
 | .Name _ p=>p
 |_=>(0,0,0,0)
noncomputable def RR:cn:=OA (ifB (eA<|Hd.f0 39)[4]?)[0]?
noncomputable def RT(i:Nat):aW:=(clA<|ZA RR).getD i<|.Name "" (0,0,0,0)
theorem PH:RR= .Raise (ah<|.Call (.Name "NannyNag"<|nmP<|clF<|ZA RR) [RT 0,RT 1,RT 2] []<|clP<|ZA RR) aC (rzP RR):='k'
theorem Hf(D:p.length<=1000)(G:aH.length<=2^13)(U:y.length<=2^13)(E:dB 873 5 [.lst<|kS aH y] [] [] (.ok<|.str Q) [])(H:F.prog=PR)(hB:BS F.w F.hB)(X:bS F (KK F.w.params) (aQ<|Hd.f0 39) 11):EX F RR (mT y k (p++[aH]) q,[]) (.exc<|mQ k Q y) (mT y k (p++[aH]) q,[]):=by
 have MY:=(iw p aH).1;have Bi:(fz<|p++[aH])[p.length]? =ah (.obj 862<|cX aH):=(iw p aH).2;have MZ:(fz<|p++[aH]).length=p.length+1:=by rw[jg,aD];rfl
 have e0:EV F (RT 0) (mT y k (p++[aH]) q,[]) (.int k) (mT y k (p++[aH]) q,[]):=by exact(jm X rfl (an:=[]) (p:=_/\([]:List O)=[]) 'k' (@rfl _<|V.int k,rfl):_)
 have e1:EV F (RT 1) (mT y k (p++[aH]) q,[]) (.str Q) (mT y k (p++[aH]) q,[]):=by exact(jm X rfl (an:=[.i p.length<|V.obj (862:aA)<|cX aH,.c (Oc.ok<|V.lst<|kS aH y) [],.c (Oc.ok<|V.str Q) []]) (p:=(_/\_/\(fz<|p++[aH]).length<=2^24)/\(cL F 859 [V.obj (862:aA)<|cX aH,V.obj (862:aA)<|cX y] [] (Oc.ok<|V.lst<|kS aH y) [])/\(cL F 873 [V.lst<|kS aH y] [] (Oc.ok<|V.str Q) [])/\_/\([]:List O)=[]) 'k' ((MY,Bi,(ai (ai (ar MZ)<|au D<|aJ _)<|ae rfl)),(j8 X H hB (HI G U) rfl 'k'<|by kspl_open zNR),(j8 X H hB E rfl 'k'<|by kspl_open zNR),@rfl _<|V.str Q,rfl):_)
 have e2:EV F (RT 2) (mT y k (p++[aH]) q,[]) (.str y) (mT y k (p++[aH]) q,[]):=by exact(jm X rfl (an:=[]) (p:=_/\([]:List O)=[]) 'k' (@rfl _<|V.str y,rfl):_)
 rw[PH];exact EX.Gl (d:=5) X hB rfl (EV.glo X 'k' (CX (x:="NannyNag") rfl) 'k')<|.cons 'k' e0<|.cons 'k' e1<|.cons 'k' e2 .nil
section
variable{p:List aF} {aH y:aF} {k:Int}
theorem Bu(m:p.length<=1000)(h0:aH.length<=2^13)(D:y.length<=2^13)(hq:j6 aH y=ao)(hd:d5 (iv y) (p++[aH])=[])(hf:dB 873 5 [.lst<|kS aH y] [] [] (.ok<|.str Q) []):dB 926 12 [.lst<|fz<|p++[aH],.str y,.int k] [] [] (.exc<|mQ k Q y) []:=by
 refine FN.cu (d:=11) (ab:=D1 y k<|p++[aH]) H6 Iw 'k' (xa λP S u u' Zc=>'k') λF U hB X Y=>?_;have E:=(iw p aH).1;have Bi:(fz<|p++[aH])[p.length]? =ah (.obj 862<|cX aH):=(iw p aH).2;have z:(fz<|p++[aH]).length=p.length+1:=by rw[jg,aD];rfl
 have H:(fz<|d5 (iv y)<|p++[aH]).length<=2^24:=by rw[jg];unfold d5;rw[dH];have:=(ju (iv y) (l:=(p++[aH]).reverse)).length_le;rw[dH,aD,aV]at this;lia
 have hem:(!(fz<|d5 (iv y)<|p++[aH]).isEmpty)=ao:=by rw[hd];rfl
 have G:(!!(fz<|d5 (iv y)<|p++[aH]).isEmpty)=aj:=by rw[hem];rfl
 have j:=xO (k:=k) (p0:=p++[aH]) D U hB X;have hw:=CN (aH:=aH) (y:=y) (k:=k) m U hB X;have hx:=Hf (q:=d5 (iv y)<|p++[aH]) m h0 D hf U hB X (p:=p) (k:=k);exact(run X rfl (an:=[.cl (Oc.ok<|V.obj (862:aA)<|cX y) [],.i p.length<|V.obj (862:aA)<|cX aH,.c (Oc.ok<|V.bool<|j6 aH y) [],.b ao,.l FV.next {loc:=[("left",V.lst<|fz<|d5 (iv y)<|p++[aH]),("here",V.obj (862:aA)<|cX y),("pile",V.lst<|fz<|p++[aH]),("text",V.str y),("number",V.int k)],obs:=[]},.b aj,.s (FV.exc<|mQ k Q y) {loc:=[("left",V.lst<|fz<|d5 (iv y)<|p++[aH]),("here",V.obj (862:aA)<|cX y),("pile",V.lst<|fz<|p++[aH]),("text",V.str y),("number",V.int k)],obs:=[]}]) (p:=_/\(_/\_/\(fz<|p++[aH]).length<=2^24)/\(cL F 852 [V.obj (862:aA)<|cX aH,V.obj (862:aA)<|cX y] [] (Oc.ok<|V.bool<|j6 aH y) [])/\_/\_/\_/\_/\_/\_/\_/\([]:List O)=[]) 'k' (j,(E,Bi,(ai (ai (ar z)<|au m<|aJ _)<|ae rfl)),(j8 X U hB (uE h0 D) rfl 'k'<|by kspl_open zNR),hq,Y,(hw),H,G,(hx),@rfl _<|Oc.exc<|mQ k Q y,rfl):_)
end
section
variable{n:Int} {m ln:aF}
theorem Ee:dB 780 1 [.obj 797<|zG n m ln] [] [] (.ok<|.int n) []:=by refine FN.cu (d:=0) (ab:=[("self",.obj 797<|zG n m ln)]) Vm Wg 'k' (bind1 λP S u=>'k') λF Q hB X Y=>?_;exact x1<|dc.stop (EX.ret<|EV.attr rfl (EV.loc X rfl 'k')<|nQ.GP X.kb 'k' rfl rfl) rfl
theorem Qd:dB 787 1 [.obj 797<|zG n m ln] [] [] (.ok<|.str m) []:=by refine FN.cu (d:=0) (ab:=[("self",.obj 797<|zG n m ln)]) Vl Wf 'k' (bind1 λP S u=>'k') λF Q hB X Y=>?_;exact x1<|dc.stop (EX.ret<|EV.attr rfl (EV.loc X rfl 'k')<|nQ.GP X.kb 'k' rfl rfl) rfl
theorem HS:dB 794 1 [.obj 797<|zG n m ln] [] [] (.ok<|.str ln) []:=by refine FN.cu (d:=0) (ab:=[("self",.obj 797<|zG n m ln)]) Vk We 'k' (bind1 λP S u=>'k') λF Q hB X Y=>?_;exact x1<|dc.stop (EX.ret<|EV.attr rfl (EV.loc X rfl 'k')<|nQ.GP X.kb 'k' rfl rfl) rfl
end
noncomputable def pR:List cn:=kX<|(eA<|Hd.f0 40)[1]?
structure RS where
 rows:List V
 bT:List V
 pile:List aF
 held:aF
 num:Int
noncomputable abbrev RS.L(cR:aF)(s:RS):List (aF×V):=[("number",.int s.num),("held",.str s.held),("pile",.lst<|fz s.pile),("nags",.ref 1),("rows",.ref 0),("page",.str cR)]
noncomputable abbrev RS.O(s:RS):List O:=[.list s.rows,.list s.bT]
theorem TQ:isSubtype (.type<|(tv "ValueError").elim "type" λx=>x.metatype) (.type "tuple")=pure ao:=by rw[show(tv "ValueError").elim "type" (λx=>x.metatype)="type"from 'k',eW];kernel_rfl
theorem Oz:isSubtype (.type "ValueError") (.type "ValueError")=pure aj:=by rw[eW];kernel_rfl
theorem cfx(X:bS F (KK F.w.params) sc D)(U:F.prog=PR)(hB:BS F.w F.hB)(h:dB f e args Q [] (.exc y) [])(z:e<=D)(G:((KK F.w.params).lookup f).any (λo=>match o.data with| .func _=>aj|_=>ao)=aj)(u:oz args)(E:yx Q)(H:yx y.att):∀l,dM F (.ref f) args Q (l,o) (.exc y) (l,o):=λl=>W.aaP X z U hB G h u E H
noncomputable def tyB:cn ->List cn
 | .Try b _ _ _ _=>b
 |_=>[]
noncomputable def Zi:cn ->List cn
 | .Try _ _ o _ _=>o
 |_=>[]
noncomputable def tyP:cn ->si
 | .Try _ _ _ _ p=>p
 |_=>(0,0,0,0)
noncomputable def ME:cn:=OA pR[2]?
noncomputable def RJ:cn:=OA (ifB (Zi ME)[0]?)[0]?
noncomputable abbrev sH:cn:=.AugAssign (.Name "held" (909,12,909,16)) .Add (.Constant (.str "\n") 0 (909,20,909,24)) (909,12,909,24)
noncomputable abbrev gN(name:aF)(a b c:Nat):aW:=.Call (.Attribute (.Name "nag" (916,a,916,a+3)) name (916,a,916,b)) [] [] (916,a,916,c)
noncomputable abbrev sN:cn:=.Expr (.Call (.Attribute (.Name "nags" (916,20,916,24)) "append" (916,20,916,31)) [.Tuple [gN "get_lineno" 33 47 49,gN "get_msg" 51 62 64,gN "get_line" 66 78 80] 0 (916,32,916,81)] [] (916,20,916,82)) (916,20,916,82)
theorem O7:ME= .Try (tyB ME) [.ExceptHandler (ah<|.Name "ValueError" (908,15,908,25)) aC [sH] (908,8,909,24)] (Zi ME) [] (tyP ME):='k'
theorem O6:RJ= .Try (tyB RJ) [.ExceptHandler (ah<|.Name "NannyNag" (915,23,915,31)) (ah "nag") [sN] (915,16,916,82)] (Zi RJ) [] (tyP RJ):='k'
section
variable{F:Fx} {cR ln:aF} {s:RS} {ws:List V} {kc:V} {p' :List aF} {msg:aF}
noncomputable abbrev RS.C1(cR ln:aF)(s:RS):List (aF×V):=("line",.str ln)::RS.L cR {s with held:=s.held++ln,num:=s.num+1}
noncomputable abbrev RS.L1(cR ln:aF)(s:RS):List (aF×V):=("held",.str<|s.held++ln)::("number",.int<|s.num+1)::("line",.str ln)::s.L cR
theorem O4(Q:dB 744 14 [.str<|s.held++ln] [("comments",.bool aj)] [] (.exc mE) [])(hz:s.held.length+ln.length<=2^16)(H:F.prog=PR)(hB:BS F.w F.hB)(X:bS F (KK F.w.params) (aQ<|Hd.f0 40) 15)(Y:sd F):
 EX F ME (RS.C1 cR ln s,s.O) .next (("held",.str<|s.held++ln++"\n")::RS.C1 cR ln s,s.O):=by
 have hb:dc F (tyB ME) (RS.C1 cR ln s,s.O) (.exc mE) (RS.C1 cR ln s,s.O):=by exact(ed X rfl _ _ _ (an:=[.c (Oc.exc mE) s.O]) (p:=(∀(l:List (aF×V)),dM F (cg 744) [V.str<|s.held++ln] [("comments",V.bool aj)] {loc:=l,obs:=[O.list s.rows,O.list s.bT]} (Oc.exc mE) {loc:=l,obs:=[O.list s.rows,O.list s.bT]})/\_/\(_/\_/\_/\_/\_/\_/\_/\True)/\_) 'k' ((cfx ‹bS _ _ _ _› ‹_› ‹_› Q (by exact aM ..) 'k' (by kspl_open zNR) (by kspl_open zNR) (by kspl_open zNR)),@rfl _<|FV.exc mE,(@rfl _<|ah<|V.str ln,@rfl _<|ah<|V.int<|s.num+1,@rfl _<|ah<|V.str<|s.held++ln,@rfl _<|ah<|V.lst<|fz s.pile,@rfl _<|ah<|V.ref 1,@rfl _<|ah<|V.ref 0,@rfl _<|ah<|V.str cR,trivial),@rfl _ s.O):_)
 have h1:(aa "\n").length=1:='k';have h2:(s.held++ln).length+(aa "\n").length<=2^24:=by rw[bp,h1];exact(dz hz 'd')
 rw[O7];refine EX.Zk X Y (by exact aM ..) PySem.F.excRaise_ValueError.isExc TQ Oz 'k' 'k' uX 'k' (by with_reducible assumption) (λF' hp' hw' hB' X' Y' =>?_) rfl;exact dc.cons (W.aug X' 'k' 'k' rfl EV.str<|ES.LY h2) dc.nil
theorem Kk(Q:dB 744 14 [.str<|s.held++ln] [("comments",.bool aj)] [] (.exc mE) [])(hz:s.held.length+ln.length<=2^16)(H:F.prog=PR)(hB:BS F.w F.hB)(X:bS F (KK F.w.params) (aQ<|Hd.f0 40) 15)(Y:sd F):
 dc F pR (("line",.str ln)::s.L cR,s.O) .next (RS.L cR {s with held:=s.held++ln++"\n",num:=s.num+1},s.O):=by
 have U:=O4 (cR:=cR) Q hz H hB X Y;have D:dc F [ME] (RS.C1 cR ln s,s.O) .next (RS.L cR {s with held:=s.held++ln++"\n",num:=s.num+1},s.O):=dc.less (st₁:=(("held",.str<|s.held++ln++"\n")::RS.C1 cR ln s,s.O)) (dc.cons (by with_reducible assumption) dc.nil) (rfl,rfl,rfl,rfl,rfl,rfl,trivial);exact(xt 2 X rfl _ _ (by with_reducible assumption) 'k' (an:=[]) (p:=_/\_/\(_/\_/\_/\_/\_/\_/\_/\True)/\_) 'k' ((CF hz rfl),@rfl _ FV.next,(@rfl _<|ah<|V.str ln,@rfl _<|ah<|V.int<|s.num+1,@rfl _<|ah<|V.str<|s.held++ln,@rfl _<|ah<|V.lst<|fz s.pile,@rfl _<|ah<|V.ref 1,@rfl _<|ah<|V.ref 0,@rfl _<|ah<|V.str cR,trivial),@rfl _ s.O):_)
theorem Gj(Q:dB 744 14 [.str<|s.held++ln] [("comments",.bool aj)] [] (.ok<|.lst []) [])(hz:s.held.length+ln.length<=2^16)(H:F.prog=PR)(hB:BS F.w F.hB)(X:bS F (KK F.w.params) (aQ<|Hd.f0 40) 15)(Y:sd F):
 dc F pR (("line",.str ln)::s.L cR,s.O) .next (RS.L cR {s with held:="",num:=s.num+1},s.O):=by
 have h0:(!([]:List V).isEmpty)=ao:=rfl;exact(ed X rfl _ _ _ (an:=[.c (Oc.ok<|V.lst []) s.O,.b ao]) (p:=_/\(∀(l:List (aF×V)),dM F (cg (744:aA)) [V.str<|s.held++ln] [("comments",V.bool aj)] {loc:=l,obs:=[O.list s.rows,O.list s.bT]} (Oc.ok<|V.lst []) {loc:=l,obs:=[O.list s.rows,O.list s.bT]})/\([]:List V).length<=2^24/\_/\_/\(_/\_/\_/\_/\_/\_/\True)/\_) 'k' ((CF hz rfl),(j8 X H hB Q rfl 'k'<|by kspl_open zNR),(ai (aJ _)<|ae rfl),h0,@rfl _ FV.next,(@rfl _<|ah<|V.int<|s.num+(1:Int),@rfl _<|ah<|V.str "",@rfl _<|ah<|V.lst<|fz s.pile,@rfl _<|ah<|V.ref 1,@rfl _<|ah<|V.ref 0,@rfl _<|ah<|V.str cR,trivial),@rfl _ s.O):_)
theorem Ts(D:dB 744 14 [.str<|s.held++ln] [("comments",.bool aj)] [] (.ok<|.lst (kc::ws)) [])(G:oz (kc::ws))(Q:(kc::ws).length<=2^24)(hz:s.held.length+ln.length<=2^16)(H:p'.length<=2^20)(E:s.rows.length<2^20)(u:dB 926 12 [.lst<|fz s.pile,.str<|s.held++ln,.int<|s.num+1] [] [] (.ok<|.lst<|fz p') [])(U:F.prog=PR)(hB:BS F.w F.hB)(X:bS F (KK F.w.params) (aQ<|Hd.f0 40) 15)(Y:sd F):
 dc F pR (("line",.str ln)::s.L cR,s.O) .next (RS.L cR {s with rows:=s.rows++[.tup [.int<|((fz p').length:Int) -1,.lst (kc::ws)]],pile:=p',held:="",num:=s.num+1},s.O.set 0<|.list<|s.rows++[.tup [.int<|((fz p').length:Int) -1,.lst (kc::ws)]]):=by
 have R2:(fz p').length<=2^20:=by rw[jg];exact H
 have h0:(!(kc::ws).isEmpty)=aj:=rfl;exact(ed X rfl _ _ _ (an:=[.c (Oc.ok<|V.lst (kc::ws)) s.O,.b aj,.c (Oc.ok<|V.lst<|fz p') s.O]) (p:=_/\(∀(l:List (aF×V)),dM F (cg (744:aA)) [V.str<|s.held++ln] [("comments",V.bool aj)] {loc:=l,obs:=[O.list s.rows,O.list s.bT]} (Oc.ok<|V.lst (kc::ws)) {loc:=l,obs:=[O.list s.rows,O.list s.bT]})/\_/\_/\(cL F 926 [V.lst<|fz s.pile,V.str<|s.held++ln,V.int<|s.num+1] [O.list s.rows,O.list s.bT] (Oc.ok<|V.lst<|fz p') [O.list s.rows,O.list s.bT])/\_/\[V.int<|(↑(fz p').length) -1,V.lst (kc::ws)].length<=2^24/\s.rows.length<=2^24/\_/\(_/\_/\_/\_/\_/\_/\True)/\_) 'k' ((CF hz rfl),(j8 X U hB D rfl 'k'<|by kspl_open zNR),Q,h0,(j8 X U hB u rfl 'k'<|by kspl_open zNR),(CF R2 rfl),(ae rfl),(by omega),@rfl _ FV.next,(@rfl _<|ah<|V.int<|s.num+1,@rfl _<|ah<|V.str "",@rfl _<|ah<|V.lst<|fz p',@rfl _<|ah<|V.ref 1,@rfl _<|ah<|V.ref 0,@rfl _<|ah<|V.str cR,trivial),@rfl _ [O.list<|s.rows++[V.tup [V.int<|(↑(fz p').length) -1,V.lst (kc::ws)]],O.list s.bT]):_)
theorem Pl(P:aB):findIn (KK P) (.ref 797) "get_lineno"=ah (ah<|.ref 780):='k'
theorem Pk(P:aB):findIn (KK P) (.ref 797) "get_msg"=ah (ah<|.ref 787):='k'
theorem Pj(P:aB):findIn (KK P) (.ref 797) "get_line"=ah (ah<|.ref 794):='k'
theorem SQ(h:ef loc l)(Q:loc.lookup n=aC):∀y v,loc.lookup y=ah v ->y≠n/\l.lookup y=ah v:=λy v e=>(λq=>by(rw[q,Q]at e;cases e),h.get y v e)
noncomputable abbrev RS.C2(cR ln:aF)(s:RS)(w:V):List (aF×V):=("words",w)::RS.C1 cR ln s
noncomputable abbrev RS.L2(cR ln:aF)(s:RS)(w:V):List (aF×V):=("words",w)::RS.L1 cR ln s
theorem xF(X:bS Q (KK Q.w.params) sc 2)(D:Q.prog=PR)(hB:BS Q.w Q.hB)(G:Xx ("nag":aF) l=ah (V.obj 797 at_))(y:findIn (KK Q.w.params) (.ref 797) name=ah (ah<|.ref f))(U:typeIn (KK Q.w.params) (.ref f)=ah (.type "function"))(E:at_.lookup name=aC)(h:dB f 1 [.obj 797 at_] [] [] (.ok v) [])(u:((KK Q.w.params).lookup f).any (λo=>match o.data with| .func _=>aj|_=>ao)=aj)(z:yx at_)(H:NR v):EV Q (gN name a b c) (l,o) v (l,o):=
 vg.ev (vg.Pn rfl rfl rfl (by simp) (EV.loc X G 'k') (GM.GP X.kb y U E) vE.nil<|j8 X D hB h rfl u ((z,trivial),trivial,H) l)
theorem Kf(U:oz (kc::ws))(hz:s.held.length+ln.length<=2^16)(Q:s.bT.length<2^20)(D:dB 926 12 [.lst<|fz s.pile,.str<|s.held++ln,.int<|s.num+1] [] [] (.exc<|mQ (s.num+1) msg<|s.held++ln) [])(H:F.prog=PR)(hB:BS F.w F.hB)(X:bS F (KK F.w.params) (aQ<|Hd.f0 40) 15)(Y:sd F):
 EX F RJ (RS.L2 cR ln s<|.lst (kc::ws),s.O) .next (RS.C2 cR ln s<|.lst (kc::ws),s.O.set 1<|.list<|s.bT++[.tup [.int<|s.num+1,.str msg,.str<|s.held++ln]]):=by
 have hb:dc F (tyB RJ) (RS.L2 cR ln s<|.lst (kc::ws),s.O) (.exc<|mQ (s.num+1) msg<|s.held++ln) (RS.C2 cR ln s<|.lst (kc::ws),s.O):=by exact(ed X rfl _ _ _ (an:=[.c (Oc.exc<|mQ (s.num+1) msg<|s.held++ln) s.O]) (p:=(cL F 926 [V.lst<|fz s.pile,V.str<|s.held++ln,V.int<|s.num+1] [O.list s.rows,O.list s.bT] (Oc.exc<|mQ (s.num+1) msg<|s.held++ln) [O.list s.rows,O.list s.bT])/\_/\(_/\_/\_/\_/\_/\_/\_/\_/\True)/\_) 'k' ((cfx ‹bS _ _ _ _› ‹_› ‹_› D (by exact aM ..) 'k' (by kspl_open zNR) (by kspl_open zNR) (by kspl_open zNR)),@rfl _<|FV.exc<|mQ (s.num+1) msg<|s.held++ln,(@rfl _<|ah<|V.lst (kc::ws),@rfl _<|ah<|V.str ln,@rfl _<|ah<|V.int<|s.num+1,@rfl _<|ah<|V.str<|s.held++ln,@rfl _<|ah<|V.lst<|fz s.pile,@rfl _<|ah<|V.ref 1,@rfl _<|ah<|V.ref 0,@rfl _<|ah<|V.str cR,trivial),@rfl _ s.O):_)
 rw[O6];refine EX.SO (fl:=.next) (aN:=(("nag",.obj 797<|zG (s.num+1) msg<|s.held++ln)::RS.C2 cR ln s (.lst (kc::ws)),s.O.set 1<|.list<|s.bT++[.tup [.int<|s.num+1,.str msg,.str<|s.held++ln]])) (C:=797) (att:=zG (s.num+1) msg<|s.held++ln) X Y (by exact aM ..) 'k' (cF _ _) 'k' 'k' 'k' 'k' (by with_reducible assumption) (λF' hp' hw' hB' X' Y' =>?_) rfl (SQ ?_ 'k');case _=>
  have X3:=hp'.trans H;have Yi:BS F'.w F'.hB:=by rw[hw',hB'];exact hB
  rw[<-hw']at X';refine dc.cons (EX.expr X' 'k'<|vg.ev<|vg.Pn rfl rfl rfl rfl (EV.loc X' rfl 'k') (GM.append rfl) (.cons rfl (EV.tuple (.cons rfl (xF X' X3 Yi rfl (Pl _) 'k' 'k' Ee 'k' (trivial,trivial,trivial,trivial) trivial)<|.cons rfl (xF X' X3 Yi rfl (Pk _) 'k' 'k' Qd 'k' (trivial,trivial,trivial,trivial) trivial)<|.cons rfl (xF X' X3 Yi rfl (Pj _) 'k' 'k' HS 'k' (trivial,trivial,trivial,trivial) trivial) .nil)<|ae rfl) .nil)<|dM.append rfl<|by lia) dc.nil
 case _=>exact(rfl,rfl,rfl,rfl,rfl,rfl,rfl,rfl,trivial)
theorem O5(E:dB 744 14 [.str<|s.held++ln] [("comments",.bool aj)] [] (.ok<|.lst (kc::ws)) [])(U:oz (kc::ws))(Q:(kc::ws).length<=2^24)(hz:s.held.length+ln.length<=2^16)(H:s.bT.length<2^20)(G:dB 926 12 [.lst<|fz s.pile,.str<|s.held++ln,.int<|s.num+1] [] [] (.exc<|mQ (s.num+1) msg<|s.held++ln) [])(D:F.prog=PR)(hB:BS F.w F.hB)(X:bS F (KK F.w.params) (aQ<|Hd.f0 40) 15)(Y:sd F):
 dc F pR (("line",.str ln)::s.L cR,s.O) .next (RS.L cR {s with bT:=s.bT++[.tup [.int<|s.num+1,.str msg,.str<|s.held++ln]],held:="",num:=s.num+1},s.O.set 1<|.list<|s.bT++[.tup [.int<|s.num+1,.str msg,.str<|s.held++ln]]):=by
 have h0:(!(kc::ws).isEmpty)=aj:=rfl;have hx:=Kf (cR:=cR) U hz H G D hB X Y;exact(ed X rfl _ _ _ (an:=[.c (Oc.ok<|V.lst (kc::ws)) s.O,.b aj,.s FV.next {loc:=[("words",V.lst (kc::ws)),("line",V.str ln),("number",V.int<|s.num+1),("held",V.str<|s.held++ln),("pile",V.lst<|fz s.pile),("nags",V.ref 1),("rows",V.ref 0),("page",V.str cR)],obs:=[O.list s.rows,O.list<|s.bT++[V.tup [V.int<|s.num+1,V.str msg,V.str<|s.held++ln]]]}]) (p:=_/\(∀(l:List (aF×V)),dM F (cg 744) [V.str<|s.held++ln] [("comments",V.bool aj)] {loc:=l,obs:=[O.list s.rows,O.list s.bT]} (Oc.ok<|V.lst (kc::ws)) {loc:=l,obs:=[O.list s.rows,O.list s.bT]})/\_/\_/\_/\_/\(_/\_/\_/\_/\_/\_/\True)/\_) 'k' ((CF hz rfl),(j8 X D hB E rfl 'k'<|by kspl_open zNR),Q,h0,(hx),@rfl _ FV.next,(@rfl _<|ah<|V.int<|s.num+1,@rfl _<|ah<|V.str "",@rfl _<|ah<|V.lst<|fz s.pile,@rfl _<|ah<|V.ref 1,@rfl _<|ah<|V.ref 0,@rfl _<|ah<|V.str cR,trivial),@rfl _ [O.list s.rows,O.list<|s.bT++[V.tup [V.int<|s.num+1,V.str msg,V.str<|s.held++ln]]]):_)
end
inductive jx (s:RS) (ln:aF):RS ->Prop
 |hold:dB 744 14 [.str<|s.held++ln] [("comments",.bool aj)] [] (.exc mE) []->jx s ln {s with held:=s.held++ln++"\n",num:=s.num+1}
 |blank:dB 744 14 [.str<|s.held++ln] [("comments",.bool aj)] [] (.ok<|.lst []) []->jx s ln {s with held:="",num:=s.num+1}
 |ok (ws:List V) (p' :List aF):dB 744 14 [.str<|s.held++ln] [("comments",.bool aj)] [] (.ok<|.lst ws) []->ws≠[]->oz ws ->ws.length<=2^24 ->p'.length<=2^20 ->s.rows.length<2^20 ->
  dB 926 12 [.lst<|fz s.pile,.str<|s.held++ln,.int<|s.num+1] [] [] (.ok<|.lst<|fz p') []->jx s ln {s with rows:=s.rows++[.tup [.int<|(p'.length:Int) -1,.lst ws]],pile:=p',held:="",num:=s.num+1}
 |GP (ws:List V) (msg:aF):dB 744 14 [.str<|s.held++ln] [("comments",.bool aj)] [] (.ok<|.lst ws) []->ws≠[]->oz ws ->ws.length<=2^24 ->s.bT.length<2^20 ->
  dB 926 12 [.lst<|fz s.pile,.str<|s.held++ln,.int<|s.num+1] [] [] (.exc<|mQ (s.num+1) msg<|s.held++ln) []->jx s ln {s with bT:=s.bT++[.tup [.int<|s.num+1,.str msg,.str<|s.held++ln]],held:="",num:=s.num+1}
inductive iW:RS ->List aF ->RS ->Prop
 |nil (s:RS):iW s [] s
 |cons {s a7 fW:RS} {ln:aF} {ls:List aF}:s.held.length+ln.length<=2^16 ->jx s ln a7 ->iW a7 ls fW ->iW s (ln::ls) fW
def RS.nr(s:RS):Prop:=oz s.rows/\oz s.bT
theorem Ax:oz l ->NR v ->oz (l++[v]):=by
 intro h H;induction l with
 |nil=>exact(H,trivial)
 |cons x U Q=>exact(h.1,Q h.2)
theorem jx.nr(h:jx s ln s')(i:s.nr):s'.nr:=by
 cases h with
 |hold _=>exact i
 |blank _=>exact i
 |ok Q U _ _ h _ _ _ _=>exact(Ax i.1 (trivial,h,trivial),i.2)
 |GP Q H _ _ h _ _ _=>exact(i.1,Ax i.2 (trivial,trivial,trivial,trivial))
theorem iW.nr(h:iW s H s'):s.nr ->s'.nr:=by
 induction h with
 |nil=>exact id
 |cons _ h _ Q=>exact λi=>Q<|h.nr i
section
variable{F:Fx} {cR ln:aF} {s s' :RS}
theorem Kg(h:jx s ln s')(hz:s.held.length+ln.length<=2^16)(G:F.prog=PR)(hB:BS F.w F.hB)(X:bS F (KK F.w.params) (aQ<|Hd.f0 40) 15)(Y:sd F):
 dc F pR (("line",.str ln)::s.L cR,s.O) .next (RS.L cR s',s'.O):=by
 cases h with
 |hold h=>exact Kk h hz G hB X Y
 |blank h=>exact Gj h hz G hB X Y
 |ok E j h D U Q u H y=>
  cases E with
  |nil=>exact absurd rfl D
  |cons w E=>
   have:=Ts (cR:=cR) h U Q hz u H y G hB X Y;rw[jg]at this;exact this
 |GP E z h D U Q H y=>
  cases E with
  |nil=>exact absurd rfl D
  |cons w E=>exact O5 h U Q hz H y G hB X Y
theorem Ki(h:iW s Q s')(D:F.prog=PR)(hB:BS F.w F.hB)(X:bS F (KK F.w.params) (aQ<|Hd.f0 40) 15)(Y:sd F):gF F (.Name "line" px) pR (Q.map V.str) (s.L cR,s.O) .next (s'.L cR,s'.O):=by
 induction h with
 |nil s=>exact(rfl,rfl)
 |cons U h _ H=>exact(_,_,_,sJ.name X 'k',Kg h U D hB X Y,H)
end
theorem fz2:∀o∈[O.list [],O.list []],Rp n ex o:=λo h=>by
 rcases List.mem_cons.mp h with h|h
 .rw[h];exact .nil
 .rw[List.mem_singleton.mp h];exact .nil
theorem KI(Q:F.prog=PR)(hB:BS F.w F.hB)(X:bS F (KK F.w.params) (aQ<|Hd.f0 40) 15):dM F (.ref 862) [.str ""] [] ([("page",.str cR)],[.list [],.list []]) (.ok<|.obj 862<|cX<|aa "") ([("page",.str cR)],[.list [],.list []]):=by
 refine W.zI (e:=4) X (by exact aM ..) Q hB 'k' 'k' 'k' (Nl (d:=0)<|by exact bH _) ?_ ?_ ?_ ?_
 .exact(trivial,trivial)
 .exact NRA_wsObj _
 .exact fz2
 .exact rn (trivial,trivial)
theorem Aa(h:iW ([],[],[aa ""],"",0) (aO cR "\n") s)(hz:cR.length<=2^20):dB 933 16 [.str cR] [] [] (.ok<|.tup [.ref 0,.ref 1,.str s.held]) s.O:=by refine FN.cu (d:=15) (ab:=[(Prod.mk "page"<|.str cR)]) U9 VT 'k' (bind1 λP S u=>'k') λF H hB X Y=>?_;have U:∀px,gF F (.Name "line" px) pR ((aO cR "\n").map V.str) ([(Prod.mk "number"<|.int 0),(Prod.mk "held"<|.str ""),(Prod.mk "pile"<|.lst<|fz [aa ""]),(Prod.mk "nags"<|.ref 1),(Prod.mk "rows"<|.ref 0),(Prod.mk "page"<|.str cR)],[.list [],.list []]) .next (s.L cR,s.O):=λpx=>Ki (px:=px) (cR:=cR) h H hB X Y;have Q:=KI (cR:=cR) H hB X;exact(run X rfl (an:=[An.b aj,An.b aj,An.cl (Oc.ok<|V.obj (862:aA)<|cX<|aa "") [O.list [],O.list []],An.l FV.next {loc:=[(Prod.mk (aa "number")<|V.int s.num),(Prod.mk (aa "held")<|V.str s.held),(Prod.mk (aa "pile")<|V.lst<|fz s.pile),(Prod.mk (aa "nags")<|V.ref 1),(Prod.mk (aa "rows")<|V.ref 0),(Prod.mk (aa "page")<|V.str cR)],obs:=[O.list s.rows,O.list s.bT]}]) (p:=dM F (cg (862:aA)) [V.str<|aa ""] [] {loc:=[(Prod.mk (aa "page")<|V.str cR)],obs:=[O.list [],O.list []]} (Oc.ok<|V.obj (862:aA)<|cX<|aa "") {loc:=[(Prod.mk (aa "page")<|V.str cR)],obs:=[O.list [],O.list []]}/\[V.obj (862:aA)<|cX<|aa ""].length<=2^24/\[V.ref ([]:List V).length,V.ref ([]++[O.list []]).length,V.lst [V.obj (862:aA)<|cX<|aa ""],V.str<|aa "",V.int (0:Int)].length<=2^24/\cR.length<=2^20/\True/\gF F (dg (aa "line") (Prod.mk (aa "line")<|{line:=903,col:=8,endLine:=903,endCol:=12}).snd) pR (aP V.str<|aO cR<|aa "\n") {loc:=[(Prod.mk (aa "number")<|V.int (0:Int)),(Prod.mk (aa "held")<|V.str<|aa ""),(Prod.mk (aa "pile")<|V.lst<|fz [aa ""]),(Prod.mk (aa "nags")<|V.ref 1),(Prod.mk (aa "rows")<|V.ref 0),(Prod.mk (aa "page")<|V.str cR)],obs:=[O.list [],O.list []]} FV.next {loc:=RS.L cR s,obs:=s.O}/\[V.ref 0,V.ref 1,V.str s.held].length<=2^24/\Oc.ok (V.tup [V.ref 0,V.ref 1,V.str s.held])=Oc.ok (V.tup [V.ref 0,V.ref 1,V.str s.held])/\s.O=s.O) 'k' (Q,(ae rfl),(ae rfl),hz,trivial,(U _),(ae rfl),rfl,rfl):_)
theorem uF(h:iW ([],[],[aa ""],"",0) (aO cR "\n") s)(hz:cR.length<=2^20):dB 933 16 [.str cR] [] [] (.ok<|.tup [.lst s.rows,.lst s.bT,.str s.held]) []:=
 FN.drop (obs:=[]) (cS:=[]) (Aa h hz) rfl (λo Q=>nomatch Q) (.tup<|.cons (Fz.list (j:=0) rfl<|lq (h.nr (trivial,trivial)).1)<|.cons (Fz.list (j:=1) rfl<|lq (h.nr (trivial,trivial)).2)<|.cons (.str _) .nil)
theorem zE:(aa "\n")=⟨#[10]⟩:='k'
theorem zX:∀{us vs:List (List Nat)},us≠[]->vs≠[]->(∀u∈us,c∉u)->(∀v∈vs,c∉v)->glue [c] us=glue [c] vs ->us=vs
 |[],_,h,_,_,_,_=>absurd rfl h
 |_,[],_,h,_,_,_=>absurd rfl h
 |[u],[v],_,_,_,_,h=>by rw[show u=v from h]
 |[u],v::w::r,_,_,E,_,h=>by have h:u=v++(c::glue [c] (w::r)):=h;exact absurd (by rw[h];simp) (E u<|.head _)
 |u::x::q,[v],_,_,_,D,h=>by have h:u++(c::glue [c] (x::q))=v:=h;exact absurd (by rw[<-h];simp) (D v<|.head _)
 |u::x::q,v::w::r,_,_,E,D,h=>by
  have h:u++(c::glue [c] (x::q))=v++(c::glue [c] (w::r)):=h;have e:u=v/\glue [c] (x::q)=glue [c] (w::r):=by
   rcases List.append_eq_append_iff.mp h with⟨U,H,Q⟩|⟨U,H,Q⟩
   .cases U with
    |nil=>exact(by simpa using H.symm,by simpa using Q)
    |cons y U=>
     obtain⟨rfl,_⟩:=dn Q;exact absurd (by rw[H];simp)<|D v<|.head _
   .cases U with
    |nil=>exact(by simpa using H,by simpa using Q.symm)
    |cons y U=>
     obtain⟨rfl,_⟩:=dn Q;exact absurd (by rw[H];simp)<|E u<|.head _
  rw[e.1,zX (cF _ _) (cF _ _) (λz G=>E z<|.tail _ G) (λz G=>D z<|.tail _ G) e.2]
theorem x7(h:bZ x=bZ y):x=y:=by rw[<-ve x,<-ve y];exact congrArg S h
theorem rV:∀{l m:List aF},l.map bZ=m.map bZ ->l=m
 |[],[],_=>rfl
 |[],_::_,h=>by cases h
 |_::_,[],h=>by cases h
 |x::l,y::m,h=>by obtain⟨H,Q⟩:=dn h;rw[x7 H,rV Q]
theorem G0(D:H≠[])(G:∀p∈H,10∉bZ p)(h:bZ x=glue [10] (H.map bZ)):aO x "\n"=H:=by
 apply rV;refine zX (c:=10) ?_ ?_ ?_ ?_ ?_
 .intro q;have:=se x "\n";have E:=congrArg eP q;rw[ax]at E;rw[E]at this;exact absurd this 'd'
 .intro q;exact D<|List.map_eq_nil_iff.mp q
 .intro u U;obtain⟨p,Q,rfl⟩:=List.mem_map.mp U;rw[zE]at Q;exact kK x 10 p Q
 .intro u U;obtain⟨p,Q,rfl⟩:=List.mem_map.mp U;exact G p Q
 .rw[<-h,zE,show([10]:List Nat)=bZ ⟨#[10]⟩from rfl,<-gX,iR]
theorem kE:∀p∈aO x "\n",10∉bZ p:=λp Q=>by rw[zE]at Q;exact kK x 10 p Q
theorem lQ(x:aF):aO x "\n"≠[]:=λq=>by have:=se x "\n";rw[q]at this;exact absurd this 'd'
theorem kD(x:aF):bZ x=glue [10] ((aO x "\n").map bZ):=by rw[zE,show([10]:List Nat)=bZ ⟨#[10]⟩from rfl,<-gX,iR]
theorem zY:∀{us vs:List (List Nat)},us≠[]->vs≠[]->glue g (us++vs)=glue g us++(g++glue g vs)
 |[],_,h,_=>absurd rfl h
 |[u],v::r,_,_=>rfl
 |[_],[],_,h=>absurd rfl h
 |u::w::q,vs,_,Q=>by show u++(g++glue g (w::q++vs))=_;rw[zY (us:=w::q) (cF _ _) Q];show _=u++(g++glue g (w::q))++(g++glue g vs);simp
theorem wA(f:aF ->List aF)(Q:∀x,f x≠[]/\bZ x=glue g ((f x).map bZ)):∀xs:List aF,xs≠[]->glue g (xs.map bZ)=glue g ((xs.flatMap f).map bZ)
 |[],h=>absurd rfl h
 |[x],_=>by show bZ x=_;rw[cW,List.flatMap_nil,cb];exact(Q x).2
 |x::y::r,_=>by show bZ x++(g++glue g ((y::r).map bZ))=_;rw[cW,bx,zY (λq=>(Q x).1<|List.map_eq_nil_iff.mp q) (λq=>?_),<-(Q x).2,wA f Q (y::r)<|cF _ _];rw[cW,bx]at q;exact(Q y).1 (List.map_eq_nil_iff.mp (List.append_eq_nil_iff.mp q).1)
theorem ud(h:xs≠[]):aO (aY "\n" xs) "\n"=xs.flatMap λx=>aO x "\n":=by
 refine G0 (λq=>?_) (λp Q=>?_) ?_
 .cases xs with
  |nil=>exact h rfl
  |cons x r=>rw[cW]at q;exact lQ x (List.append_eq_nil_iff.mp q).1
 .obtain⟨x,_,Q⟩:=List.mem_flatMap.mp Q;exact kE p Q
 .rw[iU,zE];exact wA _ (λx=>(lQ x,by have:=kD x;rw[zE]at this⊢;exact this)) xs h
theorem iW.app(h:iW s l a7)(k:iW a7 m Q):iW s (l++m) Q:=by
 induction h with
 |nil=>exact k
 |cons a b _ H=>exact .cons a b<|H k
theorem J6(h:lx 32 [] ao 32 (bZ x)=ah (ws,aj))(H:x.length<=2^16)(Q:ws.length<=2^20):dB 744 14 [.str x] [("comments",.bool aj)] [] (.exc mE) []:=by have:=Ed (CE h) (by rw[fs];exact H) Q;rw[ve]at this;exact this
theorem yY{ws:List aF}(h:lx 32 [] ao 32 (bZ x)=ah (ws.map bZ,ao))(H:x.length<=2^16)(Q:ws.length<=2^20):dB 744 14 [.str x] [("comments",.bool aj)] [] (.ok<|.lst<|ws.map V.str) []:=by have:=HL (CE h) (by rw[fs];exact H) (by rw[ax];exact Q);rw[ve,cK]at this;rw[show(ws.map V.str)=ws.map ((λw=>V.str<|S w)∘bZ)from gi λw U=>by show V.str w=V.str (S<|bZ w);rw[ve]];exact this
def Wl(n:Nat)(x:LX):Prop:=∀Q b,x=ah (Q,b)->Q.length<=n
theorem Wl.ite[Decidable c](H:Wl n a)(Q:Wl n b):Wl n (if c then a else b):=by
 by_cases q:c
 .rw[if_pos q];exact H
 .rw[if_neg q];exact Q
theorem Wl.one(h:l.length<=n):Wl n (ah (l,b)):=λU U e=>(AA<|dG e).1▸h
theorem Wl.none{n:Nat}:Wl n aC:=λU U e=>nsQ e
theorem Wl.cons{n:Nat}{w:List Nat}{x:LX}(h:Wl n x):Wl (n+1) (zN w x):=λQ b e=>by
 cases x with
 |none=>cases e
 |some y=>exact(AA<|dG e).1▸bE (h y.1 y.2 rfl)
theorem Wl.all:∀(r:List Nat) (st:Nat) (tok:List Nat) (qd:Bool) (es:Nat),Wl (r.length+1) (lx st tok qd es r)
 |[],st,tok,qd,es=>Wl.ite (.one<|bH _) (.ite (.one<|aJ _)<|.one<|bH _)
 |c::r,st,tok,qd,es=>by have up:∀st tok qd es,Wl (r.length+1+1) (lx st tok qd es r):=λU U U U U U h=>ba<|Wl.all r _ _ _ _ _ _ h;have z:∀b,Wl (r.length+1+1) (ah ([],b)):=λU=>.one<|bH _;exact Wl.ite (.ite (up _ _ _ _)<|.ite (.ite .none<|z _)<|.ite (up _ _ _ _)<|.ite (up _ _ _ _)<|up _ _ _ _)<|.ite (.ite (.cons<|Wl.all r _ _ _ _)<|.ite (.ite .none<|.one<|aM ..)<|.ite (up _ _ _ _)<|.ite (up _ _ _ _)<|up _ _ _ _)<|.ite (.ite (up _ _ _ _)<|.ite (up _ _ _ _)<|up _ _ _ _)<|.ite (up _ _ _ _)<|.ite (up _ _ _ _)<|up _ _ _ _
theorem GW(r:List Nat)(st:Nat)(tok:List Nat)(qd:Bool)(es:Nat)(ws:List (List Nat))(b:Bool)(h:lx st tok qd es r=ah (ws,b)):ws.length<=r.length+1:=Wl.all r st tok qd es ws b h
theorem pQ(D:yf (bZ x) ws)(E:x.length<=2^13):∀(H:List aF) (s s' :RS),H≠[]->(∀p∈H,10∉bZ p)->bZ x=bZ s.held++glue [10] (H.map bZ)->
 (∀h ln,h++ln=x ->jx {s with held:=h,num:=s.num+(H.length -1:Nat)} ln s')->iW s H s'
 |[],_,_,h,_,_,_=>absurd rfl h
 |[p],s,s',_,G,Q,U=>by have e:s.held++p=x:=x7 (by rw[eB];exact Q.symm);have:=U s.held p e;refine .cons ?_ (by simpa using this) (.nil _);rw[<-bp,e];exact(ai E 'd')
 |p::q::r,s,s',_,G,Q,U=>by
  have Q:bZ x=bZ (s.held++p)++10::glue [10] ((q::r).map bZ):=by rw[Q,eB,dj];rfl
  have hz:(s.held++p).length<x.length:=by rw[<-fs,<-fs,Q,aD,aU];(simp+arith only;done)
  obtain⟨z,y⟩:=D.cut _ _ Q;have j:=GW _ _ _ _ _ _ _ y;rw[fs]at j;refine .cons (by rw[<-bp];lia) (.hold<|J6 y (by omega)<|by lia) ?_;refine pQ D E (q::r) _ s' (cF _ _) (λu m=>G u<|.tail _ m) ?_ λh ln e=>?_
  .show bZ x=bZ (s.held++p++"\n")++_;rw[Q,zE,eB<|s.held++p];show _=bZ (s.held++p)++[10]++_;rw[dj];rfl
  .have:=U h ln e;rw[show({s with held:=h,num:=s.num+(((p::q::r).length -1:Nat):Int)}:RS)={ {s with held:=s.held++p++"\n",num:=s.num+1}with held:=h,num:=s.num+1+(((q::r).length -1:Nat):Int)}from
    congrArg (λx=>({s with held:=h,num:=x}:RS)) (by show s.num+((r.length+1:Nat):Int)=s.num+1+(r.length:Int);omega)]at this
   exact this
structure eo where
 texts:List aF
 told:List (Nat×List aF)
 bT:List (Int×aF×aF)
 pile:List Row
 count:Int
noncomputable abbrev o7(ws:List aF):V:=.lst<|ws.map V.str
noncomputable def fJ(t:Nat×List aF):V:=.tup [.int (t.1:Nat),o7 t.2]
noncomputable def mS(t:Int×aF×aF):V:=.tup [.int t.1,.str t.2.1,.str t.2.2]
noncomputable def lS(p:List Row):Row:=p.getLast?.getD ("",[])
theorem rg(p:List Row)(r:Row):lS (p++[r])=r:=by unfold lS;simp
noncomputable def judge(b:eo)(x X:aF)(ws:List aF):eo:=
 if(aE 9).any (cm (lS b.pile).2<|bu x)=ao then
  (b.texts++[X],b.told++[(b.pile.length,ws)],b.bT,b.pile++[(x,bu x)],b.count+(dY X "\n"+1))
 else if dI (bu x) b.pile≠[]then
  (b.texts++[X],b.told++[((dI (bu x) b.pile).length -1,ws)],b.bT,dI (bu x) b.pile,b.count+(dY X "\n"+1))
 else(b.texts++[X],b.told,b.bT++[(b.count+(dY X "\n"+1),fo (nu (lS b.pile).1 x) (lS b.pile).2<|bu x,X)],b.pile,b.count+(dY X "\n"+1))
noncomputable def ya(b:eo)(X:aF):eo:={b with texts:=b.texts++[X],count:=b.count+(dY X "\n"+1)}
structure Rel (b:eo) (s:RS):Prop where
 rows:s.rows=b.told.map fJ
 bT:s.bT=b.bT.map mS
 pile:∃z:List (aF×Row),s.pile=z.map (·.1)/\b.pile=z.map (·.2)/\∀e∈z,Ld e.1 e.2.1/\e.1.length<=2^13
 held:s.held=""
 num:s.num=b.count
structure lW (k:Nat) (b:eo):Prop where
 ne:b.pile≠[]
 gl:∀r∈b.pile,GL r.1/\r.2=bu r.1
 len:b.pile.length<=k+1/\b.told.length<=k/\b.bT.length<=k/\k<=100
theorem zL(X:aF):((aO X "\n").length:Int)=dY X "\n"+1:=by rw[zE,YC,count_cnt];(simp+arith only;done)
theorem uq(X:aF)(n:Int):n+(((aO X "\n").length -1:Nat):Int)+1=n+(dY X "\n"+1):=by have H:=zL X;have Q:=se X "\n";omega
theorem v7(R:Rel b s)(G:yf (bZ X) [])(u:X.length<=2^13):∃s',iW s (aO X "\n") s' /\Rel (ya b X) s' :=by
 obtain⟨rows,bT,pile,held,num⟩:=s;obtain⟨E,D,U,H,Q⟩:=R;simp only at E D U H Q;refine((rows,bT,pile,"",num+(((aO X "\n").length -1:Nat))+1),pQ G u _ _ _ (lQ X) kE (by rw[H];exact kD X) λh ln e=>?_,(E,D,U,rfl,?_))
 .have:=jx.blank (s:=(rows,bT,pile,h,num+(((aO X "\n").length -1:Nat):Int))) (ln:=ln) (by
   show dB 744 14 [.str<|h++ln] _ _ _ _;rw[e];exact yY (ws:=[]) G.read (by exact(ai u 'd'))<|bH _)
  exact this
 .show num+_+1=b.count+(dY X "\n"+1);rw[uq,Q]
theorem Jd(h:z≠[]):∃Q H,z=Q++[H]:=(z.dropLast,z.getLast h,(gM h).symm)
theorem wV(f:H ->Q)(q:Q ->Bool)(z:List H):d5 q (z.map f)=(d5 (q∘f) z).map f:=by unfold d5;rw[<-JM,List.dropWhile_map,<-JM]
theorem wU:∀e∈d5 q z,e∈z:=λe h=>by unfold d5 at h;exact List.mem_reverse.mp<|(ju q).mem<|List.mem_reverse.mp h
theorem oj:(d5 q z).length<=z.length:=by unfold d5;rw[dH];have:=(ju q (l:=z.reverse)).length_le;rw[dH]at this;exact this
theorem Ag{H:Type}{q Q:H ->Bool}{z:List H}(h:∀e∈z,q e=Q e):d5 q z=d5 Q z:=by
 unfold d5;have:∀l:List H,(∀e∈l,q e=Q e)->l.dropWhile q=l.dropWhile Q:=λl=>by
  induction l with
  |nil=>intro _;rfl
  |cons a l D=>
   intro h;rw[iK,iK,h a<|.head _,D λe U=>h e<|.tail _ U]
 rw[this _ λe U=>h e<|List.mem_reverse.mp U]
theorem uK(here:List Int)(p:List Row):dI here p=d5 (λr=>r.2 !=here) p:=rfl
theorem zj(R:Rel b s)(I:lW k b)(hx:yf (bZ X) (ws.map bZ))(hw:ws≠[])(m:ws.length<=2^20)(hl:X.length<=2^13)(hL:Ld X x):∃s',iW s (aO X "\n") s' /\Rel (judge b x X ws) s' :=by
 obtain⟨rows,bT,pile,held,num⟩:=s;obtain⟨r1,r2,r3,r4,r5⟩:=R;simp only at r1 r2 r3 r4 r5;obtain⟨z,z1,z2,z3⟩:=r3;obtain⟨i1,i2,i3,i4,i5,i6⟩:=I;have zne:z≠[]:=λq=>i1 (by rw[z2,q];rfl);obtain⟨E,⟨Y,Q,old⟩,rfl⟩:=Jd zne;have hY:Ld Y Q:=(z3 (Prod.mk Y<|Prod.mk Q old)<|by simp).1;have hYl:Y.length<=2^13:=(z3 (Prod.mk Y<|Prod.mk Q old)<|by simp).2;have hold:old=bu Q:=(i2 (Prod.mk Q old) (by rw[z2];simp)).2;have UM:lS b.pile=(Prod.mk Q old):=by rw[z2,bx];exact rg _ _
 have X1:E.length<=1000:=by rw[z2,ax,aD,aV]at i3;exact rS i6 i3 (by omega)
 have pe:pile=E.map (·.1)++[Y]:=by rw[z1,bx];rfl
 have split1:∀h ln,h++ln=X ->dB 744 14 [.str<|h++ln] [(Prod.mk "comments"<|.bool aj)] [] (.ok<|.lst<|ws.map V.str) []:=λh ln e=>by rw[e];exact yY hx.read (by exact(ai hl 'd')) m
 have nrw:oz (ws.map V.str):=fK λU U=>trivial;have YY:ws.map V.str≠[]:=λq=>hw<|List.map_eq_nil_iff.mp q;have j:(ws.map V.str).length<=2^24:=by rw[ax];exact(ai m 'd')
 have Na:j6 Y X= !(aE 9).any (cm old<|bu x):=by
  have:=DY hY hL;rw[<-hold]at this;cases h1:j6 Y X with
  |true=>rw[this.mp h1];rfl
  |false=>
   cases h2:(aE 9).any (cm old<|bu x)with
   |true=>rfl
   |false=>rw[this.mpr h2]at h1;cases h1
 have H:d5 (iv X) pile=(d5 (λe:aF×Row=>e.2.2 !=bu x) (E++[(Prod.mk Y<|Prod.mk Q old)])).map (·.1):=by
  rw[z1,wV];congr 1;refine Ag λe he=>?_;obtain⟨he1,_⟩:=z3 e he;have hc:e.2.2=bu e.2.1:=(i2 e.2 (by rw[z2];exact iJ he)).2;show(!lu e.1 X)=(e.2.2 !=bu x);have:=Bx he1 hL;rw[<-hc]at this;rw[eT,dk,bne_iff_ne];constructor
  .intro h q;rw[this.mpr q]at h;cases h
  .intro h;cases h1:lu e.1 X with
   |false=>rfl
   |true=>exact absurd (this.mp h1) h
 have u:dI (bu x) b.pile=(d5 (λe:aF×Row=>e.2.2 !=bu x) (E++[(Prod.mk Y<|Prod.mk Q old)])).map (·.2):=by rw[uK,z2,wV];rfl
 have G:num+(((aO X "\n").length -1:Nat):Int)+1=b.count+(dY X "\n"+1):=by rw[uq,r5]
 unfold judge;rw[UM];by_cases c1:(aE 9).any (cm old<|bu x)=ao
 .rw[if_pos c1];refine((rows++[.tup [.int (((E.map (·.1)++[Y]++[X]).length:Int) -1),.lst<|ws.map V.str]],bT,E.map (·.1)++[Y]++[X],"",num+(((aO X "\n").length -1:Nat):Int)+1),
   pQ hx hl _ _ _ (lQ X) kE (by rw[r4];exact kD X) λh ln e=>?_,(?_,r2,(E++[(Prod.mk Y<|Prod.mk Q old)]++[(Prod.mk X<|Prod.mk x<|bu x)],?_,?_,?_),rfl,G))
  .have hj:dB 926 12 [.lst<|fz pile,.str<|h++ln,.int<|num+(((aO X "\n").length -1:Nat):Int)+1] [] [] (.ok (.lst (fz (E.map (·.1)++[Y]++[X])))) []:=by
    rw[e,pe];exact Bw (by rw[ax];exact X1) hYl hl (by rw[Na,c1];rfl)
   exact jx.ok (s:=(rows,bT,pile,h,num+(((aO X "\n").length -1:Nat):Int))) (ln:=ln) (ws.map V.str) (E.map (·.1)++[Y]++[X]) (split1 h ln e) YY nrw j (by simp;exact(ai X1 'd')) (by show rows.length<_;rw[r1,ax];exact dz (ai i4 i6) 'd') hj
  .show rows++_=aP fJ (b.told++[(Prod.mk b.pile.length ws)]);rw[r1,bx,z2];show _=_++[V.tup [.int (((E++[(Prod.mk Y<|Prod.mk Q old)]).map (·.2)).length:Nat),_]];congr 5;simp;(simp+arith only;done)
  .show _=aP _ _;simp
  .show b.pile++_=_;rw[z2];simp
  .intro e he;rcases List.mem_append.mp he with he|he
   .exact z3 e he
   .rw[List.mem_singleton.mp he];exact(hL,hl)
 .rw[if_neg c1];have c1' :(aE 9).any (cm old<|bu x)=aj:=by simpa using c1
  have UN:j6 Y X=ao:=by rw[Na,c1'];rfl
  generalize hD:d5 (λe:aF×Row=>e.2.2 !=bu x) (E++[(Prod.mk Y<|Prod.mk Q old)])=D at H u;have hDl:D.length<=E.length+1:=by rw[<-hD];have:=oj (q:=λe:aF×Row=>e.2.2 !=bu x) (z:=E++[(Prod.mk Y<|Prod.mk Q old)]);rw[aD,aV]at this;exact this
  rw[u];by_cases c2:D=[]
  .subst c2;rw[if_neg<|by simp];have hms:rp (i7 Q x)=fo (nu Q x) old (bu x):=by rw[hold];exact vA Q x
   have m8:=xI hY hL;obtain⟨w1,w2⟩:=Fl hY hL;have m:(kS Y X).length<=9:=by rw[<-w2];unfold i7;rw[ax];refine ai (oF _ _) ?_;rw[bJ];exact eS m8
   have xQ:∀s∈gv (i7 Q x),s.length<=100:=by
    intro s hs;unfold gv i7 at hs;rw[cK]at hs;obtain⟨i,hi,rfl⟩:=List.mem_map.mp hs;have hi:=List.mem_range.mp (List.mem_filter.mp hi).1;have h9:i<=8:=by exact rS hi m8 (by omega)
    have:∀i:Nat,i<=8 ->(aa<|toString<|(1:Int)+(i:Int)).length<=100:=by decide+kernel
    exact this i h9
   have hnl:(gv<|i7 Q x).length<=9:=by unfold gv;rw[ax,w2];exact m
   have ec:(aa ", ").length=2:='k';have hjn:(gv<|i7 Q x).length*(100+(aa ", ").length)<=9*102:=by rw[ec];exact lD hnl 'd'
   have aaB:gb ", " (gv<|i7 Q x)=aj:=fL 100 xQ (by exact(ai hjn 'd'));have UQ:(aY ", "<|gv<|i7 Q x).length<=2^16:=by show(fy _ _).length<=_;rw[eg];have h1:=eY ", "<|gv<|i7 Q x;have h2:=gL (B:=100) (gv<|i7 Q x) xQ;rw[ec]at h1;lia
   have hf:dB 873 5 [.lst<|kS Y X] [] [] (.ok<|.str<|rp<|i7 Q x) []:=Ef w1 w2 (λn hn=>by unfold i7 at hn;obtain⟨i,hi,rfl⟩:=List.mem_map.mp hn;have hi:=List.mem_range.mp (List.mem_filter.mp hi).1;exact wk<|lA i<|eG hi<|bE m8) (by exact(ai m 'd')) aaB UQ
   refine((rows,bT++[.tup [.int<|num+(((aO X "\n").length -1:Nat):Int)+1,.str<|rp<|i7 Q x,.str X]],pile,"",num+(((aO X "\n").length -1:Nat):Int)+1),
    pQ hx hl _ _ _ (lQ X) kE (by rw[r4];exact kD X) λh ln e=>?_,(r1,?_,(E++[(Prod.mk Y<|Prod.mk Q old)],z1,z2,z3),rfl,G))
   .have hj:dB 926 12 [.lst<|fz pile,.str<|h++ln,.int<|num+(((aO X "\n").length -1:Nat):Int)+1] [] [] (.exc<|mQ (num+(((aO X "\n").length -1:Nat):Int)+1) (rp<|i7 Q x)<|h++ln) []:=by
     rw[e,pe];exact Bu (by rw[ax];exact X1) hYl hl UN (by rw[<-pe,H];rfl) hf
    have:=jx.GP (s:=(rows,bT,pile,h,num+(((aO X "\n").length -1:Nat):Int))) (ln:=ln) (ws.map V.str) (rp<|i7 Q x) (split1 h ln e) YY nrw j (by show bT.length<_;rw[r2,ax];exact dz (ai i5 i6) 'd') hj;have e2:((rows,bT,pile,h,num+(((aO X "\n").length -1:Nat):Int)):RS).held++ln=X:=e;rw[e2]at this;exact this
   .show bT++_=aP mS (b.bT++[_]);rw[r2,bx,G,hms];rfl
  .rw[if_pos λq=>c2<|List.map_eq_nil_iff.mp q];refine((rows++[.tup [.int (((D.map (·.1)).length:Int) -1),.lst<|ws.map V.str]],bT,D.map (·.1),"",num+(((aO X "\n").length -1:Nat):Int)+1),
    pQ hx hl _ _ _ (lQ X) kE (by rw[r4];exact kD X) λh ln e=>?_,(?_,r2,(D,rfl,rfl,λe he=>z3 e<|wU e<|hD▸he),rfl,G))
   .have hj:dB 926 12 [.lst<|fz pile,.str<|h++ln,.int<|num+(((aO X "\n").length -1:Nat):Int)+1] [] [] (.ok (.lst (fz (D.map (·.1))))) []:=by
     rw[e,pe];have:=Bv (p:=E.map (·.1)) (aH:=Y) (y:=X) (k:=num+(((aO X "\n").length -1:Nat):Int)+1) (by rw[ax];exact X1) hYl hl UN (by rw[<-pe,H];exact λq=>c2<|List.map_eq_nil_iff.mp q);rw[<-pe,H,pe]at this;exact this
    exact jx.ok (s:=(rows,bT,pile,h,num+(((aO X "\n").length -1:Nat):Int))) (ln:=ln) (ws.map V.str) (D.map (·.1)) (split1 h ln e) YY nrw j (by rw[ax];lia) (by show rows.length<_;rw[r1,ax];exact dz (ai i4 i6) 'd') hj
   .show rows++_=aP fJ (b.told++[_]);rw[r1,bx];congr 1;show[V.tup [.int (((D.map (·.1)).length:Int) -1),_]]=[V.tup [.int (((D.map (·.2)).length -1:Nat):Int),_]];have:1<=D.length:=by cases D with|nil=>exact absurd rfl c2|cons _ _=>simp
    rw[ax,ax,show((D.length -1:Nat):Int)=(D.length:Int) -1 by exact qsb this]
noncomputable def t8(n:Nat):aF:=dN (a8 n 1)++iE (a8 n 2)
theorem IP(h:bt l):Fj l:=λc Q=>by rcases h c Q with rfl|rfl<;>decide
theorem FE(n:Nat):yf (bZ<|t8 n) []/\(t8 n).length<=2^13:=by
 have h:=d' (a8 n 2) (show 0<3 from 'd');have H:(bZ (iE<|a8 n 2)=[]\/∃Q,bZ (iE<|a8 n 2)=35::Q/\10∉Q)/\(iE<|a8 n 2).length<=6:=by
  unfold iE;generalize a8 n 2%3=k at h
  match k,h with
  |0,_=>exact(.inl 'k',by decide+kernel)
  |1,_=>exact(.inr ([32,105,116,39,115],'k','d'),by decide+kernel)
  |2,_=>exact(.inr ([34],'k','d'),by decide+kernel)
 refine(?_,?_)
 .unfold t8;rw[eB];exact BE (IP (kB _).1) H.1
 .unfold t8;rw[bp];have:=(kB<|a8 n 1).2;lia
theorem J8(w:aF)(way:Int):∃c r,bZ (d0 w way)=c::r/\c≠32/\c≠9:=by
 unfold d0;split
 .rw[jw];exact(39,_,rfl,'d','d')
 .rename_i h;split
  .rw[my];exact(34,_,rfl,'d','d')
  .rw[mz];cases Q:bZ w with
   |nil=>exact absurd (by rw[mi.mpr Q,sm]) h
   |cons c r=>exact(92,_,rfl,'d','d')
theorem wz(h:u=c::r)(t:List Nat):∃Q,glue g (u::us)++t=c::Q:=by
 subst h;cases us with
 |nil=>exact(_,rfl)
 |cons v q=>exact(_,rfl)
theorem DE(n:Nat)(lead:aF):∃r,bZ (lK n lead)=bZ lead++r/\∀c U,r=c::U ->c≠32/\c≠9:=by
 refine(bZ (qY n)++(glue (bZ<|i0<|a8 n 7) ((bz n).map bZ)++bZ (jd<|a8 n 8)),?_,λc U h=>?_)
 .unfold lK;rw[eB,eB,eB,iU];show bZ lead++bZ (qY n)++_++_=_;simp
 .cases H:bZ (qY n)with
  |cons c0 G=>
   have:=(GS n).2 c0 G H;rw[H]at h;have:=(dn h).1;exact(by lia,by lia)
  |nil=>
   rw[H]at h;cases Q:bz n with
   |nil=>
    have:=congrArg eP Q;unfold bz at this;rw[ax,bJ]at this;exact absurd (List.length_eq_zero_iff.mp this) (jE n)
   |cons y E=>
    have D:y∈bz n:=by rw[Q];exact .head _
    unfold bz at D;obtain⟨i,_,rfl⟩:=List.mem_map.mp D;obtain⟨c1,r1,m,j,z⟩:=J8 ((bj n).getD i "")<|(((a8 n 6:Nat):Int)+((0:Int)+(i:Int))).fmod 3;rw[Q,bw]at h;obtain⟨r2,u⟩:=wz (g:=bZ<|i0<|a8 n 7) (us:=E.map bZ) m<|bZ<|jd<|a8 n 8;rw[u]at h;have:=(dn h).1;exact(this▸j,this▸z)
theorem Hd{X x:aF}{r:List Nat}(h:bZ X=bZ x++r)(H:∀c Q,r=c::Q ->c≠32/\c≠9)(g:GL x):Ld X x where
 scan:=by show cM (bZ X) [] 0 0 0=cM (bZ x) [] 0 0 0;rw[h];exact qS _ _ _ _ _ _ g.1 H
 bt:=g.1
 le:=g.2
theorem text_len(n:Nat)(h:lead.length<=8):(lK n lead).length<=2^13:=by
 have U:(aY (i0<|a8 n 7)<|bz n).length<=306:=by
  show(fy _ _).length<=_;rw[eg];have U:=eY (i0<|a8 n 7)<|bz n;have H:=gL (B:=100) (bz n) (pO n).1;have D:(bz n).length<=3:=by unfold bz;rw[ax,bJ];exact g0 n
  have E:=uB<|a8 n 7;have Q:(bz n).length*(i0<|a8 n 7).length<=3*2:=lD D E;exact ai U<|au (ai H<|dy 100 D) Q
 have H:(qY n).length<=2:=by
  unfold qY;split
  .rw[show(aa "\r\t").length=2 from 'k'];exact fx _
  .rw[show(aa "").length=0 from 'k'];exact bH _
 have Q:=vU<|a8 n 8;have e:lK n lead=lead++qY n++aY (i0<|a8 n 7) (bz n)++jd (a8 n 8):=rfl;rw[e,bp,bp,bp];exact ai (au (au (au h H) U) Q)<|ae rfl
noncomputable def du(b:eo)(n:Nat):eo:=
 if a8 n 0=8 then ya b (t8 n)else judge b (mH n b.pile (lS b.pile).1) (lK n<|mH n b.pile (lS b.pile).1) (bj n)
noncomputable def b0:eo:=([],[],[],[(aa "",bU 9 0)],0)
theorem uT:bu (aa "")=bU 9 0:='k'
theorem oX:lW 0 b0:=by refine(cF _ _,λr Q=>?_,by simp[b0]);rw[List.mem_singleton.mp Q];exact(qb,uT.symm)
theorem Gh:Rel b0 ([],[],[aa ""],"",0):=by refine(rfl,rfl,([(aa "",aa "",bU 9 0)],rfl,rfl,λe Q=>?_),rfl,rfl);rw[List.mem_singleton.mp Q];exact((rfl,qb.1,qb.2),by rw[show(aa "").length=0 from 'k'];decide)
theorem lW.last(I:lW k b):GL (lS b.pile).1:=by
 obtain⟨r,Q⟩:∃r,b.pile.getLast? =ah r:=by
  cases h:b.pile.getLast? with
  |none=>exact absurd (List.getLast?_eq_none_iff.mp h) I.ne
  |some r=>exact(r,rfl)
 unfold lS;rw[Q];exact(I.gl r<|List.mem_of_getLast? Q).1
theorem wo(I:lW k b)(G:GL x)(U:k+1<=100):lW (k+1) (judge b x X ws):=by
 obtain⟨E,Q,i3,i4,D,u⟩:=I;unfold judge;split
 .refine(by simp,λr H=>?_,?_)
  .rcases List.mem_append.mp H with h|h
   .exact Q r h
   .rw[List.mem_singleton.mp h];exact(G,rfl)
  .simp;exact(by omega,(by omega,(ba D,jz U)))
 .split
  .rename_i h;refine(h,λr H=>Q r<|wU r H,?_);have:(dI (bu x) b.pile).length<=b.pile.length:=oj;simp;exact(rS this i3<|by omega,(by omega,(ba D,jz U)))
  .refine(E,Q,?_);simp;exact(ba i3,(ba i4,(by omega,jz U)))
theorem Eo(I:lW k b)(E:k+1<=100):lW (k+1) (ya b X):=by obtain⟨U,H,i3,i4,Q,D⟩:=I;exact(U,H,by show b.pile.length<=k+1+1/\b.told.length<=k+1/\b.bT.length<=k+1/\k+1<=100;exact(ba i3,(ba i4,(ba Q,by omega))))
theorem lV(I:lW k b)(Q:k+1<=100):lW (k+1) (du b n):=by
 unfold du;split
 .exact Eo I Q
 .exact wo I (n7 (λr H=>(I.gl r H).1) I.last) Q
theorem Gi(R:Rel b s)(I:lW k b):∃X s',(du b n).texts=b.texts++[X]/\iW s (aO X "\n") s' /\Rel (du b n) s' :=by
 unfold du;split
 .obtain⟨H,Q⟩:=FE n;obtain⟨s',r,q⟩:=v7 R H Q;exact(_,s',rfl,r,q)
 .have g:=n7 (n:=n) (λr E=>(I.gl r E).1) I.last;obtain⟨r,H,Q⟩:=DE n<|mH n b.pile (lS b.pile).1;obtain⟨s',D,U⟩:=zj R I (DK n<|IP g.1) (jE n) (ai (g0 n) 'd') (text_len n g.2)<|Hd H Q g;refine(_,s',?_,D,U);unfold judge;split
  .rfl
  .split<;>rfl
theorem xw:∀(ns:List Nat) (k:Nat) (b:eo) (s:RS),Rel b s ->lW k b ->k+ns.length<=100 ->∃U s',U.length=ns.length/\(ns.foldl du b).texts=b.texts++U/\iW s (U.flatMap λx=>aO x "\n") s' /\Rel (ns.foldl du b) s' /\lW (k+ns.length) (ns.foldl du b)
 |[],k,b,s,R,I,_=>([],s,rfl,by simp,.nil s,R,I)
 |n::ns,k,b,s,R,I,D=>by rw[aU]at D;obtain⟨X,H,h1,m,j⟩:=Gi (n:=n) R I;obtain⟨U,Q,z,y,u,G,E⟩:=xw ns (k+1) (du b n) H j (lV I<|by exact j5 D (by omega)) (by exact j5 D (by omega));refine(X::U,Q,by rw[aU,aU,z],by rw[eh,y,h1];simp,?_,G,by rw[aU,eh,show k+(ns.length+1)=k+1+ns.length by(simp+arith only;done)];exact E);rw[cW];exact m.app u
theorem Kh(h:ns≠[])(H:ns.length<=100):∃s',iW ([],[],[aa ""],"",0) (aO (aY "\n" (ns.foldl du b0).texts) "\n") s' /\Rel (ns.foldl du b0) s' :=by
 obtain⟨G,s',Q,E,D,U,_⟩:=xw ns 0 b0 _ Gh oX (by exact j5 H (by omega));have e:(ns.foldl du b0).texts=G:=by rw[E];rfl
 rw[e,ud λq=>h (by rw[q]at Q;exact List.length_eq_zero_iff.mp Q.symm)];exact(s',D,U)
theorem AW:∀{l:List Nat},c∈l.takeWhile g ->g c=aj
 |[],h=>by cases h
 |a::l,h=>by
  rw[List.takeWhile_cons]at h;split at h
  .rename_i Q;rcases List.mem_cons.mp h with rfl|h
   .exact Q
   .exact AW h
  .cases h
theorem Ii:∀{l:List Nat},(∀c∈l,g c=aj)->l.dropWhile g=[]
 |[],_=>rfl
 |a::l,h=>by rw[iK,if_pos<|h a<|.head _];exact Ii λc Q=>h c<|.tail _ Q
theorem nj(x y:aF):(iq x y=="")=(bZ x).all y.cps.contains:=by
 rw[eT,mi];unfold iq;rw[W.stripBy_eq];generalize hg:y.cps.contains=g;have e:bZ (W.stripped g aj aj x)=((bZ x).drop ((bZ x).takeWhile g).length).take (x.length -(((bZ x).drop ((bZ x).takeWhile g).length).reverse.takeWhile g).length -((bZ x).takeWhile g).length):=StrLaws.strSub_toList _ _ _;rw[e];have hd:(bZ x).drop ((bZ x).takeWhile g).length=(bZ x).dropWhile g:=by
  conv=>lhs;arg 2;rw[<-jD (p:=g) (l:=bZ x)]
  rw[List.drop_left]
 rw[hd];have Q:=congrArg eP<|jD (p:=g) (l:=bZ x);rw[aD,fs]at Q;constructor
 .intro h;rw[List.all_eq_true];intro c H;cases U:(bZ x).dropWhile g with
  |nil=>
   rw[<-jD (p:=g) (l:=bZ x),U,cb]at H;exact AW H
  |cons a r=>
   exfalso;have z:g a=ao:=by have:=List.head?_dropWhile_not g<|bZ x;rw[U]at this;simpa using this
   rw[U]at h Q;have j:((a::r).reverse.takeWhile g).length<=r.length:=by
    have E:=(BW g (l:=(a::r).reverse)).length_le;rw[dH,aU]at E;apply gZ;intro q;have G:((a::r).reverse.takeWhile g).length=(a::r).reverse.length:=by rw[dH,aU];exact gQ (j5 E<|by omega)<|j5 (ck q) (by omega)
    have u:=(BW g).eq_of_length G;have:a∈(a::r).reverse.takeWhile g:=by rw[u];simp
    have:=AW this;rw[z]at this;cases this
   have D:=congrArg eP h;rw[dA,Mo,aU]at D;rw[aU]at Q;have m:x.length -(xf g (a::r).reverse).length -(xf g<|bZ x).length=r.length+1 -(xf g (a::r).reverse).length:=by rw[<-Q,Nat.sub_right_comm,mY]
   rw[m]at D;exact nS (Nat.lt_min.mpr (JK<|eS j,eJ _)) D
 .intro h;have:(bZ x).dropWhile g=[]:=Ii λc H=>List.all_eq_true.mp h c H;rw[this];simp
noncomputable def zw(c:Nat):Bool:=c==97||c==98||c==32||c==9||c==10||c==39||c==34||c==35||c==92||decide (256<=c/\c<60000)
theorem Kb(h:zw c=aj):j4 c=(c==97||c==98):=by
 unfold zw at h;simp only[gO,beq_iff_eq,decide_eq_true_eq]at h;rcases h with((((((((rfl|rfl)|rfl)|rfl)|rfl)|rfl)|rfl)|rfl)|rfl)|h
 .decide+kernel
 .decide+kernel
 .decide+kernel
 .decide+kernel
 .decide+kernel
 .decide+kernel
 .decide+kernel
 .decide+kernel
 .decide+kernel
 .unfold j4 abK Sre.isDigit;rw[decide_eq_false<|by exact vn h.1];have e:∀a b:Nat,b<256 ->(decide (a<=c)&&decide (c<=b))=ao:=λa b Q=>by rw[Bool.and_eq_false_iff];right;exact decide_eq_false (by exact λk=>ZO h.1 Q k<|by omega)
  have H:∀b:Nat,b<256 ->(c==b)=ao:=λb Q=>by rw[beq_eq_false_iff_ne];exact λk=>ZO h.1 Q (ar k) (by omega)
  simp[e,H]
theorem xp(n:Nat)(U:f<10):∀c∈bZ (bc n f),zw c=aj:=by
 have H:∀k,k<9 ->(bZ<|(["a"," ","\t","\n","'","\"","#","\\","\n\t "]:List aF).getD k "").all zw=aj:=by decide+kernel
 by_cases h:f<9
 .have e:bc n f=(["a"," ","\t","\n","'","\"","#","\\","\n\t "]:List aF).getD f "":=by
   show((["a"," ","\t","\n","'","\"","#","\\","\n\t "]:List aF)++[chS n]).getD f ""=_;rw[aI,bK<|by exact h,<-aI]
  rw[e];exact λc Q=>List.all_eq_true.mp (H f h) c Q
 .have:f=9:=by exact gQ (j5 U<|by omega) (j5 (dD h)<|by omega)
  subst this;intro c Q;have e:bZ (bc n 9)=[(256+((n:Int).fmod 50000)).toNat]:=rfl;rw[e]at Q;rw[List.mem_singleton.mp Q];unfold zw;rw[gO];right;rw[decide_eq_true_eq,fD _ 'd'];exact(a9 ..,by omega)
theorem sW(Q:w∈bj n):∀c∈bZ w,zw c=aj:=by
 have y:=xp n<|pj n 2;have u:=xp n<|pj n 3;have E:=xp n<|pj n 4;have U:∀c∈bZ (bc n (a8 n 2)++bc n (a8 n 3)),zw c=aj:=λc H=>by
  rw[eB]at H;rcases List.mem_append.mp H with h|h
  .exact y c h
  .exact u c h
 have D:∀c∈bZ (aa ""),zw c=aj:=λc H=>by rw[show bZ (aa "")=[]from 'k']at H;cases H
 have G:∀c∈bZ (bc n (a8 n 2)++bc n (a8 n 3)++aa "b"),zw c=aj:=λc H=>by
  rw[eB]at H;rcases List.mem_append.mp H with h|h
  .exact U c h
  .rw[show bZ (aa "b")=[98]from 'k']at h;rw[List.mem_singleton.mp h];decide
 unfold bj at Q;have h:=d' (a8 n 5) (show 0<4 from 'd');generalize a8 n 5%4=k at h Q;revert Q;refine RQ h ?_ ?_ ?_ ?_<;>intro Q
 .simp at Q;subst Q;exact U
 .simp at Q;rcases Q with rfl|rfl;exact U;exact D
 .simp at Q;rcases Q with rfl|rfl;exact E;exact U
 .simp at Q;rcases Q with rfl|rfl|rfl;exact D;exact E;exact G
theorem qe:bZ (aa "''")=[39,39]:='k'
theorem kf(h:∀c∈bZ w,zw c=aj):cf w=fN w:=by
 have U:(bZ w).all (aa "ab").cps.contains=(bZ w).all j4:=by
  have:∀l:List Nat,(∀c∈l,zw c=aj)->l.all (aa "ab").cps.contains=l.all j4:=λl=>by
   induction l with
   |nil=>intro _;rfl
   |cons c l D=>
    intro h;rw[cD,cD,D λd hd=>h d<|.tail _ hd,Kb<|h c<|.head _];congr 1;rw[show(aa "ab").cps= #[97,98]from 'k',eT];simp
  exact this _ h
 unfold cf fN;rw[nj,U];by_cases Q:w.length=0
 .rw[if_pos Q,if_neg (by rw[Q];simp)];have E:=List.length_eq_zero_iff.mp (by rw[fs];exact Q);apply x7;rw[jw,E,qe];rfl
 .rw[if_neg Q];have G:(w.length !=0)=aj:=by simp;exact Q
  rw[G,qC];by_cases H:(bZ w).all j4=aj
  .rw[if_pos H,if_pos H]
  .rw[if_neg H,if_neg H];rfl
theorem DD(h:∀c∈bZ w,zw c=aj):Tk (bZ<|cf w) (bZ w):=by
 rw[kf h];unfold fN;rw[nj];split
 .rename_i H;rw[aw]at H;refine SS _ (λq=>?_) λc Q=>?_
  .have:=congrArg eP q;rw[fs]at this;have U:=H.1;simp at U;exact U this
  .have:=List.all_eq_true.mp H.2 c Q;rw[show(aa "ab").cps= #[97,98]from 'k']at this;simp at this;rcases this with rfl|rfl<;>decide
 .rw[jw];exact Mz _
theorem zl(h:∀c∈bZ w,zw c=aj):∃c r,bZ (cf w)=c::r/\c≠32/\c≠9:=by
 rw[kf h];unfold fN;rw[nj];split
 .rename_i Q;rw[aw]at Q;cases H:bZ w with
  |nil=>
   have:=congrArg eP H;rw[fs]at this;have U:=Q.1;simp at U;exact absurd this U
  |cons c r=>
   have:=List.all_eq_true.mp Q.2 c (by rw[H];exact .head _);rw[show(aa "ab").cps= #[97,98]from 'k']at this;simp at this;exact(c,r,rfl,by exact λk=>absurd (k▸this) 'd',by exact λk=>absurd (k▸this) 'd')
 .rw[jw];exact(39,_,rfl,'d','d')
theorem tX(h:∀c∈bZ w,zw c=aj)(Q:w.length<=7):(cf w).length<=100:=by
 rw[kf h];unfold fN;split
 .exact(ai Q 'd')
 .have:=FL (way:=0) Q;exact this
noncomputable def eM(d:Nat):aF:=S<|bU d 9
noncomputable def dF(t:Nat×List aF):aF:=eM t.1++aY " " (t.2.map cf)
def WP(ws:List aF):Prop:=∃n,ws=bj n
theorem tO:∀{ws:List aF},(∀w∈ws,∀c∈bZ w,zw c=aj)->Tks ((ws.map cf).map bZ) (ws.map bZ)
 |[],_=>.nil
 |w::ws,h=>.cons (DD<|h w<|.head _)<|tO λv Q=>h v<|.tail _ Q
theorem sX(h:d<=8):GL (eM d):=by
 refine(λc Q=>?_,?_)
 .unfold eM at Q;rw[C8]at Q;exact .inr<|List.eq_of_mem_replicate Q
 .unfold eM;rw[fA,jM];exact h
theorem Zp:aa " "=⟨#[32]⟩:='k'
theorem zO(hd:d<=8)(U:WP ws):yf (bZ<|dF (d,ws)) (ws.map bZ)/\Ld (dF (d,ws)) (eM d)/\(dF (d,ws)).length<=2^13:=by
 obtain⟨n,rfl⟩:=U;have H:∀w∈bj n,∀c∈bZ w,zw c=aj:=λw U=>sW U;have D:bj n≠[]:=jE n;have e:bZ (dF (d,bj n))=bZ (eM d)++(glue [32] (((bj n).map cf).map bZ)++[]):=by unfold dF;rw[eB,iU,Zp,cb]
 refine(?_,?_,?_)
 .rw[e];exact zf (IP (sX hd).1) 'd' (yP 'd') tail_nil (tO H) (λq=>D<|List.map_eq_nil_iff.mp<|List.map_eq_nil_iff.mp q)
 .refine Hd e (λc r' h=>?_) (sX hd);cases Q:bj n with
  |nil=>exact absurd Q D
  |cons w ws=>
   obtain⟨c1,r1,e1,e2,m⟩:=zl<|H w (by rw[Q];exact .head _);rw[Q,bw,bw]at h;obtain⟨r2,G⟩:=wz (us:=(ws.map cf).map bZ) e1 [];rw[G]at h;have:=(dn h).1;exact(this▸e2,this▸m)
 .unfold dF;rw[bp];have j:=(sX hd).2;have G:∀y∈(bj n).map cf,y.length<=100:=λy u=>by
   obtain⟨w,U,rfl⟩:=List.mem_map.mp u;exact tX (H w U)<|lJ U
  have E:(aY " "<|(bj n).map cf).length<=306:=by show(fy _ _).length<=_;rw[eg];have E:=eY " "<|(bj n).map cf;have z:=gL _ G;have h5:=g0 n;rw[ax]at E z;rw[show(aa " ").length=1 from 'k']at E;lia
  show(eM d).length+(aY " "<|(bj n).map cf).length<=_;exact ai (au j E) 'd'
inductive Chain:Nat ->List (Nat×List aF)->Nat ->Prop
 |nil (m:Nat):Chain m [] m
 |cons {m d k:Nat} {ws:List aF} {l:List (Nat×List aF)}:d<=m ->d<=8 ->WP ws ->Chain (d+1) l k ->Chain m ((d,ws)::l) k
theorem Chain.app(h:Chain m l k)(Q:Chain k H j):Chain m (l++H) j:=by
 induction h with
 |nil=>exact Q
 |cons a b c _ U=>exact .cons a b c<|U Q
theorem Ao(C:Chain 1 b.told b.pile.length)(H:b.pile.length<=8)(Q:WP ws):Chain 1 (judge b x X ws).told (judge b x X ws).pile.length:=by
 unfold judge;split
 .show Chain 1 (b.told++[(b.pile.length,ws)]) (b.pile++[_]).length;rw[aD,aV];exact C.app<|.cons (aJ _) H Q<|.nil _
 .split
  .rename_i h;have D:(dI (bu x) b.pile).length<=b.pile.length:=oj;have U:1<=(dI (bu x) b.pile).length:=by
    cases hd:dI (bu x) b.pile with
    |nil=>exact absurd hd h
    |cons _ _=>simp
   show Chain 1 (b.told++[((dI (bu x) b.pile).length -1,ws)]) (dI (bu x) b.pile).length;refine C.app<|.cons (by omega) (by omega) Q ?_;rw[show(dI (bu x) b.pile).length -1+1=(dI (bu x) b.pile).length by exact jl U];exact .nil _
  .exact C
theorem rE:∀(ns:List Nat) (k:Nat) (b:eo),Chain 1 b.told b.pile.length ->lW k b ->k+ns.length<=7 ->Chain 1 (ns.foldl du b).told (ns.foldl du b).pile.length
 |[],k,b,C,I,_=>C
 |n::ns,k,b,C,I,h=>by
  rw[aU]at h;rw[eh];refine rE ns (k+1) _ ?_ (lV I<|by exact j5 h (by omega)) (by exact j5 h (by omega));unfold du;split
  .exact C
  .exact Ao C (by have:=I.len.1;exact rS h this<|by omega) (n,rfl)
theorem B' :∀(i a z:Nat),1<=z ->(bU i 9).foldl (gK z) ((z*a:Nat):Int)=((z*(a+i):Nat):Int)
 |0,a,z,_=>rfl
 |i+1,a,z,Q=>by
  rw[pL,eh];have e:gK z ((z*a:Nat):Int) 9=((z*(a+1):Nat):Int):=by unfold gK;rw[if_neg 'd',show((z*a:Nat):Int).fmod z=((z*a%z:Nat):Int)from(RE _ _).symm,Nat.mul_mod_right,BU];(simp+arith only[ei,fV,gH];done)
  rw[e,B' i (a+1) z Q,show a+1+i=a+(i+1) by exact cZ ..]
theorem qO(i z:Nat)(hz:1<=z):mI (eM i) z=((z*i:Nat):Int):=by have:=B' i 0 z hz;rw[Xu,d9]at this;show(bZ<|eM i).foldl (gK z) 0=_;unfold eM;rw[C8];exact this
theorem yV(a d:Nat):(aE 9).any (cm (bu<|eM a)<|bu<|eM d)=ao↔a<d:=by
 rw[sj];constructor
 .intro h;have:=h 0 (by simp);unfold cm at this;rw[eO _ 'd',eO _ 'd',qO _ _ 'd',qO _ _ 'd']at this;simp at this;omega
 .intro h i Q;have Q:=List.mem_range.mp Q;unfold cm;rw[eO _ Q,eO _ Q,qO _ _<|by exact a9 ..,qO _ _<|by exact a9 ..];have:=Nat.mul_lt_mul_of_pos_left h (show 0<1+i by exact a9 ..);simp only[decide_eq_true_eq];omega
theorem Ot(h:bu (eM a)=bu (eM d)):a=d:=by
 have:(bu<|eM a).getD 0 0=(bu<|eM d).getD 0 0:=by rw[h]
 rw[eO _ 'd',eO _ 'd',qO _ _ 'd',qO _ _ 'd']at this;lia
noncomputable def Ge(i:Nat):Row:=(eM i,bu<|eM i)
noncomputable def mG(m:Nat):List Row:=(aE m).map Ge
theorem kA(m:Nat):mG (m+1)=mG m++[Ge m]:=by unfold mG;rw[nU,bx];rfl
theorem v9(m:Nat):(mG m).length=m:=by unfold mG;simp
theorem uJ(d:Nat):∀m,d<m ->dI (bu<|eM d) (mG m)=mG (d+1)
 |0,h=>absurd h (vH _)
 |m+1,h=>by
  rw[uK,kA,uL];by_cases hd:d=m
  .subst hd;rw[if_neg (by show¬(bu (eM d) !=bu (eM d))=aj;simp),<-kA]
  .rw[if_pos (by
    show(bu (eM m) !=bu (eM d))=aj;rw[bne_iff_ne];exact λq=>hd (Ot q).symm)]
   rw[<-uK];exact uJ d m (by lia)
noncomputable def jb(b:eo)(t:Nat×List aF):eo:=judge b (eM t.1) (dF t) t.2
theorem Uo(H:1<=m)(Q:b.pile=mG m)(hd:d<=m):(jb b (d,ws)).pile=mG (d+1)/\(jb b (d,ws)).told=b.told++[(d,ws)]/\(jb b (d,ws)).bT=b.bT:=by
 obtain⟨a,rfl⟩:∃a,m=a+1:=(m -1,by exact(jl H).symm);have U:(lS b.pile).2=bu (eM a):=by rw[Q,kA,rg];rfl
 unfold jb judge;rw[U];by_cases c:a<d
 .have:d=a+1:=by exact gQ hd c
  subst this;rw[if_pos<|(yV _ _).mpr c];refine(?_,?_,rfl)
  .show b.pile++[Ge<|a+1]=_;rw[Q,<-kA]
  .show b.told++[(b.pile.length,ws)]=_;rw[Q,v9]
 .rw[if_neg λq=>c<|(yV _ _).mp q];have e:dI (bu<|eM d) b.pile=mG (d+1):=by rw[Q];exact uJ d _ (by exact ck c)
  show(if dI (bu<|eM d) b.pile≠[]then _ else _:eo).pile=_/\(if dI (bu<|eM d) b.pile≠[]then _ else _:eo).told=_/\(if dI (bu<|eM d) b.pile≠[]then _ else _:eo).bT=_;rw[if_pos (by rw[e,kA];simp)];refine(e,?_,rfl);show b.told++[((dI (bu<|eM d) b.pile).length -1,ws)]=_;rw[e,v9];rfl
set_option tactic.hygienic true in
theorem Kj : ∀ {m k : Nat} {l : List (Nat × List aF)}, Chain m l k → ∀ (j : Nat) (b : eo) (s : RS), Rel b s → lW j b → j + l.length ≤ 100 → 1 ≤ m → b.pile = mG m →
    ∃ s', iW s ((l.map dF).flatMap fun x => aO x "\n") s' ∧ s'.rows = s.rows ++ l.map fJ ∧ s'.bT = s.bT ∧ s'.held = "" := by
  intro m k l C
  induction C with
  | nil m => intro j b s R I _ _ _; exact ⟨s, .nil s, by simp, rfl, R.held⟩
  | cons hd y G C ih =>
    rename_i m d k Q l
    intro j b s R I D hm hp
    rw [aU] at D
    obtain ⟨t1, t2, z⟩ := zO y G
    obtain ⟨n, u⟩ := G
    obtain ⟨U, r1, E⟩ := zj R I t1 (by rw [u]; exact jE n) (by rw [u]; exact ai (g0 n) (by decide)) z t2
    obtain ⟨e1, e2, e3⟩ := Uo (ws := Q) hm hp hd
    have I1 := wo (X := dF (d, Q)) (ws := Q) I (sX y) (by exact j5 D (by omega))
    obtain ⟨H, r2, f1, f2, f3⟩ := ih (j + 1) _ U E I1 (by exact j5 D (by omega)) (by exact eJ _) e1
    refine ⟨H, ?_, ?_, ?_, f3⟩
    · rw [bw, cW]; exact r1.app r2
    · rw [f1, E.rows]
      show aP fJ (jb b (d, Q)).told ++ _ = _
      rw [e2, R.rows]; simp
    · rw [f2, E.bT]
      show aP mS (jb b (d, Q)).bT = _
      rw [e3, ← R.bT]
theorem LQ:b0.pile=mG 1:=by show[(aa "",bU 9 0)]=[Ge 0];unfold Ge;rw[show eM 0=aa ""from 'k',uT]
theorem Gk{ns:List Nat}(Q:ns.length<=7):∃s',iW ([],[],[aa ""],"",0) (aO (aY "\n"<|(ns.foldl du b0).told.map dF) "\n") s' /\s'.rows=(ns.foldl du b0).told.map fJ/\s'.bT=[]/\s'.held="":=by
 have C:=rE ns 0 b0 (.nil _) oX (by exact j5 Q (by omega));obtain⟨Xs,s',h0,m,j,z,I⟩:=xw ns 0 b0 _ Gh oX (by exact j5 Q (by omega));have H:=I.len.2.1;generalize y:(ns.foldl du b0).told=T at C H;cases T with
 |nil=>
  have e:aY "\n" (([]:List (Nat×List aF)).map dF)=aa "":='k';rw[e];have u:yf (bZ<|aa "") []:=by rw[show bZ (aa "")=[]from 'k'];exact(rfl,λa b h=>absurd h<|by simp)
  obtain⟨s',r,R⟩:=v7 Gh u (by rw[show(aa "").length=0 from 'k'];decide);exact(s',r,R.rows,R.bT,R.held)
 |cons t T=>
  obtain⟨s',G,E,D,U⟩:=Kj C 0 b0 _ Gh oX (by exact rS Q H (by omega)) (aJ _) LQ;rw[ud<|by simp];exact(s',G,by rw[E];rfl,by rw[D],U)
theorem Chain.words(C:Chain m l k):∀t∈l,WP t.2/\t.1<=8:=by
 induction C with
 |nil=>intro t h;cases h
 |cons a b c _ Q=>
  intro t h;rcases List.mem_cons.mp h with rfl|h
  .exact(c,b)
  .exact Q t h
noncomputable def bL(b:eo)(ns:List V):List (aF×V):=[("count",.int b.count),("pile",.lst<|bh b.pile),("nags",.ref 2),("told",.ref 1),("texts",.ref 0),("numbers",.lst ns)]
noncomputable def bO(b:eo):List O:=[.list<|b.texts.map V.str,.list<|b.told.map fJ,.list<|b.bT.map mS]
noncomputable def uk:List cn:=kX<|(eA<|Hd.f0 38)[1]?
theorem mh:oz (bh p):=fK λU U=>(trivial,fK λU U=>trivial,trivial)
section
variable{F:Fx} {b b' :eo} {n:Nat} {N:List V} {lead text msg:aF} {ws:List aF} {left:List Row} {o:List O}
noncomputable abbrev AG(b:eo)(text:aF):List O:=[O.list<|b.texts.map V.str++[.str text],.list<|b.told.map fJ,.list<|b.bT.map mS]
theorem TU(j:dB 902 8 [.int n,.lst<|bh b.pile] [] [] (.ok<|.tup [.str lead,.lst<|ws.map V.str,.str text]) [])(y:ws≠[])(H:ws.length<=100)(m:dB 907 8 [.lst<|bh b.pile,.str lead,.lst<|bY<|bu lead] [] [] (.ok<|.lst<|bh left) [])(Q:left≠[])(z:b.texts.length<=100)(U:b.told.length<=100)(E:left.length<=200)(u:b' =(b.texts++[text],b.told++[(left.length -1,ws)],b.bT,left,b.count+(dY text "\n"+1)))(D:F.prog=PR)(hB:BS F.w F.hB)(X:bS F (KK F.w.params) (aQ<|Hd.f0 38) 11)(Y:sd F):
 dc F uk (("number",.int n)::bL b N,bO b) .next (bL b' N,bO b'):=by
 have G:1<=left.length:=List.length_pos_iff.mpr Q;refine O0 X rfl (an:=[.c (.ok<|.tup [.str lead,.lst<|ws.map V.str,.str text])<|bO b,.b aj,.c (.ok<|.lst<|bY<|bu lead)<|AG b text,.c (.ok<|.lst<|bh left)<|AG b text,.b aj])
  (p:=(cL F 902 [V.int n,.lst<|bh b.pile] (bO b) (.ok<|.tup [.str lead,.lst<|ws.map V.str,.str text])<|bO b)/\(b.texts.map V.str).length<=2^24/\(ws.map V.str).length<=2^24/\(!(ws.map V.str).isEmpty)=aj/\
   (cL F 880 [.str lead] (AG b text) (.ok<|.lst<|bY<|bu lead)<|AG b text)/\(cL F 907 [.lst<|bh b.pile,.str lead,.lst<|bY<|bu lead] (AG b text) (.ok<|.lst<|bh left)<|AG b text)/\
   (bh left).length<=2^24/\(!(bh left).isEmpty)=aj/\(bh left).length<=2^24/\2<=2^24/\(b.told.map fJ).length<=2^24/\FV.next= .next/\
   (ah (V.int<|b.count+(dY text "\n"+1))=ah (.int b'.count)/\ah (V.lst<|bh left)=ah (.lst<|bh b'.pile)/\ah (V.ref 2)=ah (V.ref 2)/\ah (V.ref 1)=ah (V.ref 1)/\ah (V.ref 0)=ah (V.ref 0)/\ah (V.lst N)=ah (V.lst N)/\True)/\
   [O.list<|b.texts.map V.str++[.str text],.list<|b.told.map fJ++[.tup [.int<|(bh left).length -1,.lst<|ws.map V.str]],.list<|b.bT.map mS]=bO b') 'k' ?_
 refine(j8 X D hB j rfl 'k' ((trivial,mh,trivial),trivial,(trivial,nr_strs,trivial,trivial)),?_,?_,Bd y,j8 X D hB (Al lead▸C0) rfl 'k' ((trivial,trivial),trivial,nr_ints),j8 X D hB m rfl 'k' ((mh,trivial,nr_ints,trivial),trivial,mh),
  ?_,Bd Q,?_,by exact aM ..,?_,rfl,(by rw[u],by rw[u],rfl,rfl,rfl,rfl,trivial),?_)
 .rw[ax];exact(ai z 'd')
 .rw[ax];exact(ai H 'd')
 .rw[fE];exact(ai E 'd')
 .rw[fE];omega
 .rw[ax];exact(ai U 'd')
 .have e:(((left.length -1:Nat):Int))=(left.length:Int) -1:=by exact qsb G
  rw[u];unfold bO;simp only[bx,bw,kO,fJ,fE,e]
theorem aah(u:dB 902 8 [.int n,.lst<|bh b.pile] [] [] (.ok<|.tup [.str lead,.lst<|ws.map V.str,.str text]) [])(E:ws≠[])(H:ws.length<=100)(y:dB 907 8 [.lst<|bh b.pile,.str lead,.lst<|bY<|bu lead] [] [] (.ok<|.lst []) [])(z:dB 912 8 [.lst<|bh b.pile,.str lead,.lst<|bY<|bu lead] [] [] (.ok<|.str msg) [])(G:b.texts.length<=100)(U:b.bT.length<=100)(D:b' =(b.texts++[text],b.told,b.bT++[(b.count+(dY text "\n"+1),msg,text)],b.pile,b.count+(dY text "\n"+1)))(Q:F.prog=PR)(hB:BS F.w F.hB)(X:bS F (KK F.w.params) (aQ<|Hd.f0 38) 11)(Y:sd F):
 dc F uk (("number",.int n)::bL b N,bO b) .next (bL b' N,bO b'):=by
 refine O0 X rfl (an:=[.c (.ok<|.tup [.str lead,.lst<|ws.map V.str,.str text])<|bO b,.b aj,.c (.ok<|.lst<|bY<|bu lead)<|AG b text,.c (.ok<|.lst [])<|AG b text,.a,.c (.ok<|.str msg)<|AG b text])
  (p:=(cL F 902 [V.int n,.lst<|bh b.pile] (bO b) (.ok<|.tup [.str lead,.lst<|ws.map V.str,.str text])<|bO b)/\(b.texts.map V.str).length<=2^24/\(ws.map V.str).length<=2^24/\(!(ws.map V.str).isEmpty)=aj/\
   (cL F 880 [.str lead] (AG b text) (.ok<|.lst<|bY<|bu lead)<|AG b text)/\(cL F 907 [.lst<|bh b.pile,.str lead,.lst<|bY<|bu lead] (AG b text) (.ok<|.lst [])<|AG b text)/\
   0<=2^24/\(cL F 912 [.lst<|bh b.pile,.str lead,.lst<|bY<|bu lead] (AG b text) (.ok<|.str msg)<|AG b text)/\3<=2^24/\(b.bT.map mS).length<=2^24/\FV.next= .next/\
   (ah (V.int<|b.count+(dY text "\n"+1))=ah (.int b'.count)/\ah (V.lst<|bh b.pile)=ah (.lst<|bh b'.pile)/\ah (V.ref 2)=ah (V.ref 2)/\ah (V.ref 1)=ah (V.ref 1)/\ah (V.ref 0)=ah (V.ref 0)/\ah (V.lst N)=ah (V.lst N)/\True)/\
   [O.list<|b.texts.map V.str++[.str text],.list<|b.told.map fJ,.list<|b.bT.map mS++[.tup [.int<|b.count+(dY text "\n"+1),.str msg,.str text]]]=bO b') 'k' ?_
 refine(j8 X Q hB u rfl 'k' ((trivial,mh,trivial),trivial,(trivial,nr_strs,trivial,trivial)),?_,?_,Bd E,j8 X Q hB (Al lead▸C0) rfl 'k' ((trivial,trivial),trivial,nr_ints),j8 X Q hB y rfl 'k' ((mh,trivial,nr_ints,trivial),trivial,trivial),
  by exact bH _,j8 X Q hB z rfl 'k' ((mh,trivial,nr_ints,trivial),trivial,trivial),by exact aM ..,?_,rfl,(by rw[D],by rw[D],rfl,rfl,rfl,rfl,trivial),?_)
 .rw[ax];exact(ai G 'd')
 .rw[ax];exact(ai H 'd')
 .rw[ax];exact(ai U 'd')
 .rw[D];unfold bO;simp only[bx,bw,kO,mS]
theorem aag(U:dB 902 8 [.int n,.lst<|bh b.pile] [] [] (.ok<|.tup [.str "",.lst [],.str text]) [])(H:b.texts.length<=100)(Q:b' =(b.texts++[text],b.told,b.bT,b.pile,b.count+(dY text "\n"+1)))(D:F.prog=PR)(hB:BS F.w F.hB)(X:bS F (KK F.w.params) (aQ<|Hd.f0 38) 11)(Y:sd F):
 dc F uk (("number",.int n)::bL b N,bO b) .next (bL b' N,bO b'):=by
 refine O0 X rfl (an:=[.c (.ok<|.tup [.str "",.lst [],.str text])<|bO b,.a])
  (p:=(cL F 902 [V.int n,.lst<|bh b.pile] (bO b) (.ok<|.tup [.str "",.lst [],.str text])<|bO b)/\(b.texts.map V.str).length<=2^24/\0<=2^24/\FV.next= .next/\
   (ah (V.int<|b.count+(dY text "\n"+1))=ah (.int b'.count)/\ah (V.lst<|bh b.pile)=ah (.lst<|bh b'.pile)/\ah (V.ref 2)=ah (V.ref 2)/\ah (V.ref 1)=ah (V.ref 1)/\ah (V.ref 0)=ah (V.ref 0)/\ah (V.lst N)=ah (V.lst N)/\True)/\AG b text=bO b') 'k' ?_
 refine(j8 X D hB U rfl 'k' ((trivial,mh,trivial),trivial,(trivial,trivial,trivial,trivial)),?_,by exact bH _,rfl,(by rw[Q],by rw[Q],rfl,rfl,rfl,rfl,trivial),?_)
 .rw[ax];exact(ai H 'd')
 .rw[Q];unfold bO;simp only[bx,bw,kO]
noncomputable abbrev iT(ns:List Nat):List V:=ns.map λn=>V.int (n:Nat)
theorem Eg(Q:∀F,F.prog=PR ->BS F.w F.hB ->bS F (KK F.w.params) (aQ<|Hd.f0 38) 11 ->sd F ->gF F (.Name "number" (878,8,878,14)) uk (iT ns) (bL b0<|iT ns,bO b0) .next (bL b<|iT ns,bO b))(U:gb "\n" b.texts=aj):dB 919 12 [.lst<|iT ns] [] [] (.ok<|.tup [.str<|aY "\n" b.texts,.ref 1,.ref 2]) (bO b):=by
 refine FN.cu (d:=11) (ab:=[("numbers",.lst<|iT ns)]) U' VU 'k' (bind1 λP S u=>'k') λF H hB X Y=>?_;refine run X rfl (an:=[.b aj,.b aj,.b aj,.l .next (bL b<|iT ns,bO b),.ss b.texts]) (p:=((0:Int)<=9/\(9:Int)<=1048576)/\2<=2^24/\1<=2^24/\5<=2^24/\ib (.lst<|iT ns)/\gF F (.Name "number" (878,8,878,14)) uk (iT ns) (bL b0<|iT ns,bO b0) .next (bL b<|iT ns,bO b)/\
  b.texts.map V.str=b.texts.map V.str/\gb "\n" b.texts=aj/\3<=2^24/\Oc.ok (.tup [.str<|aY "\n" b.texts,.ref 1,.ref 2])=Oc.ok (.tup [.str<|aY "\n" b.texts,.ref 1,.ref 2])/\bO b=bO b) 'k' ?_
 exact(by exact(aL _,aL _),by exact aM ..,by exact eJ _,by exact aM ..,trivial,Q F H hB X Y,rfl,U,by exact aM ..,rfl,rfl)
end
theorem Ld.self(h:GL x):Ld x x:=Hd (r:=[]) (by rw[cb]) (λU U h=>nomatch h) h
theorem zc(G:nu x y<=8):gb ", " (fh (nu x y) (bu x)<|bu y)=aj/\(aY ", "<|fh (nu x y) (bu x)<|bu y).length<=2^16:=by
 rw[<-qX];have Q:∀s∈gv (i7 x y),s.length<=100:=by
  intro s H;unfold gv i7 at H;rw[cK]at H;obtain⟨i,E,rfl⟩:=List.mem_map.mp H;have E:=List.mem_range.mp (List.mem_filter.mp E).1;have:∀i:Nat,i<=8 ->(aa<|toString<|(1:Int)+(i:Int)).length<=100:=by decide+kernel
  exact this i (by exact rS G E (by omega))
 have U:(gv<|i7 x y).length<=9:=by unfold gv i7;rw[ax,ax];refine ai (oF _ _) ?_;rw[bJ];exact eS G
 have u:(aa ", ").length=2:='k';have D:(gv<|i7 x y).length*(100+(aa ", ").length)<=9*102:=by rw[u];exact lD U 'd'
 refine(fL 100 Q<|by exact(ai D 'd'),?_);show(fy _ _).length<=_;rw[eg];have z:=eY ", "<|gv<|i7 x y;have j:=gL (B:=100) (gv<|i7 x y) Q;rw[u]at z;lia
section
variable{F:Fx} {N:List V}
theorem Kv{n k:Nat}(I:lW k b)(u:k+1<=100)(j:b.texts.length<=100)(hn:n<10^9)(m:F.prog=PR)(hB:BS F.w F.hB)(X:bS F (KK F.w.params) (aQ<|Hd.f0 38) 11)(Y:sd F):dc F uk (("number",.int n)::bL b N,bO b) .next (bL (du b n) N,bO<|du b n):=by
 unfold du;by_cases h8:a8 n 0=8
 .rw[if_pos h8];exact aag (text:=t8 n) (Lg hn h8) j rfl m hB X Y
 .rw[if_neg h8];have y:=I.last;obtain⟨i1,i2,i3,i4,i5,i6⟩:=I;obtain⟨z,⟨Q,old⟩,E⟩:∃z e,b.pile=z++[e]:=(b.pile.dropLast,b.pile.getLast i1,(gM i1).symm);have H:lS b.pile=(Q,old):=by rw[E];exact rg _ _
  rw[H]at y⊢;have hold:old=bu Q:=(i2 (Q,old) (by rw[E];simp)).2;have U:z.length<=1000:=by rw[E,aD,aV]at i3;exact rS u i3 (by omega)
  have D:=Qb (n:=n) (p:=z) (aH:=Q) (old:=old) U (λr D=>(i2 r (by rw[E];exact D)).1) h8;rw[<-E]at D;have gx:GL (mH n b.pile Q):=n7 (λr D=>(i2 r D).1) y;generalize mH n b.pile Q=x at D gx;have c9:old.length=9:=by rw[hold];exact ou _
  have wl:=g0 n;unfold judge;rw[H];by_cases c1:(aE 9).any (cm old<|bu x)=ao
  .rw[if_pos c1];have G:=HX (p:=z) (aH:=Q) (lead:=x) (old:=old) (here:=bu x) U c9 (ou x) c1;rw[<-E]at G;exact TU D (jE n) (by exact(ai wl 'd')) G (by simp) j (by exact rS u i4 (by omega)) (by rw[aD,aV];exact dz (ai i3 u) 'd') (by simp) m hB X Y
  .rw[if_neg c1];have c1' :(aE 9).any (cm old<|bu x)=aj:=by simpa using c1
   have G:=HW (p:=z) (aH:=Q) (lead:=x) (old:=old) (here:=bu x) U c9 (ou x) c1';rw[<-E]at G;by_cases c2:dI (bu x) b.pile≠[]
   .rw[if_pos c2];have dl:(dI (bu x) b.pile).length<=b.pile.length:=oj;exact TU D (jE n) (by exact(ai wl 'd')) G c2 j (by exact rS u i4 (by omega)) (by exact ZP u dl i3 (by omega)) rfl m hB X Y
   .rw[if_neg c2];have e:dI (bu x) b.pile=[]:=Classical.not_not.mp c2;rw[e]at G;have m8:=xI (Ld.self y)<|Ld.self gx;obtain⟨j1,j2⟩:=zc m8;obtain⟨r1,r2⟩:=DV y.1 gx.1;have hc:=xY (p:=z) (old:=Q) (lead:=x) (cols:=old) (here:=bu x) U c9 (ou x) (xS y) (xS gx) r1 r2 m8 (by rw[hold];exact j1) (by rw[hold];exact j2);rw[<-E]at hc;exact aah D (jE n) (by exact(ai wl 'd')) G hc j (by exact rS i5 u (by omega)) rfl m hB X Y
theorem rZ(b:eo)(n:Nat):(du b n).texts.length=b.texts.length+1:=by
 unfold du ya judge;split
 .simp
 .split
  .simp
  .split<;>simp
theorem Cw:∀(ns:List Nat) (k:Nat) (b:eo),lW k b ->b.texts.length=k ->k+ns.length<=100 ->(∀n∈ns,n<10^9)->F.prog=PR ->BS F.w F.hB ->bS F (KK F.w.params) (aQ<|Hd.f0 38) 11 ->sd F ->
 gF F (.Name "number" px) uk (iT ns) (bL b N,bO b) .next (bL (ns.foldl du b) N,bO<|ns.foldl du b)
 |[],_,_,_,_,_,_,_,_,_,_=>(rfl,rfl)
 |n::ns,k,b,I,H,Q,D,U,hB,X,Y=>by rw[aU]at Q;exact(_,_,_,sJ.name X 'k',Kv I (by exact j5 Q (by omega)) (by exact rS Q (ar H) (by omega)) (D n<|.head _) U hB X Y,Cw ns (k+1) (du b n) (lV I<|by omega) (by rw[rZ,H]) (by exact j5 Q (by omega)) (λm E=>D m<|.tail _ E) U hB X Y)
end
theorem nh:∀(ns:List Nat) (k:Nat) (b:eo),lW k b ->(∀t∈b.texts,t.length<=2^13)->k+ns.length<=100 ->∀t∈(ns.foldl du b).texts,t.length<=2^13
 |[],_,_,_,h,_=>h
 |n::ns,k,b,I,h,D=>by
  rw[aU]at D;refine nh ns (k+1) (du b n) (lV I<|by exact j5 D (by omega)) (λt H=>?_) (by exact j5 D (by omega));have g:=n7 (n:=n) (λr E=>(I.gl r E).1) I.last;have U:=(FE n).2;have Q:=text_len n g.2;have:∃X,(du b n).texts=b.texts++[X]/\X.length<=2^13:=by
   unfold du judge;split
   .exact(_,rfl,U)
   .split
    .exact(_,rfl,Q)
    .split
     .exact(_,rfl,Q)
     .exact(_,rfl,Q)
  obtain⟨X,e,G⟩:=this;rw[e]at H;rcases List.mem_append.mp H with H|H
  .exact h t H
  .rw[List.mem_singleton.mp H];exact G
theorem qN:∀(ns:List Nat) (b:eo),(ns.foldl du b).texts.length=b.texts.length+ns.length
 |[],_=>rfl
 |n::ns,b=>by rw[eh,qN ns,rZ,aU];exact cZ ..
theorem H3(Q:ns.length<=7)(G:∀n∈ns,n<10^9):dB 919 12 [.lst<|iT ns] [] []
 (.ok<|.tup [.str<|aY "\n" (ns.foldl du b0).texts,.lst<|(ns.foldl du b0).told.map fJ,.lst<|(ns.foldl du b0).bT.map mS]) []:=by
 have u:gb "\n" (ns.foldl du b0).texts=aj:=fL (2^13) (nh ns 0 b0 oX (λt H=>nomatch H) (by exact j5 Q (by omega))) (by rw[qN,show(aa "\n").length=1 from 'k'];have:(b0.texts.length+ns.length)*(2^13+1)<=7*(2^13+1):=dy _ (by show 0+ns.length<=7;exact j5 Q<|by omega);exact(ai this 'd'))
 have h:=Eg (b:=ns.foldl du b0) (ns:=ns) (λF D hB X Y=>Cw ns 0 b0 oX rfl (by omega) G D hB X Y) u;exact FN.drop (obs:=[]) (cS:=[]) h rfl (λo E=>nomatch E) (.tup<|.cons (.str _)<|.cons (Fz.list (j:=1) rfl<|lq<|fK λU U=>(trivial,nr_strs,trivial)) (.cons (Fz.list (j:=2) rfl<|lq<|fK λU U=>(trivial,trivial,trivial,trivial)) .nil))
def sZ(x:aF):Prop:=∀c∈bZ x,c<0x110000
theorem sZ.str(h:sZ x):NX x=aj:=by unfold NX;rw[<-Array.all_toList];exact List.all_eq_true.mpr λc Q=>decide_eq_true<|h c Q
theorem mf(s:String):sZ (aa s):=by
 intro c Q;have e:bZ (aa s)=s.toList.map Char.toNat:=by show(aa s).cps.toList=_;rw[Str.ofString_eq_toList]
 rw[e]at Q;obtain⟨k,_,rfl⟩:=List.mem_map.mp Q;have:=k.valid;show k.val.toNat<_;rcases this with h|h
 .have:k.val.toNat<0xd800:=h;exact(ai h 'd')
 .exact h.2
theorem pU(U:sZ x)(H:sZ y):sZ (x++y):=λc Q=>by
 rw[eB]at Q;rcases List.mem_append.mp Q with h|h
 .exact U c h
 .exact H c h
theorem zy(E:sZ H)(h:∀x∈l,sZ x):sZ (aY H l):=λc Q=>by
 rw[iU]at Q;rcases uA Q with G|⟨u,D,Q⟩
 .exact E c G
 .obtain⟨x,U,rfl⟩:=List.mem_map.mp D;exact h x U c Q
theorem ug{L:List aF}(h:∀x∈L,sZ x)(k:Nat):sZ (L.getD k ""):=by
 rw[aI];cases e:L[k]? with
 |none=>exact mf ""
 |some x=>exact h x<|aT e
theorem uf(Q:w∈bj n):sZ w:=λc H=>by have h:=sW Q c H;unfold zw at h;simp only[gO,beq_iff_eq,decide_eq_true_eq]at h;have k:∀{p:Prop} {d:Nat},(p ->c<1114112)->d<1114112 ->(p\/c=d)->c<1114112:=λf hd q=>q.elim f λe=>e▸hd;exact h.elim (k (k (k (k (k (k (k (k (λe=>e▸by decide) 'd') 'd') 'd') 'd') 'd') 'd') 'd') 'd') λe=>BV e.2 'd'
theorem Pd(h:bt (bZ x)):sZ x:=λc Q=>by rcases h c Q with rfl|rfl<;>decide
theorem zx(h:sZ w)(way:Int):sZ (d0 w way):=by
 unfold d0;split
 .intro c Q;rw[jw]at Q;rcases List.mem_cons.mp Q with rfl|Q
  .decide
  .rcases List.mem_append.mp Q with Q|Q
   .obtain⟨k,H,Q⟩:=List.mem_flatMap.mp Q;have:=h k H;unfold EN at Q;split at Q
    .simp at Q;lia
    .simp at Q;exact Q▸this
   .simp at Q;exact qU (ar Q) (by omega)
 .split
  .intro c Q;rw[my]at Q;rcases List.mem_cons.mp Q with rfl|Q
   .decide
   .rcases List.mem_append.mp Q with Q|Q
    .obtain⟨k,H,Q⟩:=List.mem_flatMap.mp Q;have:=h k H;unfold Bz at Q;split at Q
     .simp at Q;exact qU (ar Q) (by omega)
     .split at Q
      .simp at Q;omega
      .simp at Q;omega
    .simp at Q;exact qU (ar Q) (by omega)
  .intro c Q;rw[mz]at Q;obtain⟨k,H,Q⟩:=List.mem_flatMap.mp Q;have:=h k H;unfold LK at Q;simp at Q;omega
theorem GD(h:GL lead):sZ (lK n lead):=by
 have e:lK n lead=lead++qY n++aY (i0<|a8 n 7) (bz n)++jd (a8 n 8):=rfl;rw[e];refine pU (pU (pU (Pd h.1) ?_)<|zy (ug ?_ _) λy H=>?_) (ug ?_ _)
 .unfold qY;split<;>exact mf _
 .intro x Q;unfold Ea at Q;simp at Q;rcases Q with rfl|rfl|rfl|rfl<;>exact mf _
 .unfold bz at H;obtain⟨i,D,rfl⟩:=List.mem_map.mp H;refine zx (ug (λw U=>uf U) _) _
 .intro x Q;unfold rR at Q;simp at Q;rcases Q with rfl|rfl|rfl|rfl<;>exact mf _
theorem vx(m:Nat)(cols here:List Int):sZ (fo m cols here):=by
 unfold fo;refine pU (pU (mf _) ?_)<|zy (mf _) λx Q=>?_
 .split<;>exact mf _
 .unfold fh at Q;obtain⟨i,_,rfl⟩:=List.mem_map.mp Q;exact mf _
structure Dt (b:eo):Prop where
 told:∀t∈b.told,∀w∈t.2,sZ w
 bT:∀t∈b.bT,sZ t.2.1/\sZ t.2.2
theorem Ls(I:lW k b)(h:Dt b):Dt (du b n):=by
 have g:=n7 (n:=n) (λr E=>(I.gl r E).1) I.last;obtain⟨D,U⟩:=h;have H:∀t∈b.told++[(b.pile.length,bj n)],∀w∈t.2,sZ w:=λt Q=>by
  rcases List.mem_append.mp Q with Q|Q
  .exact D t Q
  .rw[List.mem_singleton.mp Q];exact λw H=>uf H
 unfold du;split
 .exact(D,U)
 .unfold judge;split
  .exact(H,U)
  .split
   .refine(λt Q=>?_,U);rcases List.mem_append.mp Q with Q|Q
    .exact D t Q
    .rw[List.mem_singleton.mp Q];exact λw H=>uf H
   .refine(D,λt Q=>?_);rcases List.mem_append.mp Q with Q|Q
    .exact U t Q
    .rw[List.mem_singleton.mp Q];exact(vx _ _ _,GD g)
theorem Ij:∀(ns:List Nat) (k:Nat) (b:eo),lW k b ->Dt b ->k+ns.length<=100 ->Dt (ns.foldl du b)
 |[],_,_,_,h,_=>h
 |n::ns,k,b,I,h,Q=>by rw[aU]at Q;exact Ij ns (k+1) (du b n) (lV I<|by exact j5 Q (by omega)) (Ls I h) (by exact j5 Q (by omega))
theorem oq{f:Q ->V}(h:∀x,(f x).data=ah (g x)):∀l:List Q,V.gV (l.map f)=ah (l.map g)
 |[]=>rfl
 |x::l=>by show nK (f x).data (V.gV<|l.map f)=_;rw[h,oq h l];rfl
noncomputable def tK(t:Nat×List aF):eF:=.tuple [.int (t.1:Nat),.list<|t.2.map .str]
noncomputable def Be(t:Int×aF×aF):eF:=.tuple [.int t.1,.str t.2.1,.str t.2.2]
theorem DF(l:List aF):(V.lst<|l.map V.str).data=ah (.list<|l.map .str):=by show(V.gV<|l.map V.str).map d8=_;rw[oq (g:=bq) λx=>rfl];rfl
theorem DB(t:Nat×List aF):(fJ t).data=ah (tK t):=by show(nK (ah<|.int (t.1:Nat))<|nK (V.lst<|t.2.map V.str).data<|ah []).map km=_;rw[DF];rfl
theorem GK(t:Int×aF×aF):(mS t).data=ah (Be t):=rfl
noncomputable abbrev nk(told:List (Nat×List aF))(bT:List (Int×aF×aF)):V:=.tup [.lst<|told.map fJ,.lst<|bT.map mS,.str ""]
noncomputable abbrev pT(told:List (Nat×List aF))(bT:List (Int×aF×aF)):eF:=.tuple [.list<|told.map tK,.list<|bT.map Be,.str ""]
theorem n0(told:List (Nat×List aF))(bT:List (Int×aF×aF)):(nk told bT).data=ah (pT told bT):=by show(nK ((V.gV<|told.map fJ).map d8)<|nK ((V.gV<|bT.map mS).map d8)<|ah [.str ""]).map km=_;rw[oq DB,oq GK];rfl
theorem xM{l:List U}(h:∀x∈l,fu (f x)=aj):cT (l.map f)=aj:=by
 induction l with
 |nil=>simp[cT]
 |cons x l Q=>rw[bw,cT,h x<|.head _,Q λy H=>h y<|.tail _ H];rfl
theorem tj:∀l:List Q,(∀x,e9 (f x)<=n)->dw (l.map f)<=n
 |[],_=>by simp[dw]
 |x::l,h=>by rw[bw,dw];exact Nat.max_le.mpr (h x,tj l h)
theorem Fv(t:Nat×List aF):e9 (tK t)<=2:=by
 have h:=tj (f:=bq) (n:=0) t.2 λx=>by rw[e9];exact aJ _
 unfold tK;simp only[e9,dw];lia
theorem Kw(t:Int×aF×aF):e9 (Be t)<=2:=by unfold Be;simp only[e9,dw];exact eJ _
theorem rT(U:∀t∈told,∀w∈t.2,sZ w)(H:∀t∈bT,sZ t.2.1/\sZ t.2.2):dQ (pT told bT)=aj:=by
 unfold dQ;rw[aw];constructor
 .have G:=xM (f:=tK) (l:=told) λt Q=>by
   unfold tK;have:=xM (f:=bq) (l:=t.2) λw D=>by rw[fu];exact(U t Q w D).str
   simp only[fu,cT,this];rfl
  have E:=xM (f:=Be) (l:=bT) λt Q=>by unfold Be;simp only[fu,cT,(H t Q).1.str,(H t Q).2.str,l5]
  unfold pT;simp only[fu,cT,G,E,(mf "").str,l5]
 .have U:=tj (f:=tK) told Fv;have H:=tj (f:=Be) bT Kw;refine decide_eq_true ?_;unfold pT;simp only[e9,dw];exact ai (bE<|Nat.max_le.mpr (bE U,Nat.max_le.mpr (bE H,ae rfl))) (ae rfl:3+1<=64)
theorem zu(h:dQ (pT told bT)=aj):bA (pT told bT) (pT told bT)=aj:=SeqAt.eqv_refl _<|SeqAt.canLay_of_shaped h
noncomputable def XZ:aW:=abk<|abl<|QZ (eA<|Hd.f0 41)[0]?
noncomputable def Um:aW:=Jc<|QZ (eA<|Hd.f0 41)[3]?
noncomputable def Ul:aW:=Jc<|abd<|RV (eA<|Hd.f0 41)[4]?
section
variable{F:Fx} {xs:List Int} {told:List (Nat×List aF)} {l:List (aF×V)}
theorem PD(Q:xs.length<=100)(X:bS F (KK F.w.params) (aQ<|Hd.f0 41) 19):
 EV F XZ ([("script",.lst<|xs.map V.int)],[]) (.lst<|(xs.take 3).map λc=>.int<|c.fmod 1000000000) ([("script",.lst<|xs.map V.int)],[]):=by
 refine uS (y:="cell") V.int (λc=>.int<|c.fmod 1000000000) (xs.take 3) [] X (by exact aM ..) 'k' 'k' (by intros;rfl) (v:=.lst<|(xs.take 3).map V.int) ?_ rfl trivial ?_ trivial (λU=>trivial) λD H U U U c U=>?_
 .have:=jm X (e:=wm XZ) (st:=([("script",.lst<|xs.map V.int)],[])) (an:=[]) (v:=.lst<|pick (xs.map V.int) aC (ah 3) aC) (o:=[]) (p:=(xs.map V.int).length<=2^24/\V.lst (pick (xs.map V.int) aC (ah 3) aC)=V.lst (pick (xs.map V.int) aC (ah 3) aC)/\([]:List O)=[]) rfl 'k' (by rw[ax];exact(ai Q 'd'),rfl,rfl);have e:pick (xs.map V.int) aC (ah 3) aC=(xs.map V.int).take 3:=wa _ 3;rw[e,<-List.map_take]at this;exact this
 .rw[dA];lia
 .exact jm H (e:=xK XZ) (st:=([("cell",.int c)],[])) (an:=[.w<|.int<|10^9]) (v:=.int<|c.fmod 1000000000) (o:=[]) (p:=(∀st,lG D st .Pow (.int 10) (.int 9)<|.int<|10^9)/\(10^9:Int)≠0/\V.int (c.fmod<|10^9)=V.int (c.fmod 1000000000)/\([]:List O)=[]) rfl 'k' (λst=>lG.pow10 (k:=9)<|by exact aM ..,'d',rfl,rfl)
theorem GQ:∀d:Nat,d<=8 ->Sf "\t" d/\sP "\t" (d:Int)=eM d:=by unfold Sf;decide+kernel
theorem yU(d:Nat):(eM d).length=d:=by rw[<-fs];unfold eM;rw[C8,jM]
theorem zS(h:WP ws):dB 751 5 [o7 ws] [] [] (.ok<|.str<|aY " "<|ws.map cf) []/\dB 897 8 [o7 ws] [] [] (.ok<|.str<|plainS ws) []/\plainS ws=aY " " (ws.map cf)/\(aY " "<|ws.map cf).length<=400:=by
 obtain⟨n,rfl⟩:=h;have e:(bj n).map fN=(bj n).map cf:=gi λw Q=>(kf<|sW Q).symm;have U:=g0 n;have D:∀x∈(bj n).map cf,x.length<=100:=λx H=>by obtain⟨w,Q,rfl⟩:=List.mem_map.mp H;exact tX (sW Q)<|lJ Q
 have u:(aa " ").length=1:='k';have E:gb " " ((bj n).map cf)=aj:=fL 100 D (by rw[ax,u];lia);refine(Ll (λx H=>ai (lJ H) 'd') E (by exact(ai U 'd')),HP (by exact(ai U 'd')) (λw Q=>ai (lJ Q) 'd') (e▸E),by unfold plainS;rw[e],?_);show(fy _ _).length<=_;rw[eg];have G:=eY " "<|(bj n).map cf;have y:=gL (B:=100) ((bj n).map cf) D;rw[u]at G;rw[ax]at G y;lia
theorem PC(z:∀t∈told,WP t.2/\t.1<=8)(hl:told.length<=100)(j:EV F (wm Um) (l,[]) (.lst<|told.map fJ) (l,[]))(m:F.prog=PR)(hB:BS F.w F.hB)(X:bS F (KK F.w.params) (aQ<|Hd.f0 41) 19):
 EV F Um (l,[]) (.lst<|told.map λt=>.str<|dF t) (l,[]):=by
 refine NB (x:="depth") (y:="words") (λt:Nat×List aF=>.int (t.1:Nat)) (λt=>o7 t.2) (λt=>.str<|dF t) told [] X (by exact aM ..) 'k' 'k' (by intros;rfl) j rfl trivial (by exact(ai hl 'd')) trivial (λU U=>trivial) λF' H h1 h2 h3 t hm=>?_;obtain⟨D,Q⟩:=z t hm;obtain⟨E,m2⟩:=GQ t.1 Q;obtain⟨u,_,_,G⟩:=zS D;refine jm H (e:=xK Um) (an:=[.c (.ok<|.str<|aY " "<|t.2.map cf) []]) (p:=Sf "\t" (t.1:Nat)/\(∀l,dM F' (.ref 751) [o7 t.2] [] (l,[]) (.ok<|.str<|aY " "<|t.2.map cf) (l,[]))/\(sP "\t" (t.1:Nat)).length+(aY " "<|t.2.map cf).length<=2^24/\V.str (sP "\t" (t.1:Nat)++aY " " (t.2.map cf))=V.str (dF t)/\([]:List O)=[]) rfl 'k' ?_;refine(E,j8 H (h1.trans m) (by rw[h2,h3];exact hB) u rfl 'k' ((nr_strs,trivial),trivial,trivial),?_,by rw[m2];rfl,rfl);rw[m2,yU];exact ai (au Q G) 'd'
theorem Pz(z:∀t∈told,WP t.2/\t.1<=8)(hl:told.length<=100)(j:EV F (wm Ul) (l,[]) (.lst<|told.map fJ) (l,[]))(m:F.prog=PR)(hB:BS F.w F.hB)(X:bS F (KK F.w.params) (aQ<|Hd.f0 41) 19):
 EV F Ul (l,[]) (.lst<|told.map λt=>.str<|dF t) (l,[]):=by
 refine NB (x:="depth") (y:="words") (λt:Nat×List aF=>.int (t.1:Nat)) (λt=>o7 t.2) (λt=>.str<|dF t) told [] X (by exact aM ..) 'k' 'k' (by intros;rfl) j rfl trivial (by omega) trivial (λU U=>trivial) λF' H h1 h2 h3 t hm=>?_;obtain⟨E,D⟩:=z t hm;obtain⟨G,m2⟩:=GQ t.1 D;obtain⟨_,Q,u,j2⟩:=zS E;rw[u]at Q;refine jm H (e:=xK Ul) (an:=[.c (.ok<|.str<|aY " "<|t.2.map cf) []]) (p:=Sf "\t" (t.1:Nat)/\(∀l,dM F' (.ref 897) [o7 t.2] [] (l,[]) (.ok<|.str<|aY " "<|t.2.map cf) (l,[]))/\(sP "\t" (t.1:Nat)).length+(aY " "<|t.2.map cf).length<=2^24/\V.str (sP "\t" (t.1:Nat)++aY " " (t.2.map cf))=V.str (dF t)/\([]:List O)=[]) rfl 'k' ?_;refine(G,j8 H (h1.trans m) (by rw[h2,h3];exact hB) Q rfl 'k' ((nr_strs,trivial),trivial,trivial),?_,by rw[m2];rfl,rfl);rw[m2,yU];omega
end
section
variable{xs:List Int} {ns:List Nat} {cR:aF} {told:List (Nat×List aF)} {bT:List (Int×aF×aF)}
noncomputable abbrev RP(xs:List Int)(ns:List Nat)(cR:aF)(told:List (Nat×List aF))(bT:List (Int×aF×aF)):List (aF×V):=[("nags",.lst<|bT.map mS),("told",.lst<|told.map fJ),("page",.str cR),("numbers",.lst<|iT ns),("script",.lst<|xs.map V.int)]
theorem Lk(hl:xs.length<=100)(z:[V.int 391246800]++(xs.take 3).map (λc=>V.int<|c.fmod 1000000000)++[V.int 221105433]=iT ns)(hb:dB 919 12 [.lst<|iT ns] [] [] (.ok<|.tup [.str cR,.lst<|told.map fJ,.lst<|bT.map mS]) [])(hr:dB 933 16 [.str cR] [] [] (.ok<|nk told bT) [])(G:dB 933 16 [.str<|aY "\n"<|told.map dF] [] [] (.ok<|nk told []) [])(m:∀t∈told,WP t.2/\t.1<=8)(H:told.length<=100)(hj:gb "\n" (told.map dF)=aj)(E:dQ (pT told bT)=aj)(Q:dQ (pT told [])=aj):dB 938 20 [.lst<|xs.map V.int] [] [] (.ok<|.bool aj) []:=by
 refine FN.cu (d:=19) (ab:=[("script",.lst<|xs.map V.int)]) U8 VS 'k' (bind1 λP S u=>'k') λF D hB X Y=>?_;have hu:F.A.units+64<cLine:=by have:=X.cx.units;exact qU this (by omega)
 have tl:(xs.take 3).length<=3:=by rw[dA];exact oA ..
 refine run X rfl (an:=[.x (.lst<|(xs.take 3).map λc=>.int<|c.fmod 1000000000) [],.n<|.lst<|iT ns,.c (.ok<|.tup [.str cR,.lst<|told.map fJ,.lst<|bT.map mS]) [],.c (.ok<|nk told bT) [],.b ao,.a,.x (.lst<|told.map λt=>.str<|dF t) [],.ss<|told.map dF,.x (.lst<|told.map λt=>.str<|dF t) [],.ss<|told.map dF,.b ao,.a,.c (.ok<|nk told []) [],.b ao,.b aj])
  (p:=1<=2^24/\EV F XZ ([("script",.lst<|xs.map V.int)],[]) (.lst<|(xs.take 3).map λc=>.int<|c.fmod 1000000000) ([("script",.lst<|xs.map V.int)],[])/\1+((xs.take 3).map λc=>V.int<|c.fmod 1000000000).length<=2^24/\1<=2^24/\
   ([V.int 391246800]++(xs.take 3).map (λc=>V.int<|c.fmod 1000000000)).length+1<=2^24/\Oc.ok (.lst<|[V.int 391246800]++(xs.take 3).map (λc=>V.int<|c.fmod 1000000000)++[V.int 221105433])= .ok (.lst<|iT ns)/\
   (cL F 919 [.lst<|iT ns] [] (.ok<|.tup [.str cR,.lst<|told.map fJ,.lst<|bT.map mS]) [])/\(cL F 933 [.str cR] [] (.ok<|nk told bT) [])/\3<=2^24/\(∀st,dO F st .NotEq (nk told bT) (nk told bT) ao)/\
   EV F Um (RP xs ns cR told bT,[]) (.lst<|told.map λt=>.str<|dF t) (RP xs ns cR told bT,[])/\told.map (λt=>V.str<|dF t)=(told.map dF).map V.str/\gb "\n" (told.map dF)=aj/\
   EV F Ul (("laid",.str<|aY "\n"<|told.map dF)::RP xs ns cR told bT,[]) (.lst<|told.map λt=>.str<|dF t) (("laid",.str<|aY "\n"<|told.map dF)::RP xs ns cR told bT,[])/\told.map (λt=>V.str<|dF t)=(told.map dF).map V.str/\gb "\n" (told.map dF)=aj/\
   (∀st,dO F st .NotEq (.str<|aY "\n"<|told.map dF) (.str<|aY "\n"<|told.map dF) ao)/\(cL F 933 [.str<|aY "\n"<|told.map dF] [] (.ok<|nk told []) [])/\3<=2^24/\
   (∀st,dO F st .Eq (nk told []) (nk told []) aj)/\Oc.ok (.bool aj)= .ok (.bool aj)/\([]:List O)=[]) 'k' ?_
 have nt:oz (told.map fJ):=fK λU U=>(trivial,nr_strs,trivial);have j:oz (bT.map mS):=fK λU U=>(trivial,trivial,trivial,trivial);refine(by exact eJ _,PD hl X,?_,by exact eJ _,?_,by rw[z],j8 X D hB hb rfl 'k' ((fK λU U=>trivial,trivial),trivial,(trivial,nt,j,trivial)),j8 X D hB hr rfl 'k' ((trivial,trivial),trivial,(nt,j,trivial,trivial)),by exact aM ..,λst=>?_,?_,by rw[cK];rfl,hj,?_,by rw[cK];rfl,hj,λst=>?_,
  j8 X D hB G rfl 'k' ((trivial,trivial),trivial,(nt,trivial,trivial,trivial)),by exact aM ..,λst=>?_,rfl,rfl)
 .rw[ax];lia
 .rw[aD,ax,aV];lia
 .have:=dO.neD (F:=F) (st:=st) hu (n0 told bT) (n0 told bT) E E;rw[zu E]at this;exact this
 .exact PC m H (jm X (e:=wm Um) (st:=(RP xs ns cR told bT,[])) (an:=[]) (v:=.lst<|told.map fJ) (o:=[]) (p:=V.lst (told.map fJ)= .lst (told.map fJ)/\([]:List O)=[]) rfl 'k' (rfl,rfl)) D hB X
 .exact Pz m H (jm X (e:=wm Ul) (st:=(("laid",.str<|aY "\n"<|told.map dF)::RP xs ns cR told bT,[])) (an:=[]) (v:=.lst<|told.map fJ) (o:=[]) (p:=V.lst (told.map fJ)= .lst (told.map fJ)/\([]:List O)=[]) rfl 'k' (rfl,rfl)) D hB X
 .have:=dO.MM (F:=F) (st:=st) (x:=aY "\n"<|told.map dF) (y:=aY "\n"<|told.map dF);rw[bne_self_eq_false]at this;exact this
 .have:=dO.Ym (F:=F) (st:=st) hu (n0 told []) (n0 told []) Q Q;rw[zu Q]at this;exact this
end
theorem zT(B:Nat)(h:∀x∈l,x.length<=B):(aY "\n" l).length<=l.length*B+l.length:=by show(fy _ _).length<=_;rw[eg];have U:(aa "\n").length=1:='k';have Q:=eY "\n" l;have H:=gL (B:=B) l h;rw[U]at Q;exact rS H Q (by omega)
theorem Qe{xs:List Int}(hl:xs.length<=100):dB 938 20 [.lst<|xs.map V.int] [] [] (.ok<|.bool aj) []:=by
 obtain⟨ns,H⟩:∃ns:List Nat,ns=391246800::((xs.take 3).map λc=>(c.fmod 1000000000).toNat)++[221105433]:=(_,rfl);have tl:(xs.take 3).length<=3:=by rw[dA];exact oA ..
 have E:ns.length<=5:=by rw[H];simp;exact oA ..
 have ne:ns≠[]:=by rw[H];simp
 have fm:∀c:Int,0<=c.fmod 1000000000/\c.fmod 1000000000<1000000000:=λc=>(Int.fmod_nonneg_of_pos c 'd',Int.fmod_lt_of_pos c 'd');have nb:∀n∈ns,n<10^9:=by
  intro n D;rw[H,List.cons_append]at D;rcases List.mem_cons.mp D with rfl|D
  .decide
  .rcases List.mem_append.mp D with D|D
   .obtain⟨c,_,rfl⟩:=List.mem_map.mp D;have:=fm c;omega
   .rw[List.mem_singleton.mp D];decide
 have e:[V.int 391246800]++(xs.take 3).map (λc=>V.int<|c.fmod 1000000000)++[V.int 221105433]=iT ns:=by
  rw[H];have h:(xs.take 3).map (λc=>V.int<|c.fmod 1000000000)=((xs.take 3).map λc=>(c.fmod 1000000000).toNat).map λn=>V.int (n:Nat):=by
   rw[cK];exact gi λc U=>by have:=(fm c).1;show _=V.int (((c.fmod 1000000000).toNat:Nat):Int);rw[E9 this]
  rw[h];unfold iT;simp
 have C:=(rE ns 0 b0 (.nil _) oX<|by exact j5 E (by omega)).words;obtain⟨s1,r1,m⟩:=Kh ne (by exact(ai E 'd'):ns.length<=100);obtain⟨s2,r2,q1,q2,q3⟩:=Gk (ns:=ns) (by exact(ai E 'd'));have G:=Ij ns 0 b0 oX (λt Q=>(nomatch Q),λt Q=>(nomatch Q)) (by exact j5 E (by omega));obtain⟨_,_,_,_,_,_,I⟩:=xw ns 0 b0 _ Gh oX (by omega);have acg:=I.len.2.1;have hb:=H3 (ns:=ns) (by exact(ai E 'd')) nb;have ts:=nh ns 0 b0 oX (λt Q=>nomatch Q) (by exact j5 E (by omega));have tn:=qN ns b0;have e0:b0.texts.length=0:=rfl;have j:(aY "\n" (ns.foldl du b0).texts).length<=2^20:=by have h1:=zT (2^13) ts;have:(ns.foldl du b0).texts.length*2^13<=5*2^13:=dy _ (by exact ZP (ar e0) E (ar tn) (by omega));lia
 have ls:∀x∈(ns.foldl du b0).told.map dF,x.length<=2^13:=λx hx=>by obtain⟨⟨d,ws⟩,Q,rfl⟩:=List.mem_map.mp hx;obtain⟨c1,c2⟩:=C _ Q;exact(zO c2 c1).2.2
 have ll:((ns.foldl du b0).told.map dF).length<=5:=by rw[ax];lia
 have z:(aY "\n"<|(ns.foldl du b0).told.map dF).length<=2^20:=by have h1:=zT (2^13) ls;have:((ns.foldl du b0).told.map dF).length*2^13<=5*2^13:=dy _ ll;lia
 have y:=uF r1 j;have u:=uF r2 z;rw[m.rows,m.bT,m.held]at y;rw[q1,q2,q3]at u;have hj:gb "\n" ((ns.foldl du b0).told.map dF)=aj:=fL (2^13) ls (by rw[show(aa "\n").length=1 from 'k'];have:=dy (2^13+1) ll;lia)
 exact Lk hl e hb y u C (by lia) hj (rT G.told G.bT)<|rT G.told λt Q=>nomatch Q
noncomputable def RaI(R:WRecords)(cl:aF ->Option aA)(h:dR)(vs:List aK):List WData ->Prop
 |[]=>vs=[]
 |d::H=>∃v Q U bs,vs=v::Q/\ReadsW R cl h v d U/\Xp R cl h Q H bs
theorem XJ{R:WRecords}(r:Xp R cl h vs Q H):RaI R cl h vs Q:=by cases r<;>first|rfl|exact(_,_,_,_,rfl,‹_›,‹_›)
theorem A8{R:WRecords}{ns:List Int}:∀{vs:List aK} {Q:List aA},Xp R cl h vs (ns.map sO) Q ->RL σ (ns.map V.int) vs:=by
 induction ns with
 |nil=>exact λr=>XJ r
 |cons n ns E=>exact λr=>qm (XJ r) λv vs Q bs e D H=>(v,vs,e,aR (readsW_int_inv D) λt e U=>(t,e),E H)
theorem P8(P:aB):nsIn (KK P) mainGlobals "law"=ah (ah<|.ref 938):='k'
noncomputable abbrev RWr:RowW:=PySem.Challenge.rw_mq0429_01.row.toRowW
theorem Gw(h:RWr.claim.pre args=aj):∃ns:List Int,args=[.list<|ns.map sO]/\ns.length<=63:=by
 refine fk (pre_splitW h) λE Q=>?_;refine cj (hasAllW_cons (R:=[]) (e:=.list .int) (es:=[]) E) λd r H hd U=>?_;refine aR (hasW_list hd) λz G D=>?_;refine eN (items_int D) λns u=>?_;replace H:args=[.list<|ns.map sO]:=by rw[H,G,u,hasAllW_nil U]
 rw[H]at Q;replace Q:WTm.holds [] (.and (.not<|.lt (.lit<|.int (63:Nat))<|.len<|.arg 0)<|.lit<|.bool aj) {args:=[.list<|ns.map sO]}=aj:=Q;have y:(WTm.len<|.arg 0).value [] {args:=[.list<|ns.map sO]}=ah (.int (ns.length:Nat)):=by simp[WTm.value]
 refine(ns,H,dD λq=>?_);unfold WTm.holds at Q;rw[w_and (w_not<|w_lt (w_lit (d:=.int (63:Nat))) y)<|w_lit (d:=.bool aj),decide_eq_true<|Int.ofNat_lt.mpr q]at Q;cases Q
theorem walk(d:DefRec)(hd:d.name="law"):WalkO q loose (λU U=>True) BG RWr d [] λf vs=>Xq f vs:=by
 intro w s₀ Q mg mb G hS a o pm cd doc dV kV ho _ _ _ y hg args j as E _ m _ _;refine aR (Gw E) λns en hl=>?_;subst en;refine qm (XJ m) λv vs' as bs ev r1 r2=>?_;obtain⟨b,ol,vs,n,as',ev2,he,z,hdt,hr,-⟩:=readsW_list_open r1;replace ev:j=[.ref b]:=by rw[ev,ev2,show vs' =[]from XJ r2]
 subst ev;clear r1 r2 m ev2 E;have KX:=oZ hS;have ea:a=938:=by have:=Mh KX.vr G.T.g<|P8 w.params;rw[hd,this]at y;cases y;rfl
 subst ea;clear ho y;have D:=hS 746 _<|FD w.params;have H:=hS 868 _<|FC w.params;have ng:¬Grows b:=λg=>by
  rcases g with rfl|rfl
  .rw[D]at he;cases he;cases z
  .rw[H]at he;cases he;cases z
 have tb:∀b o,Grows b ->Q.heap.get? b=ah o ->∃ps,Q.heap.get? b=ah {cls:=.none,data:=.fields ps}/\yo ps.toList:=λb o g U=>by
  rcases g with rfl|rfl
  .exact(#[],D,trivial)
  .exact(#[],H,trivial)
 have I:HInv w Q.heap [] Q.os [] [] Grows Q:=(λU U e U=>e,(OldK.refl _,tb),λU U U n=>n,λU g=>g,λb g=>by
  rcases g with rfl|rfl
  .exact(_,D)
  .exact(_,H),trivial,λU h=>(nomatch h),λU h=>(nomatch h),(rfl,λU U U h=>(nomatch h),λU h=>(nomatch h),λU U U U h=>(nomatch h),λU h=>(nomatch h)),.of_eq hg,rfl)
 have hB:BS w Q.heap:=(hS,(mg,mb,G.T.g,G.T.b,G.T.builtins),G.T.nolimit);have hC:Cx callerA [] 20:=(rfl,'d','d',λU=>rfl);have h:=Qe (xs:=ns) (by exact(ai hl 'd')) w Q.heap [] callerA Q.os [] Grows Q hB hC I [.ref b] [] (_,_,rfl,(b,ol,vs,n,rfl,he,z,hdt,ng,A8 hr),rfl) rfl;refine enter_call<|eR h λr s' hq=>?_;obtain⟨cO,P',I',_,u,rfl,hu⟩:=hq;cases hu;exact(.inl (.bool aj,.bool aj,[],rfl,λU=>rfl,.bool aj,'k',λU=>(.nil,λU h=>(nomatch h))),I'.old.toOldK,I'.os,I'.gens)
end Internal
section
set_option backward.match.sparseCases true
def Internal.final:PySem.Challenge.rw_mq0429_01.Holds:=Internal.Hd.hd<|Internal.walk Internal.Hd.Ak 'k'
end
theorem PySem.Challenge.cw_mq0429_01_holds : PySem.Challenge.rw_mq0429_01.Holds :=
  Internal.final
