import PyProof.Rows.All
import Wide.All
import OpenK.AllK
import Wide.FinOn
import PyProof.DictValues
import PyProof.DictWalks
import PyProof.TupleOfSeq
import PyProof.Rows.TupMore
import PyProof.FactsAll.tuple_iterator
import PyProof.FactsAll.list_3
import PyProof.Rows.SortStr
import PyProof.WalkInts
import PyProof.NeKinds
import PyProof.SliceMore
import PyProof.StrLawsIn
import KE.KSortKey
import PyProof.WalksMore
import PyProof.DictCompW
import KE.KEqDict
import OpenK.ZGo
import PySem.Challenge.RW_rx0024_02
set_option Elab.async false
set_option linter.all false
set_option tactic.hygienic false
set_option genInjectivity false
set_option genSizeOf false
set_option bootstrap.genMatcherCode false
noncomputable section
namespace Mine
open PySem renaming Value->Lc,wpAny_bind->Le,Expr->Lg,World->Lj,Result->Lm,model->Lw,wpAny_pure->Lx,Shared->Ly,Params->LH,Program->LU,Stmt->L4,wpAny->L7,wpAny_field->L8,Around->L9,wpAny_newObj_type->Mg,GenState->Mi,Code->Mk,codeAny->Mm,behindInMarks->Mo,OsState->Mq,ExceptHandler->MD,Heap->ME,rawInt->MQ,wpAny_setField->MS,sizeLine->M9,arm_execs_cons->Na,noteFrame->Nc,wpAny_holding->Nh,Drawn->Nn,clausesOf->Nr,wpOwn->NE,DictEntry->NG,wpAny_seqItems->N0,wpAny_rule->Oa,Flow->Oi,Builtin->Os,wpAny_listPart->Ou,compareOp->OA,Comprehension->OD,wpAny_of_eq->OG,execs->OH,Data->OI,theTreesLotGoes->OP,setFlight->OT,wpOwn_mono->OW,recursionLimit->OX,plain->OY,entry_list_getitem->OZ,standAt->O5,Addr->O7,slicePick->Pf,intItems->Pg,plainId->Pn,leaving->Po,table->Pz,firstArgMember->PA,whileTurn->PF,allTrue->PG,wpAny_handled->PP,field->PQ,entryFor->P7,dictSet->P8,cLine->P9,Setting->Qd,FuncData->Qe,newExc->Qk,wpAny_throw->Qu,isCodeTable->Qv,importedModules->QC,codeAny_builtin->QD,hashStr->QG,wpAny_mono->QI,newFunctionEnv->QJ,wpAny_newList->Q8,wpAny_listSubscript_int->Rh,treeTable->Ri,markedBehindIn_of_false->Rj,Arguments->Rl,argBest->Rp,wpAny_notOrdered_dict->Rz,wpAny_updateDictKeys->RL,raiseNew->RM,newTuple->RO,handleBy->RQ,eval->RR,wpAny_handleBy_cons->Sb,entry_listiter_next->Sf,wpAny_entryPlaceOf->Sp,meets_dict_getitem->Sq,wpAny_frameOf_fun->Sy,wpAny_dictFind_of->Sz,wpAny_collect_seq->SA,valueAt->SB,slicePick_size_le->SC,numAt->SE,gives_str_getitem->SF,again->SH,CmpOp->SN,wpAny_eqBool_str->SV,sliceIndices_raw->SX,seqItems?->SY,seqIndex?->SZ,scanBound->S0,plain_len->S1,entry_len->S2,compStart->S3,Spec->S5,wpAny_specialOf->Tf,letOwnedTupleGo->Th,wpOwn_of_wpAny->Tz,slice_no_index->TA,pushEnvs->TB,meets_dict_get->TC,borrowsExactly->TD,bindArgs->TF
open Option renaming some->Ld,none->Lk,isNone_none->Q0,map_some->Ru,some_or->RB
open Nat renaming le_refl->Lf,lt_of_lt_of_le->LG,lt_of_le_of_lt->LJ,le_trans->LL,le_of_ble_eq_true->LP,add_le_add_left->LS,lt_of_succ_lt->LZ,le_of_lt->Mh,le_add_right->Mj,le_of_lt_succ->Mv,lt_trans->MC,zero_le->MJ,succ_le_succ->MZ,zero_add->M4,add_right_comm->Ng,le_of_not_lt->Nz,succ_pos->NH,le_antisymm->NM,lt_irrefl->NN,lt_trichotomy->NQ,lt_of_succ_le->NR,le_succ_of_le->NS,add_lt_add_right->NT,ble->NU,add_comm->NV,le_of_succ_le_succ->Oo,le_of_eq->Op,add_sub_cancel_left->O3,add_zero->O8,min_eq_left->Pc,le_add_left->Pd,add_assoc->Px,ne_of_lt->PK,lt_succ_of_lt->PM,lt_or_ge->PO,min_le_right->PY,lt_succ_self->PZ,one_mul->P3,le_succ->P4,not_lt_zero->Qg,add_lt_add->Qr,sub_self->QN,ne_of_gt->QO,ne_of_beq_eq_false->QP,min_self->QQ,beq->QS,sub_lt_sub_right->Q9,le_sub_one_of_lt->Ra,add_le_add_right->Rb,mul_le_mul_left->Rm,sub_le->Rv,lt_succ_of_le->RC,le_of_succ_le->RD,blt->RE,succ_ne_zero->RY,not_le_of_lt->RZ,lt_of_not_le->R8,lt_asymm->S7,sub_sub->Tu,mul_two->Tv,le_zero->Tw
open Bool renaming true->Lh,false->Li,and_eq_true_iff->LY,false_eq_true->Nf,or_eq_true_iff->Nt,and_eq_true->Nx,false_ne_true->Oe,false_or->OV,noConfusion->PV,eq_iff_iff->P6,false_and->So
open Int renaming ofNat->Ll,ofNat_lt->M5,natCast_nonneg->NI,fmod_nonneg_of_pos->NJ,fmod_lt_of_pos->Oh,eq_ofNat_of_zero_le->O4,fmod->Pt,fdiv->Pu,natCast_succ->P1,lt_trans->QV,le_of_lt->QW,le_of_eq->QX,add_zero->QY,le_refl->Rg,add_sub_cancel->Ry,ne_of_gt->Tc,le_trans->Td,negSucc->Ty,not_lt->TS
open List renaming length_map->Ln,getElem?_eq_getElem->Lo,length_append->Lq,append_assoc->Lr,length_cons->Ls,mem_append_left->Lu,map_cons->Lz,mem_append_right->LB,map_append->LC,mem_cons->LD,mem_map->LE,nodup_append->LK,length_nil->LQ,mem_of_getElem?->Ma,nodup_cons->Mb,mem_map_of_mem->Md,flatMap_cons->Me,getElem?_append_right->Mf,getElem?_eq_some_iff->Mn,append_nil->Mp,all_eq_true->Ms,map_map->Mu,length_eq_zero_iff->Mw,mem_append->MA,not_mem_nil->MB,perm_middle->MH,cons_append->MI,pairwise_map->MM,nodup_nil->MN,getElem?_map->MO,count_append->MP,perm_append_comm->MU,getElem?_eq_none->MV,contains_iff_mem->MW,getElem_mem->MX,pairwise_iff_getElem->Nj,getLast?_eq_some_iff->Nk,range->Np,map_congr_left->Ns,getElem_map->Nv,getElem?_cons_succ->Nw,pairwise_cons->NC,mem_singleton->ND,map->NK,head?_drop->NL,getElem?_append_left->NW,getElem_of_mem->NZ,nil_append->Oc,zip_cons_cons->Od,length->Og,replicate->Om,getLast?_map->On,set_append_right->Ot,dropLast_concat->Oy,foldl_cons->Oz,toArray->OE,perm_append_comm_assoc->OF,head?->OL,drop_drop->OM,size_toArray->OR,flatten_cons->OS,any_cons->OU,length_take->O1,isEmpty_nil->O2,length_singleton->Pe,map_eq_nil_iff->Pw,contains_cons->Py,map_dropLast->PI,ext_getElem?->PJ,mem_reverse->PU,mem_filter->P5,getElem?_zip_eq_some->Qs,sublist_append_left->QB,getLast?_singleton->QE,getElem?_cons_zero->QF,pairwise_reverse->QU,not_lt->Q6,getLast?_append->Q7,filterMap_cons->Rc,append_toArray->Re,isEmpty_cons->Rx,range'_succ->RG,mem_flatMap->RH,mapIdx_cons->RJ,Perm->RK,forIn_cons->R9,mem_range->Sm,filterMap->Sn,map_nil->SU
open PySem.Sem renaming wp_bind'->Lp,wp_mono->Lt,wp->Mz,wp_onRaise->Ny,wp_cmd_standAt->NF,wp_holding->Pp,wp_attempt->Pq,wp_operate->Ss
open PySem.Value renaming ref->Lv,none->L3,int->L6,bool->Ov,isInt->SI,type->S4,str->Tl
open PySem.Obj renaming mapFields->LM,mapSeq->Nb,mapDictKeys->O9,mk->QL
open PySem.W.Fast renaming tw12563942051412417395->L5,te12563942051412417395->Mc,tw14044960220447912780->M6,te14044960220447912780->M7,tw15418851999007992765->NO,te15418851999007992765->NP,tw14364793385576792824->OJ,te14364793385576792824->OK,base->Qc,tw1435165496053646825->RA,tw11892475500146522536->Ti,te11892475500146522536->Tj
open PySem.W.X.KT.Holds renaming keeps->Ml,get->Ox
open PySem.Code renaming compStart->My,compLoop->Qn
open PySem.Builtin.List renaming listSubscript?->MF,listItems->NY,listTooLong->Tp
open PySem.Builtin.Str renaming occurrences->MG,strSliceIndices->NB,partsBetween->OC,glued->Pi,tooLong->Qz,subAt->TJ
open Option.some renaming inj->MK,injEq->TQ
open PySem.Heap renaming get?_push_of_some->ML,lt_size->Ol,get?_push_size->OB,get?_update_self->QM,size_push->Si,FunFrames->Sj
open List.Perm renaming append_left->MR,eq_of_pairwise->P0,cons->Rf
open Array renaming mk->MT,length_toList->NX,getElem?_toList->Oq,size_push->P2,findIdx?_eq_none_iff->Qi,size_zip->Sa,push->Te
open PySem.Builtin.Range renaming small->MY,rangeSize->Ni,rangeFitsLong->Pv
open Exists renaming elim->M0
open PyProof.Rows renaming arrOf->M8,wpS_bind->No,seqObj->Nq,wpS_pure->Oj,Keyed->Ow,IntsAre->Ps,listUpdate_at->PS,SortSt->PX,wpS_forRange->Qf,pendingOf->Qp,bubble->Qq,SBase->QA,wpS_mono->RW,failedOf->RX,wpS_modify->Sx,wpS_get->SR,getElem?_bubble->Ts,entry_list_sort->Tt,slot_list_sort->TM,SortedTo->TN,K_bubble->TO
open List.cons renaming injEq->NA
open Pure renaming pure->Ob
open PySem.Challenge renaming rw_rx0024_02->Of,pw_rx0024_02->Ph
open List.Mem renaming tail->ON
open PySem.W renaming hideAll->OQ,hideAll_get->PB,openGood->Qa,Frag->TG
open PySem.Str renaming mk->O0,ofString->QK
open PySem.World renaming withFollow_self->O6
open PySem.Around renaming under_plainId->Pb
open PySem.Builtin.Frozenset renaming oneOther->Pj,withSetAsKey->RT,addrOf->RU
open PySem.Builtin.Builtins renaming bindParams->Pm
open PySem.AutoRange renaming range___iter___range_1->Pr
open PySem.W.X renaming y_code->PD,postC->PR,KT->Qb,postE->Qw,valZ->Sr
open PySem.F renaming entry_str_getitem->PE,entry_list_pop->Ql,entry_tuple_iterator_next->Qx,entry_range_iterator_next->Qy,entry_dict_setitem->Rr,entry_dict_getitem->Rt,entry_range_iter->RS
open PySem.StrLaws renaming subAt_one->PH,occBody->Rq
open PySem.Builtin.Dict renaming showsAll->PW,notOrdered->Tq,dictSlotNone->Tr
open List.Sublist renaming append->Qh,refl->Qt,map->Tx
open List.Pairwise renaming map->Qj,nil->S8,imp->S9
open PySem.EntryCells renaming newEntry->Qm
open PySem.Builtin renaming sorted->Qo
open And renaming intro->QH
open Array.Perm renaming refl->QZ
open PySem.W.X.KT renaming Holds->Rk
open Except renaming ok->Ro
open PySem.SeqAt.RcNeAt renaming lists->Sh
open PySem.Flow renaming ret->Sk
open Prod renaming fst->Sl
open PySem.AutoListH renaming list_append_list_val_0->Su
open PySem.AutoIntG6 renaming int___mod___int_int_1->Sv
open PySem.AutoIntG4 renaming int___floordiv___int_int_1->Sw
open PySem.SeqAt.EqAt renaming of_refs->SM,same->TI
open PySem.AutoSeq1 renaming list_extend_list_list_0->SO,list_clear_list_0->SP,list___add___list_list_0->SQ
open PyProof.Rows.SortSt renaming mk'->SS
open PySem.Data renaming fields->S6
open LawfulBEq renaming eq_of_beq->Ta
open PySem.SeqAt.RcAt renaming lists->Tm
open PySem.Heap.SameBut renaming update->To
open PySem.SeqAt renaming tuple_containsAt->TH
abbrev LN:=List Nat
abbrev LLN:=List LN
abbrev LV:=List Lc
section
set_option linter.all false
variable{g e i j o q r w A F t D I:Type}{P Q G z y B E H J K:Prop}
theorem bp(h:∀C:Prop,(G->C)->C):G:=h G id
theorem bj{p:g->Prop}(f:∀a,p a->Q)(h:∃a,p a):Q:=M0 h f
theorem d9{p:g->e->Prop}(f:∀a b,p a b->Q)(h:∃a b,p a b):Q:=M0 h fun a=>bj (f a)
theorem ma{p:g->e->i->Prop}(f:∀a b c,p a b c->Q)(h:∃a b c,p a b c):Q:=M0 h fun a=>d9 (f a)
theorem gz{p:g->e->i->j->Prop}(f:∀a b c d,p a b c d->Q)(h:∃a b c d,p a b c d):Q:=M0 h fun a=>ma (f a)
theorem jA{p:g->e->i->j->o->Prop}(f:∀a b c d k,p a b c d k->Q)(h:∃a b c d k,p a b c d k):Q:=M0 h fun a=>gz (f a)
theorem qc{p:g->e->i->j->o->q->Prop}(f:∀a b c d k l,p a b c d k l->Q)(h:∃a b c d k l,p a b c d k l):Q:=M0 h fun a=>jA (f a)
theorem uL{p:g->e->i->j->o->q->r->Prop}(f:∀a b c d k l m,p a b c d k l m->Q)(h:∃a b c d k l m,p a b c d k l m):Q:=M0 h fun a=>qc (f a)
theorem oO{p:g->e->i->j->o->q->r->w->Prop}(f:∀a b c d k l m n,p a b c d k l m n->Q)(h:∃a b c d k l m n,p a b c d k l m n):Q:=M0 h fun a=>uL (f a)
theorem Cc{p:g->e->i->j->o->q->r->w->A->Prop}(f:∀a b c d k l m n s,p a b c d k l m n s->Q)(h:∃a b c d k l m n s,p a b c d k l m n s):Q:=M0 h fun a=>oO (f a)
theorem qS{p:g->e->i->j->o->q->r->w->A->F->Prop}(f:∀a b c d k l m n s u,p a b c d k l m n s u->Q)(h:∃a b c d k l m n s u,p a b c d k l m n s u):Q:=M0 h fun a=>Cc (f a)
theorem ni{p:g->e->i->j->o->q->r->w->A->F->t->Prop}(f:∀b c d k l m n s u v a,p b c d k l m n s u v a->Q)(h:∃b c d k l m n s u v a,p b c d k l m n s u v a):Q:=M0 h fun b=>qS (f b)
theorem uR{p:g->e->i->j->o->q->r->w->A->F->t->D->Prop}(f:∀c d k l m n s u v x a b,p c d k l m n s u v x a b->Q)(h:∃c d k l m n s u v x a b,p c d k l m n s u v x a b):Q:=M0 h fun c=>ni (f c)
theorem qT{p:g->e->i->j->o->q->r->w->A->F->t->D->I->Prop}(f:∀d k l m n s u v x y a b c,p d k l m n s u v x y a b c->Q)(h:∃d k l m n s u v x y a b c,p d k l m n s u v x y a b c):Q:=M0 h fun d=>uR (f d)
theorem jm{p:g->e->Prop} (a b) (h:p a b):∃a b,p a b:=⟨a,b,h⟩
theorem gB{p:g->e->i->Prop} (a b c) (h:p a b c):∃a b c,p a b c:=⟨a,jm (p:=p a) b c h⟩
theorem jJ{p:g->e->i->j->Prop} (a b c d) (h:p a b c d):∃a b c d,p a b c d:=⟨a,gB (p:=p a) b c d h⟩
theorem m7{p:g->e->i->j->o->Prop} (a b c d f) (h:p a b c d f):∃a b c d f,p a b c d f:=⟨a,jJ (p:=p a) b c d f h⟩
theorem ox{p:g->e->i->j->o->q->Prop} (a b c d f k) (h:p a b c d f k):∃a b c d f k,p a b c d f k:=⟨a,m7 (p:=p a) b c d f k h⟩
theorem uM{p:g->e->i->j->o->q->r->Prop} (a b c d f k l) (h:p a b c d f k l):∃a b c d f k l,p a b c d f k l:=⟨a,ox (p:=p a) b c d f k l h⟩
theorem oy{p:g->e->i->j->o->q->r->w->Prop} (a b c d f k l m) (h:p a b c d f k l m):∃a b c d f k l m,p a b c d f k l m:=⟨a,uM (p:=p a) b c d f k l m h⟩
theorem Cu{p:g->e->i->j->o->q->r->w->A->Prop} (a b c d f k l m n) (h:p a b c d f k l m n):∃a b c d f k l m n,p a b c d f k l m n:=⟨a,oy (p:=p a) b c d f k l m n h⟩
theorem rT{p:g->e->i->j->o->q->r->w->A->F->Prop} (a b c d f k l m n s) (h:p a b c d f k l m n s):∃a b c d f k l m n s,p a b c d f k l m n s:=⟨a,Cu (p:=p a) b c d f k l m n s h⟩
theorem qU{p:g->e->i->j->o->q->r->w->A->F->t->Prop} (b c d f k l m n s u a) (h:p b c d f k l m n s u a):∃b c d f k l m n s u a,p b c d f k l m n s u a:=⟨b,rT (p:=p b) c d f k l m n s u a h⟩
theorem uS{p:g->e->i->j->o->q->r->w->A->F->t->D->Prop} (c d f k l m n s u v a b) (h:p c d f k l m n s u v a b):∃c d f k l m n s u v a b,p c d f k l m n s u v a b:=⟨c,qU (p:=p c) d f k l m n s u v a b h⟩
theorem rU{p:g->e->i->j->o->q->r->w->A->F->t->D->I->Prop} (d f k l m n s u v x a b c) (h:p d f k l m n s u v x a b c):∃d f k l m n s u v x a b c,p d f k l m n s u v x a b c:=⟨d,uS (p:=p d) f k l m n s u v x a b c h⟩
theorem K9(f:z->y->Q)(h:z/\y):Q:=f h.1 h.2
theorem qd(f:z->y->B->Q)(h:z/\y/\B):Q:=f h.1 h.2.1 h.2.2
theorem y7(f:z->y->B->E->Q)(h:z/\y/\B/\E):Q:=f h.1 h.2.1 h.2.2.1 h.2.2.2
theorem La(f:z->y->B->E->H->Q)(h:z/\y/\B/\E/\H):Q:=f h.1 h.2.1 h.2.2.1 h.2.2.2.1 h.2.2.2.2
theorem Jq(f:z->y->B->E->H->J->Q)(h:z/\y/\B/\E/\H/\J):Q:=f h.1 h.2.1 h.2.2.1 h.2.2.2.1 h.2.2.2.2.1 h.2.2.2.2.2
theorem Ku(f:z->y->B->E->H->J->K->Q)(h:z/\y/\B/\E/\H/\J/\K):Q:=f h.1 h.2.1 h.2.2.1 h.2.2.2.1 h.2.2.2.2.1 h.2.2.2.2.2.1 h.2.2.2.2.2.2
universe u
theorem sb{α:Type}{a b:α}{M:α->Prop}(h:a=b)(k:M b):M a:=h ▸ k
theorem kW{α β:Type}{a e:α}{b c:β}{M:α->β->Prop}(h:a=e/\b=c)(k:M e c):M a b:=by obtain ⟨rfl,rfl⟩:=h;exact k
theorem gu{α β:Type}{a e:α}{b c:β}{M:α->β->Prop}(h:a=e/\b=c/\P)(k:P->M e c):M a b:=kW ⟨h.1,h.2.1⟩ (k h.2.2)
theorem m8{α β γ:Type}{a e:α}{b d:β}{c f:γ}{M:α->β->γ->Prop}(h:a=e/\b=d/\c=f)(k:M e d f):M a b c:=by obtain ⟨rfl,rfl,rfl⟩:=h;exact k
theorem y8{α β γ:Type}{a e:α}{b d:β}{c f:γ}{M:α->β->γ->Prop}(h:a=e/\b=d/\c=f/\P)(k:P->M e d f):M a b c:=m8 ⟨h.1,h.2.1,h.2.2.1⟩ (k h.2.2.2)
theorem Jt{α β:Type}{a e:α}{b c:β}{M:α->β->Prop}(h:a=e/\P/\b=c)(k:P->M e c):M a b:=kW ⟨h.1,h.2.2⟩ (k h.2.1)
theorem Jv{α β:Type}{a e:α}{b c:β}{M:α->β->Prop}(h:a=e/\P/\b=c/\Q)(k:P->Q->M e c):M a b:=kW ⟨h.1,h.2.2.1⟩ (k h.2.1 h.2.2.2)
variable{u v k l m n:Nat}
theorem oA(h:v < m)(d:NU m n=Lh):v < n:=LG h (LP d)
theorem oB(h:v<=m)(d:NU (m + 1) n=Lh):v < n:=LJ h (LP d)
theorem oC(h:v < m)(d:NU m (n + 1)=Lh):v<=n:=Mv (oA h d)
theorem oD(h:v < m)(d:NU (k + m) n=Lh):k + v < n:=oA (Nat.add_lt_add_left h k) d
theorem oE(h:v < m)(d:NU (m + k) n=Lh):v + k < n:=oA (NT h k) d
theorem oF(h:v + u < m)(d:NU m n=Lh):v < n:=oA (LJ (Mj v u) h) d
theorem oG(h:v < m)(a:u < k)(d:NU (m + k) (n + 1)=Lh):v + u < n:=Oo (LL (LL (Op (Nat.add_add_add_comm v u 1 1)) (Nat.add_le_add h a)) (LP d))
theorem oH(h:v < m)(a:u < k)(d:NU (m + l + k) (n + 1)=Lh):v + l + u < n:=oG (NT h l) a d
theorem oJ(h:v < m)(d:NU (m + k + l) n=Lh):v + k + l < n:=oE (NT h k) d
theorem oT{a s m n:Nat}(h:a + (s + 1) < m)(d:NU m n=Lh):a + 1 < n:=oA (LJ (LS (MZ (MJ s)) a) h) d
theorem Cv{a b c d n:Nat}(h:¬n < a + 1 + b + c + d):a < n/\b < n/\c + d < n:=
 have e:=Nz h
 have f:=LL (Mj _ c) (LL (Mj _ d) e)
 have g:a + 1 + b + (c + d)<=n:=Px (a + 1 + b) c d ▸ e
 ⟨LL (Mj _ b) f,LJ (Pd b a) (LG (NT (PZ a) b) f),LG (Nat.lt_add_of_pos_left (LG (NH a) (Mj _ b))) g⟩
theorem oN{α:Type}{x:List α}{a b:α}{m n:Nat}(h:x.length < m)(d:NU (m + 1 + 1) n=Lh):(x++[a]).length + [b].length < n:=by rw [Lq];exact oJ h d
theorem oK{a c n L L':Nat}(l:L'<=L)(h:a + c * (L + 1) < n):a + c * (L' + 1) < n:=LJ (LS (Rm c (MZ l)) a) h
theorem oL{a b c n L:Nat}(d:b<=a + c)(h:a + c * (L + 1) < n):b + c * L < n:=LJ (LL (Rb d _) (Op (by rw [Nat.mul_succ,Px,NV c]))) h
theorem oI(h:¬m < v)(d:NU (m + 1) n=Lh):v < n:=oB (Nz h) d
end
local macro_rules | `(tactic| kd_p)=>`(tactic| first|with_reducible assumption|decide|with_reducible (first|exact Mine.oA ‹_› (by with_unfolding_all exact rfl)|exact Mine.oI ‹_› (by with_unfolding_all exact rfl)|exact Mine.oD ‹_› (by with_unfolding_all exact rfl)|exact Mine.oE ‹_› (by with_unfolding_all exact rfl)|exact Mine.oF ‹_› (by with_unfolding_all exact rfl)|exact Mine.oC ‹_› (by with_unfolding_all exact rfl)|exact Mine.oB ‹_› (by with_unfolding_all exact rfl)|exact Mine.oG ‹_› ‹_› (by with_unfolding_all exact rfl)|exact Mine.oH ‹_› ‹_› (by with_unfolding_all exact rfl))|lia|omega)
local macro_rules | `(tactic| walk_at "lv")=>`(tactic| first|decide|exact Lf _|exact Pd _ _|exact P4 _|omega)
open PySem PySem.W PyProof.Rows
set_option maxRecDepth 100000
noncomputable abbrev cO:LN:=[47,99,108,97,105,109,47,99,117,116,46,112,121]
noncomputable abbrev dq:LN:=[115,99,114,105,112,116]
noncomputable abbrev ey:LN:=[114,101,97,100]
noncomputable abbrev fC:LN:=[99,108,111,115,101,100]
noncomputable abbrev gS:LN:=[114,111,117,110,100,115]
noncomputable abbrev e5:LN:=[114,97,119]
noncomputable abbrev oR:LN:=[108,97,119,95,114,120,48,48,50,52,95,48,50]
noncomputable abbrev gV:LN:=[114,105,110,103]
noncomputable abbrev jB:LN:=[115,105,103,110]
noncomputable abbrev He:LN:=[95,95,115,116,97,116,105,99,95,97,116,116,114,105,98,117,116,101,115,95,95]
noncomputable abbrev jK:LN:=[99,112,121,51,49,51,46,103,114,97,112,104,108,105,98]
noncomputable abbrev rV:LN:=[95,106,111,105,110,95,116,114,97,110,115,108,97,116,101,100,95,112,97,114,116,115]
noncomputable abbrev uT:LN:=[95,95,102,105,114,115,116,108,105,110,101,110,111,95,95]
noncomputable abbrev bK:LN:=[119,97,121]
noncomputable abbrev dT:LN:=[115,116,101,112,115]
noncomputable abbrev rW:LN:=[84,111,112,111,108,111,103,105,99,97,108,83,111,114,116,101,114]
noncomputable abbrev rX:LN:=[95,108,97,119,95,114,111,117,110,100,115,95,100,117,101]
noncomputable abbrev mc:LN:=[95,95,105,110,105,116,95,95]
noncomputable abbrev HG:LN:=[99,108,97,115,115,46,95,102,114,111,122,101,110,95,105,109,112,111,114,116,108,105,98,46,66,117,105,108,116,105,110,73,109,112,111,114,116,101,114]
noncomputable abbrev rY:LN:=[95,108,97,119,95,112,97,116,116,101,114,110,115]
noncomputable abbrev qV:LN:=[95,108,97,119,95,116,97,107,101,110]
noncomputable abbrev uU:LN:=[95,95,109,111,100,117,108,101,95,95]
noncomputable abbrev uV:LN:=[110,117,109,98,101,114,115]
noncomputable abbrev qW:LN:=[95,95,100,111,99,95,95]
noncomputable abbrev rZ:LN:=[95,108,97,119,95,119,114,105,116,116,101,110]
noncomputable abbrev qX:LN:=[116,114,97,110,115,108,97,116,101]
noncomputable abbrev HH:LN:=[99,108,97,115,115,46,95,102,114,111,122,101,110,95,105,109,112,111,114,116,108,105,98,46,77,111,100,117,108,101,83,112,101,99]
noncomputable abbrev r5:LN:=[95,108,97,119,95,114,111,117,110,100,115]
noncomputable abbrev Cw:LN:=[84,111,112,111,108,111,103,105,99,97,108,83,111,114,116,101,114,46,95,103,101,116,95,110,111,100,101,105,110,102,111]
noncomputable abbrev y9:LN:=[95,95,119,101,97,107,114,101,102,95,95]
noncomputable abbrev qY:LN:=[116,97,107,101,110]
noncomputable abbrev jn:LN:=[115,116,117,102,102]
noncomputable abbrev za:LN:=[108,97,119,46,60,108,111,99,97,108,115,62,46,60,108,97,109,98,100,97,62]
noncomputable abbrev r6:LN:=[67,121,99,108,101,69,114,114,111,114]
noncomputable abbrev r7:LN:=[95,116,114,97,110,115,108,97,116,101]
noncomputable abbrev r8:LN:=[95,108,97,119,95,108,101,120,101,114]
noncomputable abbrev Cx:LN:=[84,111,112,111,108,111,103,105,99,97,108,83,111,114,116,101,114,46,95,102,105,110,100,95,99,121,99,108,101]
noncomputable abbrev r9:LN:=[99,112,121,51,49,51,46,110,101,116,114,99]
noncomputable abbrev Cy:LN:=[84,111,112,111,108,111,103,105,99,97,108,83,111,114,116,101,114,46,103,101,116,95,114,101,97,100,121]
noncomputable abbrev zb:LN:=[110,112,114,101,100,101,99,101,115,115,111,114,115]
noncomputable abbrev Cz:LN:=[95,108,97,119,95,108,101,120,101,114,46,60,108,111,99,97,108,115,62,46,60,108,97,109,98,100,97,62]
noncomputable abbrev sa:LN:=[95,110,101,116,114,99,108,101,120]
noncomputable abbrev zc:LN:=[95,103,101,116,95,110,111,100,101,105,110,102,111]
noncomputable abbrev uW:LN:=[99,112,121,51,49,51,46,102,110,109,97,116,99,104]
noncomputable abbrev sf:LN:=[95,78,111,100,101,73,110,102,111]
noncomputable abbrev sh:LN:=[95,108,97,119,95,115,105,103,110]
noncomputable abbrev CB:LN:=[84,111,112,111,108,111,103,105,99,97,108,83,111,114,116,101,114,46,95,95,105,110,105,116,95,95]
noncomputable abbrev HI:LN:=[80,101,110,100,105,110,103,68,101,112,114,101,99,97,116,105,111,110,87,97,114,110,105,110,103]
noncomputable abbrev sj:LN:=[95,108,97,119,95,100,114,97,119]
noncomputable abbrev sk:LN:=[95,108,97,119,95,119,97,121,115]
noncomputable abbrev CD:LN:=[84,111,112,111,108,111,103,105,99,97,108,83,111,114,116,101,114,46,112,114,101,112,97,114,101]
noncomputable abbrev ir:LN:=[115,116,101,112]
noncomputable abbrev HM:LN:=[119,97,116,99,104,101,100,46,108,105,98,114,97,114,121,45,100,101,101,112,46,95,115,114,101]
noncomputable abbrev HN:LN:=[115,121,115,46,109,111,100,117,108,101,115,46,98,111,111,107,101,100,45,101,112,111,99,104]
noncomputable abbrev HO:LN:=[80,121,116,104,111,110,70,105,110,97,108,105,122,97,116,105,111,110,69,114,114,111,114]
noncomputable abbrev jo:LN:=[115,101,108,102]
noncomputable abbrev HP:LN:=[119,97,116,99,104,101,100,46,108,105,98,114,97,114,121,45,111,98,106,101,99,116,115]
noncomputable abbrev sm:LN:=[95,108,97,119,95,114,117,110]
noncomputable abbrev HQ:LN:=[67,111,110,110,101,99,116,105,111,110,82,101,102,117,115,101,100,69,114,114,111,114]
noncomputable abbrev CE:LN:=[119,111,114,100,115]
noncomputable abbrev HR:LN:=[67,111,110,110,101,99,116,105,111,110,65,98,111,114,116,101,100,69,114,114,111,114]
noncomputable abbrev CF:LN:=[84,111,112,111,108,111,103,105,99,97,108,83,111,114,116,101,114,46,100,111,110,101]
noncomputable abbrev HS:LN:=[105,109,112,111,114,116,46,108,97,116,101,114,45,108,97,105,100,46,95,115,114,101]
noncomputable abbrev HT:LN:=[95,73,110,99,111,109,112,108,101,116,101,73,110,112,117,116,69,114,114,111,114]
noncomputable abbrev zd:LN:=[95,102,105,110,100,95,99,121,99,108,101]
noncomputable abbrev HU:LN:=[85,110,105,99,111,100,101,84,114,97,110,115,108,97,116,101,69,114,114,111,114]
noncomputable abbrev CG:LN:=[84,111,112,111,108,111,103,105,99,97,108,83,111,114,116,101,114,46,97,100,100]
noncomputable abbrev oS:LN:=[110,117,109,98,101,114]
noncomputable abbrev HV:LN:=[67,111,110,110,101,99,116,105,111,110,82,101,115,101,116,69,114,114,111,114]
noncomputable abbrev ze:LN:=[112,117,115,104,95,116,111,107,101,110]
noncomputable abbrev CH:LN:=[95,110,101,116,114,99,108,101,120,46,112,117,115,104,95,116,111,107,101,110]
noncomputable abbrev CJ:LN:=[95,95,112,97,99,107,97,103,101,95,95]
noncomputable abbrev zf:LN:=[115,117,99,99,101,115,115,111,114,115]
noncomputable abbrev HY:LN:=[78,111,116,73,109,112,108,101,109,101,110,116,101,100,69,114,114,111,114]
noncomputable abbrev CK:LN:=[95,110,101,116,114,99,108,101,120,46,95,114,101,97,100,95,99,104,97,114]
noncomputable abbrev HZ:LN:=[77,111,100,117,108,101,78,111,116,70,111,117,110,100,69,114,114,111,114]
noncomputable abbrev CM:LN:=[95,110,101,116,114,99,108,101,120,46,103,101,116,95,116,111,107,101,110]
noncomputable abbrev CN:LN:=[95,108,97,119,95,116,97,107,101,110,46,60,108,111,99,97,108,115,62,46]
noncomputable abbrev CO:LN:=[95,95,108,111,97,100,101,114,95,95]
noncomputable abbrev zg:LN:=[95,114,101,97,100,95,99,104,97,114]
noncomputable abbrev iu:LN:=[111,110,101]
noncomputable abbrev H0:LN:=[70,108,111,97,116,105,110,103,80,111,105,110,116,69,114,114,111,114]
noncomputable abbrev H9:LN:=[80,114,111,99,101,115,115,76,111,111,107,117,112,69,114,114,111,114]
noncomputable abbrev Ia:LN:=[105,109,112,111,114,116,46,108,111,97,100,101,100,46,95,115,114,101]
noncomputable abbrev zh:LN:=[103,101,116,95,116,111,107,101,110]
noncomputable abbrev Ib:LN:=[66,97,115,101,69,120,99,101,112,116,105,111,110,71,114,111,117,112]
noncomputable abbrev Ic:LN:=[83,116,111,112,65,115,121,110,99,73,116,101,114,97,116,105,111,110]
noncomputable abbrev Id:LN:=[68,101,112,114,101,99,97,116,105,111,110,87,97,114,110,105,110,103]
noncomputable abbrev Ie:LN:=[78,111,116,65,68,105,114,101,99,116,111,114,121,69,114,114,111,114]
noncomputable abbrev Ig:LN:=[85,110,105,99,111,100,101,68,101,99,111,100,101,69,114,114,111,114]
noncomputable abbrev Ih:LN:=[85,110,105,99,111,100,101,69,110,99,111,100,101,69,114,114,111,114]
noncomputable abbrev sn:LN:=[60,108,97,109,98,100,97,62]
noncomputable abbrev zi:LN:=[103,101,116,95,114,101,97,100,121]
noncomputable abbrev CP:LN:=[95,110,101,116,114,99,108,101,120,46,95,95,105,110,105,116,95,95]
noncomputable abbrev oU:LN:=[108,101,120,101,114]
noncomputable abbrev Ii:LN:=[90,101,114,111,68,105,118,105,115,105,111,110,69,114,114,111,114]
noncomputable abbrev Ij:LN:=[95,115,112,101,99,105,97,108,95,99,104,97,114,115,95,109,97,112]
noncomputable abbrev CQ:LN:=[95,78,111,100,101,73,110,102,111,46,95,95,105,110,105,116,95,95]
noncomputable abbrev Ik:LN:=[75,101,121,98,111,97,114,100,73,110,116,101,114,114,117,112,116]
noncomputable abbrev Il:LN:=[67,104,105,108,100,80,114,111,99,101,115,115,69,114,114,111,114]
noncomputable abbrev CR:LN:=[70,105,108,101,78,111,116,70,111,117,110,100,69,114,114,111,114]
noncomputable abbrev CS:LN:=[73,115,65,68,105,114,101,99,116,111,114,121,69,114,114,111,114]
noncomputable abbrev nj:LN:=[101,115,99,97,112,101]
noncomputable abbrev fD:LN:=[114,111,119]
noncomputable abbrev CU:LN:=[85,110,98,111,117,110,100,76,111,99,97,108,69,114,114,111,114]
noncomputable abbrev CV:LN:=[73,110,116,101,114,114,117,112,116,101,100,69,114,114,111,114]
noncomputable abbrev CX:LN:=[69,110,118,105,114,111,110,109,101,110,116,69,114,114,111,114]
noncomputable abbrev CY:LN:=[73,110,100,101,110,116,97,116,105,111,110,69,114,114,111,114]
noncomputable abbrev jL:LN:=[110,111,100,101]
noncomputable abbrev CZ:LN:=[80,101,114,109,105,115,115,105,111,110,69,114,114,111,114]
noncomputable abbrev C4:LN:=[65,114,105,116,104,109,101,116,105,99,69,114,114,111,114]
noncomputable abbrev C6:LN:=[67,111,110,110,101,99,116,105,111,110,69,114,114,111,114]
noncomputable abbrev C8:LN:=[70,105,108,101,69,120,105,115,116,115,69,114,114,111,114]
noncomputable abbrev Da:LN:=[66,114,111,107,101,110,80,105,112,101,69,114,114,111,114]
noncomputable abbrev Db:LN:=[69,110,99,111,100,105,110,103,87,97,114,110,105,110,103]
noncomputable abbrev Dc:LN:=[82,101,115,111,117,114,99,101,87,97,114,110,105,110,103]
noncomputable abbrev De:LN:=[66,108,111,99,107,105,110,103,73,79,69,114,114,111,114]
noncomputable abbrev Df:LN:=[119,97,116,99,104,101,100,46,108,105,98,114,97,114,121]
noncomputable abbrev Dg:LN:=[95,95,97,110,110,111,116,97,116,105,111,110,115,95,95]
noncomputable abbrev yd:LN:=[95,95,110,97,109,101,95,95]
noncomputable abbrev ye:LN:=[95,95,115,112,101,99,95,95]
noncomputable abbrev Dh:LN:=[78,111,116,73,109,112,108,101,109,101,110,116,101,100]
noncomputable abbrev Di:LN:=[65,115,115,101,114,116,105,111,110,69,114,114,111,114]
noncomputable abbrev yf:LN:=[95,95,100,105,99,116,95,95]
noncomputable abbrev Dj:LN:=[95,95,98,117,105,108,100,95,99,108,97,115,115,95,95]
noncomputable abbrev Dk:LN:=[65,116,116,114,105,98,117,116,101,69,114,114,111,114]
noncomputable abbrev Dl:LN:=[82,101,102,101,114,101,110,99,101,69,114,114,111,114]
noncomputable abbrev Dm:LN:=[82,117,110,116,105,109,101,87,97,114,110,105,110,103]
noncomputable abbrev Do:LN:=[82,101,99,117,114,115,105,111,110,69,114,114,111,114]
noncomputable abbrev Dp:LN:=[69,120,99,101,112,116,105,111,110,71,114,111,117,112]
noncomputable abbrev Dq:LN:=[119,97,116,99,104,101,100,46,105,109,112,111,114,116]
noncomputable abbrev Ds:LN:=[85,110,105,99,111,100,101,87,97,114,110,105,110,103]
noncomputable abbrev so:LN:=[112,114,101,112,97,114,101]
noncomputable abbrev Dt:LN:=[79,118,101,114,102,108,111,119,69,114,114,111,114]
noncomputable abbrev Dv:LN:=[71,101,110,101,114,97,116,111,114,69,120,105,116]
noncomputable abbrev Dw:LN:=[83,116,111,112,73,116,101,114,97,116,105,111,110]
noncomputable abbrev Dx:LN:=[70,117,116,117,114,101,87,97,114,110,105,110,103]
noncomputable abbrev Dy:LN:=[73,109,112,111,114,116,87,97,114,110,105,110,103]
noncomputable abbrev Dz:LN:=[66,97,115,101,69,120,99,101,112,116,105,111,110]
noncomputable abbrev DA:LN:=[83,121,110,116,97,120,87,97,114,110,105,110,103]
noncomputable abbrev yg:LN:=[100,117,101]
noncomputable abbrev DB:LN:=[115,116,97,116,105,99,109,101,116,104,111,100]
noncomputable abbrev DC:LN:=[82,117,110,116,105,109,101,69,114,114,111,114]
noncomputable abbrev DE:LN:=[84,105,109,101,111,117,116,69,114,114,111,114]
noncomputable abbrev jM:LN:=[99,97,109,101]
noncomputable abbrev qe:LN:=[115,111,114,116,101,114]
noncomputable abbrev yh:LN:=[98,117,105,108,116,105,110,115]
noncomputable abbrev DF:LN:=[66,121,116,101,115,87,97,114,110,105,110,103]
noncomputable abbrev DG:LN:=[85,110,105,99,111,100,101,69,114,114,111,114]
noncomputable abbrev DH:LN:=[115,116,97,116,105,99,95,111,114,100,101,114]
noncomputable abbrev DI:LN:=[95,95,98,117,105,108,116,105,110,115,95,95]
noncomputable abbrev DJ:LN:=[99,108,97,115,115,109,101,116,104,111,100]
noncomputable abbrev DK:LN:=[66,117,102,102,101,114,69,114,114,111,114]
noncomputable abbrev DM:LN:=[73,109,112,111,114,116,69,114,114,111,114]
noncomputable abbrev DN:LN:=[76,111,111,107,117,112,69,114,114,111,114]
noncomputable abbrev DO:LN:=[77,101,109,111,114,121,69,114,114,111,114]
noncomputable abbrev DP:LN:=[83,121,115,116,101,109,69,114,114,111,114]
noncomputable abbrev DQ:LN:=[83,121,110,116,97,120,69,114,114,111,114]
noncomputable abbrev DS:LN:=[85,115,101,114,87,97,114,110,105,110,103]
noncomputable abbrev DT:LN:=[109,101,109,111,114,121,118,105,101,119]
noncomputable abbrev DV:LN:=[98,114,101,97,107,112,111,105,110,116]
noncomputable abbrev DW:LN:=[105,115,105,110,115,116,97,110,99,101]
noncomputable abbrev DY:LN:=[83,121,115,116,101,109,69,120,105,116]
noncomputable abbrev DZ:LN:=[73,110,100,101,120,69,114,114,111,114]
noncomputable abbrev yi:LN:=[119,104,105,116,101,115,112,97,99,101]
noncomputable abbrev D0:LN:=[105,115,115,117,98,99,108,97,115,115]
noncomputable abbrev D2:LN:=[86,97,108,117,101,69,114,114,111,114]
noncomputable abbrev lz:LN:=[97,100,100]
noncomputable abbrev qf:LN:=[99,121,99,108,101]
noncomputable abbrev sq:LN:=[114,101,115,117,108,116]
noncomputable abbrev nk:LN:=[108,97,119]
noncomputable abbrev sw:LN:=[100,111,110,101]
noncomputable abbrev lA:LN:=[110,50,105]
noncomputable abbrev jN:LN:=[91,42,93]
noncomputable abbrev yj:LN:=[95,115,114,101]
noncomputable abbrev qg:LN:=[119,97,121,115]
open PySem.W.X (KT Lies lies_of postC postE y_call y_code y_stack)
noncomputable def Im:Mk->Sem Fin:=Ti OJ
theorem zj:Im=denote Pz:=by
 unfold Im
 rw [<- Tj,<- OK,<- table_eq_tree]
noncomputable abbrev Mem:=List (O7 × Obj)
noncomputable abbrev oV:=List (Nat × Nat)
def dE(l:oV):Prop:=∀p∈l,p.1=p.2
theorem ck{l:oV}(h:l.map (·.1)=l.map (·.2)):dE l:=by
 induction l with
 | nil=>intro p hp;cases hp
 | cons x r a=>
  rw [Lz,Lz,NA] at h
  intro p hp
  rcases LD.mp hp with rfl|hp
  .exact h.1
  .exact a h.2 p hp
theorem dE.tail{p:Nat × Nat}{l:oV}(h:dE (p::l)):dE l:=fun q a=>h q (.tail _ a)
theorem dE.head{a b:Nat}{l:oV}(h:dE ((a,b)::l)):a=b:=h _ (.head _)
structure Rep(g h:ME)(N:Nat)(M:Mem):Prop where
 size:h.objs.size=N
 own:∀p∈M,h.get? p.1=Ld p.2/\g.get? p.1=Lk
 nd:(M.map (·.1)).Nodup
 keep:∀b o,g.get? b=Ld o->h.get? b=Ld o
section
variable{g h:ME}{N:Nat}{M:Mem}(R:Rep g h N M)
include g h N M R
theorem Rep.get{i:Nat}{a:O7}{o:Obj}(e:M[i]? = Ld (a,o)):h.get? a=Ld o:=(R.own _ (Ma e)).1
theorem Rep.alloc{o:Obj}(hf:o.isFreed=Li):Rep g (h.push o) (N + 1) (M++[(N,o)]):=by
 have i:=R.size
 subst i
 have f:g.get? h.objs.size=Lk:=by
  cases q:g.get? h.objs.size with
  | none=>rfl
  | some d=>exact absurd (Ol (R.keep _ _ q)) (NN _)
 refine ⟨by rw [Si],fun p hp=>?_, ?_,fun b d e=>ML _ (R.keep b d e)⟩
 .rcases MA.mp hp with hp|hp
  .exact ⟨ML _ (R.own p hp).1,(R.own p hp).2⟩
  .rw [ND.mp hp]
   exact ⟨OB _ hf,f⟩
 .rw [LC]
  refine LK.mpr ⟨R.nd,by simp,fun a j b k e=>?_⟩
  have c:b=h.objs.size:=by simpa using k
  obtain ⟨p,hp,rfl⟩:=LE.mp j
  have:=Ol (R.own p hp).1
  rw [e,c] at this
  exact NN _ this
theorem Rep.update{i:Nat}{a:O7}{o:Obj}{f:Obj->Obj}(e:M[i]? = Ld (a,o))(hf:(f o).isFreed=Li):Rep g (h.update a f) N (M.set i (a,f o)):=by
 have k:=R.get e
 have j:=(R.own _ (Ma e)).2
 have hs:ME.SameBut a h (h.update a f):=To ..
 have l:(h.update a f).get? a=Ld (f o):=by first|exact QM f k hf|exact QM _ k hf
 have d:(M.set i (a,f o)).map (·.1)=M.map (·.1):=by
  rw [List.map_set]
  have : (M.map (·.1))[i]? = Ld a:=by rw [MO,e];rfl
  exact X.set_same this
 refine ⟨hs.1.trans R.size,fun p hp=>?_,by rw [d];exact R.nd,fun b r q=>(hs.2 b fun z=>?_).trans (R.keep b r q)⟩
 .by_cases c:p.1=a
  .have m:i < M.length:=(Mn.mp e).1
   have n:(a,f o)∈M.set i (a,f o):=List.mem_set m _
   have : p=(a,f o):=X.key_unique (by rw [d];exact R.nd) hp n c
   subst this
   exact ⟨l,j⟩
  .rcases List.mem_or_eq_of_mem_set hp with hp|rfl
   .exact ⟨(hs.2 _ c).trans (R.own p hp).1,(R.own p hp).2⟩
   .exact absurd rfl c
 .rw [z,j] at q;cases q
end
inductive Kn where
 | base
 | ret (c:Mk) (hd:Option Lc) (k:Lm->Sem Fin) (κ:Kn)
 | enter (κ:Kn)
inductive an where
 | fin (f:Fin) (M:Mem) (N T:Nat) (eqs:oV)
 | err (e:Lc) (M:Mem) (N T:Nat) (eqs:oV)
 | ask (c':Mk) (is:LN) (κ:Kn) (M:Mem) (N T:Nat) (eqs:oV) (hs:Nat)
 | stk (k:List (Mk × Pos)->Sem Fin) (c:Mk) (κ:Kn) (M:Mem) (N T:Nat) (eqs:oV) (hs:Nat)
 | bad (n:Nat)
noncomputable def jO(g:O7)(d:Qe)(f:Args):Sem Fin:=do
 let a <- match d.code with
  | .none=>Ob d.qualname
  | c=>do match <- PQ c 1 with
   | .str q _=>Ob q
   | _=>Ob d.qualname
 let env <- QJ d.scope d.globals d.closure (<- TF d f) (a ++ ".<locals>.") (Ld g) d.code Lk d.builtins
 let code:Mk:=match d.body with
  | .stmts b=>.func b env
  | .expr e=>.expr e env
 match d.scope.isGenerator,d.scope.isCoroutine with
 | false,Li=>SH code
 | _,_=>unsupported "mine"
noncomputable def D3:Nat->Nat->LN × Nat
 | 0,hs=>([],hs)
 | n + 1,hs=>match D3 n (hs / 128) with
  | (l,a)=>(hs % 128::l,a)
noncomputable def iv:Kn->Nat
 | .base=>0
 | .ret c _ _ κ=>c.weight + iv κ
 | .enter κ=>iv κ
noncomputable def jP:Kn->Nat
 | .base=>0
 | .ret c _ _ κ=>c.cUnits + jP κ
 | .enter κ=>jP κ
noncomputable def qZ(κ:Kn):Bool:=RE (iv κ) 16 && RE (jP κ) 100
section
variable(S:Qd)(kt:KT)(hd0:Option Lc)
noncomputable def dF:Kn->Option Lc
 | .base=>hd0
 | .ret _ hd _ κ=>hd.or (dF κ)
 | .enter κ=>dF κ
noncomputable abbrev IH:=Nat->Mk->Kn->Sem Fin->Mem->Nat->Nat->oV->an
variable(b:IH)
def gC(hs:Nat)(c':Mk)(κ:Kn)(M:Mem)(N T:Nat)(c:oV):an:=match hs % 128 with
 | 0=>b (hs / 128) c' κ (Im c') M N T c
 | 1=>match qZ κ with|false=>.bad 30|true=>match c' with
  | .call f d=>match f with
   | .ref a=>match (hs / 128) % 128 with
    | 0=>match kt.get a with
     | some o=>match o.data with
      | .func e=>b (hs / 128 / 128) c' (.enter κ) (jO a e d) M N T c
      | _=>.bad 3
     | none=>.bad 4
    | i + 1=>match M[i]? with
     | some p=>match p.2.data with
      | .func e=>b (hs / 128 / 128) c' (.enter κ) (jO a e d) M N T ((a,p.1)::c)
      | _=>.bad 5
     | none=>.bad 6
   | _=>.bad 7
  | _=>.bad 8
 | 2=>match qZ κ with|false=>.bad 31|true=>match D3 (hs / 128 % 128) (hs / 128 / 128) with
  | (l,g)=>.ask c' l κ M N T c g
 | _=>.bad 10
def sy(hs:Nat)(c:Mk)(κ:Kn)(t:Sem Fin)(M:Mem)(N T:Nat)(d:oV):an:=match t with
 | .pure fin=>match κ with
  | .base=>match fin with
   | .done f=>.fin (.done f) M N T d
   | .again c'=>match hs % 128 with
    | 3=>.fin (.again c') M N T d
    | _=>match c'.quiet with
     | true=>gC kt b hs c' .base M N T d
     | false=>.bad 2
  | .enter g=>b hs c g (.pure fin) M N T d
  | .ret h hd k g=>match fin with
   | .done f=>b hs h g (k (.ok f)) M N T d
   | .again c'=>match c'.quiet with
    | true=>gC kt b hs c' (.ret h hd k g) M N T d
    | false=>.bad 1
 | .raise e=>match κ with
  | .base=>.err e M N T d
  | .enter g=>b hs c g (.raise e) M N T d
  | .ret h _ k g=>b hs h g (k (.error e)) M N T d
 | .rule _ k=>b hs c κ (k ()) M N T d
 | .at _ k=>b hs c κ (k ()) M N T d
 | .point _ k=>b hs c κ (k ()) M N T d
 | .ask k=>b hs c κ (k S) M N T d
 | .load a _ k=>match hs % 128 with
  | 0=>match kt.get a with
   | some o=>b (hs / 128) c κ (k o) M N T d
   | none=>.bad 11
  | i + 1=>match M[i]? with
   | some p=>b (hs / 128) c κ (k p.2) M N T ((a,p.1)::d)
   | none=>.bad 12
 | .loadIfAlive a k=>match hs % 128 with
  | 0=>match kt.get a with
   | some o=>b (hs / 128) c κ (k (Ld o)) M N T d
   | none=>.bad 13
  | i + 1=>match M[i]? with
   | some p=>b (hs / 128) c κ (k (Ld p.2)) M N T ((a,p.1)::d)
   | none=>.bad 14
 | .update a _ f k=>match hs % 128 with
  | 0=>.bad 15
  | i + 1=>match M[i]? with
   | some p=>match (f p.2).isFreed with
    | false=>b (hs / 128) c κ (k ()) (M.set i (p.1,f p.2)) N T ((a,p.1)::d)
    | true=>.bad 16
   | none=>.bad 17
 | .alloc o k=>match o.isFreed with
  | false=>b hs c κ (k N) (M++[(N,o)]) (N + 1) T d
  | true=>.bad 18
 | .fresh k=>b hs c κ (k T) M N (T + 1) d
 | .handled own k=>match own with
  | false=>b hs c κ (k (dF hd0 κ)) M N T d
  | true=>.bad 19
 | .stack k=>.stk k c κ M N T d hs
 | .call c' hd _ _ k=>match X.okMark hd with
  | true=>gC kt b hs c' (.ret c hd k κ) M N T d
  | false=>.bad 20
 | _=>.bad 21
def md:Nat->IH
 | 0=>fun V V V V V V V V=>.bad 0
 | n + 1=>sy S kt hd0 (md n)
end
set_option tactic.hygienic true in
theorem me{prog:LU}{w:Lj}{A:L9}{c:Mk}{a:O7}{d:Qe}{f:Args}{P:Fin->Ly->Prop}{E:Lc->Ly->Prop}{s:Ly}{o:Obj}
  (M:s.heap.get? a=Ld o) (hd:o.data=.func d) (k:(A.under c).depth < OX)
  (h:NE (Lw prog w) A c (jO a d f) (fun i g=>g.heap.NoLimit/\P i g) E s):NE (Lw prog w) A c (denote Pz (.call (.ref a) f)) P E s:=by
 intro Γ p F t
 have H:=h Γ p F t
 show Mz (Lw prog w) Γ (callAny (.ref a) f) _ _ p s
 unfold callAny
 dsimp only
 rw [Lp]
 refine (Sem.wp_load_of (Lw prog w) Γ _ p s M _).mpr ?_
 rw [hd]
 dsimp only
 unfold jO at H
 unfold callFunction
 have l:∀(q:Str)(n:Pos)(r:Ly),
   Mz (Lw prog w) Γ (do
    let env <- QJ d.scope d.globals d.closure (<- TF d f) (q ++ ".<locals>.") (Ld a) d.code Lk d.builtins
    let code:Mk:=match d.body with
     | .stmts b=>.func b env
     | .expr e=>.expr e env
    match d.scope.isGenerator,d.scope.isCoroutine with
    | false,Li=>SH code
    | _,_=>unsupported "mine") (fun i V g=>g.heap.NoLimit/\P i g) (fun e V g=>E e g) n r ->
   Mz (Lw prog w) Γ (do
    let env <- QJ d.scope d.globals d.closure (<- TF d f) (q ++ ".<locals>.") (Ld a) d.code Lk d.builtins
    enterFrame
    let code:Mk:=match d.body with
     | .stmts b=>.func b env
     | .expr e=>.expr e env
    match d.scope.isGenerator,d.scope.isCoroutine with
    | false,Li=>SH code
    | true,Li=>ret (<- newGenerator code d.name d.qualname)
    | false,Lh=>ret (<- newCoroutine code d.name d.qualname)
    | true,Lh=>ret (<- newAsyncGenerator code d.name d.qualname)) (fun i V g=>P i g) (fun e V g=>E e g) n r:=by
  intro q n r y
  rw [Lp] at y ⊢
  refine Lt (Lw prog w) Γ _ (fun b N O C=>?_) (fun V V V x=>x) n r y
  rw [Lp] at C ⊢
  refine Lt (Lw prog w) Γ _ (fun env I u j=>?_) (fun V V V x=>x) N O C
  dsimp only at j ⊢
  rw [Lp]
  cases B:d.scope.isGenerator with
  | true=>rw [B] at j;exact j.elim
  | false=>
   cases G:d.scope.isCoroutine with
   | true=>rw [B,G] at j;exact j.elim
   | false=>
    rw [B,G] at j
    have D:u.heap.NoLimit/\P (.again (match d.body with | .stmts b=>.func b env | .expr e=>.expr e env)) u:=j
    have z:L7 (Lw prog w) (A.under c) enterFrame (fun V g=>g=u) (fun V V=>False) u:=wpAny_enterFrame D.1 k rfl
    refine Lt (Lw prog w) Γ _ (fun V Q R J=>?_) (fun V V V x=>x.elim) I u (z Γ I (F ▸ t.in))
    subst J
    exact D.2
 dsimp only at H ⊢
 generalize L:d.code=K at H l ⊢
 have m:∀v:Lc,v=K->(v=.none->False)->True:=fun V V V=>trivial
 clear m
 split at H
 .exact l d.qualname p s H
 .rename_i hne
  split
  .exact (hne rfl).elim
  .rw [Lp] at H ⊢
   refine Lt (Lw prog w) Γ _ (fun v n r y=>?_) (fun V V V x=>x) p s H
   cases v<;>exact l _ n r y
section
variable(prog:LU)(w:Lj)(kt:KT)(hd0:Option Lc)(A₀:L9)(R₀:Lm->Ly->Prop)(g:ME)(G:Array Mi)(D:Nn)(O:Mq)
noncomputable def aQ:Kn->L9
 | .base=>A₀
 | .ret c hd _ κ=>((aQ κ).under c).mark hd
 | .enter κ=>aQ κ
theorem bT:∀κ,(aQ A₀ κ).handled=dF A₀.handled κ
 | .base=>rfl
 | .ret c hd k κ=>by
  show hd.or (aQ A₀ κ).handled=_
  rw [bT κ];rfl
 | .enter κ=>bT κ
theorem bV:∀κ,(aQ A₀ κ).depth=A₀.depth + iv κ
 | .base=>rfl
 | .ret c hd k κ=>by
  show (aQ A₀ κ).depth + c.weight=_
  rw [bV κ]
  show _=A₀.depth + (c.weight + iv κ)
  kd_p
 | .enter κ=>bV κ
theorem cm:∀κ,(aQ A₀ κ).units=A₀.units + jP κ
 | .base=>rfl
 | .ret c hd k κ=>by
  show (aQ A₀ κ).units + c.cUnits=_
  rw [cm κ]
  show _=A₀.units + (c.cUnits + jP κ)
  kd_p
 | .enter κ=>cm κ
noncomputable def fS:Kn->(Fin->Ly->Prop) × (Lc->Ly->Prop)
 | .base=>(PR prog w A₀ R₀,Qw R₀)
 | .ret c hd k κ=>(PR prog w (((aQ A₀ κ).under c).mark hd) (fun r a=>NE (Lw prog w) (aQ A₀ κ) c (k r) (fS κ).1 (fS κ).2 a),
   Qw (fun r a=>NE (Lw prog w) (aQ A₀ κ) c (k r) (fS κ).1 (fS κ).2 a))
 | .enter κ=>(fun b a=>a.heap.NoLimit/\(fS κ).1 b a,(fS κ).2)
def uX:Kn->Lm->Ly->Prop
 | .base=>R₀
 | .ret c _ k κ=>fun r a=>NE (Lw prog w) (aQ A₀ κ) c (k r) (fS prog w A₀ R₀ κ).1 (fS prog w A₀ R₀ κ).2 a
 | .enter _=>fun V V=>False
def e6(c:Mk)(κ:Kn)(t:Sem Fin)(M:Mem)(N T:Nat):Prop:=
 ∀h,Rep g h N M->NE (Lw prog w) (aQ A₀ κ) c t (fS prog w A₀ R₀ κ).1 (fS prog w A₀ R₀ κ).2 ⟨h,G,D,T,O⟩
def mf(c':Mk)(κ:Kn)(M:Mem)(N T:Nat):Prop:=
 ∀h,Rep g h N M->Mm (Lw prog w) (aQ A₀ κ) c' (uX prog w A₀ R₀ κ) ⟨h,G,D,T,O⟩
def iw:an->Prop
 | .fin f M N T a=>dE a/\∀h,Rep g h N M->PR prog w A₀ R₀ f ⟨h,G,D,T,O⟩
 | .err e M N T a=>dE a/\∀h,Rep g h N M->R₀ (.error e) ⟨h,G,D,T,O⟩
 | .ask c' _ κ M N T a _=>dE a/\mf prog w A₀ R₀ g G D O c' κ M N T
 | .stk k c κ M N T a _=>dE a/\∀p b,Lies ((aQ A₀ κ).under c) ((c,p)::b)->e6 prog w A₀ R₀ g G D O c κ (k ((c,p)::b)) M N T
 | .bad _=>False
structure Cd:Prop where
 holds:kt.Holds g 1 0
 limit:g.NoLimit
 handled:A₀.handled=hd0
 depth:A₀.depth + 20 < OX
variable {prog w kt hd0 A₀ R₀ g G D O}
theorem mh(Y:Cd kt hd0 A₀ g){h:ME}{N:Nat}{M:Mem}(R:Rep g h N M){a:O7}{o:Obj}(e:kt.get a=Ld o):h.get? a=Ld o:=by
 have z:=Ox Y.holds e
 rw [P3,O8] at z
 exact R.keep a o z
set_option tactic.hygienic true in
theorem b8(Y:Cd kt hd0 A₀ g){r:IH}(k:∀hs c κ t M N T f,iw prog w A₀ R₀ g G D O (r hs c κ t M N T f)->dE f/\e6 prog w A₀ R₀ g G D O c κ t M N T)
  {hs:Nat} {c':Mk} {κ:Kn} {M:Mem} {N T:Nat} {f:oV} (n:fS prog w A₀ R₀ κ=(PR prog w (aQ A₀ κ) (uX prog w A₀ R₀ κ),Qw (uX prog w A₀ R₀ κ)))
  (H:iw prog w A₀ R₀ g G D O (gC kt r hs c' κ M N T f)):dE f/\mf prog w A₀ R₀ g G D O c' κ M N T:=by
 have d:e6 prog w A₀ R₀ g G D O c' κ (denote Pz c') M N T->mf prog w A₀ R₀ g G D O c' κ M N T:=fun x h R=>by
  have z:=x h R
  rw [n] at z
  exact PD (prog:=prog) (w:=w) (A':=aQ A₀ κ) (R:=uX prog w A₀ R₀ κ) (s:=⟨h,G,D,T,O⟩) (c':=c') z
 have j:∀(a:O7)(m:Qe)(b:Args)(o:Obj),c'=.call (.ref a) b->qZ κ=Lh->(∀h,Rep g h N M->h.get? a=Ld o)->o.data=.func m ->
   e6 prog w A₀ R₀ g G D O c' (.enter κ) (jO a m b) M N T->mf prog w A₀ R₀ g G D O c' κ M N T:=by
  intro a m b o u l v i x
  refine d fun h R=>?_
  subst u
  refine me (v h R) i ?_ (x h R)
  show (aQ A₀ κ).depth + 0 < OX
  rw [bV]
  have y:iv κ < 16:=LP (LY.mp l).1
  have:=Y.depth
  kd_p
 unfold gC at H
 split at H
 .obtain ⟨e,x⟩:=k _ _ _ _ _ _ _ _ H
  exact ⟨e,d (zj ▸ x)⟩
 .split at H
  .exact H.elim
  .rename_i l
   split at H
   .split at H
    .split at H
     .split at H
      .rename_i e
       split at H
       .rename_i i
        obtain ⟨q,x⟩:=k _ _ _ _ _ _ _ _ H
        exact ⟨q,j _ _ _ _ rfl l (fun h R=>mh Y R e) i x⟩
       .exact H.elim
      .exact H.elim
     .split at H
      .rename_i p e
       split at H
       .rename_i i
        obtain ⟨q,x⟩:=k _ _ _ _ _ _ _ _ H
        refine ⟨q.tail,j _ _ _ _ rfl l (fun h R=>?_) i x⟩
        rw [q.head]
        exact R.get e
       .exact H.elim
      .exact H.elim
    .exact H.elim
   .exact H.elim
 .split at H
  .exact H.elim
  .exact H
 .exact H.elim
set_option tactic.hygienic true in
theorem nq(Y:Cd kt hd0 A₀ g){A:IH}(d:∀hs c κ t M N T j,iw prog w A₀ R₀ g G D O (A hs c κ t M N T j)->dE j/\e6 prog w A₀ R₀ g G D O c κ t M N T)
  (hs:Nat) (c:Mk) (κ:Kn) (t:Sem Fin) (M:Mem) (N T:Nat) (j:oV)
  (H:iw prog w A₀ R₀ g G D O (sy ⟨prog,w.params⟩ kt hd0 A hs c κ t M N T j)):dE j/\e6 prog w A₀ R₀ g G D O c κ t M N T:=by
 unfold sy at H
 cases t with
 | pure u=>
  dsimp only at H
  cases κ with
  | base=>
   cases u with
   | done f=>exact ⟨H.1,fun h R V V V V=>H.2 h R⟩
   | again c'=>
    dsimp only at H
    split at H
    .exact ⟨H.1,fun h R V V V V=>H.2 h R⟩
    .cases s:c'.quiet with
     | false=>rw [s] at H;exact H.elim
     | true=>
      rw [s] at H
      exact (b8 Y d (κ:=.base) rfl H).imp_right fun x h R V V V V=>⟨s,x h R⟩
  | enter r=>
   exact (d _ _ _ _ _ _ _ _ H).imp_right fun x h R Γ p n i=>⟨Y.limit.keeps R.keep,x h R Γ p n i⟩
  | ret y hd k r=>
   cases u with
   | done f=>
    exact (d _ _ _ _ _ _ _ _ H).imp_right fun x h R V V V V=>x h R
   | again c'=>
    dsimp only at H
    cases s:c'.quiet with
    | false=>rw [s] at H;exact H.elim
    | true=>
     rw [s] at H
     exact (b8 Y d (κ:=.ret y hd k r) rfl H).imp_right fun x h R V V V V=>⟨s,x h R⟩
 | raise e=>
  dsimp only at H
  cases κ with
  | base=>exact ⟨H.1,fun h R V V V V=>H.2 h R⟩
  | enter r=>
   exact (d _ _ _ _ _ _ _ _ H).imp_right fun x h R Γ p n i=>x h R Γ p n i
  | ret y hd k r=>
   exact (d _ _ _ _ _ _ _ _ H).imp_right fun x h R V V V V=>x h R
 | rule tag k=>
  exact (d _ _ _ _ _ _ _ _ H).imp_right fun x h R Γ p n i=>x h R Γ p n i
 | «at» q k=>
  exact (d _ _ _ _ _ _ _ _ H).imp_right fun x h R Γ V n i=>x h R Γ q n i
 | point l k=>
  exact (d _ _ _ _ _ _ _ _ H).imp_right fun x h R Γ p n i=>x h R Γ p n i
 | ask k=>
  exact (d _ _ _ _ _ _ _ _ H).imp_right fun x h R Γ p n i=>x h R Γ p n i
 | load a q k=>
  dsimp only at H
  split at H
  .split at H
   .rename_i o e
    exact (d _ _ _ _ _ _ _ _ H).imp_right fun x h R=>X.y_load _ _ _ _ _ _ _ _ _ _ _ _ _ _ _ _ (mh Y R e) (x h R)
   .exact H.elim
  .split at H
   .rename_i p e
    obtain ⟨z,x⟩:=d _ _ _ _ _ _ _ _ H
    refine ⟨z.tail,fun h R=>X.y_load _ _ _ _ _ _ _ _ _ _ _ _ _ _ _ _ ?_ (x h R)⟩
    rw [z.head]
    exact R.get e
   .exact H.elim
 | loadIfAlive a k=>
  dsimp only at H
  split at H
  .split at H
   .rename_i o e
    exact (d _ _ _ _ _ _ _ _ H).imp_right fun x h R=>X.y_alive _ _ _ _ _ _ _ _ _ _ _ _ _ _ _ (mh Y R e) (x h R)
   .exact H.elim
  .split at H
   .rename_i p e
    obtain ⟨z,x⟩:=d _ _ _ _ _ _ _ _ H
    refine ⟨z.tail,fun h R=>X.y_alive _ _ _ _ _ _ _ _ _ _ _ _ _ _ _ ?_ (x h R)⟩
    rw [z.head]
    exact R.get e
   .exact H.elim
 | update a q f k=>
  dsimp only at H
  split at H
  .exact H.elim
  .split at H
   .rename_i p e
    split at H
    .rename_i hf
     obtain ⟨z,x⟩:=d _ _ _ _ _ _ _ _ H
     refine ⟨z.tail,fun h R=>wpOwn_bind (m:=updatePart a q f) (f:=k) (Tz (wpAny_updatePart (o:=p.2) ?_ ?_))⟩
     .rw [z.head];exact R.get e
     .rw [z.head]
      exact x _ (R.update e hf)
    .exact H.elim
   .exact H.elim
 | alloc o k=>
  dsimp only at H
  split at H
  .rename_i hf
   obtain ⟨z,x⟩:=d _ _ _ _ _ _ _ _ H
   refine ⟨z,fun h R=>wpOwn_bind (m:=alloc o) (f:=k) (Tz (wpAny_alloc ?_))⟩
   have:=x _ (R.alloc hf)
   rw [<- R.size] at this
   exact this
  .exact H.elim
 | fresh k=>
  exact (d _ _ _ _ _ _ _ _ H).imp_right fun x h R=>X.y_fresh _ _ _ _ _ _ _ _ _ _ _ _ _ (x h R)
 | handled own k=>
  dsimp only at H
  split at H
  .obtain ⟨z,x⟩:=d _ _ _ _ _ _ _ _ H
   refine ⟨z,fun h R=>X.y_handled _ _ _ _ _ _ _ _ _ ?_⟩
   rw [bT,Y.handled]
   exact x h R
  .exact H.elim
 | stack k=>
  exact ⟨H.1,fun h R=>X.y_stack _ _ _ _ _ _ _ _ _ fun p b l=>H.2 p b l h R⟩
 | call c' hd B l k=>
  dsimp only at H
  split at H
  .rename_i hm
   obtain ⟨z,x⟩:=b8 Y d (κ:=.ret c hd k κ) rfl H
   refine ⟨z,fun h R=>X.y_call _ _ _ _ _ _ _ _ _ _ _ _ _ ?_ (x h R)⟩
   unfold X.okMark at hm
   split at hm
   .intro e;cases e
   .rename_i v
    intro e
    rw [MK e] at hm
    simp at hm
  .exact H.elim
 | _=>exact H.elim
theorem bE(Y:Cd kt hd0 A₀ g):∀(n hs:Nat)(c:Mk)(κ:Kn)(t:Sem Fin)(M:Mem)(N T:Nat)(a:oV),
  iw prog w A₀ R₀ g G D O (md ⟨prog,w.params⟩ kt hd0 n hs c κ t M N T a)->dE a/\e6 prog w A₀ R₀ g G D O c κ t M N T
 | 0,_,_,_,_,_,_,_,_,H=>H.elim
 | n + 1,hs,c,κ,t,M,N,T,a,H=>nq Y (bE Y n) hs c κ t M N T a H
end
noncomputable def foot?(M:Mem):LN->Option Mem
 | []=>Ld []
 | i::r=>match M[i]? with
  | some p=>match foot? M r with
   | some l=>Ld (p::l)
   | none=>Lk
  | none=>Lk
set_option tactic.hygienic true in
theorem foot?_len{M:Mem} : ∀{is:LN}{l:Mem},foot? M is=Ld l->l.length=is.length
 | [],l,e=>by cases e;rfl
 | i::r,l,e=>by
  unfold foot? at e
  split at e
  .split at e
   .rename_i a e'
    cases e
    rw [Ls,Ls,foot?_len e']
   .cases e
  .cases e
set_option tactic.hygienic true in
theorem foot?_at{M:Mem} : ∀{is:LN}{l:Mem},foot? M is=Ld l->∀(t j:Nat),is[t]? = Ld j->∃q,M[j]? = Ld q/\l[t]? = Ld q
 | [],l,e,t,j,h=>by simp at h
 | i::r,l,e,t,j,h=>by
  unfold foot? at e
  split at e
  .rename_i p hp
   split at e
   .rename_i a e'
    cases e
    cases t with
    | zero=>
     simp only [QF,TQ] at h
     subst h
     exact ⟨p,hp,rfl⟩
    | succ t=>
     simp only [Nw] at h ⊢
     exact foot?_at e' t j h
   .cases e
  .cases e
theorem foot?_mem{M:Mem}{is:LN}{l:Mem}(e:foot? M is=Ld l):∀p∈l,p∈M:=by
 intro p hp
 refine bj (fun t a=>?_) (NZ hp);obtain ⟨d,rfl⟩:=a
 have f:=foot?_len e
 refine bj (fun q a=>?_) (foot?_at e t (is[t]'(by kd_p)) (by simp));obtain ⟨c,b⟩:=a
 rw [Lo d] at b
 cases b
 exact Ma c
noncomputable def lookN:List (Nat × Obj)->Nat->Option Obj
 | [],_=>Lk
 | p::r,i=>match QS p.1 i with
  | true=>Ld p.2
  | false=>lookN r i
noncomputable def dU:Nat->Mem->List (Nat × Obj)->Mem
 | _,[],_=>[]
 | i,p::r,l=>match lookN l i with
  | some o=>(p.1,o)::dU (i + 1) r l
  | none=>p::dU (i + 1) r l
theorem eA(l:List (Nat × Obj)):∀(M:Mem)(i:Nat),(dU i M l).map (·.1)=M.map (·.1)
 | [],_=>rfl
 | p::r,i=>by
  dsimp only [dU]
  split
  .rw [Lz,Lz,eA l r]
  .rw [Lz,Lz,eA l r]
set_option tactic.hygienic true in
theorem jQ(l:List (Nat × Obj)):∀(M:Mem)(i:Nat),∀p∈dU i M l,∃j q,M[j]? = Ld q/\((∃o,lookN l (i + j)=Ld o/\p=(q.1,o))∨(lookN l (i + j)=Lk/\p=q))
 | [],_,p,hp=>nomatch hp
 | q::r,i,p,hp=>by
  unfold dU at hp
  split at hp
  .rename_i o e
   rcases LD.mp hp with rfl|hp
   .exact ⟨0,q,rfl,.inl ⟨o,e,rfl⟩⟩
   .obtain ⟨j,c,a,b⟩:=jQ l r (i + 1) p hp
    exact ⟨j + 1,c,a,by rw [show i + (j + 1)=i + 1 + j by kd_p];exact b⟩
  .rename_i e
   rcases LD.mp hp with rfl|hp
   .exact ⟨0,p,rfl,.inr ⟨e,rfl⟩⟩
   .obtain ⟨j,c,a,b⟩:=jQ l r (i + 1) p hp
    exact ⟨j + 1,c,a,by rw [show i + (j + 1)=i + 1 + j by kd_p];exact b⟩
set_option tactic.hygienic true in
theorem jR:∀{is:LN}{os:List Obj}{j:Nat}{o:Obj},lookN (is.zip os) j=Ld o->∃t:Nat,is[t]? = Ld j/\os[t]? = Ld o
 | [],_,_,_,h=>by simp [lookN] at h
 | _::_,[],_,_,h=>by simp [lookN] at h
 | i::is,o'::os,j,o,h=>by
  rw [Od] at h
  unfold lookN at h
  split at h
  .rename_i e
   have:=Nat.eq_of_beq_eq_true e
   cases h
   exact ⟨0,by simpa using this,rfl⟩
  .obtain ⟨t,a,b⟩:=jR h
   exact ⟨t + 1,by simpa using a,by simpa using b⟩
set_option tactic.hygienic true in
theorem jS:∀{is:LN}{os:List Obj}{j:Nat},is.length=os.length->lookN (is.zip os) j=Lk->j∉is
 | [],_,_,_,_=>by simp
 | _::_,[],_,hl,_=>by simp at hl
 | i::is,o'::os,j,hl,h=>by
  rw [Od] at h
  unfold lookN at h
  split at h
  .cases h
  .rename_i e
   have b:=QP e
   have a:=jS (by simpa using hl) h
   simp only [LD,not_or]
   exact ⟨fun q=>b q.symm,a⟩
section
variable{g h:ME}{N:Nat}{M L:Mem}(R:Rep g h N M)(hs:∀p∈L,p∈M)
include g h N M L R hs
theorem Rep.sub(a:(L.map (·.1)).Nodup):Rep g h N L:=⟨R.size,fun p hp=>R.own p (hs p hp),a,R.keep⟩
theorem Rep.hide(a:(L.map (·.1)).Nodup):Rep (OQ h (L.map (·.1))) h N L:=
 ⟨R.size,fun p hp=>⟨(R.own p (hs p hp)).1,hideAll_none _ (Md hp)⟩,a,fun V V e=>of_hideAll _ e⟩
theorem Rep.hideKeep:∀b o,g.get? b=Ld o->(OQ h (L.map (·.1))).get? b=Ld o:=fun b o e=>
 PB _ (R.keep b o e) fun hm=>by
  obtain ⟨p,hp,rfl⟩:=LE.mp hm
  rw [(R.own p (hs p hp)).2] at e;cases e
end
theorem jT{M:Mem}(k:(M.map (·.1)).Nodup){i j:Nat}{p q:O7 × Obj}(f:M[i]? = Ld p)(g:M[j]? = Ld q)(e:p.1=q.1):i=j:=by
 obtain ⟨c,a⟩:=Mn.mp f
 obtain ⟨d,b⟩:=Mn.mp g
 have:=(Nj.mp k)
 rcases NQ i j with h|h|h
 .exact absurd (by rw [Nv,Nv,a,b];exact e) (this i j (by simpa using c) (by simpa using d) h)
 .exact h
 .exact absurd (by rw [Nv,Nv,a,b];exact e.symm) (this j i (by simpa using d) (by simpa using c) h)
theorem nu:∀{as:List O7}{os:List Obj},as.length=os.length->(as.zip os).map (·.1)=as
 | [],_,_=>rfl
 | _::_,[],h=>by simp at h
 | a::as,o::os,h=>by
  rw [Od,Lz,nu (by simpa using h)]
theorem Rep.put{g h B:ME}{N A:Nat}{M L k:Mem}{is:LN}{os:List Obj}(R:Rep g h N M)(e:foot? M is=Ld L)(I:os.length=is.length)(l:Rep (OQ h (L.map (·.1))) B A ((L.map (·.1)).zip os++k)):Rep g B A (dU 0 M (is.zip os)++k):=by
 have J:=foot?_len e
 have f:=foot?_mem e
 have H:((L.map (·.1)).zip os).map (·.1)=L.map (·.1):=nu (by rw [Ln];kd_p)
 have z:∀{j:Nat}{q:O7 × Obj},M[j]? = Ld q->j∉is->q.1∉L.map (·.1):=by
  intro j q v w hm
  refine bj (fun p c=>?_) (LE.mp hm);obtain ⟨hp,he⟩:=c
  refine bj (fun t c=>?_) (NZ hp);obtain ⟨O,rfl⟩:=c
  refine bj (fun P c=>?_) (foot?_at e t (is[t]'(by kd_p)) (by simp));obtain ⟨u,m⟩:=c
  rw [Lo O] at m
  cases m
  have:=jT R.nd u v he
  exact w (this ▸ MX _)
 have d:∀{q:O7 × Obj},q∈M->q.1∉L.map (·.1)->(OQ h (L.map (·.1))).get? q.1=Ld q.2:=fun r w=>PB _ (R.own _ r).1 w
 refine ⟨l.size,fun p hp=>?_, ?_,fun b o F=>l.keep b o (R.hideKeep f b o F)⟩
 .rcases MA.mp hp with hp|hp
  .refine d9 (fun j q c=>?_) (jQ _ M 0 p hp);obtain ⟨v,E⟩:=c
   rw [M4] at E
   have r:=Ma v
   rcases E with q0|q0
   .refine bj (fun o c=>?_) q0;obtain ⟨K,rfl⟩:=c
    refine bj (fun t c=>?_) (jR K);obtain ⟨u,m⟩:=c
    refine bj (fun P c=>?_) (foot?_at e t j u);obtain ⟨C,h4⟩:=c
    rw [v] at C
    cases C
    refine ⟨(l.own (q.1,o) (Lu _ ?_)).1,(R.own q r).2⟩
    refine Ma (i:=t) ?_
    rw [Qs]
    exact ⟨by rw [MO,h4];rfl,m⟩
   .obtain ⟨n,rfl⟩:=q0
    have w:=jS I.symm n
    exact ⟨l.keep _ _ (d r (z v w)),(R.own p r).2⟩
  .have x:=l.own p (LB _ hp)
   refine ⟨x.1, ?_⟩
   cases q:g.get? p.1 with
   | none=>rfl
   | some o=>
    have:=R.hideKeep f p.1 o q
    rw [x.2] at this;cases this
 .rw [LC,eA]
  have s:=l.nd
  rw [LC,H] at s
  refine LK.mpr ⟨R.nd,(LK.mp s).2.1,fun a G b D y=>?_⟩
  subst y
  by_cases hm:a∈L.map (·.1)
  .exact (LK.mp s).2.2 a hm a D rfl
  .refine bj (fun p c=>?_) (LE.mp G);obtain ⟨hp,rfl⟩:=c
   refine bj (fun q c=>?_) (LE.mp D);obtain ⟨r,he⟩:=c
   have u:=d hp hm
   have m:=(l.own q (LB _ r)).2
   rw [he,u] at m;cases m
noncomputable def sA(i:Nat):LN->Bool
 | []=>Li
 | j::r=>match QS i j with
  | true=>Lh
  | false=>sA i r
def jU:LN->Bool
 | []=>Lh
 | i::r=>match sA i r with
  | true=>Li
  | false=>jU r
set_option tactic.hygienic true in
theorem jV:∀{i:Nat}{l:LN},sA i l=Li->i∉l
 | _,[],_=>by simp
 | i,j::r,h=>by
  unfold sA at h
  split at h
  .cases h
  .rename_i e
   simp only [LD,not_or]
   exact ⟨QP e,jV h⟩
set_option tactic.hygienic true in
theorem iU:∀{l:LN},jU l=Lh->l.Nodup
 | [],_=>MN
 | i::r,h=>by
  unfold jU at h
  split at h
  .cases h
  .rename_i e
   exact Mb.mpr ⟨jV e,iU h⟩
theorem aN{M L:Mem}{is:LN}(l:(M.map (·.1)).Nodup)(e:foot? M is=Ld L)(d:jU is=Lh):(L.map (·.1)).Nodup:=by
 have m:=foot?_len e
 refine Nj.mpr fun i j f g a he=>?_
 rw [Ln] at f g
 rw [Nv,Nv] at he
 obtain ⟨n,h,b⟩:=foot?_at e i (is[i]'(by kd_p)) (by simp)
 obtain ⟨o,k,c⟩:=foot?_at e j (is[j]'(by kd_p)) (by simp)
 rw [Lo f] at b
 rw [Lo g] at c
 cases b;cases c
 have:=jT l h k he
 exact (Nj.mp (iU d)) i j (by kd_p) (by kd_p) a this
noncomputable def co(M:Mem)(is:LN):Option Mem:=match jU is with
 | true=>foot? M is
 | false=>Lk
set_option tactic.hygienic true in
theorem aW{M L:Mem}{is:LN}(e:co M is=Ld L):jU is=Lh/\foot? M is=Ld L:=by
 unfold co at e
 split at e
 .rename_i h;exact ⟨h,e⟩
 .cases e
inductive br where
 | ask (c:Mk) (foot:Mem)
 | fin (f:Fin) (foot:Mem)
 | err (e:Lc) (foot:Mem)
 | stk
 | no (n:Nat)
def view(is:LN)(st:an):br:=match st with
 | .ask c' a κ M _ _ _ _=>match qZ κ with
  | true=>match dF Lk κ with
   | none=>match co M a with
    | some l=>.ask c' l
    | none=>.no 1
   | some _=>.no 2
  | false=>.no 3
 | .fin f M _ _ _=>match co M is with
  | some l=>.fin f l
  | none=>.no 4
 | .err e M _ _ _=>match co M is with
  | some l=>.err e l
  | none=>.no 5
 | .stk .. => .stk
 | .bad n=>.no (100 + n)
structure Io where
 r:Lm
 os:List Obj
 news:Mem
 N:Nat
 T:Nat
section
variable(S:Qd)(kt:KT)
def e8(hs:Nat)(c':Mk)(M:Mem)(N T:Nat):an:=gC kt (md S kt Lk 100000) hs c' .base M N T []
noncomputable def oW(hs:Nat)(st:an)(a:Io):an:=match st with
 | .ask _ is κ M _ _ _ _=>match κ with
  | .base=>match a.r with
   | .ok f=>.fin (.done f) (dU 0 M (is.zip a.os)++a.news) a.N a.T []
   | .error e=>.err e (dU 0 M (is.zip a.os)++a.news) a.N a.T []
  | .ret c _ k b=>md S kt Lk 100000 hs c b (k a.r) (dU 0 M (is.zip a.os)++a.news) a.N a.T []
  | .enter _=>.bad 40
 | _=>.bad 41
noncomputable def qh(hs:Nat)(st:an)(p:Pos)(a:List (Mk × Pos)):an:=match st with
 | .stk k c κ M N T _ _=>md S kt Lk 100000 hs c κ (k ((c,p)::a)) M N T []
 | _=>.bad 42
end
noncomputable def yk:an->oV
 | .fin _ _ _ _ e=>e
 | .err _ _ _ _ e=>e
 | .ask _ _ _ _ _ _ e _=>e
 | .stk _ _ _ _ _ _ e _=>e
 | .bad _=>[]
noncomputable def jW(st:an):LN:=(yk st).map (·.1)
noncomputable def aj(st:an):LN:=(yk st).map (·.2)
noncomputable def nw:Mem->Nat->Obj
 | [],_=>default
 | p::_,0=>p.2
 | _::r,n + 1=>nw r n
noncomputable def ah(st:an)(i:Nat):Obj:=match st with
 | .fin _ M _ _ _=>nw M i
 | .err _ M _ _ _=>nw M i
 | .ask _ _ _ M _ _ _ _=>nw M i
 | .stk _ _ _ M _ _ _ _=>nw M i
 | .bad _=>default
def bX(A:L9)(L:Nat):Prop:=(0 < L->A.handled=Lk)/\A.depth + 20 * (L + 1) < OX/\A.units + 100 * (L + 1) < P9
theorem bX.mono{A:L9}{L L':Nat}(h:bX A L)(l:L'<=L):bX A L':=by
 refine ⟨fun q=>h.1 (LG q l), ?_, ?_⟩
 .exact oK l h.2.1
 .exact oK l h.2.2
noncomputable abbrev bI:=Lm->List Obj->Mem->Prop
def mj(prog:LU)(w:Lj)(kt:KT)(L:Nat)(c':Mk)(a:Mem)(c:bI):Prop:=
 ∀(A:L9)(g h:ME)(G:Array Mi)(D:Nn)(O:Mq)(N T:Nat)(R:Lm->Ly->Prop),bX A L->kt.Holds g 1 0->g.NoLimit->Rep g h N a ->
  (∀r os b e f d,c r os b->os.length=a.length->Rep g d e ((a.map (·.1)).zip os++b)->R r ⟨d,G,D,f,O⟩)->Mm (Lw prog w) A c' R ⟨h,G,D,T,O⟩
theorem mj.weak{prog:LU}{w:Lj}{kt:KT}{L L':Nat}{c':Mk}{b:Mem}{c post':bI}(C:mj prog w kt L c' b c)(l:L<=L')(hp:∀r os a,c r os a->post' r os a):mj prog w kt L' c' b post':=
 fun A g h G D O N T R j m n k d=>C A g h G D O N T R (j.mono l) m n k fun r os a e f i p=>d r os a e f i (hp _ _ _ p)
structure cU(prog:LU)(w:Lj)(A₀:L9)(R₀:Lm->Ly->Prop)(g:ME)(G:Array Mi)(D:Nn)(O:Mq)(st:an):Prop where
 ok:iw prog w A₀ R₀ g G D O st
section
variable{prog:LU}{w:Lj}{kt:KT}{A₀:L9}{R₀:Lm->Ly->Prop}{g:ME}{G:Array Mi}{D:Nn}{O:Mq}{L:Nat}
theorem e9(a:bX A₀ (L + 1))(b:kt.Holds g 1 0)(c:g.NoLimit):Cd kt Lk A₀ g:=⟨b,c,a.1 (NH L),oK (MJ _) a.2.1⟩
inductive ml(is:LN):an->br->Prop
 | ask {c js κ M N T eqs hs l} (r:qZ κ=Lh) (h:dF Lk κ=Lk) (f:co M js=Ld l):ml is (.ask c js κ M N T eqs hs) (.ask c l)
 | fin {f M N T eqs l} (h:co M is=Ld l):ml is (.fin f M N T eqs) (.fin f l)
 | err {e M N T eqs l} (h:co M is=Ld l):ml is (.err e M N T eqs) (.err e l)
 | stk {k c κ M N T eqs hs} : ml is (.stk k c κ M N T eqs hs) .stk
 | no {st n} : ml is st (.no n)
set_option tactic.hygienic true in
theorem aw(is:LN)(st:an):ml is st (view is st):=by
 cases st with
 | ask e i κ M b d a hs=>
  show ml is _ (match qZ κ with
   | true=>match dF Lk κ with
    | none=>match co M i with
     | some l=>br.ask e l
     | none=>.no 1
    | some _=>.no 2
   | false=>.no 3)
  split
  .rename_i h
   split
   .rename_i g
    split
    .rename_i l hf
     exact .ask h g hf
    .exact .no
   .exact .no
  .exact .no
 | fin f M b d a=>
  show ml is _ (match co M is with
   | some l=>br.fin f l
   | none=>.no 4)
  split
  .rename_i hf;exact .fin hf
  .exact .no
 | err f M b d a=>
  show ml is _ (match co M is with
   | some l=>br.err f l
   | none=>.no 5)
  split
  .rename_i hf;exact .err hf
  .exact .no
 | stk k c κ M N T a hs=>exact .stk
 | bad n=>exact .no
theorem sB{st:an}{c':Mk}{b:Mem}{d:bI}(m:bX A₀ (L + 1))(u:kt.Holds g 1 0)(v:g.NoLimit)(C:mj prog w kt L c' b d)(F:view [] st=.ask c' b)(he:jW st=aj st)(next:∀r os a n p,d r os a->os.length=b.length->∃hs,cU prog w A₀ R₀ g G D O (oW ⟨prog,w.params⟩ kt hs st ⟨r,os,a,n,p⟩)):cU prog w A₀ R₀ g G D O st:=by
 have z:=aw [] st
 rw [F] at z
 cases z with
 | @ask J is κ M H I A hs l x B hf=>
  obtain ⟨hd,hf⟩:=aW hf
  refine .mk ⟨ck he,fun h R=>?_⟩
  have hm:=foot?_mem hf
  have i:=foot?_len hf
  have nd:=aN R.nd hf hd
  have t:bX (aQ A₀ κ) L:=by
   refine ⟨?_, ?_, ?_⟩
   .intro V;rw [bT,m.1 (NH L)];exact B
   .rw [bV]
    exact oL (LS (LL (Mh (LP (LY.mp x).1)) (by decide:16<=20)) _) m.2.1
   .rw [cm]
    exact oL (LS (Mh (LP (LY.mp x).2)) _) m.2.2
  refine C _ _ _ _ _ _ _ _ _ t (Ml (R.hideKeep hm) u) (v.keeps (R.hideKeep hm)) (R.hide hm nd) fun r os a n p q hp j y=>?_
  clear t nd hm;obtain ⟨E,⟨z⟩⟩:=next r os a n p hp j
  have o:=R.put hf (j.trans i) y
  cases κ with
  | base=>
   cases r with
   | ok f=>exact z.2 q o
   | error e=>exact z.2 q o
  | ret c hd k s=>exact (bE (e9 m u v) _ _ _ _ _ _ _ _ _ z).2 q o
  | enter s=>exact z.elim
theorem sC{st:an}(b:bX A₀ (L + 1))(c:kt.Holds g 1 0)(d:g.NoLimit)(f:view [] st=.stk)(he:jW st=aj st)(next:∀p a,∃hs,cU prog w A₀ R₀ g G D O (qh ⟨prog,w.params⟩ kt hs st p a)):cU prog w A₀ R₀ g G D O st:=by
 have z:=aw [] st
 rw [f] at z
 cases z with
 | stk=>
  refine .mk ⟨ck he,fun p a V=>?_⟩
  obtain ⟨e,⟨z⟩⟩:=next p a
  exact (bE (e9 b c d) _ _ _ _ _ _ _ _ _ z).2
theorem sD{st:an}{f:Oi}{is:LN}{b:Mem}{os:(Nat->Obj)->List Obj}{a:(Nat->Obj)->Mem}{l:Mem}{c:bI}(fin:∀r os a i j e,c r os a->os.length=b.length->Rep g e i ((b.map (·.1)).zip os++a)->R₀ r ⟨e,G,D,j,O⟩)(hp:∀o,c (.ok f) (os o) (a o))(k:(b.map (·.1)).zip (os (ah st))++a (ah st)=l)(m:(os (ah st)).length=b.length)(n:view is st=.fin (.done f) l)(he:jW st=aj st) :
  cU prog w A₀ R₀ g G D O st:=by
 have z:=aw is st
 rw [n] at z
 cases z with
 | fin hf=>
  obtain ⟨hd,hf⟩:=aW hf
  refine .mk ⟨ck he,fun h R=>?_⟩
  have d:=R.sub (foot?_mem hf) (aN R.nd hf hd)
  rw [<- k] at d
  exact fin _ _ _ _ _ _ (hp _) m d
theorem sE{st:an}{e:Lc}{is:LN}{b:Mem}{os:(Nat->Obj)->List Obj}{a:(Nat->Obj)->Mem}{l:Mem}{c:bI}(d:∀r os a j k i,c r os a->os.length=b.length->Rep g i j ((b.map (·.1)).zip os++a)->R₀ r ⟨i,G,D,k,O⟩)(hp:∀o,c (.error e) (os o) (a o))(m:(b.map (·.1)).zip (os (ah st))++a (ah st)=l)(n:(os (ah st)).length=b.length)(p:view is st=.err e l)(he:jW st=aj st) :
  cU prog w A₀ R₀ g G D O st:=by
 have z:=aw is st
 rw [p] at z
 cases z with
 | err hf=>
  obtain ⟨hd,hf⟩:=aW hf
  refine .mk ⟨ck he,fun h R=>?_⟩
  have f:=R.sub (foot?_mem hf) (aN R.nd hf hd)
  rw [<- m] at f
  exact d _ _ _ _ _ _ (hp _) n f
theorem oX{st:an}{c':Mk}{is:LN}{l:Mem}{b:bI}(j:bX A₀ L)(k:kt.Holds g 1 0)(m:g.NoLimit)(C:mj prog w kt L c' l b)(o:c'.quiet=Lh)(p:view is st=.fin (.again c') l)(he:jW st=aj st)(fin:∀r os a d e c,b r os a->os.length=l.length->Rep g c d ((l.map (·.1)).zip os++a)->R₀ r ⟨c,G,D,e,O⟩) :
  cU prog w A₀ R₀ g G D O st:=by
 have z:=aw is st
 rw [p] at z
 cases z with
 | fin hf=>
  obtain ⟨hd,hf⟩:=aW hf
  refine .mk ⟨ck he,fun h R=>⟨o, ?_⟩⟩
  have f:=R.sub (foot?_mem hf) (aN R.nd hf hd)
  exact C _ _ _ _ _ _ _ _ _ j k m f fun r os a d e c hp n i=>fin r os a d e c hp n i
theorem mn{c':Mk}{a:Mem}{c:bI}(H:∀(A₀:L9)(R₀:Lm->Ly->Prop)(g:ME)(G:Array Mi)(D:Nn)(O:Mq)(N T:Nat),bX A₀ (L + 1)->kt.Holds g 1 0->g.NoLimit ->
   (∀r os b k l j,c r os b->os.length=a.length->Rep g j k ((a.map (·.1)).zip os++b)->R₀ r ⟨j,G,D,l,O⟩) ->
   ∃hs,cU prog w A₀ R₀ g G D O (e8 ⟨prog,w.params⟩ kt hs c' a N T)):mj prog w kt (L + 1) c' a c:=by
 intro A g h G D O N T R e f i m d
 obtain ⟨hs,⟨z⟩⟩:=H A R g G D O N T e f i d
 exact (b8 (e9 e f i) (κ:=.base) (bE (e9 e f i) 100000) rfl z).2 h m
end
section
open PySem
structure ED where
 es:List Lg
 p:Pos
 c:Scope
 a:Rl
structure SD where
 es:List Lg
 b:List L4
 o:List L4
 p:Pos
 c:Scope
 a:Rl
 hs:List MD
noncomputable def q5:Scope:=⟨.module,[],Li,Li,[]⟩
noncomputable def ym:Lg->ED
 | .BoolOp _ d p=>⟨d,p,q5,default⟩
 | .Lambda a b c p=>⟨[b],p,c,a⟩
 | .ListComp e i c p=>⟨e::i.flatMap fun g=>g.iter::g.ifs,p,c,default⟩
 | .DictComp k v _ c p=>⟨[k,v],p,c,default⟩
 | .Compare l _ h p=>⟨l::h,p,q5,default⟩
 | .Call f as j p=>⟨f::(as++j.map (·.value)),p,q5,default⟩
 | .List d p=>⟨d,p,q5,default⟩
 | _=>⟨[],default,q5,default⟩
noncomputable def ex(e:Lg)(i:Nat):Lg:=(ym e).es.getD i default
noncomputable def uN:L4->SD
 | .FunctionDef _ a b _ _ _ c _ _ p=>⟨[],b,[],p,c,a,[]⟩
 | .ClassDef _ _ _ b _ _ c _ _ _ p=>⟨[],b,[],p,c,default,[]⟩
 | .Return e p=>⟨e.toList,[],[],p,q5,default,[]⟩
 | .Assign _ v p=>⟨[v],[],[],p,q5,default,[]⟩
 | .For t i b o p=>⟨[t,i],b,o,p,q5,default,[]⟩
 | .While t b o p=>⟨[t],b,o,p,q5,default,[]⟩
 | .If t b o p=>⟨[t],b,o,p,q5,default,[]⟩
 | .Try b hs o _ p=>⟨[],b,o,p,q5,default,hs⟩
 | .Assert t m p=>⟨t::m.toList,[],[],p,q5,default,[]⟩
 | _=>⟨[],[],[],default,q5,default,[]⟩
noncomputable def sx(s:L4)(i:Nat):Lg:=(uN s).es.getD i default
noncomputable def ai(s:L4):List L4:=(uN s).b
noncomputable def eB(s:L4):List L4:=(uN s).o
noncomputable def sF(s:L4):Rl:=(uN s).a
noncomputable def bY(s:L4):Scope:=(uN s).c
noncomputable def ax:List L4->Nat->L4
 | [],_=>default
 | s::_,0=>s
 | _::l,n + 1=>ax l n
open PySem PySem.W PySem.W.X
noncomputable def bd:List L4:=Ph.main.body
noncomputable abbrev de(P:LH)(n:Array Nat)(t:Nat)(v:Lc):NG:=⟨reduceHash (P.strHash n),.str ⟨n⟩ t,v⟩
noncomputable abbrev ob(c:String)(d:OI):Obj:={ cls:=.type c,dict:=Lk,data:=d,slots:=#[] }
abbrev fu(n q:Array Nat)(s:L4)(m:Lc)(c:Nat):OI:=.func { name:=⟨n⟩,qualname:=⟨q⟩,params:=sF s,body:=.stmts (ai s),scope:=bY s,globals:=3,closure:=[],defaults:=.none,kwdefaults:=.none,doc:=.none,pyModule:=m,annotations:=Lk,code:=.ref c,closureTuple:=.none,builtins:=0 }
def o0(P:LH):Obj:=ob "dict" (.dict #[de P ⟨yd⟩ 1 (.str ⟨⟨yh⟩⟩ 160),de P ⟨qW⟩ 2 (.builtin "builtins.__doc__:str#opaque"),de P ⟨CJ⟩ 3 (.builtin "builtins.__package__:str#opaque"),de P ⟨CO⟩ 4 (.builtin "builtins.__loader__:shared#opaque"),de P ⟨ye⟩ 5 (.builtin "builtins.__spec__#opaque"),de P ⟨Dj⟩ 6 (.builtin "__build_class__"),de P #[95,95,105,109,112,111,114,116,95,95] 7 (.builtin "__import__"),de P #[97,98,115] 8 (.builtin "abs"),de P #[97,108,108] 9 (.builtin "all"),de P #[97,110,121] 10 (.builtin "any"),de P #[97,115,99,105,105] 11 (.builtin "ascii"),de P #[98,105,110] 12 (.builtin "bin"),de P ⟨DV⟩ 13 (.builtin "breakpoint"),de P #[99,97,108,108,97,98,108,101] 14 (.builtin "callable"),de P #[99,104,114] 15 (.builtin "chr"),de P #[99,111,109,112,105,108,101] 16 (.builtin "compile"),de P #[100,101,108,97,116,116,114] 17 (.builtin "delattr"),de P #[100,105,114] 18 (.builtin "dir"),de P #[100,105,118,109,111,100] 19 (.builtin "divmod"),de P #[101,118,97,108] 20 (.builtin "eval"),de P #[101,120,101,99] 21 (.builtin "exec"),de P #[102,111,114,109,97,116] 22 (.builtin "format"),de P #[103,101,116,97,116,116,114] 23 (.builtin "getattr"),de P #[103,108,111,98,97,108,115] 24 (.builtin "globals"),de P #[104,97,115,97,116,116,114] 25 (.builtin "hasattr"),de P #[104,97,115,104] 26 (.builtin "hash"),de P #[104,101,120] 27 (.builtin "hex"),de P #[105,100] 28 (.builtin "id"),de P #[105,110,112,117,116] 29 (.builtin "input"),de P ⟨DW⟩ 30 (.builtin "isinstance"),de P ⟨D0⟩ 31 (.builtin "issubclass"),de P #[105,116,101,114] 32 (.builtin "iter"),de P #[97,105,116,101,114] 33 (.builtin "aiter"),de P #[108,101,110] 34 (.builtin "len"),de P #[108,111,99,97,108,115] 35 (.builtin "locals"),de P #[109,97,120] 36 (.builtin "max"),de P #[109,105,110] 37 (.builtin "min"),de P #[110,101,120,116] 38 (.builtin "next"),de P #[97,110,101,120,116] 39 (.builtin "anext"),de P #[111,99,116] 40 (.builtin "oct"),de P #[111,114,100] 41 (.builtin "ord"),de P #[112,111,119] 42 (.builtin "pow"),de P #[112,114,105,110,116] 43 (.builtin "print"),de P #[114,101,112,114] 44 (.builtin "repr"),de P #[114,111,117,110,100] 45 (.builtin "round"),de P #[115,101,116,97,116,116,114] 46 (.builtin "setattr"),de P #[115,111,114,116,101,100] 47 (.builtin "sorted"),de P #[115,117,109] 48 (.builtin "sum"),de P #[118,97,114,115] 49 (.builtin "vars"),de P #[78,111,110,101] 50 .none,de P #[69,108,108,105,112,115,105,115] 51 .ellipsis,de P ⟨Dh⟩ 52 .notImplemented,de P #[70,97,108,115,101] 53 (.bool Li),de P #[84,114,117,101] 54 (.bool Lh),de P #[98,111,111,108] 55 (.type "bool"),de P ⟨DT⟩ 56 (.type "memoryview"),de P #[98,121,116,101,97,114,114,97,121] 57 (.type "bytearray"),de P #[98,121,116,101,115] 58 (.type "bytes"),de P ⟨DJ⟩ 59 (.type "classmethod"),de P #[99,111,109,112,108,101,120] 60 (.type "complex"),de P #[100,105,99,116] 61 (.type "dict"),de P #[101,110,117,109,101,114,97,116,101] 62 (.type "enumerate"),de P #[102,105,108,116,101,114] 63 (.type "filter"),de P #[102,108,111,97,116] 64 (.type "float"),de P #[102,114,111,122,101,110,115,101,116] 65 (.type "frozenset"),de P #[112,114,111,112,101,114,116,121] 66 (.type "property"),de P #[105,110,116] 67 (.type "int"),de P #[108,105,115,116] 68 (.type "list"),de P #[109,97,112] 69 (.type "map"),de P #[111,98,106,101,99,116] 70 (.type "object"),de P #[114,97,110,103,101] 71 (.type "range"),de P #[114,101,118,101,114,115,101,100] 72 (.type "reversed"),de P #[115,101,116] 73 (.type "set"),de P #[115,108,105,99,101] 74 (.type "slice"),de P ⟨DB⟩ 75 (.type "staticmethod"),de P #[115,116,114] 76 (.type "str"),de P #[115,117,112,101,114] 77 (.type "super"),de P #[116,117,112,108,101] 78 (.type "tuple"),de P #[116,121,112,101] 79 (.type "type"),de P #[122,105,112] 80 (.type "zip"),de P #[95,95,100,101,98,117,103,95,95] 81 (.bool Lh),de P ⟨Dz⟩ 82 (.type "BaseException"),de P ⟨Ib⟩ 83 (.type "BaseExceptionGroup"),de P #[69,120,99,101,112,116,105,111,110] 84 (.type "Exception"),de P ⟨Dv⟩ 85 (.type "GeneratorExit"),de P ⟨Ik⟩ 86 (.type "KeyboardInterrupt"),de P ⟨DY⟩ 87 (.type "SystemExit"),de P ⟨C4⟩ 88 (.type "ArithmeticError"),de P ⟨Di⟩ 89 (.type "AssertionError"),de P ⟨Dk⟩ 90 (.type "AttributeError"),de P ⟨DK⟩ 91 (.type "BufferError"),de P #[69,79,70,69,114,114,111,114] 92 (.type "EOFError"),de P ⟨DM⟩ 93 (.type "ImportError"),de P ⟨DN⟩ 94 (.type "LookupError"),de P ⟨DO⟩ 95 (.type "MemoryError"),de P #[78,97,109,101,69,114,114,111,114] 96 (.type "NameError"),de P #[79,83,69,114,114,111,114] 97 (.type "OSError"),de P ⟨Dl⟩ 98 (.type "ReferenceError"),de P ⟨DC⟩ 99 (.type "RuntimeError"),de P ⟨Ic⟩ 100 (.type "StopAsyncIteration"),de P ⟨Dw⟩ 101 (.type "StopIteration"),de P ⟨DQ⟩ 102 (.type "SyntaxError"),de P ⟨DP⟩ 103 (.type "SystemError"),de P #[84,121,112,101,69,114,114,111,114] 104 (.type "TypeError"),de P ⟨D2⟩ 105 (.type "ValueError"),de P #[87,97,114,110,105,110,103] 106 (.type "Warning"),de P ⟨H0⟩ 107 (.type "FloatingPointError"),de P ⟨Dt⟩ 108 (.type "OverflowError"),de P ⟨Ii⟩ 109 (.type "ZeroDivisionError"),de P ⟨DF⟩ 110 (.type "BytesWarning"),de P ⟨Id⟩ 111 (.type "DeprecationWarning"),de P ⟨Db⟩ 112 (.type "EncodingWarning"),de P ⟨Dx⟩ 113 (.type "FutureWarning"),de P ⟨Dy⟩ 114 (.type "ImportWarning"),de P ⟨HI⟩ 115 (.type "PendingDeprecationWarning"),de P ⟨Dc⟩ 116 (.type "ResourceWarning"),de P ⟨Dm⟩ 117 (.type "RuntimeWarning"),de P ⟨DA⟩ 118 (.type "SyntaxWarning"),de P ⟨Ds⟩ 119 (.type "UnicodeWarning"),de P ⟨DS⟩ 120 (.type "UserWarning"),de P ⟨De⟩ 121 (.type "BlockingIOError"),de P ⟨Il⟩ 122 (.type "ChildProcessError"),de P ⟨C6⟩ 123 (.type "ConnectionError"),de P ⟨C8⟩ 124 (.type "FileExistsError"),de P ⟨CR⟩ 125 (.type "FileNotFoundError"),de P ⟨CV⟩ 126 (.type "InterruptedError"),de P ⟨CS⟩ 127 (.type "IsADirectoryError"),de P ⟨Ie⟩ 128 (.type "NotADirectoryError"),de P ⟨CZ⟩ 129 (.type "PermissionError"),de P ⟨H9⟩ 130 (.type "ProcessLookupError"),de P ⟨DE⟩ 131 (.type "TimeoutError"),de P ⟨CY⟩ 132 (.type "IndentationError"),de P ⟨HT⟩ 133 (.type "_IncompleteInputError"),de P ⟨DZ⟩ 134 (.type "IndexError"),de P #[75,101,121,69,114,114,111,114] 135 (.type "KeyError"),de P ⟨HZ⟩ 136 (.type "ModuleNotFoundError"),de P ⟨HY⟩ 137 (.type "NotImplementedError"),de P ⟨HO⟩ 138 (.type "PythonFinalizationError"),de P ⟨Do⟩ 139 (.type "RecursionError"),de P ⟨CU⟩ 140 (.type "UnboundLocalError"),de P ⟨DG⟩ 141 (.type "UnicodeError"),de P ⟨Da⟩ 142 (.type "BrokenPipeError"),de P ⟨HR⟩ 143 (.type "ConnectionAbortedError"),de P ⟨HQ⟩ 144 (.type "ConnectionRefusedError"),de P ⟨HV⟩ 145 (.type "ConnectionResetError"),de P #[84,97,98,69,114,114,111,114] 146 (.type "TabError"),de P ⟨Ig⟩ 147 (.type "UnicodeDecodeError"),de P ⟨Ih⟩ 148 (.type "UnicodeEncodeError"),de P ⟨HU⟩ 149 (.type "UnicodeTranslateError"),de P ⟨Dp⟩ 150 (.type "ExceptionGroup"),de P ⟨CX⟩ 151 (.type "OSError"),de P #[73,79,69,114,114,111,114] 152 (.type "OSError"),de P #[111,112,101,110] 153 (.builtin "open"),de P #[113,117,105,116] 154 (.builtin "builtins.quit#opaque"),de P #[101,120,105,116] 155 (.builtin "builtins.exit#opaque"),de P #[99,111,112,121,114,105,103,104,116] 156 (.builtin "builtins.copyright#opaque"),de P #[99,114,101,100,105,116,115] 157 (.builtin "builtins.credits#opaque"),de P #[108,105,99,101,110,115,101] 158 (.builtin "builtins.license#opaque"),de P #[104,101,108,112] 159 (.builtin "builtins.help#opaque")] 159)
def o1(P:LH):Obj:=ob "dict" (.dict #[de P ⟨yh⟩ 162 (.ref 4),de P #[95,95,109,97,105,110,95,95] 163 (.ref 5),de P ⟨yj⟩ 244 (.ref 12)] 3)
def o2(P:LH):Obj:={ cls:=.none,dict:=Lk,data:=.dict #[de P ⟨Ia⟩ 183 (.bool Lh),de P ⟨HG⟩ 185 (.ref 14),de P ⟨Dq⟩ 206 (.ref 18),de P ⟨HH⟩ 216 (.ref 22),de P ⟨HN⟩ 245 (.int 3 0),de P ⟨HS⟩ 270 (.bool Lh),de P ⟨Df⟩ 272 (.ref 27),de P ⟨HP⟩ 0 (.str ⟨#[12]⟩ 0),de P ⟨HM⟩ 273 (.str ⟨#[4,0,0,11,4,0,0,11,4,0,0,3,4,0,0,11,8,4,100,105,99,116,2]⟩ 0)] 9,slots:=#[] }
def o3(P:LH):Obj:=ob "dict" (.dict #[de P ⟨yd⟩ 165 (.str ⟨⟨oR⟩⟩ 769),de P ⟨qW⟩ 166 .none,de P ⟨CJ⟩ 167 .none,de P ⟨CO⟩ 168 (.builtin "__main__.__loader__#opaque"),de P ⟨ye⟩ 169 .none,de P ⟨Dg⟩ 170 (.ref 6),de P ⟨DI⟩ 171 (.ref 4),de P #[95,95,102,105,108,101,95,95] 173 (.str ⟨⟨cO⟩⟩ 172),de P #[95,95,99,97,99,104,101,100,95,95] 174 .none,de P ⟨yj⟩ 275 (.ref 12),de P #[95,119,97,108,108] 288 (.ref 38),de P #[95,78,79,68,69,95,79,85,84] 293 (.int (-1) 292),de P #[95,78,79,68,69,95,68,79,78,69] 296 (.int (-2) 295),de P ⟨sf⟩ 333 (.ref 57),de P ⟨r6⟩ 351 (.ref 72),de P ⟨rW⟩ 470 (.ref 154),de P #[95,116,119,105,110,95,114,101,95,49] 510 (.ref 163),de P ⟨qX⟩ 519 (.ref 170),de P ⟨Ij⟩ 667 (.ref 172),de P ⟨nj⟩ 674 (.ref 182),de P ⟨r7⟩ 695 (.ref 189),de P ⟨rV⟩ 708 (.ref 196),de P ⟨sa⟩ 768 (.ref 234),de P ⟨r8⟩ 779 (.ref 245),de P ⟨rZ⟩ 785 (.ref 250),de P ⟨sj⟩ 799 (.ref 257),de P ⟨sk⟩ 809 (.ref 264),de P ⟨sm⟩ 820 (.ref 271),de P ⟨r5⟩ 834 (.ref 278),de P ⟨rX⟩ 840 (.ref 283),de P ⟨rY⟩ 849 (.ref 290),de P ⟨sh⟩ 857 (.ref 297),de P ⟨qV⟩ 863 (.ref 302),de P ⟨nk⟩ 869 (.ref 307)] 34)
noncomputable def o4(P:LH):Obj:={ cls:=.type "module",dict:=(Ld 0),data:=.plain,slots:=#[] }
def Jw(P:LH):Obj:=ob "code" (.fields #[.str ⟨⟨mc⟩⟩ 313,.str ⟨⟨CQ⟩⟩ 314,.str ⟨⟨cO⟩⟩ 315,.int 11 0,.int 2 0,.int 0 0,.int 0 0,.int 3 0,.ref 47,.bool Lh,.int 276 0,.ref 48,.none,.ref 49,.ref 50,.ref 51,.int 318 0,.int 11 0,.str ⟨⟨cO⟩⟩ 319])
def Jx(P:LH):Obj:=ob "function" (fu ⟨mc⟩ ⟨CQ⟩ (ax (ai (ax bd 5)) 1) (.str ⟨⟨jK⟩⟩ 289) 52)
def Jy(P:LH):Obj:=ob "dict" (.dict #[de P ⟨uU⟩ 304 (.str ⟨⟨jK⟩⟩ 289),de P ⟨uT⟩ 308 (.int 8 307),de P #[95,95,115,108,111,116,115,95,95] 312 (.ref 46),de P ⟨mc⟩ 320 (.ref 53),de P ⟨He⟩ 324 (.ref 54),de P ⟨jL⟩ 326 (.ref 58),de P ⟨zb⟩ 328 (.ref 59),de P ⟨zf⟩ 330 (.ref 60),de P ⟨qW⟩ 331 .none] 5)
noncomputable def Jz(P:LH):Obj:={ cls:=.type "type",dict:=Lk,data:=.cls { name:=⟨⟨sf⟩⟩,bases:=[.type "object"],mro:=[.ref 57,.type "object"],ns:=56,qualname:=⟨⟨sf⟩⟩,hasDict:=Li,slotNames:=[⟨⟨jL⟩⟩,⟨⟨zb⟩⟩,⟨⟨zf⟩⟩],subclasses:=[],abstract:=Li,collection:=Lk,hasDel:=Li },slots:=#[Lk,Lk,(Ld (.str ⟨⟨sf⟩⟩ 297)),(Ld (.str ⟨⟨sf⟩⟩ 305)),(Ld (.builtin "object.__new__")),(Ld (.bool Li))] }
def JA(P:LH):Obj:=ob "member_descriptor" (.fields #[.str ⟨⟨jL⟩⟩ 325,.ref 57,.builtin "proto.slot",.builtin "proto.slot#set",.int 2 0])
def JB(P:LH):Obj:=ob "member_descriptor" (.fields #[.str ⟨⟨zb⟩⟩ 327,.ref 57,.builtin "proto.slot",.builtin "proto.slot#set",.int 1 0])
def JC(P:LH):Obj:=ob "member_descriptor" (.fields #[.str ⟨⟨zf⟩⟩ 329,.ref 57,.builtin "proto.slot",.builtin "proto.slot#set",.int 0 0])
def JD(P:LH):Obj:=ob "dict" (.dict #[de P ⟨uU⟩ 341 (.str ⟨⟨jK⟩⟩ 289),de P ⟨uT⟩ 345 (.int 15 344),de P ⟨He⟩ 346 (.ref 70),de P ⟨y9⟩ 348 (.ref 73),de P ⟨qW⟩ 349 .none] 3)
noncomputable def JE(P:LH):Obj:={ cls:=.type "type",dict:=Lk,data:=.cls { name:=⟨⟨r6⟩⟩,bases:=[.type "ValueError"],mro:=[.ref 72,.type "ValueError",.type "Exception",.type "BaseException",.type "object"],ns:=71,qualname:=⟨⟨r6⟩⟩,hasDict:=Lh,slotNames:=[],subclasses:=[],abstract:=Li,collection:=Lk,hasDel:=Li },slots:=#[(Ld (.ref 63)),Lk,(Ld (.str ⟨⟨r6⟩⟩ 334)),(Ld (.str ⟨⟨r6⟩⟩ 342)),(Ld (.builtin "ValueError.__new__")),(Ld (.bool Lh))] }
def JF(P:LH):Obj:=ob "tuple" (.seq #[.none] 0)
def JG(P:LH):Obj:=ob "code" (.fields #[.str ⟨⟨mc⟩⟩ 364,.str ⟨⟨CB⟩⟩ 365,.str ⟨⟨cO⟩⟩ 366,.int 19 0,.int 2 0,.int 0 0,.int 0 0,.int 3 0,.ref 84,.bool Lh,.int 276 0,.ref 85,.none,.ref 86,.ref 87,.ref 88,.int 371 0,.int 19 0,.str ⟨⟨cO⟩⟩ 372])
def JH(P:LH):Obj:=ob "function" (.func { name:=⟨⟨mc⟩⟩,qualname:=⟨⟨CB⟩⟩,params:=sF (ax (ai (ax bd 7)) 0),body:=.stmts (ai (ax (ai (ax bd 7)) 0)),scope:=bY (ax (ai (ax bd 7)) 0),globals:=3,closure:=[],defaults:=.ref 83,kwdefaults:=.none,doc:=.none,pyModule:=.str ⟨⟨jK⟩⟩ 289,annotations:=Lk,code:=.ref 89,closureTuple:=.none,builtins:=0 })
def JI(P:LH):Obj:=ob "code" (.fields #[.str ⟨⟨zc⟩⟩ 374,.str ⟨⟨Cw⟩⟩ 375,.str ⟨⟨cO⟩⟩ 376,.int 28 0,.int 2 0,.int 0 0,.int 0 0,.int 3 0,.ref 91,.bool Lh,.int 276 0,.ref 92,.none,.ref 93,.ref 94,.ref 95,.int 380 0,.int 28 0,.str ⟨⟨cO⟩⟩ 381])
def JJ(P:LH):Obj:=ob "function" (fu ⟨zc⟩ ⟨Cw⟩ (ax (ai (ax bd 7)) 1) (.str ⟨⟨jK⟩⟩ 289) 96)
def D4(P:LH):Obj:=ob "code" (.fields #[.str ⟨⟨lz⟩⟩ 383,.str ⟨⟨CG⟩⟩ 384,.str ⟨⟨cO⟩⟩ 385,.int 33 0,.int 2 0,.int 0 0,.int 0 0,.int 7 0,.ref 98,.bool Lh,.int 276 0,.ref 99,.none,.ref 100,.ref 101,.ref 102,.int 392 0,.int 33 0,.str ⟨⟨cO⟩⟩ 393])
def D5(P:LH):Obj:=ob "function" (fu ⟨lz⟩ ⟨CG⟩ (ax (ai (ax bd 7)) 2) (.str ⟨⟨jK⟩⟩ 289) 103)
def D6(P:LH):Obj:=ob "code" (.fields #[.str ⟨⟨so⟩⟩ 395,.str ⟨⟨CD⟩⟩ 396,.str ⟨⟨cO⟩⟩ 397,.int 42 0,.int 1 0,.int 0 0,.int 0 0,.int 3 0,.ref 105,.bool Lh,.int 276 0,.ref 106,.none,.none,.none,.ref 107,.int 398 0,.int 42 0,.str ⟨⟨cO⟩⟩ 399])
def D7(P:LH):Obj:=ob "function" (fu ⟨so⟩ ⟨CD⟩ (ax (ai (ax bd 7)) 3) (.str ⟨⟨jK⟩⟩ 289) 108)
def D8(P:LH):Obj:=ob "code" (.fields #[.str ⟨⟨zi⟩⟩ 401,.str ⟨⟨Cy⟩⟩ 402,.str ⟨⟨cO⟩⟩ 403,.int 50 0,.int 1 0,.int 0 0,.int 0 0,.int 3 0,.ref 110,.bool Lh,.int 276 0,.ref 111,.none,.ref 112,.ref 113,.ref 114,.int 408 0,.int 50 0,.str ⟨⟨cO⟩⟩ 409])
def D9(P:LH):Obj:=ob "function" (fu ⟨zi⟩ ⟨Cy⟩ (ax (ai (ax bd 7)) 4) (.str ⟨⟨jK⟩⟩ 289) 115)
def Ea(P:LH):Obj:=ob "code" (.fields #[.str ⟨⟨sw⟩⟩ 425,.str ⟨⟨CF⟩⟩ 426,.str ⟨⟨cO⟩⟩ 427,.int 69 0,.int 1 0,.int 0 0,.int 0 0,.int 7 0,.ref 131,.bool Lh,.int 276 0,.ref 132,.none,.ref 133,.ref 134,.ref 135,.int 436 0,.int 69 0,.str ⟨⟨cO⟩⟩ 437])
def Eb(P:LH):Obj:=ob "function" (fu ⟨sw⟩ ⟨CF⟩ (ax (ai (ax bd 7)) 7) (.str ⟨⟨jK⟩⟩ 289) 136)
def Ec(P:LH):Obj:=ob "code" (.fields #[.str ⟨⟨zd⟩⟩ 439,.str ⟨⟨Cx⟩⟩ 440,.str ⟨⟨cO⟩⟩ 441,.int 92 0,.int 1 0,.int 0 0,.int 0 0,.int 3 0,.ref 138,.bool Lh,.int 276 0,.ref 139,.none,.ref 140,.ref 141,.ref 142,.int 449 0,.int 92 0,.str ⟨⟨cO⟩⟩ 450])
def Ed(P:LH):Obj:=ob "function" (fu ⟨zd⟩ ⟨Cx⟩ (ax (ai (ax bd 7)) 8) (.str ⟨⟨jK⟩⟩ 289) 143)
def Ee(P:LH):Obj:=ob "dict" (.dict #[de P ⟨uU⟩ 359 (.str ⟨⟨jK⟩⟩ 289),de P ⟨uT⟩ 363 (.int 17 362),de P ⟨mc⟩ 373 (.ref 90),de P ⟨zc⟩ 382 (.ref 97),de P ⟨lz⟩ 394 (.ref 104),de P ⟨so⟩ 400 (.ref 109),de P ⟨zi⟩ 410 (.ref 116),de P #[105,115,95,97,99,116,105,118,101] 417 (.ref 123),de P #[95,95,98,111,111,108,95,95] 424 (.ref 130),de P ⟨sw⟩ 438 (.ref 137),de P ⟨zd⟩ 451 (.ref 144),de P ⟨DH⟩ 458 (.ref 151),de P ⟨He⟩ 463 (.ref 152),de P ⟨yf⟩ 465 (.ref 155),de P ⟨y9⟩ 467 (.ref 156),de P ⟨qW⟩ 468 .none] 4)
noncomputable def Ef(P:LH):Obj:={ cls:=.type "type",dict:=Lk,data:=.cls { name:=⟨⟨rW⟩⟩,bases:=[.type "object"],mro:=[.ref 154,.type "object"],ns:=153,qualname:=⟨⟨rW⟩⟩,hasDict:=Lh,slotNames:=[],subclasses:=[],abstract:=Li,collection:=Lk,hasDel:=Li },slots:=#[Lk,Lk,(Ld (.str ⟨⟨rW⟩⟩ 352)),(Ld (.str ⟨⟨rW⟩⟩ 360)),(Ld (.builtin "object.__new__")),(Ld (.bool Lh))] }
def Eg(P:LH):Obj:=ob "tuple" (.seq #[.int 14 0,.int 14 0,.int 4 0,.int 1 0,.int 1 0,.int 9 0,.int 0 0,.int 64 0,.int 0 0,.int 1342177280 0,.int 0 0,.int 0 0,.int 0 0,.int 0 0,.int 0 0,.int 17 0,.int 0 0,.int 13 0,.int 11 0,.int 9 0,.int 0 0,.int 64 0,.int 0 0,.int 1342177280 0,.int 0 0,.int 0 0,.int 0 0,.int 0 0,.int 0 0,.int 17 0,.int 1 0,.int 1 0] 0)
noncomputable def Eh(P:LH):Obj:={ cls:=.type "re.Pattern",dict:=Lk,data:=.fields #[.str ⟨#[40,91,38,126,124,93,41]⟩ 474,.int 32 509,.int 1 0,.none,.none,.ref 162,.int 0 0],slots:=#[] }
def Ei(P:LH):Obj:=ob "code" (.fields #[.str ⟨⟨qX⟩⟩ 511,.str ⟨⟨qX⟩⟩ 512,.str ⟨⟨cO⟩⟩ 513,.int 125 0,.int 1 0,.int 0 0,.int 0 0,.int 3 0,.ref 164,.bool Lh,.int 276 0,.ref 165,.none,.ref 166,.ref 167,.ref 168,.int 517 0,.int 125 0,.str ⟨⟨cO⟩⟩ 518])
def Ej(P:LH):Obj:=ob "function" (fu ⟨qX⟩ ⟨qX⟩ (ax bd 10) (.str ⟨⟨uW⟩⟩ 471) 169)
def zk(P:LH):Obj:=ob "dict" (.dict #[⟨40,.int 40 523,.str ⟨#[92,40]⟩ 527⟩,⟨41,.int 41 529,.str ⟨#[92,41]⟩ 533⟩,⟨91,.int 91 535,.str ⟨#[92,91]⟩ 539⟩,⟨93,.int 93 541,.str ⟨#[92,93]⟩ 545⟩,⟨123,.int 123 547,.str ⟨#[92,123]⟩ 551⟩,⟨125,.int 125 553,.str ⟨#[92,125]⟩ 557⟩,⟨63,.int 63 559,.str ⟨#[92,63]⟩ 563⟩,⟨42,.int 42 565,.str ⟨#[92,42]⟩ 569⟩,⟨43,.int 43 571,.str ⟨#[92,43]⟩ 575⟩,⟨45,.int 45 577,.str ⟨#[92,45]⟩ 581⟩,⟨124,.int 124 583,.str ⟨#[92,124]⟩ 587⟩,⟨94,.int 94 589,.str ⟨#[92,94]⟩ 593⟩,⟨36,.int 36 595,.str ⟨#[92,36]⟩ 599⟩,⟨92,.int 92 601,.str ⟨#[92,92]⟩ 605⟩,⟨46,.int 46 607,.str ⟨#[92,46]⟩ 611⟩,⟨38,.int 38 613,.str ⟨#[92,38]⟩ 617⟩,⟨126,.int 126 619,.str ⟨#[92,126]⟩ 623⟩,⟨35,.int 35 625,.str ⟨#[92,35]⟩ 629⟩,⟨32,.int 32 631,.str ⟨#[92,32]⟩ 635⟩,⟨9,.int 9 637,.str ⟨#[92,9]⟩ 641⟩,⟨10,.int 10 643,.str ⟨#[92,10]⟩ 647⟩,⟨13,.int 13 649,.str ⟨#[92,13]⟩ 653⟩,⟨11,.int 11 655,.str ⟨#[92,11]⟩ 659⟩,⟨12,.int 12 661,.str ⟨#[92,12]⟩ 665⟩] 24)
def Ek(P:LH):Obj:=ob "code" (.fields #[.str ⟨⟨nj⟩⟩ 668,.str ⟨⟨nj⟩⟩ 669,.str ⟨⟨cO⟩⟩ 670,.int 131 0,.int 1 0,.int 0 0,.int 0 0,.int 3 0,.ref 176,.bool Lh,.int 276 0,.ref 177,.none,.ref 178,.ref 179,.ref 180,.int 672 0,.int 131 0,.str ⟨⟨cO⟩⟩ 673])
def El(P:LH):Obj:=ob "function" (fu ⟨nj⟩ ⟨nj⟩ (ax bd 13) (.str ⟨#[114,101]⟩ 520) 181)
noncomputable def Iq(P:LH):Obj:={ cls:=.none,dict:=Lk,data:=.fields #[],slots:=#[] }
def mo(P:LH):Obj:=ob "code" (.fields #[.str ⟨⟨r7⟩⟩ 677,.str ⟨⟨r7⟩⟩ 678,.str ⟨⟨cO⟩⟩ 679,.int 138 0,.int 3 0,.int 0 0,.int 0 0,.int 3 0,.ref 183,.bool Lh,.int 276 0,.ref 184,.none,.ref 185,.ref 186,.ref 187,.int 693 0,.int 138 0,.str ⟨⟨cO⟩⟩ 694])
def Em(P:LH):Obj:=ob "function" (fu ⟨r7⟩ ⟨r7⟩ (ax bd 15) (.str ⟨⟨uW⟩⟩ 675) 188)
def En(P:LH):Obj:=ob "code" (.fields #[.str ⟨⟨rV⟩⟩ 696,.str ⟨⟨rV⟩⟩ 697,.str ⟨⟨cO⟩⟩ 698,.int 200 0,.int 2 0,.int 0 0,.int 0 0,.int 3 0,.ref 190,.bool Lh,.int 276 0,.ref 191,.none,.ref 192,.ref 193,.ref 194,.int 706 0,.int 200 0,.str ⟨⟨cO⟩⟩ 707])
def Eo(P:LH):Obj:=ob "function" (fu ⟨rV⟩ ⟨rV⟩ (ax bd 16) (.str ⟨⟨uW⟩⟩ 675) 195)
def Ep(P:LH):Obj:=ob "code" (.fields #[.str ⟨⟨mc⟩⟩ 723,.str ⟨⟨CP⟩⟩ 724,.str ⟨⟨cO⟩⟩ 725,.int 230 0,.int 2 0,.int 0 0,.int 0 0,.int 3 0,.ref 204,.bool Lh,.int 276 0,.ref 205,.none,.ref 206,.ref 207,.ref 208,.int 728 0,.int 230 0,.str ⟨⟨cO⟩⟩ 729])
def Er(P:LH):Obj:=ob "function" (fu ⟨mc⟩ ⟨CP⟩ (ax (ai (ax bd 18)) 0) (.str ⟨⟨r9⟩⟩ 709) 209)
def Es(P:LH):Obj:=ob "code" (.fields #[.str ⟨⟨zg⟩⟩ 731,.str ⟨⟨CK⟩⟩ 732,.str ⟨⟨cO⟩⟩ 733,.int 236 0,.int 1 0,.int 0 0,.int 0 0,.int 3 0,.ref 211,.bool Lh,.int 276 0,.ref 212,.none,.ref 213,.ref 214,.ref 215,.int 736 0,.int 236 0,.str ⟨⟨cO⟩⟩ 737])
def uY(P:LH):Obj:=ob "function" (fu ⟨zg⟩ ⟨CK⟩ (ax (ai (ax bd 18)) 1) (.str ⟨⟨r9⟩⟩ 709) 216)
def Et(P:LH):Obj:=ob "code" (.fields #[.str ⟨⟨zh⟩⟩ 739,.str ⟨⟨CM⟩⟩ 740,.str ⟨⟨cO⟩⟩ 741,.int 242 0,.int 1 0,.int 0 0,.int 0 0,.int 3 0,.ref 218,.bool Lh,.int 276 0,.ref 219,.none,.ref 220,.ref 221,.ref 222,.int 746 0,.int 242 0,.str ⟨⟨cO⟩⟩ 747])
def Eu(P:LH):Obj:=ob "function" (fu ⟨zh⟩ ⟨CM⟩ (ax (ai (ax bd 18)) 2) (.str ⟨⟨r9⟩⟩ 709) 223)
def Ev(P:LH):Obj:=ob "code" (.fields #[.str ⟨⟨ze⟩⟩ 749,.str ⟨⟨CH⟩⟩ 750,.str ⟨⟨cO⟩⟩ 751,.int 269 0,.int 2 0,.int 0 0,.int 0 0,.int 3 0,.ref 225,.bool Lh,.int 276 0,.ref 226,.none,.ref 227,.ref 228,.ref 229,.int 754 0,.int 269 0,.str ⟨⟨cO⟩⟩ 755])
def Ew(P:LH):Obj:=ob "function" (fu ⟨ze⟩ ⟨CH⟩ (ax (ai (ax bd 18)) 3) (.str ⟨⟨r9⟩⟩ 709) 230)
def Ex(P:LH):Obj:=ob "dict" (.dict #[de P ⟨uU⟩ 718 (.str ⟨⟨r9⟩⟩ 709),de P ⟨uT⟩ 722 (.int 228 721),de P ⟨mc⟩ 730 (.ref 210),de P ⟨zg⟩ 738 (.ref 217),de P ⟨zh⟩ 748 (.ref 224),de P ⟨ze⟩ 756 (.ref 231),de P ⟨He⟩ 761 (.ref 232),de P ⟨yf⟩ 763 (.ref 235),de P ⟨y9⟩ 765 (.ref 236),de P ⟨qW⟩ 766 .none] 4)
noncomputable def Ey(P:LH):Obj:={ cls:=.type "type",dict:=Lk,data:=.cls { name:=⟨⟨sa⟩⟩,bases:=[.type "object"],mro:=[.ref 234,.type "object"],ns:=233,qualname:=⟨⟨sa⟩⟩,hasDict:=Lh,slotNames:=[],subclasses:=[],abstract:=Li,collection:=Lk,hasDel:=Li },slots:=#[Lk,Lk,(Ld (.str ⟨⟨sa⟩⟩ 711)),(Ld (.str ⟨⟨sa⟩⟩ 719)),(Ld (.builtin "object.__new__")),(Ld (.bool Lh))] }
noncomputable def Ir(P:LH):Obj:={ cls:=.none,dict:=Lk,data:=.fields #[],slots:=#[] }
def mq(P:LH):Obj:=ob "code" (.fields #[.str ⟨⟨r8⟩⟩ 771,.str ⟨⟨r8⟩⟩ 772,.str ⟨⟨cO⟩⟩ 773,.int 272 0,.int 1 0,.int 0 0,.int 0 0,.int 3 0,.ref 239,.bool Lh,.int 276 0,.ref 240,.none,.ref 241,.ref 242,.ref 243,.int 777 0,.int 272 0,.str ⟨⟨cO⟩⟩ 778])
def Ez(P:LH):Obj:=ob "function" (fu ⟨r8⟩ ⟨r8⟩ (ax bd 20) (.str ⟨⟨oR⟩⟩ 769) 244)
def EA(P:LH):Obj:=ob "code" (.fields #[.str ⟨⟨rZ⟩⟩ 780,.str ⟨⟨rZ⟩⟩ 781,.str ⟨⟨cO⟩⟩ 782,.int 277 0,.int 2 0,.int 0 0,.int 0 0,.int 3 0,.ref 246,.bool Lh,.int 276 0,.ref 247,.none,.none,.none,.ref 248,.int 783 0,.int 277 0,.str ⟨⟨cO⟩⟩ 784])
def EB(P:LH):Obj:=ob "function" (fu ⟨rZ⟩ ⟨rZ⟩ (ax bd 21) (.str ⟨⟨oR⟩⟩ 769) 249)
def EC(P:LH):Obj:=ob "code" (.fields #[.str ⟨⟨sj⟩⟩ 786,.str ⟨⟨sj⟩⟩ 787,.str ⟨⟨cO⟩⟩ 788,.int 284 0,.int 1 0,.int 0 0,.int 0 0,.int 3 0,.ref 251,.bool Lh,.int 276 0,.ref 252,.none,.ref 253,.ref 254,.ref 255,.int 797 0,.int 284 0,.str ⟨⟨cO⟩⟩ 798])
def EE(P:LH):Obj:=ob "function" (fu ⟨sj⟩ ⟨sj⟩ (ax bd 22) (.str ⟨⟨oR⟩⟩ 769) 256)
def EF(P:LH):Obj:=ob "code" (.fields #[.str ⟨⟨sk⟩⟩ 800,.str ⟨⟨sk⟩⟩ 801,.str ⟨⟨cO⟩⟩ 802,.int 294 0,.int 2 0,.int 0 0,.int 0 0,.int 3 0,.ref 258,.bool Lh,.int 276 0,.ref 259,.none,.ref 260,.ref 261,.ref 262,.int 807 0,.int 294 0,.str ⟨⟨cO⟩⟩ 808])
def EG(P:LH):Obj:=ob "function" (fu ⟨sk⟩ ⟨sk⟩ (ax bd 23) (.str ⟨⟨oR⟩⟩ 769) 263)
def EH(P:LH):Obj:=ob "code" (.fields #[.str ⟨⟨sm⟩⟩ 810,.str ⟨⟨sm⟩⟩ 811,.str ⟨⟨cO⟩⟩ 812,.int 302 0,.int 2 0,.int 0 0,.int 0 0,.int 3 0,.ref 265,.bool Lh,.int 276 0,.ref 266,.none,.ref 267,.ref 268,.ref 269,.int 818 0,.int 302 0,.str ⟨⟨cO⟩⟩ 819])
def EI(P:LH):Obj:=ob "function" (fu ⟨sm⟩ ⟨sm⟩ (ax bd 24) (.str ⟨⟨oR⟩⟩ 769) 270)
def EJ(P:LH):Obj:=ob "code" (.fields #[.str ⟨⟨r5⟩⟩ 821,.str ⟨⟨r5⟩⟩ 822,.str ⟨⟨cO⟩⟩ 823,.int 313 0,.int 2 0,.int 0 0,.int 0 0,.int 3 0,.ref 272,.bool Lh,.int 276 0,.ref 273,.none,.ref 274,.ref 275,.ref 276,.int 832 0,.int 313 0,.str ⟨⟨cO⟩⟩ 833])
def EK(P:LH):Obj:=ob "function" (fu ⟨r5⟩ ⟨r5⟩ (ax bd 25) (.str ⟨⟨oR⟩⟩ 769) 277)
def EL(P:LH):Obj:=ob "code" (.fields #[.str ⟨⟨rX⟩⟩ 835,.str ⟨⟨rX⟩⟩ 836,.str ⟨⟨cO⟩⟩ 837,.int 331 0,.int 3 0,.int 0 0,.int 0 0,.int 3 0,.ref 279,.bool Lh,.int 276 0,.ref 280,.none,.none,.none,.ref 281,.int 838 0,.int 331 0,.str ⟨⟨cO⟩⟩ 839])
def EM(P:LH):Obj:=ob "function" (fu ⟨rX⟩ ⟨rX⟩ (ax bd 26) (.str ⟨⟨oR⟩⟩ 769) 282)
def EN(P:LH):Obj:=ob "code" (.fields #[.str ⟨⟨rY⟩⟩ 841,.str ⟨⟨rY⟩⟩ 842,.str ⟨⟨cO⟩⟩ 843,.int 342 0,.int 2 0,.int 0 0,.int 0 0,.int 3 0,.ref 284,.bool Lh,.int 276 0,.ref 285,.none,.ref 286,.ref 287,.ref 288,.int 847 0,.int 342 0,.str ⟨⟨cO⟩⟩ 848])
def EO(P:LH):Obj:=ob "function" (fu ⟨rY⟩ ⟨rY⟩ (ax bd 27) (.str ⟨⟨oR⟩⟩ 769) 289)
def EP(P:LH):Obj:=ob "code" (.fields #[.str ⟨⟨sh⟩⟩ 850,.str ⟨⟨sh⟩⟩ 851,.str ⟨⟨cO⟩⟩ 852,.int 345 0,.int 1 0,.int 0 0,.int 0 0,.int 3 0,.ref 291,.bool Lh,.int 276 0,.ref 292,.none,.ref 293,.ref 294,.ref 295,.int 855 0,.int 345 0,.str ⟨⟨cO⟩⟩ 856])
def EQ(P:LH):Obj:=ob "function" (fu ⟨sh⟩ ⟨sh⟩ (ax bd 28) (.str ⟨⟨oR⟩⟩ 769) 296)
def ER(P:LH):Obj:=ob "code" (.fields #[.str ⟨⟨qV⟩⟩ 858,.str ⟨⟨qV⟩⟩ 859,.str ⟨⟨cO⟩⟩ 860,.int 352 0,.int 2 0,.int 0 0,.int 0 0,.int 3 0,.ref 298,.bool Lh,.int 276 0,.ref 299,.none,.none,.none,.ref 300,.int 861 0,.int 352 0,.str ⟨⟨cO⟩⟩ 862])
def ES(P:LH):Obj:=ob "function" (fu ⟨qV⟩ ⟨qV⟩ (ax bd 29) (.str ⟨⟨oR⟩⟩ 769) 301)
noncomputable def Iu(P:LH):Obj:={ cls:=.none,dict:=Lk,data:=.fields #[],slots:=#[] }
def mr(P:LH):Obj:=ob "code" (.fields #[.str ⟨⟨nk⟩⟩ 864,.str ⟨⟨nk⟩⟩ 865,.str ⟨⟨cO⟩⟩ 866,.int 363 0,.int 1 0,.int 0 0,.int 0 0,.int 3 0,.ref 303,.bool Lh,.int 276 0,.ref 304,.none,.none,.none,.ref 305,.int 867 0,.int 363 0,.str ⟨⟨cO⟩⟩ 868])
def ET(P:LH):Obj:=ob "function" (fu ⟨nk⟩ ⟨nk⟩ (ax bd 30) (.str ⟨⟨oR⟩⟩ 769) 306)
def kf(P:LH):TG:=[(0,o0 P),(1,o1 P),(2,o2 P),(3,o3 P),(4,o4 P),(52,Jw P),(53,Jx P),(56,Jy P),(57,Jz P),(58,JA P),(59,JB P),(60,JC P),(71,JD P),(72,JE P),(83,JF P),(89,JG P),(90,JH P),(96,JI P),(97,JJ P),(103,D4 P),(104,D5 P),(108,D6 P),(109,D7 P),(115,D8 P),(116,D9 P),(136,Ea P),(137,Eb P),(143,Ec P),(144,Ed P),(153,Ee P),(154,Ef P),(162,Eg P),(163,Eh P),(169,Ei P),(170,Ej P),(172,zk P),(181,Ek P),(182,El P),(184,Iq P),(188,mo P),(189,Em P),(195,En P),(196,Eo P),(209,Ep P),(210,Er P),(216,Es P),(217,uY P),(223,Et P),(224,Eu P),(230,Ev P),(231,Ew P),(233,Ex P),(234,Ey P),(240,Ir P),(244,mq P),(245,Ez P),(249,EA P),(250,EB P),(256,EC P),(257,EE P),(263,EF P),(264,EG P),(270,EH P),(271,EI P),(277,EJ P),(278,EK P),(282,EL P),(283,EM P),(289,EN P),(290,EO P),(296,EP P),(297,EQ P),(301,ER P),(302,ES P),(304,Iu P),(306,mr P),(307,ET P)]
noncomputable def Ce:List O7:=[0,1,2,3,4,52,53,56,57,58,59,60,71,72,83,89,90,96,97,103,104,108,109,115,116,136,137,143,144,153,154,162,163,169,170,172,181,182,184,188,189,195,196,209,210,216,217,223,224,230,231,233,234,240,244,245,249,250,256,257,263,264,270,271,277,278,282,283,289,290,296,297,301,302,304,306,307]
def kt(P:LH):KT:=(.node (Ld (o0 P)) (.node (Ld (o1 P)) (.node (Ld (o3 P)) (.node Lk (.node Lk (.node Lk .nil (.node Lk .nil (.node (Ld (Et P)) .nil .nil))) (.node Lk (.node Lk (.node (Ld (Ec P)) (.node (Ld (EI P)) .nil .nil) .nil) .nil) .nil)) (.node Lk (.node Lk (.node (Ld (JD P)) (.node Lk (.node (Ld (EF P)) .nil .nil) .nil) .nil) (.node (Ld (D4 P)) .nil (.node (Ld (Ew P)) .nil .nil))) .nil)) (.node Lk (.node Lk (.node Lk (.node Lk .nil (.node (Ld (En P)) .nil .nil)) (.node Lk (.node (Ld (Eh P)) .nil .nil) .nil)) (.node Lk (.node (Ld (JF P)) .nil .nil) (.node (Ld (D8 P)) (.node Lk (.node (Ld (ET P)) .nil .nil) .nil) .nil))) (.node Lk .nil (.node (Ld (JB P)) (.node Lk (.node Lk (.node (Ld (EM P)) .nil .nil) .nil) .nil) .nil)))) (.node Lk (.node Lk (.node Lk (.node Lk (.node Lk (.node Lk (.node (Ld (EE P)) .nil .nil) .nil) .nil) (.node (Ld (JJ P)) (.node Lk (.node (Ld (EN P)) .nil .nil) .nil) .nil)) (.node Lk (.node Lk .nil (.node (Ld (Ep P)) .nil .nil)) .nil)) (.node Lk (.node Lk (.node Lk (.node (Ld (Eb P)) .nil .nil) .nil) (.node Lk (.node (Ld (Ei P)) (.node (Ld (EQ P)) .nil .nil) .nil) (.node (Ld (Ex P)) .nil .nil))) (.node (Ld (Jz P)) (.node (Ld (JG P)) (.node (Ld (Ee P)) .nil .nil) (.node (Ld (uY P)) .nil .nil)) (.node Lk .nil (.node (Ld (EA P)) .nil .nil))))) (.node Lk (.node Lk .nil (.node (Ld (Jx P)) (.node Lk (.node Lk (.node (Ld (EJ P)) .nil .nil) .nil) .nil) (.node Lk (.node (Ld (Ek P)) .nil .nil) (.node (Ld (Ez P)) .nil .nil)))) (.node Lk (.node Lk .nil (.node (Ld (D7 P)) (.node Lk (.node (Ld (ER P)) .nil .nil) .nil) .nil)) (.node Lk .nil (.node Lk (.node (Ld (Em P)) .nil .nil) .nil)))))) (.node (Ld (o2 P)) (.node (Ld (o4 P)) (.node Lk (.node Lk (.node Lk (.node Lk (.node Lk (.node (Ld (EC P)) .nil .nil) .nil) .nil) (.node (Ld (JI P)) .nil (.node (Ld (Eu P)) .nil .nil))) (.node Lk (.node Lk (.node (Ld (Ed P)) .nil .nil) .nil) .nil)) (.node Lk (.node Lk (.node (Ld (JE P)) (.node (Ld (Ea P)) (.node (Ld (EG P)) .nil .nil) .nil) .nil) (.node (Ld (D5 P)) (.node Lk (.node (Ld (EP P)) .nil .nil) .nil) .nil)) (.node (Ld (Jy P)) (.node Lk .nil (.node (Ld (Es P)) .nil .nil)) .nil))) (.node Lk (.node Lk (.node Lk (.node Lk .nil (.node (Ld (Eo P)) .nil .nil)) .nil) (.node (Ld (Jw P)) .nil (.node (Ld (D9 P)) .nil (.node (Ld (mq P)) .nil .nil)))) (.node Lk (.node Lk .nil (.node (Ld (D6 P)) (.node (Ld (zk P)) .nil .nil) .nil)) (.node (Ld (JC P)) .nil (.node Lk (.node (Ld (mo P)) .nil .nil) .nil))))) (.node Lk (.node Lk (.node Lk (.node Lk .nil (.node Lk (.node (Ld (Eg P)) (.node (Ld (EO P)) .nil .nil) .nil) .nil)) (.node Lk (.node Lk .nil (.node (Ld (Er P)) .nil .nil)) (.node Lk (.node Lk (.node (Ld (mr P)) .nil .nil) .nil) .nil))) (.node Lk (.node Lk .nil (.node Lk (.node (Ld (Ej P)) .nil .nil) (.node (Ld (Ey P)) .nil .nil))) (.node (Ld (JA P)) (.node (Ld (JH P)) (.node (Ld (Ef P)) (.node (Ld (EL P)) .nil .nil) .nil) .nil) (.node Lk .nil (.node (Ld (EB P)) .nil .nil))))) (.node Lk (.node Lk (.node Lk .nil (.node Lk .nil (.node (Ld (Ev P)) .nil .nil))) (.node Lk (.node Lk (.node Lk (.node (Ld (EK P)) .nil .nil) .nil) .nil) (.node Lk (.node (Ld (El P)) .nil .nil) .nil))) (.node Lk (.node Lk (.node Lk (.node Lk (.node (Ld (EH P)) .nil .nil) .nil) .nil) (.node Lk (.node Lk (.node (Ld (ES P)) .nil .nil) .nil) .nil)) .nil)))))
noncomputable abbrev pw:LU:=Ph
noncomputable def wd(w:Lj)(a b:Bool):Lj:=(w.withFollow "comprehension-iter-twice" a).withFollow "special-get-raises" b
abbrev CT(w:Lj)(a b:Bool)(L:Nat)(c':Mk)(c:Mem)(d:bI):Prop:=mj pw (wd w a b) (kt (wd w a b).params) L c' c d
end
section
open PySem.W.Fast
open PySem.W.X (obsZ valZ)
noncomputable def jX(p:LU)(w:Lj)(N:Nat):Option Ly:=
 (tw10274390034422433532 OJ (opening p) w N (RA (opening p)).1 (RA (opening p)).2).bind (tw14289696077712309145 p)
noncomputable def ny(p:LU)(w:Lj)(N:Nat)(a:Ly):Option Ly:=match a.heap.isNs mainGlobals && a.gens.size == 0 with
 | true=>(tw14082659384304107361 OJ p w a.heap.objs.size (a.heap.nsMap mainGlobals "__annotations__") N a (topStub p)).bind fun b=>match staticsOk (QC p.main.body) a.heap b.heap && namesBound p b.heap && gensDone b && laidKept a.heap b.heap with
  | true=>Ld b
  | false=>Lk
 | false=>Lk
theorem uZ(p:LU)(w:Lj)(N:Nat):jX p w N=fencedOpening Ri p w N:=by
 unfold jX fencedOpening
 rw [<- te10274390034422433532,<- OK,<- te1435165496053646825,<- te14289696077712309145]
theorem zl(p:LU)(w:Lj)(N:Nat)(s:Ly):ny p w N s=topFrom Ri p w N s:=by
 unfold ny topFrom
 rw [<- te14082659384304107361,<- OK]
 rfl
noncomputable def qv:LU:=PySem.W.view pw [0,30]
noncomputable def loose:List Str:=["_wall","_NODE_OUT","_NODE_DONE","_NodeInfo","CycleError","TopologicalSorter","_twin_re_1","translate","_special_chars_map","escape","_translate","_join_translated_parts","_netrclex",
 "_law_lexer","_law_written","_law_draw","_law_ways","_law_run","_law_rounds","_law_rounds_due","_law_patterns","_law_sign","_law_taken"].map QK
section
variable(w:Lj)
include w
theorem qi:wd w (w.params.followText "comprehension-iter-twice") (w.params.followText "special-get-raises")=w:=by
 unfold wd
 rw [O6,O6]
noncomputable def xt(s:Ly):Bool:=xlAt qv [] s && recOk [] s
def nz(s:Ly):=(tw4187177175401517315 qv loose (QC pw.main.body) xt Lh s,obsZ Ce s)
theorem u5:((jX pw (wd w Li Li) 6550).bind (ny pw (wd w Li Li) 6550)).map nz=Ld (Qa qv loose,Sr kf 308 870 (wd w Li Li)):=by kernel_rfl
theorem u6:((jX pw (wd w Li Lh) 6550).bind (ny pw (wd w Li Lh) 6550)).map nz=Ld (Qa qv loose,Sr kf 308 870 (wd w Li Lh)):=by kernel_rfl
theorem u7:((jX pw (wd w Lh Li) 6550).bind (ny pw (wd w Lh Li) 6550)).map nz=Ld (Qa qv loose,Sr kf 308 870 (wd w Lh Li)):=by kernel_rfl
theorem u8:((jX pw (wd w Lh Lh) 6550).bind (ny pw (wd w Lh Lh) 6550)).map nz=Ld (Qa qv loose,Sr kf 308 870 (wd w Lh Lh)):=by kernel_rfl
theorem gW(h:((jX pw w 6550).bind (ny pw w 6550)).map nz=Ld (Qa qv loose,Sr kf 308 870 w)):(openEnds Ri pw w 6550).map (fun s=>(openSeen qv loose (QC pw.main.body) xt Lh s,obsZ Ce s))=Ld (Qa qv loose,Sr kf 308 870 w):=by
 have e:ny pw w 6550=topFrom Ri pw w 6550:=funext fun s=>zl pw w 6550 s
 rw [uZ,e] at h
 unfold openEnds
 rw [te4187177175401517315]
 exact h
end
theorem zm:LeftO pw qv loose xt (obsZ Ce) (Sr kf 308 870) 6550:=fun w=>by
 have e:=qi w
 cases a:w.params.followText "comprehension-iter-twice"<;>cases b:w.params.followText "special-get-raises"<;>rw [a,b] at e
 .have:=gW _ (u5 w);rwa [e] at this
 .have:=gW _ (u6 w);rwa [e] at this
 .have:=gW _ (u7 w);rwa [e] at this
 .have:=gW _ (u8 w);rwa [e] at this
end
structure ab where
 h:Nat->Int
 k:Nat->Nat
 t:Nat->Nat
 e:Nat
noncomputable def q6:Lc->Nat
 | .int _ t=>t
 | .float _ t=>t
 | .str _ t=>t
 | .bytes _ t=>t
 | _=>0
noncomputable def u9:List NG->Nat->NG
 | [],_=>⟨0,.none,.none⟩
 | x::_,0=>x
 | _::r,n + 1=>u9 r n
noncomputable def zn:LV->Nat->Lc
 | [],_=>.none
 | x::_,0=>x
 | _::r,n + 1=>zn r n
noncomputable def EU:Option Lc->Nat
 | some v=>q6 v
 | none=>0
noncomputable def EW:List (Option Lc)->Nat->Nat
 | [],_=>0
 | x::_,0=>EU x
 | _::r,n + 1=>EW r n
noncomputable def ae(o:Obj):ab:=match o.data with
 | .plain=>⟨fun V=>0,fun V=>0,fun i=>EW o.slots.toList i,0⟩
 | .dict a e=>⟨fun i=>(u9 a.toList i).hash,fun i=>q6 (u9 a.toList i).key,fun i=>q6 (u9 a.toList i).val,e⟩
 | .seq xs e=>⟨fun V=>0,fun V=>0,fun i=>q6 (zn xs.toList i),e⟩
 | .fields xs=>⟨fun V=>0,fun V=>0,fun i=>q6 (zn xs.toList i),0⟩
 | .cell v=>⟨fun V=>0,fun V=>0,fun V=>EU v,0⟩
 | .set _ e _=>⟨fun V=>0,fun V=>0,fun V=>0,e⟩
 | _=>⟨fun V=>0,fun V=>0,fun V=>0,0⟩
noncomputable def vd(J:ab):Nat->List (LN × Lc)->List NG
 | _,[]=>[]
 | i,(n,v)::r=>⟨J.h i,.str ⟨⟨n⟩⟩ (J.k i),v⟩::vd J (i + 1) r
abbrev aJ(a:List (LN × Lc))(J:ab):Obj:={ cls:=.type "frame",data:=.dict ⟨vd J 0 a⟩ J.e }
abbrev av(a:List (LN × Lc))(J:ab):Obj:={ cls:=.type "dict",data:=.dict ⟨vd J 0 a⟩ J.e }
noncomputable abbrev EX(vs:LV)(J:ab):Obj:={ cls:=.type "tuple",data:=.seq ⟨vs⟩ J.e }
noncomputable abbrev az(c:String)(vs:LV):Obj:={ cls:=.type c,data:=.fields ⟨vs⟩ }
noncomputable abbrev ad(v:Option Lc):Obj:={ cls:=.type "cell",data:=.cell v }
noncomputable abbrev cu(c d:Nat):Obj:={ cls:=.ref c,dict:=Ld d }
noncomputable abbrev sv(s:LN)(t:Nat):Lc:=.str ⟨⟨s⟩⟩ t
section
variable{prog:LU}{w:Lj}{kt:KT}{A₀:L9}{R₀:Lm->Ly->Prop}{g:ME}{G:Array Mi}{D:Nn}{O:Mq}{L:Nat}
def aR(is:LN)(st:an):br × LN:=(view is st,jW st)
section
variable{is:LN}{st:an}{v:br}(h:aR is st=(v,aj st))
include is st v h
theorem cz:view is st=v:=congrArg Sl h
theorem c8:jW st=aj st:=congrArg Prod.snd h
end
theorem bL{st:an}{c':(Nat->Obj)->Mk}{a:(Nat->Obj)->Mem}{c:(Nat->Obj)->bI}(h:bX A₀ (L + 1))(i:kt.Holds g 1 0)(j:g.NoLimit)(C:∀o,mj prog w kt L (c' o) (a o) (c o))(d:aR [] st=(.ask (c' (ah st)) (a (ah st)),aj st))(next:∀r os b e f,c (ah st) r os b->os.length=(a (ah st)).length->∃hs,cU prog w A₀ R₀ g G D O (oW ⟨prog,w.params⟩ kt hs st ⟨r,os,b,e,f⟩)):cU prog w A₀ R₀ g G D O st:=
 sB h i j (C (ah st)) (cz d) (c8 d) next
theorem yn{st:an}(c:bX A₀ (L + 1))(d:kt.Holds g 1 0)(e:g.NoLimit)(b:aR [] st=(.stk,aj st))(next:∀p a,∃hs,cU prog w A₀ R₀ g G D O (qh ⟨prog,w.params⟩ kt hs st p a)):cU prog w A₀ R₀ g G D O st:=sC c d e (cz b) (c8 b) next
noncomputable def iV(st:an):Nat:=match st with
 | .fin (.done (.ret v)) _ _ _ _=>q6 v
 | _=>0
theorem gX{st:an}{f:Nat->Oi}{is:LN}{b:Mem}{os:(Nat->Obj)->List Obj}{a:(Nat->Obj)->Mem}{c:bI}(fin:∀r os a h i d,c r os a->os.length=b.length->Rep g d h ((b.map (·.1)).zip os++a)->R₀ r ⟨d,G,D,i,O⟩)(hp:∀o τ,c (.ok (f τ)) (os o) (a o))(j:(os (ah st)).length=b.length)(e:aR is st=(.fin (.done (f (iV st))) ((b.map (·.1)).zip (os (ah st))++a (ah st)),aj st)) :
  cU prog w A₀ R₀ g G D O st:=sD (f:=f (iV st)) fin (fun o=>hp o _) rfl j (cz e) (c8 e)
theorem yo{st:an}{e:Lc}{is:LN}{b:Mem}{os:(Nat->Obj)->List Obj}{a:(Nat->Obj)->Mem}{c:bI}(d:∀r os a i j f,c r os a->os.length=b.length->Rep g f i ((b.map (·.1)).zip os++a)->R₀ r ⟨f,G,D,j,O⟩)(hp:∀o,c (.error e) (os o) (a o))(k:(os (ah st)).length=b.length)(h:aR is st=(.err e ((b.map (·.1)).zip (os (ah st))++a (ah st)),aj st)) :
  cU prog w A₀ R₀ g G D O st:=sE d hp rfl k (cz h) (c8 h)
theorem gb{st:an}{c':(Nat->Obj)->Mk}{is:LN}{l:(Nat->Obj)->Mem}{d:(Nat->Obj)->bI}{c:Mem}{b:bI}(fin:∀r os a h i e,b r os a->os.length=c.length->Rep g e h ((c.map (·.1)).zip os++a)->R₀ r ⟨e,G,D,i,O⟩)(k:bX A₀ L)(n:kt.Holds g 1 0)(q:g.NoLimit)(C:∀o,mj prog w kt L (c' o) (l o) (d o))(t:(c' (ah st)).quiet=Lh)(j:aR is st=(.fin (.again (c' (ah st))) (l (ah st)),aj st))(hz:(l (ah st)).map (·.1)=c.map (·.1))(hp:∀r os a,d (ah st) r os a->b r os a) :
  cU prog w A₀ R₀ g G D O st:=oX k n q (C (ah st)) t (cz j) (c8 j) fun r os a h i e p s m=>
   fin r os a h i e (hp _ _ _ p) (by rw [s,<- Ln (f:=(·.1)),hz,Ln]) (hz ▸ m)
end
noncomputable def aK{β:Type}(F:Bool->β):List β:=[F Li,F Lh]
noncomputable def aM{β:Type}(F:Bool->β):List β:=[F Li,F Lh]
theorem aS{β:Type}{F G:Bool->β}(h:aK F=aM G)(x:Bool):F x=G x:=by
 injection h with h0 h
 injection h with h1 h
 cases x<;>assumption
theorem q_BB{α:Type}{X Y:Bool->Bool->α}(h:(aK fun a=>aK fun b=>X a b)=aM fun a=>aM fun b=>Y a b):∀a b,X a b=Y a b:=fun a b=>aS (aS h a) b
theorem q_B{α:Type}{X Y:Bool->α}(h:(aK fun a=>X a)=aM fun a=>Y a):∀a,X a=Y a:=fun a=>aS h a
theorem cV{is:LN}{st:Bool->an}{v:Bool->br}(h:(aK fun a=>aR is (st a))=aM fun a=>(v a,aj (st a))):∀(a:Bool),aR is (st a)=(v a,aj (st a)):=fun a=>aS h a
local macro_rules | `(tactic| kcj_m)=>`(tactic| refine Mine.q_B ?_)
local macro_rules | `(tactic| k_all)=>`(tactic| (walk_at "lv";intro K;kcj_m;kernel_rfl;intro K))
local macro_rules | `(tactic| k_mem)=>`(tactic| first|(walk_at "lv";kcj_m;kernel_rfl)|(kcj_m;kernel_rfl))
section
variable{prog:LU}{w:Lj}{kt:KT}{L:Nat}{b:String}{B:Os}{a:Args}
include prog w kt L b B a
theorem bg{S:S5}{c:Mem}{e:bI}(OY:Pn b=Lh)(f:P7 Pz b=Ld B)(M:Meets (B a) S)(n:∀(A:L9)(g h:ME)(G:Array Mi)(D:Nn)(O:Mq)(N T:Nat)(R:Lm->Ly->Prop),kt.Holds g 1 0->Rep g h N c ->
   (∀r os d k l j,e r os d->os.length=c.length->Rep g j k ((c.map (·.1)).zip os++d)->R r ⟨j,G,D,l,O⟩)->S A R ⟨h,G,D,T,O⟩) :
  mj prog w kt L (.builtin b a) c e:=by
 intro A g h G D O N T R p o q m i
 refine QD f ?_
 rw [Pb OY]
 exact M prog w A R _ (n A g h G D O N T R o m i)
theorem oY{c:Mem}{i:bI}(OY:Pn b=Lh)(j:P7 Pz b=Ld B)(s:∀(A:L9)(g h:ME)(G:Array Mi)(D:Nn)(O:Mq)(N T:Nat)(R:Lm->Ly->Prop),kt.Holds g 1 0->Rep g h N c ->
   (∀r os d n o m,i r os d->os.length=c.length->Rep g m n ((c.map (·.1)).zip os++d)->R r ⟨m,G,D,o,O⟩) ->
   L7 (Lw prog w) A.in1 (B a) (fun k l=>∃r,k=.done (.ret r)/\R (.ok (.ret r)) l) (fun e l=>R (.error e) l) ⟨h,G,D,T,O⟩) :
  mj prog w kt L (.builtin b a) c i:=by
 intro A g h G D O N T R u t v p k
 refine QD j ?_
 rw [Pb OY]
 exact QI (s A g h G D O N T R t p k) (fun f l z=>by obtain ⟨r,rfl,q⟩:=z;exact q) (fun V V x=>x)
end
theorem da{g h:ME}{N:Nat}{a:Mem}(R:Rep g h N a):Rep g h N ((a.map (·.1)).zip (a.map (·.2))++[]):=by
 have : (a.map (·.1)).zip (a.map (·.2))=a:=by
  induction a with
  | nil=>rfl
  | cons p r c=>
   have z:=c (R.sub (fun q b=>.tail _ b) (Mb.mp R.nd).2)
   rw [Lz,Lz,Od,z]
 rw [this,Mp];exact R
theorem ix(f:Array Lc->Array Lc){xs ys:Array Lc}(c:Lc)(e:Nat)(h:f xs=ys):∃e',Nb f { cls:=c,data:=.seq xs e }={ cls:=c,data:=.seq ys e' }:=by
 subst h;exact ⟨_,rfl⟩
theorem oZ(w:Lj)(a b:Bool)(l:O7)(x:Lc)(r:LV)(e t:Nat)(hz:r.length < 60000) :
  CT w a b 0 (.builtin "list.pop" ⟨[.ref l,.int 0 t],[]⟩) [(l,{ cls:=.type "list",data:=.seq ⟨x::r⟩ e })]
   (fun m os c=>∃e',m=.ok (.ret x)/\os=[{ cls:=.type "list",data:=.seq ⟨r⟩ e' }]/\c=[]):=by
 refine bg (by decide +kernel) Ql (MeetsSeq.list_pop_at l ⟨x::r⟩ e 0 t 0 x (by decide) (by simp [SZ]) rfl ?_) ?_
 .show r.length + 1<=M9
  have : 60000<=M9:=by decide
  kd_p
 intro A g h G D O N T R n j d
 refine ⟨j.get (i:=0) rfl, ?_⟩
 have z:=j.update (i:=0) (f:=Nb fun xs=>xs.eraseIdxIfInBounds 0) rfl rfl
 obtain ⟨e',k⟩:=ix (fun xs=>xs.eraseIdxIfInBounds 0) (xs:=⟨x::r⟩) (ys:=⟨r⟩) (.type "list") e (by simp)
 rw [k] at z
 exact d _ [_] [] N T _ ⟨e',rfl,rfl,rfl⟩ rfl z
noncomputable abbrev aa(xs:LV)(e:Nat):Obj:={ cls:=.type "list",data:=.seq ⟨xs⟩ e }
theorem du(w:Lj)(a b:Bool)(l:O7)(xs:LV)(e:Nat)(hz:xs.length < 60000) :
  CT w a b 0 (.builtin "len" ⟨[.ref l],[]⟩) [(l,aa xs e)] (fun j os c=>∃t:Nat,j=.ok (.ret (.int xs.length t))/\os=[aa xs e]/\c=[]):=
 oY S1 S2 fun A g h G D O N T R k f d=>
  wpAny_len_body_list (items:=⟨xs⟩) ⟨_,f.get (i:=0) rfl,rfl,_,rfl⟩ (by show (xs.length:Int) < _;kd_p)
   (d _ [_] [] N _ _ ⟨_,rfl,rfl,rfl⟩ rfl (da f))
theorem bH{prog:LU}{w:Lj}{kt:KT}{L:Nat}{l:String}{B:Os}{b:Args}{a:Mem}{d:bI}(OY:Pn l=Lh)(i:P7 Pz l=Ld B)(s:∀(A:L9)(g h:ME)(G:Array Mi)(D:Nn)(O:Mq)(N T:Nat)(R:Lm->Ly->Prop),bX A L->kt.Holds g 1 0->g.NoLimit->Rep g h N a ->
   (∀r os c n o m,d r os c->os.length=a.length->Rep g m n ((a.map (·.1)).zip os++c)->R r ⟨m,G,D,o,O⟩) ->
   L7 (Lw prog w) A.in1 (B b) (fun j k=>match j with | .done f=>R (.ok f) k | .again c'=>c'.quiet=Lh/\Mm (Lw prog w) A c' R k) (fun e k=>R (.error e) k) ⟨h,G,D,T,O⟩) :
  mj prog w kt L (.builtin l b) a d:=by
 intro A g h G D O N T R p t u q j
 refine QD i ?_
 rw [Pb OY]
 exact s A g h G D O N T R p t u q j
theorem Rep.one{g h c:ME}{N:Nat}{a:O7}{o d:Obj}(R:Rep g h N [(a,o)])(i:∀b ob,b≠a->h.get? b=Ld ob->c.get? b=Ld ob)(f:c.get? a=Ld d) :
  Rep g c c.objs.size ([a].zip [d]++[]):=by
 have own:=R.own (a,o) (by simp)
 refine ⟨rfl,fun p hp=>?_,by simp,fun b ob e=>i b ob (fun z=>?_) (R.keep b ob e)⟩
 .have : p=(a,d):=by simpa using hp
  subst this
  exact ⟨f,own.2⟩
 .subst z;rw [own.2] at e;cases e
theorem sG(l:List (Nat × Obj)):∀(M:Mem)(i:Nat),(dU i M l).length=M.length:=fun M i=>by
 have:=congrArg Og (eA l M i)
 simpa using this
theorem gY:∀(l:Mem),(l.map (·.1)).zip (l.map (·.2))=l
 | []=>rfl
 | p::r=>by rw [Lz,Lz,Od,gY r]
theorem Rep.pick{g h:ME}{N:Nat}{M L:Mem}{is:LN}(R:Rep g h N M)(d:jU is=Lh)(e:foot? M is=Ld L):Rep g h N L:=R.sub (foot?_mem e) (aN R.nd e d)
theorem mj.framed{prog:LU}{w:Lj}{kt:KT}{L:Nat}{c':Mk}{b M:Mem}{d:bI}{is:LN}(C:mj prog w kt L c' b d)(hf:co M is=Ld b) :
  mj prog w kt L c' M (fun r os a=>∃e,d r e a/\e.length=is.length/\os=(dU 0 M (is.zip e)).map (·.2)):=by
 intro A g h G D O N T R p q s f j
 obtain ⟨hd,hf⟩:=aW hf
 have hm:=foot?_mem hf
 have c:=foot?_len hf
 have nd:=aN f.nd hf hd
 refine C _ _ _ _ _ _ _ _ _ p (Ml (f.hideKeep hm) q) (s.keeps (f.hideKeep hm)) (f.hide hm nd) fun r os a k n o hp i l=>?_
 have m:=f.put hf (i.trans c) l
 refine j r _ a k n o ⟨os,hp,i.trans c,rfl⟩ (by rw [Ln,sG]) ?_
 rw [<- eA (is.zip os) M 0,gY]
 exact m
theorem bX.in1{A:L9}{L:Nat}(h:bX A (L + 1)):bX A.in1 L:=by
 refine ⟨fun V=>h.1 (NH L), ?_, ?_⟩
 .exact oL (Mj _ _) h.2.1
 .exact oL (LS (by decide) _) h.2.2
theorem bX.unmark{A:L9}{L:Nat}(h:bX A L):bX (A.mark Lk) L:=⟨fun q=>by show Option.or Lk A.handled=Lk;rw [h.1 q];rfl,h.2.1,h.2.2⟩
inductive af:LLN->LV->Prop
 | nil:af [] []
 | cons (s:LN) (t:Nat) {ss:LLN} {vs:LV} (h:af ss vs):af (s::ss) (sv s t::vs)
theorem af.length{ss:LLN}{vs:LV}(h:af ss vs):vs.length=ss.length:=by
 induction h with
 | nil=>rfl
 | cons s t _ a=>simp [a]
theorem af.append{ss a:LLN}{vs b:LV}(h:af ss vs)(c:af a b):af (ss++a) (vs++b):=by
 induction h with
 | nil=>exact c
 | cons s t _ d=>exact .cons s t d
theorem af.one(s:LN)(t:Nat):af [s] [sv s t]:=.cons s t .nil
theorem af.get{ss:LLN}{vs:LV}(h:af ss vs):∀{i:Nat}{s:LN},ss[i]? = Ld s->∃t,vs[i]? = Ld (sv s t):=by
 induction h with
 | nil=>intro i s e;simp at e
 | cons s t _ a=>
  intro i b e
  cases i with
  | zero=>simp at e;subst e;exact ⟨t,rfl⟩
  | succ i=>simp at e;simpa using a e
theorem sH{x:LN} : ∀{a:LV},a.length=x.length->(∀j v,a[j]? = Ld v->SignAt ⟨⟨x⟩⟩ j v)->af (x.map fun c=>[c]) a:=by
 induction x with
 | nil=>intro a h V;cases a with
  | nil=>exact .nil
  | cons=>simp at h
 | cons c x g=>
  intro a h hs
  cases a with
  | nil=>simp at h
  | cons v a=>
   obtain ⟨c',u,e,rfl⟩:=hs 0 v rfl
   have : c'=c:=by simpa using e.symm
   subst this
   refine .cons [c'] u (g (by simpa using h) fun j v e=>?_)
   obtain ⟨b,i,d,f⟩:=hs (j + 1) v (by simpa using e)
   exact ⟨b,i,by simpa using d,f⟩
theorem jp:Pn "list.__init__" = Lh:=by decide +kernel
noncomputable abbrev b9 (x0 x1):=(.builtin x0 ⟨x1,[]⟩ : Mk)
abbrev eC (x0 x1 x2 x3):=b9 x0 [.ref x1,sv x2 x3]
theorem o5(w:Lj)(a b:Bool)(x:LN)(t l:Nat)(hz:x.length < 60000) :
  CT w a b 1 (eC "list.__init__" l x t) [(l,{ cls:=.type "list",data:=.seq #[] })]
   (fun u os k=>∃(J:ab)(vs:LV),u=.ok (.ret .none)/\os=[aa vs J.e]/\k=[]/\af (x.map fun c=>[c]) vs):=
 bH jp F.entry_list_init fun A g h G D O N T R s z B q m=>by
  have p:(⟨⟨x⟩⟩ : Str).cps.size<=M9:=by
   exact LL (Mh hz) (by decide:60000<=M9)
  refine wpAny_list_init_str (A:=A) (s.1 (by decide)) ⟨⟨x⟩⟩ t l (q.get (i:=0) rfl) (fun r y d c' o n f=>?_) p
  refine m _ [_] [] _ y r (jm ⟨fun V=>0,fun V=>0,fun V=>0,c'⟩ d.toList ⟨rfl,rfl,rfl,sH ?_ ?_⟩) rfl (q.one o ?_)
  .show d.toList.length=x.length
   have:=f.1
   simpa using this
  .intro j v e
   exact f.2 j v (by simpa using e)
  .exact n
theorem lc:Pn "str.__add__" = Lh:=by decide +kernel
theorem bM{w:Lj}{a b:Bool}{L:Nat}{n:String}{B:Os}{f:Args}{m:Made}(P:Lm->Prop)(OY:Pn n=Lh)(j:P7 Pz n=Ld B)(z:Gives (B f) m)(E:∀(s:Ly),m.post (fun v d=>P (.ok (.ret v))/\d.heap=s.heap/\d.gens=s.gens/\d.drawn=s.drawn/\d.os=s.os) s) :
  CT w a b L (.builtin n f) [] (fun I os k=>P I/\os=[]/\k=[]):=
 bH OY j fun A g h G D O N T R S U W F l=>by
  have q:∀(m:Made)(Q e:Lc->Ly->Prop)(s:Ly),(∀v d,Q v d->e v d)->m.post Q s->m.post e s:=by
   intro m
   induction m with
   | val v=>intro Q e s c h;exact c _ _ h
   | int i=>intro Q e s c h;exact c _ _ h
   | str x=>intro Q e s c h;exact ⟨h.1,c _ _ h.2⟩
   | float b=>intro Q e s c h;exact c _ _ h
   | bytes b=>intro Q e s c h;exact ⟨h.1,c _ _ h.2⟩
   | either a b o p=>intro Q e s c h;exact ⟨o _ _ _ c h.1,p _ _ _ c h.2⟩
  refine z _ _ A _ _ (q m _ _ _ (fun v d H=>?_) (E _))
  obtain ⟨hp,r,t,u,h4⟩:=H
  obtain ⟨C,K,J,y,M⟩:=d
  dsimp only at r t u h4
  subst r t u h4
  exact l _ [] [] N y C ⟨hp,rfl,rfl⟩ rfl F
theorem bB(w:Lj)(a b:Bool)(x y:LN)(t u:Nat)(hz:x.length + y.length < 60000) :
  CT w a b 0 (b9 "str.__add__" [sv x t,sv y u]) [] (fun f os e=>(∃v:Nat,f=.ok (.ret (sv (x++y) v)))/\os=[]/\e=[]):=by
 refine bM (m:=if (⟨⟨x⟩⟩ : Str).length == 0 then .val (.str ⟨⟨y⟩⟩ u) else if (⟨⟨y⟩⟩ : Str).length == 0 then .val (.str ⟨⟨x⟩⟩ t) else .str (⟨⟨x⟩⟩++⟨⟨y⟩⟩)) (fun f=>∃v:Nat,f=.ok (.ret (sv (x++y) v))) lc F.entry_str_add (gives_str_add ⟨⟨x⟩⟩ ⟨⟨y⟩⟩ t u) fun s=>?_
 cases x with
 | nil=>exact ⟨⟨u,rfl⟩,rfl,rfl,rfl,rfl⟩
 | cons c x=>
  cases y with
  | nil=>exact ⟨⟨t,by show _=Ro (Sk (sv ((c::x)++[]) t));rw [Mp]⟩,rfl,rfl,rfl,rfl⟩
  | cons d y=>
   refine ⟨?_,⟨s.toks, ?_⟩,rfl,rfl,rfl,rfl⟩
   .have : 60000<=M9:=by decide
    show (OE (c::x)++OE (d::y)).size<=M9
    rw [Array.size_append]
    show (c::x).length + (d::y).length<=_
    kd_p
   .show Ro (Sk (Tl ⟨OE (c::x)++OE (d::y)⟩ s.toks))=_
    rw [Re]
inductive dG:List Env->Mem->Prop
 | nil:dG [] []
 | cons {env:Env} {es:List Env} {a:Nat} {o:Obj} {r:Mem} (hk:env.scope.kind≠.module) (hf:env.frame=Ld a) (hd:∀vs,o.data≠.fields vs) (h:dG es r):dG (env::es) ((a,o)::r)
inductive o6:Mem->Mem->Prop
 | nil:o6 [] []
 | cons {a:Nat} {o:Obj} {r r':Mem} (sl:Array (Option Lc)) (h:o6 r r'):o6 ((a,o)::r) ((a,{ o with slots:=sl })::r')
theorem o6.keys{a M2:Mem}(x:o6 a M2):M2.map (·.1)=a.map (·.1):=by
 induction x with
 | nil=>rfl
 | cons c h b=>rw [Lz,Lz,b]
theorem dG.fun{g h:ME}{b:List Env}{M:Mem}(f:dG b M)(own:∀p∈M,h.get? p.1=Ld p.2/\g.get? p.1=Lk):h.FunFrames g b:=by
 induction f with
 | nil=>trivial
 | @cons env b a o r c hf hd _ d=>exact ⟨c,⟨a,o,hf,(own _ (.head _)).2,(own _ (.head _)).1,hd⟩,d fun p hp=>own p (.tail _ hp)⟩
theorem dG.frames{a:List Env}{M:Mem}(f:dG a M):a.filterMap (·.frame)=M.map (·.1):=by
 induction f with
 | nil=>rfl
 | cons c hf hd _ b=>rw [Rc,hf,Lz,b]
theorem yp{h d:ME}(hs:∀b o,h.get? b=Ld o->∃c,d.get? b=Ld { o with slots:=c }):∀(M:Mem),(∀p∈M,h.get? p.1=Ld p.2)->∃M',o6 M M'/\∀p∈M',d.get? p.1=Ld p.2
 | [],_=>⟨[],.nil,fun V hp=>nomatch hp⟩
 | (a,o)::r,H=>by
  obtain ⟨M',f,hm⟩:=yp hs r fun p hp=>H p (.tail _ hp)
  obtain ⟨c,e⟩:=hs a o (H _ (.head _))
  exact ⟨_,.cons c f,fun p hp=>by
   cases hp with
   | head=>exact e
   | tail _ hp=>exact hm p hp⟩
theorem Rep.slots{g h j:ME}{N:Nat}{frs M:Mem}(R:Rep g h N (frs++M))(hs:ME.SlotsOnly (frs.map (·.1)) h j):∃a,o6 frs a/\Rep g j N (a++M):=by
 obtain ⟨a,i,hm⟩:=yp hs.2.2 frs fun p hp=>(R.own p (Lu _ hp)).1
 have nd:=R.nd
 rw [LC] at nd
 refine ⟨a,i,hs.1.trans R.size,fun p hp=>?_,by rw [LC,i.keys];exact nd,fun b o e=>?_⟩
 .rcases MA.mp hp with hp|hp
  .refine ⟨hm p hp, ?_⟩
   have : p.1∈a.map (·.1):=Md hp
   rw [i.keys] at this
   refine bj (fun q d=>?_) (LE.mp this);obtain ⟨f,he⟩:=d
   rw [<- he]
   exact (R.own q (Lu _ f)).2
  .have o:=R.own p (LB _ hp)
   refine ⟨(hs.2.1 p.1 fun c=>?_).trans o.1,o.2⟩
   exact (LK.mp nd).2.2 _ c _ (Md hp) rfl
 .refine (hs.2.1 b fun c=>?_).trans (R.keep b o e)
  refine bj (fun q d=>?_) (LE.mp c);obtain ⟨f,he⟩:=d
  have:=(R.own q (Lu _ f)).2
  rw [he,e] at this
  cases this
structure gZ(g0 g:ME)(lows:Mem):Prop where
 keep:∀b o,g0.get? b=Ld o->g.get? b=Ld o
 own:∀p∈lows,g.get? p.1=Ld p.2/\g0.get? p.1=Lk
 nd:(lows.map (·.1)).Nodup
theorem Rep.perm{g h:ME}{N:Nat}{M M':Mem}(R:Rep g h N M)(p:M.Perm M'):Rep g h N M':=
 ⟨R.size,fun q a=>R.own q (p.symm.subset a),(p.map _).nodup_iff.mp R.nd,R.keep⟩
theorem gZ.rep{d g h:ME}{N:Nat}{M lows:Mem}(t:gZ d g lows)(R:Rep g h N M):Rep d h N (M++lows):=by
 refine ⟨R.size,fun p hp=>?_, ?_,fun b o e=>R.keep b o (t.keep b o e)⟩
 .rcases MA.mp hp with hp|hp
  .refine ⟨(R.own p hp).1, ?_⟩
   cases q:d.get? p.1 with
   | none=>rfl
   | some o=>have:=t.keep _ _ q;rw [(R.own p hp).2] at this;cases this
  .exact ⟨R.keep _ _ (t.own p hp).1,(t.own p hp).2⟩
 .rw [LC]
  refine LK.mpr ⟨R.nd,t.nd,fun a k b l c=>?_⟩
  subst c
  refine bj (fun p f=>?_) (LE.mp k);obtain ⟨hp,rfl⟩:=f
  refine bj (fun q f=>?_) (LE.mp l);obtain ⟨m,he⟩:=f
  have i:=(t.own q m).1
  have j:=(R.own p hp).2
  rw [he,j] at i;cases i
theorem Rep.tail{g h:ME}{N:Nat}{M lows:Mem}(R:Rep g h N (M++lows)):Rep (OQ h (M.map (·.1))) h N M/\gZ g (OQ h (M.map (·.1))) lows:=by
 have nd:=R.nd
 rw [LC] at nd
 refine ⟨R.hide (fun p hp=>Lu _ hp) (LK.mp nd).1,R.hideKeep fun p hp=>Lu _ hp,fun p hp=>?_,(LK.mp nd).2.1⟩
 have:=R.own p (LB _ hp)
 exact ⟨PB _ this.1 fun hm=>(LK.mp nd).2.2 _ hm _ (Md hp) rfl,this.2⟩
section
variable{prog:LU}{w:Lj}{kt:KT}{L:Nat}{c:Mk}{F F':Mem}{post post':Lm->Mem->Prop}
end
section
variable{prog:LU}{w:Lj}{kt:KT}{A₀:L9}{R₀:Lm->Ly->Prop}{g0 g:ME}{G:Array Mi}{D:Nn}{O:Mq}{L:Nat}
theorem sI{st:an}{f:Nat->Oi}{is:LN}{l:(Nat->Obj)->Mem}{lows:Mem}{a:Lm->Mem->Prop}(j:gZ g0 g lows)(fin:∀r c e i d,a r c->Rep g0 d e c->R₀ r ⟨d,G,D,i,O⟩)(hp:∀o τ,a (.ok (f τ)) (l o++lows))(b:aR is st=(.fin (.done (f (iV st))) (l (ah st)),aj st)):cU prog w A₀ R₀ g G D O st:=by
 have he:=c8 b
 have b:=cz b
 have hp:=hp (ah st) (iV st)
 generalize f (iV st)=k at *
 generalize l (ah st)=m at *
 have z:=aw is st
 rw [b] at z
 cases z with
 | fin hf=>
  obtain ⟨hd,hf⟩:=aW hf
  refine .mk ⟨ck he,fun h R=>?_⟩
  exact fin _ _ _ _ _ hp (j.rep (R.sub (foot?_mem hf) (aN R.nd hf hd)))
end
def iy(S:Qd)(kt:KT)(hs:Nat)(c:Mk)(t:Sem Fin)(M:Mem)(N T:Nat):an:=md S kt Lk 100000 hs c .base t M N T []
def EY(prog:LU)(w:Lj)(kt:KT)(L:Nat)(c:Mk)(t:Sem Fin)(a:Mem)(d:bI):Prop:=
 ∀(A:L9)(g h:ME)(G:Array Mi)(D:Nn)(O:Mq)(N T:Nat)(R:Lm->Ly->Prop),bX A L->kt.Holds g 1 0->g.NoLimit->Rep g h N a ->
  (∀r os b f i e,d r os b->os.length=a.length->Rep g e f ((a.map (·.1)).zip os++b)->R r ⟨e,G,D,i,O⟩) ->
  NE (Lw prog w) A c t (PR prog w A R) (Qw R) ⟨h,G,D,T,O⟩
theorem zo{prog:LU}{w:Lj}{kt:KT}{L:Nat}{c:Mk}{t:Sem Fin}{a:Mem}{f:bI}(H:∀(b:L9)(d:Lm->Ly->Prop)(g:ME)(G:Array Mi)(D:Nn)(O:Mq)(N T:Nat),bX b (L + 1)->kt.Holds g 1 0->g.NoLimit ->
   (∀r os e n o j,f r os e->os.length=a.length->Rep g j n ((a.map (·.1)).zip os++e)->d r ⟨j,G,D,o,O⟩) ->
   ∃hs,cU prog w b d g G D O (iy ⟨prog,w.params⟩ kt hs c t a N T)):EY prog w kt (L + 1) c t a f:=by
 intro A g h G D O N T R k l m p i
 obtain ⟨hs,⟨z⟩⟩:=H A R g G D O N T k l m i
 exact (bE (e9 k l m) 100000 hs c .base t a N T [] z).2 h p
noncomputable def db:Kn->List Env
 | .base=>[]
 | .ret c _ _ κ=>c.envs++db κ
 | .enter κ=>db κ
theorem dH{a:L9}{fr:List Env}(h:a.frames=Ld fr):∀κ,(aQ a κ).frames=Ld (db κ++fr)
 | .base=>h
 | .ret c hd k κ=>by
  show TB c.envs (aQ a κ).frames=_
  rw [dH h κ,pushEnvs_eq]
  show Ld (c.envs++(db κ++fr))=Ld ((c.envs++db κ)++fr)
  rw [Lr]
 | .enter κ=>dH h κ
noncomputable def jq:an->Kn
 | .ask _ _ κ _ _ _ _ _=>κ
 | _=>.base
def dr:Nat->Mem->LN->Mem
 | _,[],_=>[]
 | i,p::r,is=>match sA i is with
  | true=>dr (i + 1) r is
  | false=>p::dr (i + 1) r is
set_option tactic.hygienic true in
theorem gD(is:LN):∀(M:Mem)(i:Nat),∀p∈dr i M is,∃j,M[j]? = Ld p/\(i + j)∉is
 | [],_,p,hp=>nomatch hp
 | q::r,i,p,hp=>by
  unfold dr at hp
  split at hp
  .obtain ⟨j,a,b⟩:=gD is r (i + 1) p hp
   exact ⟨j + 1,a,by rw [show i + (j + 1)=i + 1 + j by kd_p];exact b⟩
  .rename_i e
   rcases LD.mp hp with rfl|hp
   .exact ⟨0,rfl,jV e⟩
   .obtain ⟨j,a,b⟩:=gD is r (i + 1) p hp
    exact ⟨j + 1,a,by rw [show i + (j + 1)=i + 1 + j by kd_p];exact b⟩
theorem gE(is:LN):∀(M:Mem)(i:Nat),(dr i M is).Sublist M
 | [],_=>.slnil
 | q::r,i=>by
  dsimp only [dr]
  split
  .exact .cons _ (gE is r (i + 1))
  .exact .cons_cons _ (gE is r (i + 1))
def aO(prog:LU)(w:Lj)(kt:KT)(fr:List Env)(L:Nat)(c:Mk)(F:Mem)(a:Lm->Mem->Prop):Prop:=
 ∀(A:L9)(g h:ME)(G:Array Mi)(D:Nn)(O:Mq)(N T:Nat)(R:Lm->Ly->Prop),bX A L->A.frames=Ld fr->kt.Holds g 1 0->g.NoLimit->Rep g h N F ->
  (∀r b e f d,a r b->Rep g d e b->R r ⟨d,G,D,f,O⟩)->Mm (Lw prog w) A c R ⟨h,G,D,T,O⟩
def bW(prog:LU)(w:Lj)(kt:KT)(fr:List Env)(L:Nat)(c:Mk)(t:Sem Fin)(F:Mem)(a:Lm->Mem->Prop):Prop:=
 ∀(A:L9)(g h:ME)(G:Array Mi)(D:Nn)(O:Mq)(N T:Nat)(R:Lm->Ly->Prop),bX A L->A.frames=Ld fr->kt.Holds g 1 0->g.NoLimit->Rep g h N F ->
  (∀r b e f d,a r b->Rep g d e b->R r ⟨d,G,D,f,O⟩)->NE (Lw prog w) A c t (PR prog w A R) (Qw R) ⟨h,G,D,T,O⟩
section
variable{prog:LU}{w:Lj}{kt:KT}{fr:List Env}{L:Nat}{c:Mk}{t:Sem Fin}{F b:Mem}{a post':Lm->Mem->Prop}
theorem aO.weak{L':Nat}(C:aO prog w kt fr L c F a)(l:L<=L')(hp:∀r b,a r b->∃d,b.Perm d/\post' r d):aO prog w kt fr L' c F post':=
 fun A g h G D O N T R o hf s u q e=>C A g h G D O N T R (o.mono l) hf s u q fun r b j k m p f=>by
  refine bj (fun d n=>?_) (hp _ _ p);obtain ⟨i,v⟩:=n
  exact e r d j k m v (f.perm i)
theorem bW.weak{L':Nat}(C:bW prog w kt fr L c t F a)(l:L<=L')(hp:∀r b,a r b->∃d,b.Perm d/\post' r d):bW prog w kt fr L' c t F post':=
 fun A g h G D O N T R o hf s u q e=>C A g h G D O N T R (o.mono l) hf s u q fun r b j k m p f=>by
  refine bj (fun d n=>?_) (hp _ _ p);obtain ⟨i,v⟩:=n
  exact e r d j k m v (f.perm i)
end
def qj(S:Qd)(kt:KT)(hs:Nat)(st:an)(r:Lm)(a:Mem)(N T:Nat):an:=match st with
 | .ask _ is κ M _ _ _ _=>match κ with
  | .base=>match r with
   | .ok f=>.fin (.done f) (a++dr 0 M is) N T []
   | .error e=>.err e (a++dr 0 M is) N T []
  | .ret c _ k b=>md S kt Lk 100000 hs c b (k r) (a++dr 0 M is) N T []
  | .enter _=>.bad 40
 | _=>.bad 41
section
variable{prog:LU}{w:Lj}{kt:KT}{A₀:L9}{R₀:Lm->Ly->Prop}{g0 g:ME}{G:Array Mi}{D:Nn}{O:Mq}{L:Nat}{fr:List Env}
theorem mt{c:Mk}{a lows:Mem}{b:Lm->Mem->Prop}(H:∀(A₀:L9)(R₀:Lm->Ly->Prop)(g0 g:ME)(G:Array Mi)(D:Nn)(O:Mq)(N T:Nat),bX A₀ (L + 1)->A₀.frames=Ld fr->kt.Holds g0 1 0->g0.NoLimit->kt.Holds g 1 0->g.NoLimit->gZ g0 g lows ->
   (∀r j n p k,b r j->Rep g0 k n j->R₀ r ⟨k,G,D,p,O⟩) ->
   ∃hs,cU prog w A₀ R₀ g G D O (e8 ⟨prog,w.params⟩ kt hs c a N T)):aO prog w kt fr (L + 1) c (a++lows) b:=by
 intro A g0 h G D O N T R i hf l m q f
 obtain ⟨o,t⟩:=q.tail
 have d:=Ml t.keep l
 have e:=m.keeps t.keep
 obtain ⟨hs,⟨z⟩⟩:=H A R g0 _ G D O N T i hf l m d e t f
 exact (b8 (e9 i d e) (κ:=.base) (bE (e9 i d e) 100000) rfl z).2 h o
theorem mu{c:Mk}{t:Sem Fin}{a lows:Mem}{b:Lm->Mem->Prop}(H:∀(A₀:L9)(R₀:Lm->Ly->Prop)(g0 g:ME)(G:Array Mi)(D:Nn)(O:Mq)(N T:Nat),bX A₀ (L + 1)->A₀.frames=Ld fr->kt.Holds g0 1 0->g0.NoLimit->kt.Holds g 1 0->g.NoLimit->gZ g0 g lows ->
   (∀r j o q k,b r j->Rep g0 k o j->R₀ r ⟨k,G,D,q,O⟩) ->
   ∃hs,cU prog w A₀ R₀ g G D O (iy ⟨prog,w.params⟩ kt hs c t a N T)):bW prog w kt fr (L + 1) c t (a++lows) b:=by
 intro A g0 h G D O N T R l hf m n s f
 obtain ⟨p,i⟩:=s.tail
 have d:=Ml i.keep m
 have e:=n.keeps i.keep
 obtain ⟨hs,⟨z⟩⟩:=H A R g0 _ G D O N T l hf m n d e i f
 exact (bE (e9 l d e) 100000 hs c .base t a N T [] z).2 h p
theorem ca{st:an}{c':(Nat->Obj)->Mk}{l:(Nat->Obj)->Mem}{lows:Mem}{s:List Env}{post1:(Nat->Obj)->Lm->Mem->Prop}(X:bX A₀ (L + 1))(hfr:A₀.frames=Ld fr)(I:kt.Holds g0 1 0)(K:g0.NoLimit)(hT:gZ g0 g lows)(C:∀o,aO prog w kt s L (c' o) (l o++lows) (post1 o))(A:aR [] st=(.ask (c' (ah st)) (l (ah st)),aj st))(hen:db (jq st)++fr=s)(next:∀r E S T',post1 (ah st) r E->∃Q d,E.Perm (Q++d)/\∀U,kt.Holds U 1 0->U.NoLimit->gZ g0 U d ->
   ∃hs,cU prog w A₀ R₀ U G D O (qj ⟨prog,w.params⟩ kt hs st r Q S T')):cU prog w A₀ R₀ g G D O st:=by
 have he:=c8 A
 have A:=cz A
 have C:=C (ah st)
 generalize c' (ah st)=c1 at *
 generalize l (ah st)=l1 at *
 generalize post1 (ah st)=p1 at *
 have z:=aw [] st
 rw [A] at z
 clear A;cases z with
 | @ask c1 is κ M N1 T1 eqs hs l hr hh hf=>
  clear A;obtain ⟨hd,hf⟩:=aW hf
  refine .mk ⟨ck he,fun h R=>?_⟩
  have hm:=foot?_mem hf
  have nd:=aN R.nd hf hd
  have FA:bX (aQ A₀ κ) L:=by
   refine ⟨?_, ?_, ?_⟩
   .intro V;rw [bT,X.1 (NH L)];exact hh
   .rw [bV]
    exact oL (LS (LL (Mh (LP (LY.mp hr).1)) (by decide:16<=20)) _) X.2.1
   .rw [cm]
    exact oL (LS (Mh (LP (LY.mp hr).2)) _) X.2.2
  have H:(aQ A₀ κ).frames=Ld s:=by rw [dH hfr,<- hen];rfl
  have F:Rep g0 h N1 (M++lows):=hT.rep R
  have m:∀p∈l1++lows,p∈M++lows:=fun p hp=>by
   rcases MA.mp hp with hp|hp
   .exact Lu _ (hm p hp)
   .exact LB _ hp
  have ndL:((l1++lows).map (·.1)).Nodup:=by
   have B:=F.nd
   rw [LC] at B ⊢
   refine LK.mpr ⟨nd,(LK.mp B).2.1,fun a ha b hb e=>?_⟩
   refine bj (fun p i=>?_) (LE.mp ha);obtain ⟨hp,rfl⟩:=i
   exact (LK.mp B).2.2 _ (Md (hm p hp)) _ hb e
  have Y:=F.hideKeep m
  refine C _ _ _ _ _ _ _ _ _ FA H (Ml Y I) (K.keeps Y) (F.hide m ndL) fun r E S T' W hp n=>?_
  refine d9 (fun Q d i=>?_) (next r E S T' hp);obtain ⟨v,next⟩:=i
  have P:∀q∈dr 0 M is,q∈M/\(OQ h ((l1++lows).map (·.1))).get? q.1=Ld q.2:=by
   intro q hq
   refine bj (fun j i=>?_) (gD is M 0 q hq);obtain ⟨u,y⟩:=i
   rw [M4] at y
   have x:=Ma u
   refine ⟨x,PB _ (R.own q x).1 fun hmm=>?_⟩
   refine bj (fun p i=>?_) (LE.mp hmm);obtain ⟨hp,he⟩:=i
   rcases MA.mp hp with hp|hp
   .refine bj (fun t i=>?_) (NZ hp);obtain ⟨ht,rfl⟩:=i
    refine bj (fun q' i=>?_) (foot?_at hf t (is[t]'(foot?_len hf ▸ ht)) (by simp));obtain ⟨h3,h4⟩:=i
    rw [Lo ht] at h4
    cases h4
    have:=jT R.nd h3 u he
    exact y (this ▸ MX _)
   .have B:=F.nd
    rw [LC] at B
    exact (LK.mp B).2.2 _ (Md x) _ (Md hp) he.symm
  have R2:Rep g0 W S (E++dr 0 M is):=by
   refine ⟨n.size,fun p hp=>?_, ?_,fun b o e=>n.keep b o (Y b o e)⟩
   .rcases MA.mp hp with hp|hp
    .refine ⟨(n.own p hp).1, ?_⟩
     cases q:g0.get? p.1 with
     | none=>rfl
     | some o=>have:=Y _ _ q;rw [(n.own p hp).2] at this;cases this
    .obtain ⟨u,y⟩:=P p hp
     exact ⟨n.keep _ _ y,(F.own p (Lu _ u)).2⟩
   .rw [LC]
    refine LK.mpr ⟨n.nd,((gE is M 0).map _).nodup R.nd,fun a ha b hb e=>?_⟩
    subst e
    refine bj (fun p i=>?_) (LE.mp ha);obtain ⟨hp,rfl⟩:=i
    refine bj (fun q i=>?_) (LE.mp hb);obtain ⟨hq,he⟩:=i
    have u:=(P q hq).2
    have y:=(n.own p hp).2
    rw [he,y] at u;cases u
  have R3:=R2.perm (M':=(Q++dr 0 M is)++d) (by
   refine (v.append_right _).trans ?_
   rw [Lr,Lr]
   exact MR _ MU)
  obtain ⟨Z,t2⟩:=R3.tail
  have J:=Ml t2.keep I
  have N:=K.keeps t2.keep
  obtain ⟨hs',⟨z⟩⟩:=next _ J N t2
  cases κ with
  | base=>
   cases r with
   | ok f=>exact z.2 W Z
   | error e=>exact z.2 W Z
  | ret c hd k κ0=>exact (bE (e9 X J N) _ _ _ _ _ _ _ _ _ z).2 W Z
  | enter κ0=>exact z.elim
theorem gc{st:an}{c':(Nat->Obj)->Mk}{is:LN}{l:(Nat->Obj)->Mem}{lows:Mem}{post1:(Nat->Obj)->Lm->Mem->Prop}{a:List Env}(p:bX A₀ L)(j:A₀.frames=Ld fr)(k:kt.Holds g0 1 0)(m:g0.NoLimit)(q:gZ g0 g lows)(C:∀o,aO prog w kt a L (c' o) (l o++lows) (post1 o))(s:(c' (ah st)).quiet=Lh)(d:aR is st=(.fin (.again (c' (ah st))) (l (ah st)),aj st))(i:fr=a)(fin:∀r b e f c,post1 (ah st) r b->Rep g0 c e b->R₀ r ⟨c,G,D,f,O⟩) :
  cU prog w A₀ R₀ g G D O st:=by
 subst i
 have he:=c8 d
 have d:=cz d
 have C:=C (ah st)
 generalize c' (ah st)=t at *
 generalize l (ah st)=u at *
 generalize post1 (ah st)=v at *
 have z:=aw is st
 rw [d] at z
 cases z with
 | fin hf=>
  obtain ⟨hd,hf⟩:=aW hf
  refine .mk ⟨ck he,fun h R=>⟨s, ?_⟩⟩
  exact C _ _ _ _ _ _ _ _ _ p j k m (q.rep (R.sub (foot?_mem hf) (aN R.nd hf hd))) fun r b e f c hp n=>fin r b e f c hp n
theorem jC{st:an}{f:Nat->Oi}{is:LN}{l:(Nat->Obj)->Mem}{lows:Mem}{a:Lm->Mem->Prop}(h:gZ g0 g lows)(fin:∀r b d e c,a r b->Rep g0 c d b->R₀ r ⟨c,G,D,e,O⟩)(hp:∀o τ,a (.ok (f τ)) (l o++lows))(i:aR is st=(.fin (.done (f (iV st))) (l (ah st)),aj st)):cU prog w A₀ R₀ g G D O st:=sI h fin hp i
theorem ve{st:an}{e:Lc}{is:LN}{l:(Nat->Obj)->Mem}{lows:Mem}{a:Lm->Mem->Prop}(k:gZ g0 g lows)(c:∀r d i j f,a r d->Rep g0 f i d->R₀ r ⟨f,G,D,j,O⟩)(hp:∀o,a (.error e) (l o++lows))(b:aR is st=(.err e (l (ah st)),aj st)):cU prog w A₀ R₀ g G D O st:=by
 have he:=c8 b
 have b:=cz b
 have hp:=hp (ah st)
 generalize l (ah st)=m at *
 have z:=aw is st
 rw [b] at z
 cases z with
 | err hf=>
  obtain ⟨hd,hf⟩:=aW hf
  refine .mk ⟨ck he,fun h R=>?_⟩
  exact c _ _ _ _ _ hp (k.rep (R.sub (foot?_mem hf) (aN R.nd hf hd)))
end
open PySem PySem.W
set_option autoImplicit false
set_option genInjectivity false
set_option genSizeOf false
open PySem.W.X (KT)
structure BX(w:Lj)(L:Nat)(F:Option (List Env)) where
 A:L9
 R:Lm->Ly->Prop
 g0:ME
 G:Array Mi
 D:Nn
 O:Mq
 hA:bX A L
 hf:A.frames=F
 hk:(kt w.params).Holds g0 1 0
 hl:g0.NoLimit
structure GX(w:Lj)(g0:ME)(lows:Mem) where
 g:ME
 hk:(kt w.params).Holds g 1 0
 hl:g.NoLimit
 hT:gZ g0 g lows
noncomputable abbrev OO:=Nat->Obj
structure AV(ρ σ μ:Type) where
 c:OO->Mk
 m:OO->Mem
 fa:OO->ρ
 fo:OO->σ
 fn:OO->μ
structure RV(ρ μ:Type) where
 c:OO->Mk
 m:OO->Mem
 fa:OO->ρ
 fm:OO->μ
def fb{ρ σ μ:Type}(K:AV ρ σ μ)(st:an):br × LN:=(.ask (K.c (ah st)) (K.m (ah st)),aj st)
def q7{ρ μ:Type}(K:RV ρ μ)(st:an):br × LN:=(.ask (K.c (ah st)) (K.m (ah st)),aj st)
def vf(f:Nat->Oi)(a:Mem)(os:(Nat->Obj)->List Obj)(b:(Nat->Obj)->Mem)(st:an):br × LN:=(.fin (.done (f (iV st))) ((a.map (·.1)).zip (os (ah st))++b (ah st)),aj st)
def vg(f:Nat->Oi)(l:(Nat->Obj)->Mem)(st:an):br × LN:=(.fin (.done (f (iV st))) (l (ah st)),aj st)
def EZ(c:(Nat->Obj)->Mk)(l:(Nat->Obj)->Mem)(st:an):br × LN:=(.fin (.again (c (ah st))) (l (ah st)),aj st)
theorem Kv{α β:Type}{a c:α}{b d:β}(h:a=c)(k:b=d):(a,b)=(c,d):=by rw [h,k]
theorem gZ.nil(g:ME):gZ g g []:={ keep:=fun V V h=>h,own:=fun V h=>(nomatch h),nd:=MN }
section
variable{w:Lj}{L:Nat}{F:Option (List Env)}{lows:Mem}
def Gd(B:BX w L F)(Y:GX w B.g0 lows)(st:an):Prop:=cU pw w B.A B.R Y.g B.G B.D B.O st
def lf(B:BX w L F)(Y:GX w B.g0 lows)(a:Mem)(c:bI):Prop:=∀r os b e f d,c r os b->os.length=a.length->Rep Y.g d e ((a.map (·.1)).zip os++b)->B.R r ⟨d,B.G,B.D,f,B.O⟩
def g3(B:BX w L F)(a:Lm->Mem->Prop):Prop:=∀r b d e c,a r b->Rep B.g0 c d b->B.R r ⟨c,B.G,B.D,e,B.O⟩
end
abbrev g4(w:Lj):=mj pw w (kt w.params)
abbrev m9(w:Lj):=aO pw w (kt w.params)
abbrev rP(w:Lj)(hs:Nat)(st:an)(a:Io):an:=oW ⟨pw,w.params⟩ (kt w.params) hs st a
abbrev vh(w:Lj)(hs:Nat)(st:an)(r:Lm)(M:Mem)(N T:Nat):an:=qj ⟨pw,w.params⟩ (kt w.params) hs st r M N T
theorem dX{Q:Lm->List Obj->Mem->Prop}{r c:Lm}{os a:List Obj}{n b:Mem}(h:r=c/\os=a/\n=b)(q:Q c a b):Q r os n:=by obtain ⟨rfl,rfl,rfl⟩:=h;exact q
theorem jr{Q:Lm->List Obj->Mem->Prop}{P:Prop}{r c:Lm}{os a:List Obj}{n b:Mem}(h:r=c/\os=a/\n=b/\P)(q:P->Q c a b):Q r os n:=dX ⟨h.1,h.2.1,h.2.2.1⟩ (q h.2.2.2)
theorem iq{Q:Lm->Mem->Prop}{r b:Lm}{n a:Mem}(h:r=b/\n=a)(q:Q b a):Q r n:=by obtain ⟨rfl,rfl⟩:=h;exact q
theorem jt{Q:Lm->Mem->Prop}{P:Prop}{r b:Lm}{n a:Mem}(h:r=b/\n=a/\P)(q:P->Q b a):Q r n:=iq ⟨h.1,h.2.1⟩ (q h.2.2)
section
variable{a:Type}{b:Type}{c:Type}{d:Type}{e:Type}{f:Type}{g:Type}{h:Type}{i:Type}{α9:Type}{α10:Type}{α11:Type}{α12:Type}{α13:Type}
def Hf(w:Lj)(hs:Nat)(st:an)(K:AV (a->Lm) (List Obj) Mem)(x:a)(N T:Nat):an:=rP w hs st ⟨K.fa (ah st) x,K.fo (ah st),K.fn (ah st),N,T⟩
def JK(w:Lj)(hs:Nat)(st:an)(K:AV (Lm) (List Obj) (Mem))(N T:Nat):an:=rP w hs st ⟨K.fa (ah st),K.fo (ah st),K.fn (ah st),N,T⟩
def Cf(w:Lj)(hs:Nat)(st:an)(K:AV (a->Lm) (a->List Obj) (a->Mem))(b:a)(N T:Nat):an:=rP w hs st ⟨K.fa (ah st) b,K.fo (ah st) b,K.fn (ah st) b,N,T⟩
def Iv(w:Lj)(hs:Nat)(st:an)(K:AV (a->b->Lm) (a->b->List Obj) (a->b->Mem))(c:a)(d:b)(N T:Nat):an:=rP w hs st ⟨K.fa (ah st) c d,K.fo (ah st) c d,K.fn (ah st) c d,N,T⟩
def JL(w:Lj)(hs:Nat)(st:an)(K:AV (a->b->c->Lm) (a->b->c->List Obj) (a->b->c->Mem))(d:a)(e:b)(f:c)(N T:Nat):an:=rP w hs st ⟨K.fa (ah st) d e f,K.fo (ah st) d e f,K.fn (ah st) d e f,N,T⟩
def Kw(w:Lj)(hs:Nat)(st:an)(K:AV (a->b->c->d->e->f->Lm) (a->b->c->d->e->f->List Obj) (a->b->c->d->e->f->Mem))(g:a)(i:b)(j:c)(k:d)(l:e)(m:f)(N T:Nat):an:=rP w hs st ⟨K.fa (ah st) g i j k l m,K.fo (ah st) g i j k l m,K.fn (ah st) g i j k l m,N,T⟩
def Kx(w:Lj)(hs:Nat)(st:an)(K:AV (a->b->c->d->e->f->g->h->Lm) (a->b->c->d->e->f->g->h->List Obj) (a->b->c->d->e->f->g->h->Mem))(i:a)(j:b)(k:c)(l:d)(m:e)(n:f)(o:g)(p:h)(N T:Nat):an:=rP w hs st ⟨K.fa (ah st) i j k l m n o p,K.fo (ah st) i j k l m n o p,K.fn (ah st) i j k l m n o p,N,T⟩
def JM(w:Lj)(hs:Nat)(st:an)(K:RV (a->Lm) (a->Mem))(b:a)(N T:Nat):an:=vh w hs st (K.fa (ah st) b) (K.fm (ah st) b) N T
def JN(w:Lj)(hs:Nat)(st:an)(K:RV (a->b->c->d->Lm) (a->b->c->d->Mem))(e:a)(f:b)(g:c)(i:d)(N T:Nat):an:=vh w hs st (K.fa (ah st) e f g i) (K.fm (ah st) e f g i) N T
def Ky(w:Lj)(hs:Nat)(st:an)(K:RV (a->b->c->d->e->f->g->h->Lm) (a->b->c->d->e->f->g->h->Mem))(i:a)(j:b)(k:c)(l:d)(m:e)(n:f)(o:g)(p:h)(N T:Nat):an:=vh w hs st (K.fa (ah st) i j k l m n o p) (K.fm (ah st) i j k l m n o p) N T
def Kz(w:Lj)(hs:Nat)(st:an)(K:RV (a->b->c->d->e->f->g->h->i->Lm) (a->b->c->d->e->f->g->h->i->Mem))(j:a)(k:b)(l:c)(m:d)(n:e)(o:f)(p:g)(q:h)(r:i)(N T:Nat):an:=vh w hs st (K.fa (ah st) j k l m n o p q r) (K.fm (ah st) j k l m n o p q r) N T
end
section
variable{b:Type}{W:b->Lj}{L L1:Nat}{F:Option (List Env)}{lows:Mem}{fr:List Env}{d:b->List Env}{st:b->an}{c:b->OO->Mk}{m:b->OO->Mem}{m0:b->Mem}{c0:b->Mk}{e:b->Sem Fin}{f:b->Nat->Oi}{os:b->OO->List Obj}{pc:bI}{pr:Lm->Mem->Prop}(a:b){B:BX (W a) L1 F}{Y:GX (W a) B.g0 lows}{E:BX (W a) L1 (Ld fr)}{Z:GX (W a) E.g0 lows}
section
variable{fa:b->OO->Lm}{fo:b->OO->List Obj}{fn:b->OO->Mem}{P:OO->Prop}
theorem aE(hs:Nat)(C:∀o,g4 (W a) L (c a o) (m a o) fun r os n=>r=fa a o/\os=fo a o/\n=fn a o)(d:L + 1<=L1)(bn:let K:=fun a=>AV.mk (c a) (m a) (fa a) (fo a) (fn a);∀a,aR [] (st a)=fb (K a) (st a))(next:let K:=fun a=>AV.mk (c a) (m a) (fa a) (fo a) (fn a);∀N T,let b:=fun a=>JK (W a) hs (st a) (K a) N T;Gd B Y (b a)):Gd B Y (st a):=
 bL (B.hA.mono d) Y.hk Y.hl C (bn a) (by intro V V V N T h V;apply dX h;exact ⟨hs,next N T⟩)
end
section
variable{d:Type}{fa:b->OO->d->Lm}{fo:b->OO->d->List Obj}{fn:b->OO->d->Mem}{P:OO->d->Prop}
theorem bA(hs:Nat)(C:∀o,g4 (W a) L (c a o) (m a o) fun r os n=>∃b,r=fa a o b/\os=fo a o b/\n=fn a o b)(e:L + 1<=L1)(bn:let K:=fun a=>AV.mk (c a) (m a) (fa a) (fo a) (fn a);∀a,aR [] (st a)=fb (K a) (st a))(next:let K:=fun a=>AV.mk (c a) (m a) (fa a) (fo a) (fn a);∀b N T,let d:=fun a=>Cf (W a) hs (st a) (K a) b N T;Gd B Y (d a)):Gd B Y (st a):=
 bL (B.hA.mono e) Y.hk Y.hl C (bn a) (by intro V V V N T h V;refine bj (fun b h=>?_) h;apply dX h;exact ⟨hs,next b N T⟩)
theorem jY(hs:Nat)(C:∀o,g4 (W a) L (c a o) (m a o) fun r os n=>∃b,r=fa a o b/\os=fo a o b/\n=fn a o b/\P o b)(e:L + 1<=L1)(bn:let K:=fun a=>AV.mk (c a) (m a) (fa a) (fo a) (fn a);∀a,aR [] (st a)=fb (K a) (st a))(next:let K:=fun a=>AV.mk (c a) (m a) (fa a) (fo a) (fn a);∀b N T,P (ah (st a)) b->let d:=fun a=>Cf (W a) hs (st a) (K a) b N T;Gd B Y (d a)):Gd B Y (st a):=
 bL (B.hA.mono e) Y.hk Y.hl C (bn a) (by intro V V V N T h V;refine bj (fun b h=>?_) h;apply jr h;intro hp;exact ⟨hs,next b N T hp⟩)
theorem o7(C:∀o,g4 (W a) L (c a o) (m a o) fun r os n=>∃b,r=fa a o b/\os=fo a o b/\n=fn a o b/\P o b)(d:L + 1<=L1)(bn:let K:=fun a=>AV.mk (c a) (m a) (fa a) (fo a) (fn a);∀a,aR [] (st a)=fb (K a) (st a))(next:let K:=fun a=>AV.mk (c a) (m a) (fa a) (fo a) (fn a);∀b N T,P (ah (st a)) b->∃hs,Gd B Y (Cf (W a) hs (st a) (K a) b N T)):Gd B Y (st a):=
 bL (B.hA.mono d) Y.hk Y.hl C (bn a) (by intro V V V N T h V;refine bj (fun b h=>?_) h;apply jr h;intro hp;exact next b N T hp)
end
section
variable{d e:Type}{fa:b->OO->d->e->Lm}{fo:b->OO->d->e->List Obj}{fn:b->OO->d->e->Mem}{P:OO->d->e->Prop}
theorem gF(hs:Nat)(C:∀o,g4 (W a) L (c a o) (m a o) fun r os n=>∃b d,r=fa a o b d/\os=fo a o b d/\n=fn a o b d)(f:L + 1<=L1)(bn:let K:=fun a=>AV.mk (c a) (m a) (fa a) (fo a) (fn a);∀a,aR [] (st a)=fb (K a) (st a))(next:let K:=fun a=>AV.mk (c a) (m a) (fa a) (fo a) (fn a);∀b d N T,let e:=fun a=>Iv (W a) hs (st a) (K a) b d N T;Gd B Y (e a)):Gd B Y (st a):=
 bL (B.hA.mono f) Y.hk Y.hl C (bn a) (by intro V V V N T h V;refine d9 (fun b d h=>?_) h;apply dX h;exact ⟨hs,next b d N T⟩)
end
section
variable{d f e:Type}{fa:b->OO->d->f->e->Lm}{fo:b->OO->d->f->e->List Obj}{fn:b->OO->d->f->e->Mem}{P:OO->d->f->e->Prop}
theorem vi(hs:Nat)(C:∀o,g4 (W a) L (c a o) (m a o) fun r os n=>∃b d e,r=fa a o b d e/\os=fo a o b d e/\n=fn a o b d e)(g:L + 1<=L1)(bn:let K:=fun a=>AV.mk (c a) (m a) (fa a) (fo a) (fn a);∀a,aR [] (st a)=fb (K a) (st a))(next:let K:=fun a=>AV.mk (c a) (m a) (fa a) (fo a) (fn a);∀b d e N T,let f:=fun a=>JL (W a) hs (st a) (K a) b d e N T;Gd B Y (f a)):Gd B Y (st a):=
 bL (B.hA.mono g) Y.hk Y.hl C (bn a) (by intro V V V N T h V;refine ma (fun b d e h=>?_) h;apply dX h;exact ⟨hs,next b d e N T⟩)
theorem jZ(hs:Nat)(C:∀o,g4 (W a) L (c a o) (m a o) fun r os n=>∃b d e,r=fa a o b d e/\os=fo a o b d e/\n=fn a o b d e/\P o b d e)(g:L + 1<=L1)(bn:let K:=fun a=>AV.mk (c a) (m a) (fa a) (fo a) (fn a);∀a,aR [] (st a)=fb (K a) (st a))(next:let K:=fun a=>AV.mk (c a) (m a) (fa a) (fo a) (fn a);∀b d e N T,P (ah (st a)) b d e->let f:=fun a=>JL (W a) hs (st a) (K a) b d e N T;Gd B Y (f a)):Gd B Y (st a):=
 bL (B.hA.mono g) Y.hk Y.hl C (bn a) (by intro V V V N T h V;refine ma (fun b d e h=>?_) h;apply jr h;intro hp;exact ⟨hs,next b d e N T hp⟩)
end
section
variable{e j i g d f:Type}{fa:b->OO->e->j->i->g->d->f->Lm}{fo:b->OO->e->j->i->g->d->f->List Obj}{fn:b->OO->e->j->i->g->d->f->Mem}{P:OO->e->j->i->g->d->f->Prop}
theorem mv(hs:Nat)(C:∀o,g4 (W a) L (c a o) (m a o) fun r os n=>∃b d e f g i,r=fa a o b d e f g i/\os=fo a o b d e f g i/\n=fn a o b d e f g i)(l:L + 1<=L1)(bn:let K:=fun a=>AV.mk (c a) (m a) (fa a) (fo a) (fn a);∀a,aR [] (st a)=fb (K a) (st a))(next:let K:=fun a=>AV.mk (c a) (m a) (fa a) (fo a) (fn a);∀b d e f g i N T,let k:=fun a=>Kw (W a) hs (st a) (K a) b d e f g i N T;Gd B Y (k a)):Gd B Y (st a):=
 bL (B.hA.mono l) Y.hk Y.hl C (bn a) (by intro V V V N T h V;refine qc (fun b d e f g i h=>?_) h;apply dX h;exact ⟨hs,next b d e f g i N T⟩)
end
theorem lg{p:OO->bI}(C:∀o,g4 (W a) L (c a o) (m a o) (p o))(d:L + 1<=L1)(bn:∀a,aR [] (st a)=(.ask (c a (ah (st a))) (m a (ah (st a))),aj (st a)))(next:∀r os b N T,p (ah (st a)) r os b->os.length=(m a (ah (st a))).length->∃hs,Gd B Y (rP (W a) hs (st a) ⟨r,os,b,N,T⟩)):Gd B Y (st a):=bL (B.hA.mono d) Y.hk Y.hl C (bn a) next
section
variable{α:Type}{fa:b->OO->α->Lm}{fo:b->OO->List Obj}{fn:b->OO->Mem}{P:OO->α->Prop}
theorem fc(hs:Nat)(C:∀o,g4 (W a) L (c a o) (m a o) fun r os n=>(∃x,r=fa a o x)/\os=fo a o/\n=fn a o)(d:L + 1<=L1)(bn:let K:=fun a=>AV.mk (c a) (m a) (fa a) (fo a) (fn a);∀a,aR [] (st a)=fb (K a) (st a))(next:let K:=fun a=>AV.mk (c a) (m a) (fa a) (fo a) (fn a);∀x N T,let b:=fun a=>Hf (W a) hs (st a) (K a) x N T;Gd B Y (b a)):Gd B Y (st a):=
 bL (B.hA.mono d) Y.hk Y.hl C (bn a) (by rintro _ _ _ N T ⟨⟨x,rfl⟩,rfl,rfl⟩ _;exact ⟨hs,next x N T⟩)
end
theorem fT{c:b->OO->Mem}(is:LN)(d:lf B Y (m0 a) pc)(hp:∀o τ,pc (.ok (f a τ)) (os a o) (c a o))(e:(os a (ah (st a))).length=(m0 a).length)(g:∀a,aR is (st a)=vf (f a) (m0 a) (os a) (c a) (st a)):Gd B Y (st a):=gX d hp e (g a)
theorem b4(is:LN)(b:g3 B pr)(hp:∀o τ,pr (.ok (f a τ)) (m a o++lows))(c:∀a,aR is (st a)=vg (f a) (m a) (st a)):Gd B Y (st a):=jC Y.hT b hp (c a)
theorem Cg(is:LN)(b:lf B Y (m0 a) pc)(C:∀o,g4 (W a) L (c a o) (m a o) pc)(d:L<=L1)(bn:∀a,(aR is (st a),(c a (ah (st a))).quiet,(m a (ah (st a))).map (·.1))=(EZ (c a) (m a) (st a),Lh,(m0 a).map (·.1))):Gd B Y (st a):=gb b (B.hA.mono d) Y.hk Y.hl C (congrArg (·.2.1) (bn a)) (congrArg (·.1) (bn a)) (congrArg (·.2.2) (bn a)) fun V V V hp=>hp
theorem lB(is:LN)(b:g3 E pr)(C:∀o,m9 (W a) (d a) L (c a o) (m a o++lows) pr)(e:L<=L1)(bn:∀a,(aR is (st a),(c a (ah (st a))).quiet,fr)=(EZ (c a) (m a) (st a),Lh,(d a))):Gd E Z (st a):=gc (E.hA.mono e) E.hf E.hk E.hl Z.hT C (congrArg (·.2.1) (bn a)) (congrArg (·.1) (bn a)) (congrArg (·.2.2) (bn a)) b
theorem dC{f:b->Nat->an}(hs:Nat)(h:let c:=fun a=>f a hs;Gd B Y (c a)):∃hs,Gd B Y (f a hs):=⟨hs,h⟩
section
variable{e:Type}{fa:b->OO->e->Lm}{fm:b->OO->e->Mem}{f:OO->e->Mem}{P:OO->e->Prop}
theorem zq(hs:Nat)(C:∀o,m9 (W a) (d a) L (c a o) (m a o++lows) fun r F=>∃b,r=fa a o b/\F=fm a o b++f o b)(i:L + 1<=L1)(bn:let K:=fun a=>RV.mk (c a) (m a) (fa a) (fm a);∀a,(aR [] (st a),db (jq (st a))++fr)=(q7 (K a) (st a),(d a)))(next:let K:=fun a=>RV.mk (c a) (m a) (fa a) (fm a);∀b N T,∀(Y:GX (W a) E.g0 (f (ah (st a)) b)),let e:=fun a=>JM (W a) hs (st a) (K a) b N T;Gd E Y (e a)):Gd E Z (st a):=
 ca (E.hA.mono i) E.hf E.hk E.hl Z.hT C (congrArg (·.1) (bn a)) (congrArg (·.2) (bn a)) (by intro V V N T h;refine bj (fun b h=>?_) h;apply iq h;exact ⟨_,_,.refl _,fun g hk hl hT=>⟨hs,next b N T ⟨g,hk,hl,hT⟩⟩⟩)
end
section
variable{e j i f:Type}{fa:b->OO->e->j->i->f->Lm}{fm:b->OO->e->j->i->f->Mem}{k:OO->e->j->i->f->Mem}{P:OO->e->j->i->f->Prop}
theorem iW(hs:Nat)(C:∀o,m9 (W a) (d a) L (c a o) (m a o++lows) fun r F=>∃b e f i,r=fa a o b e f i/\F=fm a o b e f i++k o b e f i/\P o b e f i)(n:L + 1<=L1)(bn:let K:=fun a=>RV.mk (c a) (m a) (fa a) (fm a);∀a,(aR [] (st a),db (jq (st a))++fr)=(q7 (K a) (st a),(d a)))(next:let K:=fun a=>RV.mk (c a) (m a) (fa a) (fm a);∀b e f i N T,P (ah (st a)) b e f i->∀(Y:GX (W a) E.g0 (k (ah (st a)) b e f i)),let l:=fun a=>JN (W a) hs (st a) (K a) b e f i N T;Gd E Y (l a)):Gd E Z (st a):=
 ca (E.hA.mono n) E.hf E.hk E.hl Z.hT C (congrArg (·.1) (bn a)) (congrArg (·.2) (bn a)) (by intro V V N T h;refine gz (fun b e f i h=>?_) h;apply jt h;intro hp;exact ⟨_,_,.refl _,fun g hk hl hT=>⟨hs,next b e f i N T hp ⟨g,hk,hl,hT⟩⟩⟩)
end
section
variable{f n l k e i j p:Type}{fa:b->OO->f->n->l->k->e->i->j->p->Lm}{fm:b->OO->f->n->l->k->e->i->j->p->Mem}{q:OO->f->n->l->k->e->i->j->p->Mem}{P:OO->f->n->l->k->e->i->j->p->Prop}
theorem sJ(hs:Nat)(C:∀o,m9 (W a) (d a) L (c a o) (m a o++lows) fun r F=>∃b e f i k l n p,r=fa a o b e f i k l n p/\F=fm a o b e f i k l n p++q o b e f i k l n p/\P o b e f i k l n p)(t:L + 1<=L1)(bn:let K:=fun a=>RV.mk (c a) (m a) (fa a) (fm a);∀a,(aR [] (st a),db (jq (st a))++fr)=(q7 (K a) (st a),(d a)))(next:let K:=fun a=>RV.mk (c a) (m a) (fa a) (fm a);∀b e f i k l n p N T,P (ah (st a)) b e f i k l n p->∀(Y:GX (W a) E.g0 (q (ah (st a)) b e f i k l n p)),let s:=fun a=>Ky (W a) hs (st a) (K a) b e f i k l n p N T;Gd E Y (s a)):Gd E Z (st a):=
 ca (E.hA.mono t) E.hf E.hk E.hl Z.hT C (congrArg (·.1) (bn a)) (congrArg (·.2) (bn a)) (by intro V V N T h;refine oO (fun b e f i k l n p h=>?_) h;apply jt h;intro hp;exact ⟨_,_,.refl _,fun g hk hl hT=>⟨hs,next b e f i k l n p N T hp ⟨g,hk,hl,hT⟩⟩⟩)
end
section
variable{f j n l e i k q p:Type}{fa:b->OO->f->j->n->l->e->i->k->q->p->Lm}{fm:b->OO->f->j->n->l->e->i->k->q->p->Mem}{s:OO->f->j->n->l->e->i->k->q->p->Mem}{P:OO->f->j->n->l->e->i->k->q->p->Prop}
theorem Iw(hs:Nat)(C:∀o,m9 (W a) (d a) L (c a o) (m a o++lows) fun r F=>∃b e f i k l n p q,r=fa a o b e f i k l n p q/\F=fm a o b e f i k l n p q++s o b e f i k l n p q)(u:L + 1<=L1)(bn:let K:=fun a=>RV.mk (c a) (m a) (fa a) (fm a);∀a,(aR [] (st a),db (jq (st a))++fr)=(q7 (K a) (st a),(d a)))(next:let K:=fun a=>RV.mk (c a) (m a) (fa a) (fm a);∀b e f i k l n p q N T,∀(Y:GX (W a) E.g0 (s (ah (st a)) b e f i k l n p q)),let t:=fun a=>Kz (W a) hs (st a) (K a) b e f i k l n p q N T;Gd E Y (t a)):Gd E Z (st a):=
 ca (E.hA.mono u) E.hf E.hk E.hl Z.hT C (congrArg (·.1) (bn a)) (congrArg (·.2) (bn a)) (by intro V V N T h;refine Cc (fun b e f i k l n p q h=>?_) h;apply iq h;exact ⟨_,_,.refl _,fun g hk hl hT=>⟨hs,next b e f i k l n p q N T ⟨g,hk,hl,hT⟩⟩⟩)
end
theorem j0{p:OO->Lm->Mem->Prop}(C:∀o,m9 (W a) (d a) L (c a o) (m a o++lows) (p o))(i:L + 1<=L1)(bn:∀a,(aR [] (st a),db (jq (st a))++fr)=((br.ask (c a (ah (st a))) (m a (ah (st a))),aj (st a)),(d a)))(next:∀r e N T,p (ah (st a)) r e->∃f b,e.Perm (f++b)/\∀(Y:GX (W a) E.g0 b),∃hs,Gd E Y (vh (W a) hs (st a) r f N T)):Gd E Z (st a):=
 ca (E.hA.mono i) E.hf E.hk E.hl Z.hT C (congrArg (·.1) (bn a)) (congrArg (·.2) (bn a)) fun r e N T h=>(next r e N T h).elim fun f h=>h.elim fun l2 h=>⟨f,l2,h.1,fun g hk hl hT=>h.2 ⟨g,hk,hl,hT⟩⟩
theorem fE(hs:Nat)(h:let Q:=pc;∀N T (F:Option (List Env)) (B:BX (W a) (L + 1) F) (Y:GX (W a) B.g0 []),lf B Y (m0 a) Q->let c:=fun a=>e8 ⟨pw,(W a).params⟩ (kt (W a).params) hs (c0 a) (m0 a) N T;Gd B Y (c a)):g4 (W a) (L + 1) (c0 a) (m0 a) pc:=
 mn fun A R g G D O N T f d e b=>⟨hs,h N T _ ⟨A,R,g,G,D,O,f,rfl,d,e⟩ ⟨g,d,e,.nil g⟩ b⟩
theorem cW(hs:Nat)(h:let Q:=pr;∀N T (B:BX (W a) (L + 1) (Ld fr)) (Y:GX (W a) B.g0 lows),g3 B Q->let e:=fun a=>e8 ⟨pw,(W a).params⟩ (kt (W a).params) hs (c0 a) (m0 a) N T;Gd B Y (e a)):m9 (W a) fr (L + 1) (c0 a) (m0 a++lows) pr:=
 mt fun A R g0 g G D O N T f hf c d j k i b=>⟨hs,h N T ⟨A,R,g0,G,D,O,f,hf,c,d⟩ ⟨g,j,k,i⟩ b⟩
theorem fU(hs:Nat)(h:let Q:=pr;∀N T (B:BX (W a) (L + 1) (Ld fr)) (Y:GX (W a) B.g0 lows),g3 B Q->let f:=fun a=>iy ⟨pw,(W a).params⟩ (kt (W a).params) hs (c0 a) (e a) (m0 a) N T;Gd B Y (f a)):bW pw (W a) (kt (W a).params) fr (L + 1) (c0 a) (e a) (m0 a++lows) pr:=
 mu fun A R g0 g G D O N T i hf c d k l j b=>⟨hs,h N T ⟨A,R,g0,G,D,O,i,hf,c,d⟩ ⟨g,k,l,j⟩ b⟩
theorem Hg(hs:Nat)(h:let Q:=pc;∀N T (F:Option (List Env)) (B:BX (W a) (L + 1) F) (Y:GX (W a) B.g0 []),lf B Y (m0 a) Q->let c:=fun a=>iy ⟨pw,(W a).params⟩ (kt (W a).params) hs (c0 a) (e a) (m0 a) N T;Gd B Y (c a)):EY pw (W a) (kt (W a).params) (L + 1) (c0 a) (e a) (m0 a) pc:=
 zo fun A R g G D O N T i d f b=>⟨hs,h N T _ ⟨A,R,g,G,D,O,i,rfl,d,f⟩ ⟨g,d,f,.nil g⟩ b⟩
end
section
variable{d e:Type}{W:d->e->Lj}{L L1:Nat}{F:Option (List Env)}{lows:Mem}{fr:List Env}{i:d->e->List Env}{st:d->e->an}{c:d->e->OO->Mk}{m:d->e->OO->Mem}{m0:d->e->Mem}{c0:d->e->Mk}{j:d->e->Sem Fin}{f:d->e->Nat->Oi}{os:d->e->OO->List Obj}{pc:bI}{pr:Lm->Mem->Prop}(a:d)(b:e){B:BX (W a b) L1 F}{Y:GX (W a b) B.g0 lows}{E:BX (W a b) L1 (Ld fr)}{Z:GX (W a b) E.g0 lows}
section
variable{fa:d->e->OO->Lm}{fo:d->e->OO->List Obj}{fn:d->e->OO->Mem}{P:OO->Prop}
theorem bo(hs:Nat)(C:∀o,g4 (W a b) L (c a b o) (m a b o) fun r os n=>r=fa a b o/\os=fo a b o/\n=fn a b o)(e:L + 1<=L1)(bn:let K:=fun a b=>AV.mk (c a b) (m a b) (fa a b) (fo a b) (fn a b);∀a b,aR [] (st a b)=fb (K a b) (st a b))(next:let K:=fun a b=>AV.mk (c a b) (m a b) (fa a b) (fo a b) (fn a b);∀N T,let d:=fun a b=>JK (W a b) hs (st a b) (K a b) N T;Gd B Y (d a b)):Gd B Y (st a b):=
 bL (B.hA.mono e) Y.hk Y.hl C (bn a b) (by intro V V V N T h V;apply dX h;exact ⟨hs,next N T⟩)
end
section
variable{f:Type}{fa:d->e->OO->f->Lm}{fo:d->e->OO->f->List Obj}{fn:d->e->OO->f->Mem}{P:OO->f->Prop}
theorem cP(hs:Nat)(C:∀o,g4 (W a b) L (c a b o) (m a b o) fun r os n=>∃d,r=fa a b o d/\os=fo a b o d/\n=fn a b o d)(f:L + 1<=L1)(bn:let K:=fun a b=>AV.mk (c a b) (m a b) (fa a b) (fo a b) (fn a b);∀a b,aR [] (st a b)=fb (K a b) (st a b))(next:let K:=fun a b=>AV.mk (c a b) (m a b) (fa a b) (fo a b) (fn a b);∀d N T,let e:=fun a b=>Cf (W a b) hs (st a b) (K a b) d N T;Gd B Y (e a b)):Gd B Y (st a b):=
 bL (B.hA.mono f) Y.hk Y.hl C (bn a b) (by intro V V V N T h V;refine bj (fun d h=>?_) h;apply dX h;exact ⟨hs,next d N T⟩)
theorem E0(hs:Nat)(C:∀o,g4 (W a b) L (c a b o) (m a b o) fun r os n=>∃d,r=fa a b o d/\os=fo a b o d/\n=fn a b o d/\P o d)(f:L + 1<=L1)(bn:let K:=fun a b=>AV.mk (c a b) (m a b) (fa a b) (fo a b) (fn a b);∀a b,aR [] (st a b)=fb (K a b) (st a b))(next:let K:=fun a b=>AV.mk (c a b) (m a b) (fa a b) (fo a b) (fn a b);∀d N T,P (ah (st a b)) d->let e:=fun a b=>Cf (W a b) hs (st a b) (K a b) d N T;Gd B Y (e a b)):Gd B Y (st a b):=
 bL (B.hA.mono f) Y.hk Y.hl C (bn a b) (by intro V V V N T h V;refine bj (fun d h=>?_) h;apply jr h;intro hp;exact ⟨hs,next d N T hp⟩)
theorem eD(hs:Nat)(C:∀o,g4 (W a b) L (c a b o) (m a b o) fun r os n=>∃d,r=fa a b o d/\os=fo a b o d/\n=fn a b o d)(f:L + 1<=L1)(bn:let K:=fun a b=>AV.mk (c a b) (m a b) (fa a b) (fo a b) (fn a b);aR [] (st a b)=fb (K a b) (st a b))(next:let K:=fun a b=>AV.mk (c a b) (m a b) (fa a b) (fo a b) (fn a b);∀d N T,let e:=fun a b=>Cf (W a b) hs (st a b) (K a b) d N T;Gd B Y (e a b)):Gd B Y (st a b):=
 bL (B.hA.mono f) Y.hk Y.hl C bn (by intro V V V N T h V;refine bj (fun d h=>?_) h;apply dX h;exact ⟨hs,next d N T⟩)
end
section
variable{f g:Type}{fa:d->e->OO->f->g->Lm}{fo:d->e->OO->f->g->List Obj}{fn:d->e->OO->f->g->Mem}{P:OO->f->g->Prop}
theorem nA(hs:Nat)(C:∀o,g4 (W a b) L (c a b o) (m a b o) fun r os n=>∃d e,r=fa a b o d e/\os=fo a b o d e/\n=fn a b o d e)(g:L + 1<=L1)(bn:let K:=fun a b=>AV.mk (c a b) (m a b) (fa a b) (fo a b) (fn a b);∀a b,aR [] (st a b)=fb (K a b) (st a b))(next:let K:=fun a b=>AV.mk (c a b) (m a b) (fa a b) (fo a b) (fn a b);∀d e N T,let f:=fun a b=>Iv (W a b) hs (st a b) (K a b) d e N T;Gd B Y (f a b)):Gd B Y (st a b):=
 bL (B.hA.mono g) Y.hk Y.hl C (bn a b) (by intro V V V N T h V;refine d9 (fun d e h=>?_) h;apply dX h;exact ⟨hs,next d e N T⟩)
theorem zr(C:∀o,g4 (W a b) L (c a b o) (m a b o) fun r os n=>∃d e,r=fa a b o d e/\os=fo a b o d e/\n=fn a b o d e/\P o d e)(f:L + 1<=L1)(bn:let K:=fun a b=>AV.mk (c a b) (m a b) (fa a b) (fo a b) (fn a b);∀a b,aR [] (st a b)=fb (K a b) (st a b))(next:let K:=fun a b=>AV.mk (c a b) (m a b) (fa a b) (fo a b) (fn a b);∀d e N T,P (ah (st a b)) d e->∃hs,Gd B Y (Iv (W a b) hs (st a b) (K a b) d e N T)):Gd B Y (st a b):=
 bL (B.hA.mono f) Y.hk Y.hl C (bn a b) (by intro V V V N T h V;refine d9 (fun d e h=>?_) h;apply jr h;intro hp;exact next d e N T hp)
end
section
variable{g q l k f i j p:Type}{fa:d->e->OO->g->q->l->k->f->i->j->p->Lm}{fo:d->e->OO->g->q->l->k->f->i->j->p->List Obj}{fn:d->e->OO->g->q->l->k->f->i->j->p->Mem}{P:OO->g->q->l->k->f->i->j->p->Prop}
theorem JO(hs:Nat)(C:∀o,g4 (W a b) L (c a b o) (m a b o) fun r os n=>∃d e f g i k l p,r=fa a b o d e f g i k l p/\os=fo a b o d e f g i k l p/\n=fn a b o d e f g i k l p/\P o d e f g i k l p)(s:L + 1<=L1)(bn:let K:=fun a b=>AV.mk (c a b) (m a b) (fa a b) (fo a b) (fn a b);∀a b,aR [] (st a b)=fb (K a b) (st a b))(next:let K:=fun a b=>AV.mk (c a b) (m a b) (fa a b) (fo a b) (fn a b);∀d e f g i k l p N T,P (ah (st a b)) d e f g i k l p->let q:=fun a b=>Kx (W a b) hs (st a b) (K a b) d e f g i k l p N T;Gd B Y (q a b)):Gd B Y (st a b):=
 bL (B.hA.mono s) Y.hk Y.hl C (bn a b) (by intro V V V N T h V;refine oO (fun d e f g i k l p h=>?_) h;apply jr h;intro hp;exact ⟨hs,next d e f g i k l p N T hp⟩)
end
theorem Ix{p:OO->bI}(C:∀o,g4 (W a b) L (c a b o) (m a b o) (p o))(e:L + 1<=L1)(bn:∀a b,aR [] (st a b)=(.ask (c a b (ah (st a b))) (m a b (ah (st a b))),aj (st a b)))(next:∀r os d N T,p (ah (st a b)) r os d->os.length=(m a b (ah (st a b))).length->∃hs,Gd B Y (rP (W a b) hs (st a b) ⟨r,os,d,N,T⟩)):Gd B Y (st a b):=bL (B.hA.mono e) Y.hk Y.hl C (bn a b) next
theorem E1{p:OO->bI}(C:∀o,g4 (W a b) L (c a b o) (m a b o) (p o))(e:L + 1<=L1)(bn:aR [] (st a b)=(.ask (c a b (ah (st a b))) (m a b (ah (st a b))),aj (st a b)))(next:∀r os d N T,p (ah (st a b)) r os d->os.length=(m a b (ah (st a b))).length->∃hs,Gd B Y (rP (W a b) hs (st a b) ⟨r,os,d,N,T⟩)):Gd B Y (st a b):=bL (B.hA.mono e) Y.hk Y.hl C bn next
section
variable{α:Type}{fa:d->e->OO->α->Lm}{fo:d->e->OO->List Obj}{fn:d->e->OO->Mem}{P:OO->α->Prop}
theorem eE(hs:Nat)(C:∀o,g4 (W a b) L (c a b o) (m a b o) fun r os n=>(∃x,r=fa a b o x)/\os=fo a b o/\n=fn a b o)(e:L + 1<=L1)(bn:let K:=fun a b=>AV.mk (c a b) (m a b) (fa a b) (fo a b) (fn a b);∀a b,aR [] (st a b)=fb (K a b) (st a b))(next:let K:=fun a b=>AV.mk (c a b) (m a b) (fa a b) (fo a b) (fn a b);∀x N T,let d:=fun a b=>Hf (W a b) hs (st a b) (K a b) x N T;Gd B Y (d a b)):Gd B Y (st a b):=
 bL (B.hA.mono e) Y.hk Y.hl C (bn a b) (by rintro _ _ _ N T ⟨⟨x,rfl⟩,rfl,rfl⟩ _;exact ⟨hs,next x N T⟩)
theorem lC(hs:Nat)(C:∀o,g4 (W a b) L (c a b o) (m a b o) fun r os n=>(∃x,r=fa a b o x)/\os=fo a b o/\n=fn a b o)(e:L + 1<=L1)(bn:let K:=fun a b=>AV.mk (c a b) (m a b) (fa a b) (fo a b) (fn a b);aR [] (st a b)=fb (K a b) (st a b))(next:let K:=fun a b=>AV.mk (c a b) (m a b) (fa a b) (fo a b) (fn a b);∀x N T,let d:=fun a b=>Hf (W a b) hs (st a b) (K a b) x N T;Gd B Y (d a b)):Gd B Y (st a b):=
 bL (B.hA.mono e) Y.hk Y.hl C bn (by rintro _ _ _ N T ⟨⟨x,rfl⟩,rfl,rfl⟩ _;exact ⟨hs,next x N T⟩)
end
theorem Hh{c:d->e->OO->Mem}(is:LN)(g:lf B Y (m0 a b) pc)(hp:∀o τ,pc (.ok (f a b τ)) (os a b o) (c a b o))(h:(os a b (ah (st a b))).length=(m0 a b).length)(i:∀a b,aR is (st a b)=vf (f a b) (m0 a b) (os a b) (c a b) (st a b)):Gd B Y (st a b):=gX g hp h (i a b)
theorem JP(is:LN)(d:lf B Y (m0 a b) pc)(C:∀o,g4 (W a b) L (c a b o) (m a b o) pc)(e:L<=L1)(bn:∀a b,(aR is (st a b),(c a b (ah (st a b))).quiet,(m a b (ah (st a b))).map (·.1))=(EZ (c a b) (m a b) (st a b),Lh,(m0 a b).map (·.1))):Gd B Y (st a b):=gb d (B.hA.mono e) Y.hk Y.hl C (congrArg (·.2.1) (bn a b)) (congrArg (·.1) (bn a b)) (congrArg (·.2.2) (bn a b)) fun V V V hp=>hp
theorem zs{c:d->e->OO->Mem}(is:LN)(g:lf B Y (m0 a b) pc)(hp:∀o τ,pc (.ok (f a b τ)) (os a b o) (c a b o))(h:(os a b (ah (st a b))).length=(m0 a b).length)(i:aR is (st a b)=vf (f a b) (m0 a b) (os a b) (c a b) (st a b)):Gd B Y (st a b):=gX g hp h i
theorem lh(is:LN)(c:g3 B pr)(hp:∀o τ,pr (.ok (f a b τ)) (m a b o++lows))(d:∀a b,aR is (st a b)=vg (f a b) (m a b) (st a b)):Gd B Y (st a b):=jC Y.hT c hp (d a b)
theorem gT(is:LN)(d:g3 E pr)(C:∀o,m9 (W a b) (i a b) L (c a b o) (m a b o++lows) pr)(e:L<=L1)(bn:∀a b,(aR is (st a b),(c a b (ah (st a b))).quiet,fr)=(EZ (c a b) (m a b) (st a b),Lh,(i a b))):Gd E Z (st a b):=gc (E.hA.mono e) E.hf E.hk E.hl Z.hT C (congrArg (·.2.1) (bn a b)) (congrArg (·.1) (bn a b)) (congrArg (·.2.2) (bn a b)) d
theorem na{f:d->e->Nat->an}(hs:Nat)(h:let c:=fun a b=>f a b hs;Gd B Y (c a b)):∃hs,Gd B Y (f a b hs):=⟨hs,h⟩
theorem KA{f:d->e->Nat->an}(hs:d->e->Nat)(h:let c:=fun a b=>f a b (hs a b);Gd B Y (c a b)):∃hs,Gd B Y (f a b hs):=⟨_,h⟩
section
variable{f:Type}{fa:d->e->OO->f->Lm}{fm:d->e->OO->f->Mem}{j:OO->f->Mem}{P:OO->f->Prop}
theorem zt(hs:Nat)(C:∀o,m9 (W a b) (i a b) L (c a b o) (m a b o++lows) fun r F=>∃d,r=fa a b o d/\F=fm a b o d++j o d)(f:L + 1<=L1)(bn:let K:=fun a b=>RV.mk (c a b) (m a b) (fa a b) (fm a b);∀a b,(aR [] (st a b),db (jq (st a b))++fr)=(q7 (K a b) (st a b),(i a b)))(next:let K:=fun a b=>RV.mk (c a b) (m a b) (fa a b) (fm a b);∀d N T,∀(Y:GX (W a b) E.g0 (j (ah (st a b)) d)),let e:=fun a b=>JM (W a b) hs (st a b) (K a b) d N T;Gd E Y (e a b)):Gd E Z (st a b):=
 ca (E.hA.mono f) E.hf E.hk E.hl Z.hT C (congrArg (·.1) (bn a b)) (congrArg (·.2) (bn a b)) (by intro V V N T h;refine bj (fun d h=>?_) h;apply iq h;exact ⟨_,_,.refl _,fun g hk hl hT=>⟨hs,next d N T ⟨g,hk,hl,hT⟩⟩⟩)
end
section
variable{f l k j:Type}{fa:d->e->OO->f->l->k->j->Lm}{fm:d->e->OO->f->l->k->j->Mem}{n:OO->f->l->k->j->Mem}{P:OO->f->l->k->j->Prop}
theorem qk(hs:Nat)(C:∀o,m9 (W a b) (i a b) L (c a b o) (m a b o++lows) fun r F=>∃d e f k,r=fa a b o d e f k/\F=fm a b o d e f k++n o d e f k/\P o d e f k)(p:L + 1<=L1)(bn:let K:=fun a b=>RV.mk (c a b) (m a b) (fa a b) (fm a b);∀a b,(aR [] (st a b),db (jq (st a b))++fr)=(q7 (K a b) (st a b),(i a b)))(next:let K:=fun a b=>RV.mk (c a b) (m a b) (fa a b) (fm a b);∀d e f k N T,P (ah (st a b)) d e f k->∀(Y:GX (W a b) E.g0 (n (ah (st a b)) d e f k)),let l:=fun a b=>JN (W a b) hs (st a b) (K a b) d e f k N T;Gd E Y (l a b)):Gd E Z (st a b):=
 ca (E.hA.mono p) E.hf E.hk E.hl Z.hT C (congrArg (·.1) (bn a b)) (congrArg (·.2) (bn a b)) (by intro V V N T h;refine gz (fun d e f k h=>?_) h;apply jt h;intro hp;exact ⟨_,_,.refl _,fun g hk hl hT=>⟨hs,next d e f k N T hp ⟨g,hk,hl,hT⟩⟩⟩)
end
theorem vj{p:OO->Lm->Mem->Prop}(C:∀o,m9 (W a b) (i a b) L (c a b o) (m a b o++lows) (p o))(k:L + 1<=L1)(bn:∀a b,(aR [] (st a b),db (jq (st a b))++fr)=((br.ask (c a b (ah (st a b))) (m a b (ah (st a b))),aj (st a b)),(i a b)))(next:∀r e N T,p (ah (st a b)) r e->∃f d,e.Perm (f++d)/\∀(Y:GX (W a b) E.g0 d),∃hs,Gd E Y (vh (W a b) hs (st a b) r f N T)):Gd E Z (st a b):=
 ca (E.hA.mono k) E.hf E.hk E.hl Z.hT C (congrArg (·.1) (bn a b)) (congrArg (·.2) (bn a b)) fun r e N T h=>(next r e N T h).elim fun f h=>h.elim fun l2 h=>⟨f,l2,h.1,fun g hk hl hT=>h.2 ⟨g,hk,hl,hT⟩⟩
theorem sK(hs:Nat)(h:let Q:=pc;∀N T (F:Option (List Env)) (B:BX (W a b) (L + 1) F) (Y:GX (W a b) B.g0 []),lf B Y (m0 a b) Q->let d:=fun a b=>e8 ⟨pw,(W a b).params⟩ (kt (W a b).params) hs (c0 a b) (m0 a b) N T;Gd B Y (d a b)):g4 (W a b) (L + 1) (c0 a b) (m0 a b) pc:=
 mn fun A R g G D O N T i e f c=>⟨hs,h N T _ ⟨A,R,g,G,D,O,i,rfl,e,f⟩ ⟨g,e,f,.nil g⟩ c⟩
theorem eY(hs:Nat)(h:let Q:=pr;∀N T (B:BX (W a b) (L + 1) (Ld fr)) (Y:GX (W a b) B.g0 lows),g3 B Q->let f:=fun a b=>e8 ⟨pw,(W a b).params⟩ (kt (W a b).params) hs (c0 a b) (m0 a b) N T;Gd B Y (f a b)):m9 (W a b) fr (L + 1) (c0 a b) (m0 a b++lows) pr:=
 mt fun A R g0 g G D O N T i hf d e l m k c=>⟨hs,h N T ⟨A,R,g0,G,D,O,i,hf,d,e⟩ ⟨g,l,m,k⟩ c⟩
theorem vl(hs:Nat)(h:let Q:=pr;∀N T (B:BX (W a b) (L + 1) (Ld fr)) (Y:GX (W a b) B.g0 lows),g3 B Q->let f:=fun a b=>iy ⟨pw,(W a b).params⟩ (kt (W a b).params) hs (c0 a b) (j a b) (m0 a b) N T;Gd B Y (f a b)):bW pw (W a b) (kt (W a b).params) fr (L + 1) (c0 a b) (j a b) (m0 a b++lows) pr:=
 mu fun A R g0 g G D O N T i hf d e l m k c=>⟨hs,h N T ⟨A,R,g0,G,D,O,i,hf,d,e⟩ ⟨g,l,m,k⟩ c⟩
end
section
variable{i j e:Type}{W:i->j->e->Lj}{L L1:Nat}{F:Option (List Env)}{lows:Mem}{fr:List Env}{k:i->j->e->List Env}{st:i->j->e->an}{c:i->j->e->OO->Mk}{m:i->j->e->OO->Mem}{m0:i->j->e->Mem}{c0:i->j->e->Mk}{l:i->j->e->Sem Fin}{f:i->j->e->Nat->Oi}{os:i->j->e->OO->List Obj}{pc:bI}{pr:Lm->Mem->Prop}(a:i)(b:j)(d:e){B:BX (W a b d) L1 F}{Y:GX (W a b d) B.g0 lows}{E:BX (W a b d) L1 (Ld fr)}{Z:GX (W a b d) E.g0 lows}
theorem jD{p:OO->bI}(C:∀o,g4 (W a b d) L (c a b d o) (m a b d o) (p o))(f:L + 1<=L1)(bn:∀a b d,aR [] (st a b d)=(.ask (c a b d (ah (st a b d))) (m a b d (ah (st a b d))),aj (st a b d)))(next:∀r os e N T,p (ah (st a b d)) r os e->os.length=(m a b d (ah (st a b d))).length->∃hs,Gd B Y (rP (W a b d) hs (st a b d) ⟨r,os,e,N,T⟩)):Gd B Y (st a b d):=bL (B.hA.mono f) Y.hk Y.hl C (bn a b d) next
theorem zu{p:OO->bI}(C:∀o,g4 (W a b d) L (c a b d o) (m a b d o) (p o))(f:L + 1<=L1)(bn:aR [] (st a b d)=(.ask (c a b d (ah (st a b d))) (m a b d (ah (st a b d))),aj (st a b d)))(next:∀r os e N T,p (ah (st a b d)) r os e->os.length=(m a b d (ah (st a b d))).length->∃hs,Gd B Y (rP (W a b d) hs (st a b d) ⟨r,os,e,N,T⟩)):Gd B Y (st a b d):=bL (B.hA.mono f) Y.hk Y.hl C bn next
section
variable{α:Type}{fa:i->j->e->OO->α->Lm}{fo:i->j->e->OO->List Obj}{fn:i->j->e->OO->Mem}{P:OO->α->Prop}
theorem j3(hs:Nat)(C:∀o,g4 (W a b d) L (c a b d o) (m a b d o) fun r os n=>(∃x,r=fa a b d o x)/\os=fo a b d o/\n=fn a b d o)(f:L + 1<=L1)(bn:let K:=fun a b d=>AV.mk (c a b d) (m a b d) (fa a b d) (fo a b d) (fn a b d);∀a b d,aR [] (st a b d)=fb (K a b d) (st a b d))(next:let K:=fun a b d=>AV.mk (c a b d) (m a b d) (fa a b d) (fo a b d) (fn a b d);∀x N T,let e:=fun a b d=>Hf (W a b d) hs (st a b d) (K a b d) x N T;Gd B Y (e a b d)):Gd B Y (st a b d):=
 bL (B.hA.mono f) Y.hk Y.hl C (bn a b d) (by rintro _ _ _ N T ⟨⟨x,rfl⟩,rfl,rfl⟩ _;exact ⟨hs,next x N T⟩)
end
theorem E2{c:i->j->e->OO->Mem}(is:LN)(g:lf B Y (m0 a b d) pc)(hp:∀o τ,pc (.ok (f a b d τ)) (os a b d o) (c a b d o))(h:(os a b d (ah (st a b d))).length=(m0 a b d).length)(k:∀a b d,aR is (st a b d)=vf (f a b d) (m0 a b d) (os a b d) (c a b d) (st a b d)):Gd B Y (st a b d):=gX g hp h (k a b d)
theorem rQ(is:LN)(c:g3 B pr)(hp:∀o τ,pr (.ok (f a b d τ)) (m a b d o++lows))(e:∀a b d,aR is (st a b d)=vg (f a b d) (m a b d) (st a b d)):Gd B Y (st a b d):=jC Y.hT c hp (e a b d)
theorem o8(is:LN)(e:g3 E pr)(C:∀o,m9 (W a b d) (k a b d) L (c a b d o) (m a b d o++lows) pr)(f:L<=L1)(bn:∀a b d,(aR is (st a b d),(c a b d (ah (st a b d))).quiet,fr)=(EZ (c a b d) (m a b d) (st a b d),Lh,(k a b d))):Gd E Z (st a b d):=gc (E.hA.mono f) E.hf E.hk E.hl Z.hT C (congrArg (·.2.1) (bn a b d)) (congrArg (·.1) (bn a b d)) (congrArg (·.2.2) (bn a b d)) e
theorem eF{f:i->j->e->Nat->an}(hs:Nat)(h:let c:=fun a b d=>f a b d hs;Gd B Y (c a b d)):∃hs,Gd B Y (f a b d hs):=⟨hs,h⟩
theorem KB{f:i->j->e->Nat->an}(hs:i->j->e->Nat)(h:let c:=fun a b d=>f a b d (hs a b d);Gd B Y (c a b d)):∃hs,Gd B Y (f a b d hs):=⟨_,h⟩
theorem q8{p:OO->Lm->Mem->Prop}(C:∀o,m9 (W a b d) (k a b d) L (c a b d o) (m a b d o++lows) (p o))(l:L + 1<=L1)(bn:∀a b d,(aR [] (st a b d),db (jq (st a b d))++fr)=((br.ask (c a b d (ah (st a b d))) (m a b d (ah (st a b d))),aj (st a b d)),(k a b d)))(next:∀r f N T,p (ah (st a b d)) r f->∃i e,f.Perm (i++e)/\∀(Y:GX (W a b d) E.g0 e),∃hs,Gd E Y (vh (W a b d) hs (st a b d) r i N T)):Gd E Z (st a b d):=
 ca (E.hA.mono l) E.hf E.hk E.hl Z.hT C (congrArg (·.1) (bn a b d)) (congrArg (·.2) (bn a b d)) fun r f N T h=>(next r f N T h).elim fun i h=>h.elim fun l2 h=>⟨i,l2,h.1,fun g hk hl hT=>h.2 ⟨g,hk,hl,hT⟩⟩
theorem Iy{p:OO->Lm->Mem->Prop}(C:∀o,m9 (W a b d) (k a b d) L (c a b d o) (m a b d o++lows) (p o))(l:L + 1<=L1)(bn:(aR [] (st a b d),db (jq (st a b d))++fr)=((br.ask (c a b d (ah (st a b d))) (m a b d (ah (st a b d))),aj (st a b d)),(k a b d)))(next:∀r f N T,p (ah (st a b d)) r f->∃i e,f.Perm (i++e)/\∀(Y:GX (W a b d) E.g0 e),∃hs,Gd E Y (vh (W a b d) hs (st a b d) r i N T)):Gd E Z (st a b d):=
 ca (E.hA.mono l) E.hf E.hk E.hl Z.hT C (congrArg (·.1) bn) (congrArg (·.2) bn) fun r f N T h=>(next r f N T h).elim fun i h=>h.elim fun l2 h=>⟨i,l2,h.1,fun g hk hl hT=>h.2 ⟨g,hk,hl,hT⟩⟩
theorem Hi(hs:Nat)(h:let Q:=pc;∀N T (F:Option (List Env)) (B:BX (W a b d) (L + 1) F) (Y:GX (W a b d) B.g0 []),lf B Y (m0 a b d) Q->let e:=fun a b d=>e8 ⟨pw,(W a b d).params⟩ (kt (W a b d).params) hs (c0 a b d) (m0 a b d) N T;Gd B Y (e a b d)):g4 (W a b d) (L + 1) (c0 a b d) (m0 a b d) pc:=
 mn fun A R g G D O N T k f i c=>⟨hs,h N T _ ⟨A,R,g,G,D,O,k,rfl,f,i⟩ ⟨g,f,i,.nil g⟩ c⟩
theorem lD(hs:Nat)(h:let Q:=pr;∀N T (B:BX (W a b d) (L + 1) (Ld fr)) (Y:GX (W a b d) B.g0 lows),g3 B Q->let i:=fun a b d=>e8 ⟨pw,(W a b d).params⟩ (kt (W a b d).params) hs (c0 a b d) (m0 a b d) N T;Gd B Y (i a b d)):m9 (W a b d) fr (L + 1) (c0 a b d) (m0 a b d++lows) pr:=
 mt fun A R g0 g G D O N T k hf e f m n l c=>⟨hs,h N T ⟨A,R,g0,G,D,O,k,hf,e,f⟩ ⟨g,m,n,l⟩ c⟩
theorem yq(hs:Nat)(h:let Q:=pr;∀N T (B:BX (W a b d) (L + 1) (Ld fr)) (Y:GX (W a b d) B.g0 lows),g3 B Q->let i:=fun a b d=>iy ⟨pw,(W a b d).params⟩ (kt (W a b d).params) hs (c0 a b d) (l a b d) (m0 a b d) N T;Gd B Y (i a b d)):bW pw (W a b d) (kt (W a b d).params) fr (L + 1) (c0 a b d) (l a b d) (m0 a b d++lows) pr:=
 mu fun A R g0 g G D O N T k hf e f n o m c=>⟨hs,h N T ⟨A,R,g0,G,D,O,k,hf,e,f⟩ ⟨g,n,o,m⟩ c⟩
end
section
variable{k l j i:Type}{W:k->l->j->i->Lj}{L L1:Nat}{F:Option (List Env)}{lows:Mem}{fr:List Env}{n:k->l->j->i->List Env}{st:k->l->j->i->an}{c:k->l->j->i->OO->Mk}{m:k->l->j->i->OO->Mem}{m0:k->l->j->i->Mem}{c0:k->l->j->i->Mk}{t0:k->l->j->i->Sem Fin}{f:k->l->j->i->Nat->Oi}{os:k->l->j->i->OO->List Obj}{pc:bI}{pr:Lm->Mem->Prop}(b:k)(d:l)(e:j)(a:i){B:BX (W b d e a) L1 F}{Y:GX (W b d e a) B.g0 lows}{E:BX (W b d e a) L1 (Ld fr)}{Z:GX (W b d e a) E.g0 lows}
theorem KC(is:LN)(c:g3 B pr)(hp:∀o τ,pr (.ok (f b d e a τ)) (m b d e a o++lows))(g:∀b d e a,aR is (st b d e a)=vg (f b d e a) (m b d e a) (st b d e a)):Gd B Y (st b d e a):=jC Y.hT c hp (g b d e a)
theorem JQ{f:k->l->j->i->Nat->an}(hs:Nat)(h:let c:=fun b d e a=>f b d e a hs;Gd B Y (c b d e a)):∃hs,Gd B Y (f b d e a hs):=⟨hs,h⟩
theorem JS{p:OO->Lm->Mem->Prop}(C:∀o,m9 (W b d e a) (n b d e a) L (c b d e a o) (m b d e a o++lows) (p o))(l:L + 1<=L1)(bn:∀b d e a,(aR [] (st b d e a),db (jq (st b d e a))++fr)=((br.ask (c b d e a (ah (st b d e a))) (m b d e a (ah (st b d e a))),aj (st b d e a)),(n b d e a)))(next:∀r i N T,p (ah (st b d e a)) r i->∃k f,i.Perm (k++f)/\∀(Y:GX (W b d e a) E.g0 f),∃hs,Gd E Y (vh (W b d e a) hs (st b d e a) r k N T)):Gd E Z (st b d e a):=
 ca (E.hA.mono l) E.hf E.hk E.hl Z.hT C (congrArg (·.1) (bn b d e a)) (congrArg (·.2) (bn b d e a)) fun r i N T h=>(next r i N T h).elim fun k h=>h.elim fun l2 h=>⟨k,l2,h.1,fun g hk hl hT=>h.2 ⟨g,hk,hl,hT⟩⟩
theorem KD(hs:Nat)(h:let Q:=pr;∀N T (B:BX (W b d e a) (L + 1) (Ld fr)) (Y:GX (W b d e a) B.g0 lows),g3 B Q->let k:=fun b d e a=>e8 ⟨pw,(W b d e a).params⟩ (kt (W b d e a).params) hs (c0 b d e a) (m0 b d e a) N T;Gd B Y (k b d e a)):m9 (W b d e a) fr (L + 1) (c0 b d e a) (m0 b d e a++lows) pr:=
 mt fun A R g0 g G D O N T l hf f i n o m c=>⟨hs,h N T ⟨A,R,g0,G,D,O,l,hf,f,i⟩ ⟨g,n,o,m⟩ c⟩
end
inductive Ch where
 | q|b|s|k|sp|nl
noncomputable def cp:Ch->Nat
 | .q=>34 | .b=>92 | .s=>42 | .k=>91 | .sp=>32 | .nl=>10
inductive Sg where
 | q|b|s|k
theorem sM{f:Sg->Bool}(h:(f .q && (f .b && (f .s && f .k)))=Lh)(i:Sg):f i=Lh:=by
 have a:=LY.mp h
 have c:=LY.mp a.2
 have d:=LY.mp c.2
 cases i
 .exact a.1
 .exact c.1
 .exact d.1
 .exact d.2
theorem sN{f:Sg->Sg->Bool}(h:(let g:=fun i=>f i .q && (f i .b && (f i .s && f i .k));g .q && (g .b && (g .s && g .k)))=Lh)(i j:Sg):f i j=Lh:=sM (sM (f:=fun i=>f i .q && (f i .b && (f i .s && f i .k))) h i) j
noncomputable def pc:Sg->Nat
 | .q=>34 | .b=>92 | .s=>42 | .k=>91
def E3(is:LN)(st:Bool->Ch->an):List (br × LN):=[aR is (st Li .q),aR is (st Li .b),aR is (st Li .s),aR is (st Li .k),aR is (st Li .sp),aR is (st Lh .q),aR is (st Lh .b),aR is (st Lh .s),aR is (st Lh .k),aR is (st Lh .sp)]
def E5(st:Bool->Ch->an)(v:Bool->Ch->br):List (br × LN):=[(v Li .q,aj (st Li .q)),(v Li .b,aj (st Li .b)),(v Li .s,aj (st Li .s)),(v Li .k,aj (st Li .k)),(v Li .sp,aj (st Li .sp)),(v Lh .q,aj (st Lh .q)),(v Lh .b,aj (st Lh .b)),(v Lh .s,aj (st Lh .s)),(v Lh .k,aj (st Lh .k)),(v Lh .sp,aj (st Lh .sp))]
theorem b5{is:LN}{st:Bool->Ch->an}{v:Bool->Ch->br}(h:E3 is st=E5 st v):∀(b:Bool)(c:Ch),c≠.nl->aR is (st b c)=(v b c,aj (st b c)):=by
 intro b c d
 simp only [E3,E5,NA,and_true] at h
 refine bp fun C a=>?_;obtain ⟨e,f,g,i,h4,j,k,l,m,n⟩:=h;apply a;clear a
 cases b<;>cases c<;>first|assumption|exact absurd rfl d
noncomputable def j4{β:Type}(F:Sg->β):List β:=[F .q,F .b,F .s,F .k]
noncomputable def j5{β:Type}(F:Sg->β):List β:=[F .q,F .b,F .s,F .k]
theorem lE{β:Type}{F G:Sg->β}(h:j4 F=j5 G)(x:Sg):F x=G x:=by
 injection h with h0 h
 injection h with h1 h
 injection h with h2 h
 injection h with h3 h
 cases x<;>assumption
theorem q_BSS{α:Type}{X Y:Bool->Sg->Sg->α}(h:(aK fun a=>j4 fun b=>j4 fun c=>X a b c)=aM fun a=>j5 fun b=>j5 fun c=>Y a b c):∀a b c,X a b c=Y a b c:=fun a b c=>lE (lE (aS h a) b) c
theorem q_BS{α:Type}{X Y:Bool->Sg->α}(h:(aK fun a=>j4 fun b=>X a b)=aM fun a=>j5 fun b=>Y a b):∀a b,X a b=Y a b:=fun a b=>lE (aS h a) b
theorem Iz{is:LN}{st:Bool->Sg->an}{v:Bool->Sg->br}(h:(aK fun a=>j4 fun b=>aR is (st a b))=aM fun a=>j5 fun b=>(v a b,aj (st a b))):∀(a:Bool)(b:Sg),aR is (st a b)=(v a b,aj (st a b)):=fun a b=>lE (aS h a) b
theorem Hj{is:LN}{st:Bool->Sg->Sg->an}{v:Bool->Sg->Sg->br}(h:(aK fun a=>j4 fun b=>j4 fun c=>aR is (st a b c))=aM fun a=>j5 fun b=>j5 fun c=>(v a b c,aj (st a b c))):∀(a:Bool)(b:Sg)(c:Sg),aR is (st a b c)=(v a b c,aj (st a b c)):=fun a b c=>lE (lE (aS h a) b) c
def ed(s:L4):Lg:=sx s 0
noncomputable def yr(e:Lg):Rl:=(ym e).a
def yt(e:Lg):Lg:=ex e 0
noncomputable def sO(e:Lg):Scope:=(ym e).c
def zv(s:L4):Lg:=sx s 0
def aC(s:L4)(it:Nat)(env:Env):Mk:=.forLoop (zv s) (.ref it) (ai s) (eB s) env
structure LexA where
 l:Nat
 ld:Nat
 s:Nat
 sd:Nat
 lam:Nat
 code:Nat
 cell:Nat
 left:Nat
 pb:Nat
 spb:Nat
structure LexX where
 c0:Lc
 cq:Str
 ct:Nat
 cr:LV
 tup:Lc
def zw:Lg:=ed (ax (ai (ax bd 20)) 2)
abbrev aU(A:LexA)(X:LexX)(a b d:ab)(n:Int)(c:LV):Mem:=[
 (A.l,cu 234 A.ld),
 (A.ld,av [([108,105,110,101,110,111],.int n (a.t 0)),([105,110,115,116,114,101,97,109],.ref A.s),(yi,sv [10,9,13,32] (a.t 2)),([112,117,115,104,98,97,99,107],.ref A.pb)] a),
 (A.s,cu 234 A.sd),
 (A.sd,av [([108,105,110,101,110,111],.int 1 (b.t 0)),([105,110,115,116,114,101,97,109],.none),(yi,sv [10,9,13,32] (b.t 2)),([112,117,115,104,98,97,99,107],.ref A.spb),(ey,.ref A.lam)] b),
 (A.lam,{ cls:=.type "function",data:=.func { name:=⟨⟨sn⟩⟩,qualname:=⟨⟨Cz⟩⟩,params:=yr zw,body:=.expr (yt zw),scope:=sO zw,globals:=3,closure:=[(⟨#[108,101,102,116]⟩,A.cell)],defaults:=.none,kwdefaults:=.none,doc:=.none,pyModule:=.str ⟨⟨oR⟩⟩ 769,annotations:=Lk,code:=.ref A.code,closureTuple:=X.tup,builtins:=0 } }),
 (A.code,{ cls:=.type "code",data:=.fields ⟨X.c0 :: .str X.cq X.ct::X.cr⟩ }),
 (A.cell,ad (Ld (.ref A.left))),
 (A.left,aa c d.e)]
noncomputable def au:Obj:={ cls:=.none,data:=.fields #[] }
def eG(A:L9)(L:Nat):Prop:=A.depth + 20 * (L + 1) < OX/\A.units + 100 * (L + 1) < P9
theorem eG.mono{A:L9}{L L':Nat}(h:eG A L)(l:L'<=L):eG A L':=⟨oK l h.1,oK l h.2⟩
theorem eG.zero{A:L9}(h:eG A 0):bX A 0:=⟨fun q=>absurd q (NN 0),h.1,h.2⟩
def vm(prog:LU)(w:Lj)(kt:KT)(L:Nat)(c':Mk)(a:Mem)(c:bI):Prop:=
 ∀(A:L9)(g h:ME)(G:Array Mi)(D:Nn)(O:Mq)(N T:Nat)(R:Lm->Ly->Prop),eG A L->kt.Holds g 1 0->g.NoLimit->Rep g h N a ->
  (∀r os b e f d,c r os b->os.length=a.length->Rep g d e ((a.map (·.1)).zip os++b)->R r ⟨d,G,D,f,O⟩)->Mm (Lw prog w) A c' R ⟨h,G,D,T,O⟩
section
variable(S:Qd)(kt:KT)(hd0:Option Lc)
def zx(hs:Nat)(c':Mk)(M:Mem)(N T:Nat):an:=gC kt (md S kt hd0 100000) hs c' .base M N T []
def vn(hs:Nat)(st:an)(a:Io):an:=match st with
 | .ask _ is κ M _ _ _ _=>match κ with
  | .base=>match a.r with
   | .ok f=>.fin (.done f) (dU 0 M (is.zip a.os)++a.news) a.N a.T []
   | .error e=>.err e (dU 0 M (is.zip a.os)++a.news) a.N a.T []
  | .ret c _ k b=>md S kt hd0 100000 hs c b (k a.r) (dU 0 M (is.zip a.os)++a.news) a.N a.T []
  | .enter _=>.bad 40
 | _=>.bad 41
end
section
variable{prog:LU}{w:Lj}{kt:KT}{A₀:L9}{R₀:Lm->Ly->Prop}{g:ME}{G:Array Mi}{D:Nn}{O:Mq}{L:Nat}
theorem mw(a:eG A₀ L)(b:kt.Holds g 1 0)(c:g.NoLimit):Cd kt A₀.handled A₀ g:=⟨b,c,rfl,oK (MJ _) a.1⟩
theorem sR{st:an}{c':(Nat->Obj)->Mk}{a:(Nat->Obj)->Mem}{d:(Nat->Obj)->bI}(t:eG A₀ 1)(x:kt.Holds g 1 0)(y:g.NoLimit)(C:∀o,mj prog w kt 0 (c' o) (a o) (d o))(i:aR [] st=(.ask (c' (ah st)) (a (ah st)),aj st))(next:∀r os b n q,d (ah st) r os b->os.length=(a (ah st)).length->∃hs,cU prog w A₀ R₀ g G D O (vn ⟨prog,w.params⟩ kt A₀.handled hs st ⟨r,os,b,n,q⟩)):cU prog w A₀ R₀ g G D O st:=by
 have he:=c8 i
 have i:=cz i
 have C:=C (ah st)
 generalize c' (ah st)=E at *
 generalize a (ah st)=L at *
 generalize d (ah st)=N at *
 have z:=aw [] st
 rw [i] at z
 clear i;cases z with
 | @ask E is κ M I J F hs l A K hf=>
  clear i;obtain ⟨hd,hf⟩:=aW hf
  refine .mk ⟨ck he,fun h R=>?_⟩
  have hm:=foot?_mem hf
  have j:=foot?_len hf
  have nd:=aN R.nd hf hd
  have v:bX (aQ A₀ κ) 0:=by
   refine eG.zero ⟨?_, ?_⟩
   .rw [bV]
    exact oL (LS (LL (Mh (LP (LY.mp A).1)) (by decide:16<=20)) _) t.1
   .rw [cm]
    exact oL (LS (Mh (LP (LY.mp A).2)) _) t.2
  refine C _ _ _ _ _ _ _ _ _ v (Ml (R.hideKeep hm) x) (y.keeps (R.hideKeep hm)) (R.hide hm nd) fun r os b n q s hp m B=>?_
  clear v;obtain ⟨H,⟨z⟩⟩:=next r os b n q hp m
  have p:=R.put hf (m.trans j) B
  cases κ with
  | base=>
   cases r with
   | ok f=>exact z.2 s p
   | error e=>exact z.2 s p
  | ret c hd k u=>exact (bE (mw t x y) _ _ _ _ _ _ _ _ _ z).2 s p
  | enter u=>exact z.elim
theorem jE{c':Mk}{a:Mem}{c:bI}(H:∀(A₀:L9)(R₀:Lm->Ly->Prop)(g:ME)(G:Array Mi)(D:Nn)(O:Mq)(N T:Nat),eG A₀ L->kt.Holds g 1 0->g.NoLimit ->
   (∀r os b k l j,c r os b->os.length=a.length->Rep g j k ((a.map (·.1)).zip os++b)->R₀ r ⟨j,G,D,l,O⟩) ->
   ∃hs,cU prog w A₀ R₀ g G D O (zx ⟨prog,w.params⟩ kt A₀.handled hs c' a N T)):vm prog w kt L c' a c:=by
 intro A g h G D O N T R e f i m d
 obtain ⟨hs,⟨z⟩⟩:=H A R g G D O N T e f i d
 exact (b8 (mw e f i) (κ:=.base) (bE (mw e f i) 100000) rfl z).2 h m
end
noncomputable def sS(a:Lg)(d:Pos)(c:List L4)(env:Env):Sem Fin:=
 NO a env (M6 a env) >>= fun b=>match b with
  | true=>O5 d >>= fun V=>(L5 c env).attempt >>= fun r=>match r with
   | .ok _=>Ob (.done .brk)
   | .error e=>Ob (.done (.ret e))
  | false=>Ob (.done .cont)
theorem Rep.pickL{g h:ME}{N:Nat}{M L lows:Mem}(is:LN)(R:Rep g h N (M++lows))(e:co M is=Ld L):Rep g h N (L++lows):=by
 obtain ⟨hd,hf⟩:=aW e
 have hm:=foot?_mem hf
 have c:=R.nd
 rw [LC] at c
 refine R.sub (fun p hp=>?_) ?_
 .rcases MA.mp hp with hp|hp
  .exact Lu _ (hm p hp)
  .exact LB _ hp
 .rw [LC]
  refine LK.mpr ⟨aN (LK.mp c).1 hf hd,(LK.mp c).2.1,fun a f b i d=>?_⟩
  obtain ⟨p,hp,rfl⟩:=LE.mp f
  exact (LK.mp c).2.2 _ (Md (hm p hp)) _ i d
section
variable{prog:LU}{w:Lj}{kt:KT}{L:Nat}{c:Mk}{t:Sem Fin}{foot M lows:Mem}{p:bI}
theorem vm.row(C:vm prog w kt L c foot p)(is:LN)(e:co M is=Ld foot){A:L9}{g h:ME}{G:Array Mi}{D:Nn}{O:Mq}{N T:Nat}{R:Lm->Ly->Prop}(u:eG A L)(x:kt.Holds g 1 0)(y:g.NoLimit)(v:Rep g h N (M++lows))(l:∀r os a j k i,p r os a->os.length=foot.length->Rep g i j (dU 0 M (is.zip os)++(a++lows))->R r ⟨i,G,D,k,O⟩):Mm (Lw prog w) A c R ⟨h,G,D,T,O⟩:=by
 obtain ⟨hd,hf⟩:=aW e
 obtain ⟨f,n⟩:=v.tail
 have hm:=foot?_mem hf
 have m:=fun b o (q:g.get? b=Ld o)=>f.hideKeep hm b o (n.keep b o q)
 exact C A _ h G D O N T R u (Ml m x) (y.keeps m) (f.hide hm (aN f.nd hf hd)) fun r os a j k i hp d s=>l r os a j k i hp d (by
  have:=n.rep (f.put hf (d.trans (foot?_len hf)) s)
  rwa [Lr] at this)
theorem EY.row(C:EY prog w kt L c t foot p)(is:LN)(e:co M is=Ld foot){A:L9}{g h:ME}{G:Array Mi}{D:Nn}{O:Mq}{N T:Nat}{R:Lm->Ly->Prop}(u:bX A L)(x:kt.Holds g 1 0)(y:g.NoLimit)(v:Rep g h N (M++lows))(l:∀r os a j k i,p r os a->os.length=foot.length->Rep g i j (dU 0 M (is.zip os)++(a++lows))->R r ⟨i,G,D,k,O⟩):NE (Lw prog w) A c t (PR prog w A R) (Qw R) ⟨h,G,D,T,O⟩:=by
 obtain ⟨hd,hf⟩:=aW e
 obtain ⟨f,n⟩:=v.tail
 have hm:=foot?_mem hf
 have m:=fun b o (q:g.get? b=Ld o)=>f.hideKeep hm b o (n.keep b o q)
 exact C A _ h G D O N T R u (Ml m x) (y.keeps m) (f.hide hm (aN f.nd hf hd)) fun r os a j k i hp d s=>l r os a j k i hp d (by
  have:=n.rep (f.put hf (d.trans (foot?_len hf)) s)
  rwa [Lr] at this)
theorem mj.row(C:mj prog w kt L c foot p)(fr:List Env)(is:LN)(e:co M is=Ld foot):aO prog w kt fr L c (M++lows) (fun r l=>∃os a,p r os a/\os.length=foot.length/\l=dU 0 M (is.zip os)++(a++lows)):=by
 intro A g h G D O N T R v y z B x i
 obtain ⟨hd,hf⟩:=aW e
 obtain ⟨f,k⟩:=x.tail
 have hm:=foot?_mem hf
 have j:=fun b o (q:g.get? b=Ld o)=>f.hideKeep hm b o (k.keep b o q)
 exact C A _ h G D O N T R v (Ml j z) (B.keeps j) (f.hide hm (aN f.nd hf hd)) fun r os a m s u hp d n=>i r _ m s u ⟨os,a,hp,d,rfl⟩ (by
  have:=k.rep (f.put hf (d.trans (foot?_len hf)) n)
  rwa [Lr] at this)
end
section
variable{M:Model}{A:L9}{E:Lc->Ly->Prop}{Q:Unit->Ly->Prop}{g h:ME}{G:Array Mi}{D:Nn}{O:Mq}{N T:Nat}
include M A E Q g h G D O N T
theorem j6{env:Env}{b:List Env}{F e:Nat}{frs Mr:Mem}{cls:Lc}{d:Option Nat}{i:Array (Option Lc)}{c:Lc}{vs:LV}(q:A.frames=Ld (env::b))(hf:env.frame=Ld F)(v:dG (env::b) frs)(R:Rep g h N (frs++(e,{ cls:=cls,dict:=d,data:=.fields ⟨c :: .none::vs⟩,slots:=i })::Mr))
  (H:∀w a j,o6 frs a->Rep g w (N + 1) (a++(e,{ cls:=cls,dict:=d,data:=.fields ⟨c :: .ref N::vs⟩,slots:=i })::(N,az "traceback" (.none :: .ref F :: .none::MQ F::j))::Mr)->Q () ⟨w,G,D,T,O⟩) :
  L7 M A (Nc (.ref e) env) Q E ⟨h,G,D,T,O⟩:=by
 have J:Sj h g (env::b):=v.fun fun p hp=>R.own p (Lu _ hp)
 have he:=R.own (e,{ cls:=cls,dict:=d,data:=.fields ⟨c :: .none::vs⟩,slots:=i }) (LB _ (.head _))
 dsimp only [Nc]
 simp only [hf]
 refine Le (L8 he.1 rfl (x:=.none) rfl ?_)
 refine Le (Sy q J hf fun y l=>?_)
 rw [v.frames] at l
 refine bj (fun a C=>?_) (R.slots l);obtain ⟨K,u⟩:=C
 refine Le (Sp fun k s=>?_)
 dsimp only [Qm,newFields]
 refine Le (Mg ?_ (s.sizeOk5 _ _ _ _ _))
 have m:=u.alloc (o:={ cls:=.type "traceback",dict:=Lk,data:=.fields ([L3,.ref F,.none,MQ F,.none]++(if k.isEmpty then Om 6 L3 else k)).toArray }) rfl
 have I:=u.size
 show L7 _ _ _ _ _ (⟨y.push _,G,D,T,O⟩ : Ly)
 generalize t:(L3::(if k.isEmpty then Om 6 L3 else k))=j
 have r:({ cls:=.type "traceback",dict:=Lk,data:=.fields ([L3,.ref F,.none,MQ F,.none]++(if k.isEmpty then Om 6 L3 else k)).toArray } : Obj)=az "traceback" (.none :: .ref F :: .none::MQ F::j):=by
  rw [<- t]
  simp
 rw [r] at m ⊢
 have z:(a++(e,({ cls:=cls,dict:=d,data:=.fields ⟨c :: .none::vs⟩,slots:=i } : Obj))::Mr++[(N,az "traceback" (.none :: .ref F :: .none::MQ F::j))])[a.length]? = Ld (e,{ cls:=cls,dict:=d,data:=.fields ⟨c :: .none::vs⟩,slots:=i }):=by
  rw [Lr,Mf (Lf _)]
  simp
 refine MS (m.get z) rfl (by show 1 < (c :: .none::vs).length;simp) ?_
 have n:=m.update (f:=LM (·.setIfInBounds 1 (Lv y.objs.size))) z rfl
 refine H _ a j K ?_
 rw [I] at n ⊢
 have B:(a++(e,({ cls:=cls,dict:=d,data:=.fields ⟨c :: .none::vs⟩,slots:=i } : Obj))::Mr++[(N,az "traceback" (.none :: .ref F :: .none::MQ F::j))]).set a.length (e,LM (·.setIfInBounds 1 (Lv N)) { cls:=cls,dict:=d,data:=.fields ⟨c :: .none::vs⟩,slots:=i }) =
   a++(e,{ cls:=cls,dict:=d,data:=.fields ⟨c :: .ref N::vs⟩,slots:=i })::(Mr++[(N,az "traceback" (.none :: .ref F :: .none::MQ F::j))]):=by
  rw [Lr,Ot _ _ (Lf _)]
  simp [LM]
 rw [B] at n
 exact n.perm (MR _ (Rf _ (MU (l₂:=[_]))))
theorem gG{e a:Nat}{j Mr:Mem}{cls:Lc}{m:Option Nat}{n:Array (Option Lc)}{k b c d l:Lc}{vs i:LV}(R:Rep g h N (j++(e,{ cls:=cls,dict:=m,data:=.fields ⟨k :: .ref a::vs⟩,slots:=n })::(a,az "traceback" (b::c::d::l::i))::Mr))
  (H:∀p,Rep g p N (j++(e,{ cls:=cls,dict:=m,data:=.fields ⟨k :: .ref a::vs⟩,slots:=n })::(a,az "traceback" (b::c::d :: .none::i))::Mr)->Q () ⟨p,G,D,T,O⟩) :
  L7 M A (OT (.ref e) Lk) Q E ⟨h,G,D,T,O⟩:=by
 have he:=R.own (e,{ cls:=cls,dict:=m,data:=.fields ⟨k :: .ref a::vs⟩,slots:=n }) (LB _ (.head _))
 unfold OT
 refine Le (L8 he.1 rfl (x:=.ref a) rfl ?_)
 rw [if_pos (show (Lv a != L3)=Lh from by simp)]
 have q:(j++(e,({ cls:=cls,dict:=m,data:=.fields ⟨k :: .ref a::vs⟩,slots:=n } : Obj))::(a,az "traceback" (b::c::d::l::i))::Mr)[j.length + 1]? = Ld (a,az "traceback" (b::c::d::l::i)):=by
  rw [Mf (by kd_p)]
  simp
 refine MS (R.get q) rfl (by show 3 < (b::c::d::l::i).length;simp) ?_
 have o:=R.update (f:=LM (·.setIfInBounds 3 ((Lk:Option O7).elim L3 fun f=>MQ f))) q rfl
 refine H _ ?_
 have r:(j++(e,({ cls:=cls,dict:=m,data:=.fields ⟨k :: .ref a::vs⟩,slots:=n } : Obj))::(a,az "traceback" (b::c::d::l::i))::Mr).set (j.length + 1) (a,LM (·.setIfInBounds 3 ((Lk:Option O7).elim L3 fun f=>MQ f)) (az "traceback" (b::c::d::l::i))) =
   j++(e,{ cls:=cls,dict:=m,data:=.fields ⟨k :: .ref a::vs⟩,slots:=n })::(a,az "traceback" (b::c::d :: .none::i))::Mr:=by
  rw [Ot _ _ (by kd_p)]
  simp [LM]
 rw [r] at o
 exact o
theorem q9{env:Env}{c:List Env}{F e a:Nat}{frs Mr:Mem}{cls:Lc}{m:Option Nat}{n:Array (Option Lc)}{i j k l:Lc}{vs q:LV}(z:A.frames=Ld (env::c))(hf:env.frame=Ld F)(K:dG (env::c) frs)(R:Rep g h N (frs++(e,{ cls:=cls,dict:=m,data:=.fields ⟨i :: .ref a::vs⟩,slots:=n })::(a,az "traceback" (j::k::l :: .none::q))::Mr))
  (H:∀L b d,o6 frs b->Rep g L (N + 1) (b++(e,{ cls:=cls,dict:=m,data:=.fields ⟨i :: .ref N::vs⟩,slots:=n })::(N,az "traceback" (.ref a :: .ref F :: .none::MQ F::d))::(a,az "traceback" (j::k::l :: .none::q))::Mr)->Q () ⟨L,G,D,T,O⟩) :
  L7 M A (Nc (.ref e) env) Q E ⟨h,G,D,T,O⟩:=by
 have he:=R.own (e,{ cls:=cls,dict:=m,data:=.fields ⟨i :: .ref a::vs⟩,slots:=n }) (LB _ (.head _))
 have r:(frs++(e,({ cls:=cls,dict:=m,data:=.fields ⟨i :: .ref a::vs⟩,slots:=n } : Obj))::(a,az "traceback" (j::k::l :: .none::q))::Mr)[frs.length + 1]? = Ld (a,az "traceback" (j::k::l :: .none::q)):=by
  rw [Mf (by kd_p)]
  simp
 dsimp only [Nc]
 simp only [hf]
 refine Le (L8 he.1 rfl (x:=.ref a) rfl ?_)
 refine Le (L8 (R.get r) rfl (x:=.none) rfl ?_)
 refine Le (MS (R.get r) rfl (by show 3 < (j::k::l :: .none::q).length;simp) ?_)
 have u:=R.update (f:=LM (·.setIfInBounds 3 L3)) r rfl
 have U:(frs++(e,({ cls:=cls,dict:=m,data:=.fields ⟨i :: .ref a::vs⟩,slots:=n } : Obj))::(a,az "traceback" (j::k::l :: .none::q))::Mr).set (frs.length + 1) (a,LM (·.setIfInBounds 3 L3) (az "traceback" (j::k::l :: .none::q))) =
   frs++(e,{ cls:=cls,dict:=m,data:=.fields ⟨i :: .ref a::vs⟩,slots:=n })::(a,az "traceback" (j::k::l :: .none::q))::Mr:=by
  simp [LM]
 rw [U] at u
 generalize h.update a (LM (·.setIfInBounds 3 L3))=y at u ⊢
 have Y:Sj y g (env::c):=K.fun fun p hp=>u.own p (Lu _ hp)
 refine Le (Sy z Y hf fun P t=>?_)
 rw [K.frames] at t
 refine bj (fun b y=>?_) (u.slots t);obtain ⟨Z,J⟩:=y
 refine Le (Sp fun s C=>?_)
 dsimp only [Qm,newFields]
 refine Le (Mg ?_ (C.sizeOk5 _ _ _ _ _))
 have v:=J.alloc (o:={ cls:=.type "traceback",dict:=Lk,data:=.fields ([Lv a,.ref F,.none,MQ F,.none]++(if s.isEmpty then Om 6 L3 else s)).toArray }) rfl
 have X:=J.size
 show L7 _ _ _ _ _ (⟨P.push _,G,D,T,O⟩ : Ly)
 generalize I:(L3::(if s.isEmpty then Om 6 L3 else s))=d
 have B:({ cls:=.type "traceback",dict:=Lk,data:=.fields ([Lv a,.ref F,.none,MQ F,.none]++(if s.isEmpty then Om 6 L3 else s)).toArray } : Obj)=az "traceback" (.ref a :: .ref F :: .none::MQ F::d):=by
  rw [<- I]
  simp
 rw [B] at v ⊢
 have S:(b++(e,({ cls:=cls,dict:=m,data:=.fields ⟨i :: .ref a::vs⟩,slots:=n } : Obj))::(a,az "traceback" (j::k::l :: .none::q))::Mr++[(N,az "traceback" (.ref a :: .ref F :: .none::MQ F::d))])[b.length]? = Ld (e,{ cls:=cls,dict:=m,data:=.fields ⟨i :: .ref a::vs⟩,slots:=n }):=by
  rw [Lr,Mf (Lf _)]
  simp
 refine MS (v.get S) rfl (by show 1 < (i :: .ref a::vs).length;simp) ?_
 have w:=v.update (f:=LM (·.setIfInBounds 1 (Lv P.objs.size))) S rfl
 refine H _ b d Z ?_
 rw [X] at w ⊢
 have W:(b++(e,({ cls:=cls,dict:=m,data:=.fields ⟨i :: .ref a::vs⟩,slots:=n } : Obj))::(a,az "traceback" (j::k::l :: .none::q))::Mr++[(N,az "traceback" (.ref a :: .ref F :: .none::MQ F::d))]).set b.length (e,LM (·.setIfInBounds 1 (Lv N)) { cls:=cls,dict:=m,data:=.fields ⟨i :: .ref a::vs⟩,slots:=n }) =
   b++(e,{ cls:=cls,dict:=m,data:=.fields ⟨i :: .ref N::vs⟩,slots:=n })::((a,az "traceback" (j::k::l :: .none::q))::Mr++[(N,az "traceback" (.ref a :: .ref F :: .none::MQ F::d))]):=by
  rw [Lr,Ot _ _ (Lf _)]
  simp [LM]
 rw [W] at w
 exact w.perm (MR _ (Rf _ (MU (l₂:=[_]))))
theorem nB{env:Env}{b:List Env}{F e:Nat}{frs Mr:Mem}{cls:Lc}{k:Option Nat}{l:Array (Option Lc)}{j:Lc}{vs:LV}(d:A.frames=Ld (env::b))(hf:env.frame=Ld F)(o:dG (env::b) frs)(R:Rep g h N (frs++(e,{ cls:=cls,dict:=k,data:=.fields ⟨j :: .none::vs⟩,slots:=l })::Mr))
  (H:∀c a i f,o6 frs a->Rep g c (N + 1) (a++(e,{ cls:=cls,dict:=k,data:=.fields ⟨j :: .ref i::vs⟩,slots:=l })::(i,az "traceback" (.none :: .ref F :: .none :: .none::f))::Mr)->Q () ⟨c,G,D,T,O⟩) :
  L7 M A (Po env (.ref e)) Q E ⟨h,G,D,T,O⟩:=by
 unfold Po
 refine Le (j6 d hf o R fun c a f q m=>?_)
 exact gG m fun p n=>H p a N f q n
end
section
variable{prog:LU}{w:Lj}{A:L9}{R:Lm->Ly->Prop}{s:Ly}
include prog w A R s
theorem ra{c:Lg}{i:List L4}{g:MD}{hs:List MD}{j:Pos}{a:List L4}{env:Env}(J:NE (Lw prog w) A (.whileLoop c [.Try i (g::hs) [] [] j] a env) (sS c j i env) (fun r L=>∀f,r=.done f->∃e,f=.ret e /\
   L7 (Lw prog w) A (Nc e env) (fun V u=>L7 (Lw prog w) A (OT e Lk) (fun V l=>L7 (Lw prog w) A (RQ e env (g::hs)) (fun f o=>f=.next/\Mm (Lw prog w) A (.whileLoop c [.Try i (g::hs) [] [] j] a env) R o)
    (fun V V=>False) l) (fun V V=>False) u) (fun V V=>False) L) (fun V V=>False) s) :
  Mm (Lw prog w) A (.whileLoop c [.Try i (g::hs) [] [] j] a env) R s:=by
 refine PD (prog:=prog) (w:=w) A R s _ ?_
 intro Γ p y k
 have H:=J Γ p y k
 unfold sS at H
 rw [<- NP,<- M7,<- Mc] at H
 show Mz (Lw prog w) Γ ((PF c [.Try i (g::hs) [] [] j] a env).onRaise (fun x=>do Nc x env;OP x)) _ _ p s
 rw [Ny]
 unfold PF
 rw [Lp] at H ⊢
 refine Lt (Lw prog w) Γ _ (fun b z C m=>?_) (fun V V V x=>x.elim) p s H
 cases b with
 | false=>exact absurd (m _ rfl) (by rintro ⟨e,h,_⟩;cases h)
 | true=>
  dsimp only at m
  rw [Lp] at m
  show Mz (Lw prog w) Γ (OH [.Try i (g::hs) [] [] j] env >>= _) _ _ z C
  rw [Lp,Na,Lp,arm_exec_Try,Lp]
  refine Lt (Lw prog w) Γ _ (fun V K u v=>?_) (fun V V V x=>x.elim) z C m
  rw [Lp,Pq] at v
  dsimp only [tryStmt]
  simp only [O2,if_true,Rx,So,Nf,if_false]
  rw [Lp,Pq]
  refine Lt (Lw prog w) Γ _ (fun f n l q=>?_) (fun e n l q=>?_) K u v
  .exact absurd (q _ rfl) (by rintro ⟨e,h,_⟩;cases h)
  .obtain ⟨e',h,D⟩:=q _ rfl
   cases h
   have d:Γ.In A:=by have:=k.in;rw [y] at this;exact this
   show Mz (Lw prog w) Γ (Nc e env >>= _) _ _ n l
   rw [Lp]
   refine Lt (Lw prog w) Γ _ (fun V t o E=>?_) (fun V V V x=>x.elim) n l (D Γ n d)
   show Mz (Lw prog w) Γ (OT e Lk >>= _) _ _ t o
   rw [Lp]
   refine Lt (Lw prog w) Γ _ (fun V B M F=>?_) (fun V V V x=>x.elim) t o (E Γ t d)
   refine Lt (Lw prog w) Γ _ (fun f N O G=>?_) (fun V V V x=>x.elim) B M (F Γ B d)
   obtain ⟨rfl,I⟩:=G
   exact ⟨rfl,I⟩
noncomputable def Ci(a:Lg)(c:L4)(env:Env):Sem Fin:=
 NO a env (M6 a env) >>= fun b=>match b with
  | true=>L5 [c] env >>= fun f=>Ob (.done f)
  | false=>Ob (.done .cont)
theorem rc{c j:Lg}{e:L4}{g i a:List L4}{k:Pos}{env:Env}(I:NE (Lw prog w) A (.whileLoop c [e,.While j g i k] a env) (Ci c e env) (fun u F=>∀f,u=.done f ->
   (f=.next/\Mm (Lw prog w) A (.whileLoop j g i env) (fun r d=>(r=.ok .next/\Mm (Lw prog w) A (.whileLoop c [e,.While j g i k] a env) R d)∨(r=.ok .brk/\R (.ok .next) d)) F)∨(∃v,f=.ret v/\R (.ok (.ret v)) F)) (fun V V=>False) s) :
  Mm (Lw prog w) A (.whileLoop c [e,.While j g i k] a env) R s:=by
 refine PD (prog:=prog) (w:=w) A R s _ ?_
 intro Γ p B m
 have H:=I Γ p B m
 unfold Ci at H
 rw [<- NP,<- M7,<- Mc] at H
 show Mz (Lw prog w) Γ ((PF c [e,.While j g i k] a env).onRaise (fun x=>do Nc x env;OP x)) _ _ p s
 rw [Ny]
 unfold PF
 rw [Lp] at H ⊢
 refine Lt (Lw prog w) Γ _ (fun b C n o=>?_) (fun V V V x=>x.elim) p s H
 cases b with
 | false=>
  obtain ⟨h,_⟩ | ⟨v,h,_⟩:=o _ rfl
  .cases h
  .cases h
 | true=>
  have z:Γ.In A:=by have:=m.in;rw [B] at this;exact this
  show Mz (Lw prog w) Γ (OH [e,.While j g i k] env >>= _) _ _ C n
  rw [Lp,Na,Lp]
  dsimp only at o
  rw [Lp,Na,Lp] at o
  refine Lt (Lw prog w) Γ _ (fun f D d t=>?_) (fun V V V x=>x.elim) C n o
  cases f with
  | next=>
   obtain ⟨_,l⟩ | ⟨v,h,_⟩:=t _ rfl
   .dsimp only
    rw [Na,Lp]
    refine Lt (Lw prog w) Γ _ (fun f J K G=>?_) (fun V V V x=>x.elim) D d (wpAny_While (Q:=fun f d=>(f=.next/\Mm (Lw prog w) A (.whileLoop c [e,.While j g i k] a env) R d)∨(f=.brk/\R (.ok .next) d)) (E:=fun V V=>False) (codeAny_mono l fun r d q=>?_) Γ D z)
    .rcases G with ⟨rfl,y⟩ | ⟨rfl,y⟩
     .exact ⟨rfl,y⟩
     .exact y
    .rcases q with ⟨rfl,q⟩ | ⟨rfl,q⟩
     .exact .inl ⟨rfl,q⟩
     .exact .inr ⟨rfl,q⟩
   .cases h
  | ret v=>
   obtain ⟨h,_⟩ | ⟨v',h,l⟩:=t _ rfl
   .cases h
   .cases h
    exact l
  | brk=>
   obtain ⟨h,_⟩ | ⟨v',h,l⟩:=t _ rfl<;>cases h
  | cont=>
   obtain ⟨h,_⟩ | ⟨v',h,l⟩:=t _ rfl<;>cases h
noncomputable def sT(body:List L4)(env:Env):Sem Fin:=
 point >>= fun V=>L5 body env >>= fun f=>match f with
  | .ret v=>ret v
  | _=>ret .none
theorem o9{body:List L4}{env:Env}(l:NE (Lw prog w) A (.func body env) (sT body env) (fun c h=>∀f,c=.done f->R (.ok f) h) (fun e h=>L7 (Lw prog w) (A.under (.func body env)) (Po env e) (fun V b=>R (.error e) b) (fun V V=>False) h) s) :
  Mm (Lw prog w) A (.func body env) R s:=by
 refine PD (prog:=prog) (w:=w) A R s _ ?_
 intro Γ p k a
 have H:=l Γ p k a
 unfold sT at H
 rw [<- Mc] at H
 have d:Γ.In (A.under (.func body env)):=by have:=a.in;rwa [k] at this
 show Mz (Lw prog w) Γ (point >>= fun V=>(OH body env).onRaise (Po env) >>= fun f=>match f with
  | .ret v=>ret v
  | _=>ret .none) _ _ p s
 have i:Mz (Lw prog w) Γ (OH body env >>= fun f=>match f with
  | .ret v=>ret v
  | _=>ret .none) _ _ p s:=H
 show Mz (Lw prog w) Γ ((OH body env).onRaise (Po env) >>= fun f=>match f with
  | .ret v=>ret v
  | _=>ret .none) _ _ p s
 rw [Lp] at i ⊢
 rw [Ny]
 refine Lt (Lw prog w) Γ _ (fun f g b j=>?_) (fun e g b x=>?_) p s i
 .cases f with
  | ret v=>exact j _ rfl
  | _=>exact j _ rfl
 .have:=x Γ g d
  exact Lt (Lw prog w) Γ _ (fun V m n q=>q) (fun V V V x=>x.elim) g b this
end
theorem aX:60000<=M9:=by decide
theorem dY(f:Array Lc->Array Lc){xs ys:LV}(e:Nat)(h:f ⟨xs⟩=⟨ys⟩):∃J:ab,Nb f (aa xs e)=aa ys J.e:=by
 obtain ⟨e',a⟩:=ix f (.type "list") e h
 exact ⟨⟨fun V=>0,fun V=>0,fun V=>0,e'⟩,a⟩
abbrev zy (x0 x1):=(fun b os a=>∃J:ab,b=.ok (.ret x0)/\os=[aa x1 J.e]/\a=[] : bI)
theorem aB(w:Lj)(a b:Bool)(l:Nat)(vs:LV)(v:Lc)(e:Nat)(hz:vs.length < 60000) :
  CT w a b 0 (b9 "list.append" [.ref l,v]) [(l,aa vs e)] (zy .none (vs++[v])):=
 bg (by decide +kernel) F.entry_list_append (Su l ⟨vs⟩ e v (by have:=aX;show vs.length<=_;kd_p)) fun A g h G D O N T R k d c=>by
  refine ⟨d.get (i:=0) rfl, ?_⟩
  obtain ⟨J,j⟩:=dY (fun x=>x.push v) (xs:=vs) (ys:=vs++[v]) e (by simp)
  have z:=d.update (i:=0) (f:=Nb fun x=>x.push v) rfl rfl
  rw [j] at z
  exact c _ [_] [] N T _ ⟨J,rfl,rfl,rfl⟩ rfl z
theorem sU(w:Lj)(a b:Bool)(l m:Nat)(vs c:LV)(e j:Nat)(hz:vs.length + c.length < 60000) :
  CT w a b 0 (b9 "list.extend" [.ref l,.ref m]) [(l,aa vs e),(m,aa c j)] (fun p os d=>∃J:ab,p=.ok (.ret .none)/\os=[aa (vs++c) J.e,aa c j]/\d=[]):=
 bg (by decide +kernel) F.entry_list_extend (SO l ⟨vs⟩ e m ⟨c⟩ j (by
   have:=aX
   simp [Tp]
   intro V
   show vs.length + c.length<=_
   kd_p) (by have:=aX;show vs.length<=_;kd_p) (by have:=aX;show vs.length + c.length<=_;kd_p)) fun A g h G D O N T R q n k=>by
  refine ⟨n.get (i:=0) rfl,n.get (i:=1) rfl, ?_⟩
  obtain ⟨J,o⟩:=dY (fun x=>x++(⟨c⟩ : Array Lc)) (xs:=vs) (ys:=vs++c) e (by simp)
  have z:=n.update (i:=0) (f:=Nb fun x=>x++(⟨c⟩ : Array Lc)) rfl rfl
  rw [o] at z
  exact k _ [_,_] [] N T _ ⟨J,rfl,rfl,rfl⟩ rfl z
theorem dv:Pn "list_iterator.__next__" = Lh:=by decide +kernel
abbrev al(l:Nat)(i:Nat):Obj:=az "list_iterator" [.ref l,.int i 0]
abbrev iX(i:Nat):Obj:=az "list_iterator" [.none,.int i 0]
noncomputable abbrev go (x0 x1):=(fun b os a=>b=.ok x0/\os=x1/\a=[] : bI)
theorem aG(w:Lj)(a b:Bool)(it l i:Nat)(vs:LV)(e:Nat)(v:Lc)(k:vs[i]? = Ld v) :
  CT w a b 0 (b9 "list_iterator.__next__" [.ref it]) [(it,al l i),(l,aa vs e)] (go (.ret v) [al l (i + 1),aa vs e]):=
 bH dv Sf fun A g h G D O N T R n o p d c=>by
  have j:=d.get (i:=0) rfl
  have hL:=d.get (i:=1) rfl
  show L7 _ _ (PQ (.ref it) 0 >>= _) _ _ _
  refine Le (L8 j rfl (x:=.ref l) rfl ?_)
  show L7 _ _ (if (Lv l == L3)=Lh then _ else _) _ _ _
  rw [if_neg (show ¬ ((Lv l == L3)=Lh) from Oe)]
  show L7 _ _ (PQ (.ref it) 1 >>= _) _ _ _
  refine Le (L8 j rfl (x:=.int i 0) rfl ?_)
  show L7 _ _ (SY (.ref l) >>= _) _ _ _
  refine Le (N0 hL rfl ?_)
  have m:(⟨vs⟩ : Array Lc)[(i:Int).toNat]? = Ld v:=by simpa using k
  simp only [m]
  refine Le (MS j rfl (by show 1 < 2;decide) (Lx ?_))
  have z:=d.update (i:=0) (f:=LM (·.setIfInBounds 1 (MQ (i + 1)))) rfl rfl
  exact c _ [_,_] [] N T _ ⟨rfl,rfl,rfl⟩ rfl z
abbrev dZ(a:Nat):Obj:=az "StopIteration" [.ref a,.none,.none,.none,.bool Li,.none]
theorem aP(w:Lj)(a b:Bool)(it l i:Nat)(vs:LV)(e:Nat)(t:vs.length<=i) :
  CT w a b 1 (b9 "list_iterator.__next__" [.ref it]) [(it,al l i),(l,aa vs e)] (fun v os c=>∃(x y:Nat),v=.error (.ref x)/\os=[iX i,aa vs e]/\c=[(x,dZ y)]):=
 bH dv Sf fun A g h G D O N T R s z B k j=>by
  have n:=k.get (i:=0) rfl
  have hL:=k.get (i:=1) rfl
  show L7 _ _ (PQ (.ref it) 0 >>= _) _ _ _
  refine Le (L8 n rfl (x:=.ref l) rfl ?_)
  refine Le (L8 n rfl (x:=.int i 0) rfl ?_)
  refine Le (N0 hL rfl ?_)
  have u:(⟨vs⟩ : Array Lc)[(i:Int).toNat]? = Lk:=by simpa using t
  simp only [u]
  refine Le (Oa (Le (MS n rfl (by show 0 < 2;decide) ?_)))
  have d:=k.update (i:=0) (f:=LM (·.setIfInBounds 0 .none)) rfl rfl
  generalize h.update it (LM (·.setIfInBounds 0 .none))=H at d ⊢
  show L7 _ _ (Qk (.type "StopIteration") [] >>= _) _ _ _
  refine Le ?_
  simp only [Qk,RO]
  refine Le (Mg ?_ (by size_fits))
  refine Le (m:=PA _ _) (OG (a:=L3) (by rfl) ?_)
  refine Mg ?_ (by size_fits)
  simp only [RM]
  refine Le (PP ?_)
  rw [show A.in1.handled=Lk from s.1 (by decide)]
  refine Le (Lx (Qu ?_))
  have r:=d.size
  subst r
  have p:=d.alloc (o:={ cls:=.type "tuple",data:=.seq #[] }) rfl
  have q:=p.alloc (o:=dZ H.objs.size) rfl
  rw [p.size]
  refine j _ [_,_] [(H.objs.size + 1,dZ H.objs.size)] (H.objs.size + 1 + 1) _ _ (jm _ _ ⟨rfl,rfl,rfl⟩) rfl (q.pick (is:=[0,1,3]) (by decide) ?_)
  kernel_rfl
theorem df(x y:LN)(t u:Nat):MeetsSeq.EqGives (sv x t) (sv y u) (decide (x=y)):=fun V V V V V V h=>SV (by
 have : decide ((⟨⟨x⟩⟩ : Str)=⟨⟨y⟩⟩)=decide (x=y):=by
  rw [decide_eq_decide]
  constructor
  .intro h;injection h with h;injection h
  .intro h;rw [h]
 rw [this];exact h)
noncomputable def txt:Lc->LN
 | .str s _=>s.cps.toList
 | _=>[]
theorem af.txt{ss:LLN}{vs:LV}(h:af ss vs):vs.map Mine.txt=ss:=by
 induction h with
 | nil=>rfl
 | cons s t _ a=>rw [Lz,a];rfl
theorem af.mem{ss:LLN}{vs:LV}(h:af ss vs):∀y∈vs,∃t,y=sv (Mine.txt y) t:=by
 induction h with
 | nil=>intro y hy;cases hy
 | cons s t _ a=>
  intro y hy
  rcases LD.mp hy with rfl|hy
  .exact ⟨t,rfl⟩
  .exact a y hy
theorem ff(w:Lj)(a b:Bool)(l:Nat)(vs:LV)(e:Nat)(x:LN)(t:Nat){ss:LLN}(hs:af ss vs) :
  CT w a b 0 (eC "list.__contains__" l x t) [(l,aa vs e)] (fun p os c=>∃v:Bool,p=.ok (.ret (.bool v))/\os=[aa vs e]/\c=[]/\v=ss.contains x):=
 bg (by decide +kernel) F.entry_list_contains (MeetsSeq.list_contains l ⟨vs⟩ e (sv x t) (fun y=>decide (Mine.txt y=x)) (fun y n=>by
   obtain ⟨u,m⟩:=hs.mem y (by simpa using n)
   rw [m]
   exact df _ _ _ _)) fun A g h G D O N T R r j d=>by
  refine ⟨j.get (i:=0) rfl, ?_⟩
  refine d _ [_] [] N T _ ⟨_,rfl,rfl,rfl, ?_⟩ rfl (da j)
  rw [<- hs.txt]
  have f:∀l:LV,(l.any fun y=>decide (Mine.txt y=x))=(l.map Mine.txt).contains x:=by
   intro l
   induction l with
   | nil=>rfl
   | cons y l o=>
    rw [OU,Lz,Py,o]
    congr 1
    by_cases h:Mine.txt y=x
    .simp [h]
    .have k:¬x=Mine.txt y:=fun q=>h q.symm
     simp [h,k]
  simpa using f vs
noncomputable def nC(x y z:LN):LN:=
 if ((MG ⟨⟨x⟩⟩ ⟨⟨y⟩⟩ 0 x.length (x.length + 1)).isEmpty || (y.length == 0 && z.length == 0))=Lh then x
 else (Pi ⟨⟨z⟩⟩ (OC ⟨⟨x⟩⟩ (MG ⟨⟨x⟩⟩ ⟨⟨y⟩⟩ 0 x.length (x.length + 1)) y.length)).cps.toList
abbrev sV (x0):=(fun b os a=>(∃k:Nat,b=.ok (.ret (sv x0 k)))/\os=[]/\a=[] : bI)
noncomputable abbrev sW (x0 x1 x2):=MG ⟨⟨x0⟩⟩ ⟨⟨x1⟩⟩ 0 x2 (x2 + 1)
set_option tactic.hygienic true in
theorem rf(w:Lj)(a b:Bool)(x y z:LN)(t u v:Nat)(i:u≠0)(j:v≠0)(d:u≠v)(e:y≠z)(hz:x.length + (x.length + 1) * z.length < 60000)(c:(nC x y z).length < 60000) :
  CT w a b 0 (b9 "str.replace" [sv x t,sv y u,sv z v]) [] (sV (nC x y z)):=by
 have f:60000<=M9:=aX
 refine bM (fun l=>∃k:Nat,l=.ok (.ret (sv (nC x y z) k))) (by decide +kernel) F.entry_str_replace (gives_str_replace ⟨⟨x⟩⟩ ⟨⟨y⟩⟩ ⟨⟨z⟩⟩ t u v fun V=>⟨by simp [i,j],by simp [d], ?_, ?_⟩) fun s=>?_
 .rw [beq_eq_false_iff_ne]
  intro h;injection h with h;injection h with h;exact e h
 .have f:=StrLaws.occ_length_le ⟨⟨x⟩⟩ ⟨⟨y⟩⟩ 0 x.length (x.length + 1)
  have m:(sW x y x.length).length * z.length<=(x.length + 1) * z.length:=Nat.mul_le_mul_right _ f
  have n:=aX
  unfold Qz
  refine decide_eq_false ?_
  show ¬x.length + _ * z.length > _
  show ¬x.length + (sW x y x.length).length * z.length > _
  kd_p
 .show Made.post (if ((sW x y x.length).isEmpty || (y.length == 0 && z.length == 0))=Lh then _ else _) _ _
  unfold nC at c ⊢
  split
  .exact ⟨⟨t,rfl⟩,rfl,rfl,rfl,rfl⟩
  .rename_i g
   rw [if_neg g] at c
   refine ⟨?_,⟨s.toks,rfl⟩,rfl,rfl,rfl,rfl⟩
   have : (Pi ⟨⟨z⟩⟩ (OC ⟨⟨x⟩⟩ (sW x y x.length) y.length)).length < 60000:=c
   show (Pi ⟨⟨z⟩⟩ (OC ⟨⟨x⟩⟩ (sW x y x.length) y.length)).length<=_
   kd_p
theorem iY(w:Lj)(a b:Bool)(x y z:LN)(t u:Nat)(h:(!decide (y=z) && (RE (x.length + (x.length + 1) * z.length) 60000 && RE (nC x y z).length 60000))=Lh) :
  CT w a b 0 (b9 "str.replace" [sv x t,sv y (u + 3),sv z (u + 4)]) [] (sV (nC x y z)):=by
 have c:=LY.mp h
 have d:=LY.mp c.2
 exact rf w a b x y z t _ _ (RY _) (RY _) (PK (PZ _)) (fun q=>by rw [decide_eq_true q] at c;cases c.1) (LP d.1) (LP d.2)
set_option maxHeartbeats 0
noncomputable def sX(x:Nat):Obj:={ cls:=.none,data:=.fields #[.int 275 0,.int 18 0,.ref x] }
noncomputable abbrev bw (x0 x1):=(.call (.ref x0) ⟨x1,[]⟩ : Mk)
noncomputable abbrev my (x0 x1):=Lc.str (O0 (MT x0)) x1
theorem vo(w:Lj)(a b:Bool)(k:LN)(t:Nat)(hz:k.length < 60000) :
  CT w a b 2 (bw 245 [sv k t]) [(240,au)]
   (fun F os i=>∃(A:LexA)(X:LexX)(u y v:ab)(h:LV)(C x:Nat),F=.ok (.ret (.ref A.l))/\os=[sX x]/\i=aU A X u y v 1 h++[(A.pb,aa [] C)]/\af (k.map fun c=>[c]) h):=by
 refine mn fun n p g G D O N T q r s m=>?_
 refine ⟨144115188616921089, ?_⟩
 refine yn q r s (by generalize b=f;revert f;refine cV ?_;kernel_rfl) ?_
 intro H j
 refine ⟨13229044531716, ?_⟩
 refine bL (q.mono (by decide)) r s (fun o=>o5 w a b k t (N + 2) hz) (by generalize b=f;revert f;refine cV ?_;kernel_rfl) ?_
 intro V V V d e E;refine d9 (fun J vs z=>?_) E;apply y8 z;intro B;intro V
 refine ⟨34607171237369616258394993993023728338757347998415393612821788414605469739715454760462972843560597524605734793860743678574398373511183864401709113420341410811015153833823797637470603428456755371669802322388107801592472814906270560377306211688145642068711823770817194057918294227953377259267419092326084737871342472928012839345915927698407646038643211333043430679499579113093117766264058141083274628847465478758311349928669988515718292194356851062714643601379536280133157195612227858450308815787921997695138988707677497315857256179861256996814528856390610583195718242688883909777887910271765774204451705732425582641539, ?_⟩
 refine gX (is:=[0,17,16,5,4,15,14,2,3,19]) m (fun o τ=>(oy (Mine.LexA.mk (d + 13) (d + 12) (d + 1) d (d + 11) (d + 10) (N + 1) (N + 2) (d + 15) (d + 3)) (Mine.LexX.mk (my sn (e + 13)) (O0 (MT Cz)) (e + 14) [(my cO (e + 15)),(L6 275 0),(L6 1 0),(L6 0 0),(L6 0 0),(L6 19 0),(Lv (d + 5)),(Ov Bool.true),(L6 276 0),(Lv (d + 6)),L3,(Lv (d + 7)),(Lv (d + 8)),(Lv (d + 9)),(L6 (Ll (e + 18)) 0),(L6 275 0),(my cO (e + 19))] (Lv (d + 4))) (ae (o 16)) (ae (o 4)) J vs 0 (d + 10) ⟨rfl,rfl,rfl,B⟩)) rfl (by generalize b=f;revert f;refine cV ?_;kernel_rfl)
section
variable(w:Lj)(a b:Bool)(A:LexA)(X:LexX)(g f d:ab)(n:Int)
include w a b A X g f d n
theorem ds(c:Ch)(t:Nat)(h:LV)(q:c≠.nl)(hz:h.length < 50000) :
  CT w a b 2 (bw 217 [.ref A.l]) (aU A X g f d n (sv [cp c] t::h))
   (fun s os k=>∃m:ab,s=.ok (.ret (sv [cp c] t))/\os=(aU A X g f m n h).map (·.2)/\k=[]):=by
 apply sK b c 0x381042040700285060a04284000c1800000180000000300000030000003000000304000810000001000000002240091200001;intro V N T V u z p st
 apply eD b c 0x38104200081020407;intro o;apply du w a b A.left ([(sv [(cp c)] t)]++h) d.e (by simp only [Ls,Lq,LQ] at *;kd_p);walk_at "lv";intro K;have i:=q;revert i;generalize b=j;generalize c=c';revert j c';refine b5 ?_;kernel_rfl;intro K;intro B v r st
 apply eD b c 309237793929;intro o;apply oZ w a b A.left (sv [(cp c)] t) h d.e r (by kd_p);walk_at "lv";intro K;have i:=q;revert i;generalize b=j;generalize c=c';revert j c';refine b5 ?_;kernel_rfl;intro K;intro e' x y st
 apply zs b c [0,1,2,3,4,5,6,7];apply p;intro o τ;refine ⟨(ae (o 7)),⟨?_, ?_, ?_⟩⟩;apply rfl;apply rfl;apply rfl;rfl;have i:=q;revert i;generalize b=j;generalize c=c';revert j c';refine b5 ?_;kernel_rfl
theorem rh(t:Nat)(c:LV)(hz:c.length < 50000) :
  CT w a b 2 (bw 217 [.ref A.l]) (aU A X g f d n (sv [10] t::c))
   (fun p os h=>∃i j:ab,p=.ok (.ret (sv [10] t))/\os=(aU A X i f j (n + 1) c).map (·.2)/\h=[]):=by
 apply fE b 0x381042040700285060a04284000c1800000180000000300000030000003000000304000810000001000000002240091200001;intro V N T V q v k st
 apply bA b 0x38104200081020407;intro o;apply du w a b A.left ([(sv [10] t)]++c) d.e (by simp only [Ls,Lq,LQ] at *;kd_p);k_all;intro x r m st
 apply bA b 0x90408100020000002000800004000000008000080010200000020000000044800024489;intro o;apply oZ w a b A.left (sv [10] t) c d.e m (by kd_p);k_all;intro e' s u st
 apply fT b [0,1,2,3,4,5,6,7];apply k;intro o τ;refine jm (ae (o 1)) (ae (o 7)) ⟨?_, ?_, ?_⟩;apply rfl;apply rfl;apply rfl;rfl;k_mem
end
def JT:L4:=ax (ai (ax bd 18)) 2
def JU:L4:=ax (ai JT) 3
def IA:L4:=ax (ai (ax (ai JU) 1)) 0
def IB:L4:=ax (eB (ax (ai JU) 1)) 2
def yu(F:Nat):Env:=⟨bY JT,F,3,[],⟨#[95,110,101,116,114,99,108,101,120,46,103,101,116,95,116,111,107,101,110,46,60,108,111,99,97,108,115,62,46]⟩,Ld 224,.ref 223,Ld F,0⟩
abbrev JV(A:LexA)(X:LexX)(e h g:ab)(n:Int)(a:LV)(F d b:Nat)(i:LN)(v:Lc)(c f:ab):Mem:=
 aU A X e h g n a++[(F,aJ [(jo,.ref A.l),([116,111,107,101,110],sv i (c.t 1)),([102,105,116,101,114],.ref b),([99,104],v)] c),
  (d,az "method" [.ref 217,.ref A.l]),(b,az "callable_iterator" [.ref d,sv [] (f.t 1),.bool Li])]
noncomputable def E6:Ch->Bool
 | .s=>Lh | .k=>Lh | .sp=>Lh | _=>Li
noncomputable def JW:Ch->Bool
 | .q=>Lh | .s=>Lh | .k=>Lh | _=>Li
noncomputable def zz:Ch->Bool
 | .s=>Lh | .k=>Lh | _=>Li
def yv(is:LN)(st:Bool->Ch->an):List (br × LN):=[aR is (st Li .s),aR is (st Li .k),aR is (st Li .sp),aR is (st Lh .s),aR is (st Lh .k),aR is (st Lh .sp)]
def yw(st:Bool->Ch->an)(v:Bool->Ch->br):List (br × LN):=[(v Li .s,aj (st Li .s)),(v Li .k,aj (st Li .k)),(v Li .sp,aj (st Li .sp)),(v Lh .s,aj (st Lh .s)),(v Lh .k,aj (st Lh .k)),(v Lh .sp,aj (st Lh .sp))]
section
variable{is:LN}{st:Bool->Ch->an}{v:Bool->Ch->br}
include is st v
theorem mz(h:yv is st=yw st v):∀(b:Bool)(c:Ch),E6 c=Lh->aR is (st b c)=(v b c,aj (st b c)):=by
 intro b c a
 simp only [yv,yw,NA,and_true] at h
 refine Jq (fun d e f g h4 i=>?_) h
 cases b<;>cases c<;>first|assumption|exact PV a
def yx(is:LN)(st:Bool->Ch->an):List (br × LN):=[aR is (st Li .q),aR is (st Li .s),aR is (st Li .k),aR is (st Lh .q),aR is (st Lh .s),aR is (st Lh .k)]
def yy(st:Bool->Ch->an)(v:Bool->Ch->br):List (br × LN):=[(v Li .q,aj (st Li .q)),(v Li .s,aj (st Li .s)),(v Li .k,aj (st Li .k)),(v Lh .q,aj (st Lh .q)),(v Lh .s,aj (st Lh .s)),(v Lh .k,aj (st Lh .k))]
theorem mA(h:yx is st=yy st v):∀(b:Bool)(c:Ch),JW c=Lh->aR is (st b c)=(v b c,aj (st b c)):=by
 intro b c a
 simp only [yx,yy,NA,and_true] at h
 refine Jq (fun d e f g h4 i=>?_) h
 cases b<;>cases c<;>first|assumption|exact PV a
def yz(is:LN)(st:Bool->Ch->an):List (br × LN):=[aR is (st Li .s),aR is (st Li .k),aR is (st Lh .s),aR is (st Lh .k)]
def yA(st:Bool->Ch->an)(v:Bool->Ch->br):List (br × LN):=[(v Li .s,aj (st Li .s)),(v Li .k,aj (st Li .k)),(v Lh .s,aj (st Lh .s)),(v Lh .k,aj (st Lh .k))]
theorem g5(h:yz is st=yA st v):∀(b:Bool)(c:Ch),zz c=Lh->aR is (st b c)=(v b c,aj (st b c)):=by
 intro b c a
 simp only [yz,yA,NA,and_true] at h
 refine y7 (fun d e f g=>?_) h
 cases b<;>cases c<;>first|assumption|exact PV a
end
inductive QR:LV->LN->LV->Prop
 | stop (t:Nat) (r:LV):QR (sv [34] t::r) [] r
 | esc (t:Nat) (c:Ch) (u:Nat) (r:LV) (s:LN) (r':LV) (hc:c≠.nl) (h:QR r s r'):QR (sv [92] t::sv [cp c] u::r) (cp c::s) r'
 | plain (c:Ch) (u:Nat) (r:LV) (s:LN) (r':LV) (hp:E6 c=Lh) (hc:c≠.nl) (h:QR r s r'):QR (sv [cp c] u::r) (cp c::s) r'
inductive BR:LV->LN->LV->Int->Int->Prop
 | sp (t:Nat) (r:LV) (n:Int):BR (sv [32] t::r) [] r n n
 | nl (t:Nat) (r:LV) (n:Int):BR (sv [10] t::r) [] r n (n + 1)
 | esc (t:Nat) (c:Ch) (u:Nat) (r:LV) (s:LN) (r':LV) (n n':Int) (hc:c≠.nl) (h:BR r s r' n n'):BR (sv [92] t::sv [cp c] u::r) (cp c::s) r' n n'
 | plain (c:Ch) (u:Nat) (r:LV) (s:LN) (r':LV) (n n':Int) (hp:JW c=Lh) (hc:c≠.nl) (h:BR r s r' n n'):BR (sv [cp c] u::r) (cp c::s) r' n n'
theorem yB(w:Lj)(a b:Bool)(A:LexA)(X:LexX)(q:ab)(F Y U:Nat)(W:ab){y:LV}{s:LN}{m:LV}{n n':Int}(Q:BR y s m n n')(l C H:ab)(i:LN)(v:Lc)(k:LN)(g:k=i++s)(hz:y.length < 50000)(I:i.length + s.length < 50000) :
  CT w a b 5 (aC IB U (yu F)) (JV A X l q C n y F Y U i v H W)
   (fun rr os G=>∃(u:Nat)(p e:ab)(o1 o2 o3:Obj),rr=.ok (.ret (sv k u))/\os=(aU A X p q e n' m).map (·.2)++[o1,o2,o3]/\G=[]):=by
 induction Q generalizing l C H i v with
 | sp t r n=>
  have O:k=i:=by simpa using g
  subst O
  apply fE b 0x70c1420304040080428000142c5801600580;intro V N T V D x f st
  apply bA b 0x12000020004080000008000000011224489000058b;intro o;apply ds w a b A X l q C n Ch.sp t r (by intro M;cases M;done) (oA (LZ hz) rfl);k_all;intro e J L st
  apply fT b [0,1,2,3,4,5,6,7,8,9,10];apply f;intro o τ;refine ox τ l e (o 8) (o 9) (o 10) ⟨?_, ?_, ?_⟩;apply rfl;apply rfl;apply rfl;rfl;k_mem
 | nl t r n=>
  have O:k=i:=by simpa using g
  subst O
  apply fE b 0x70c1420304040080428000142c5801600580;intro V N T V D x f st
  apply gF b 0x12000020004080000008000000011224489000058b;intro o;apply rh w a b A X l q C n t r (oA (LZ hz) rfl);k_all;intro p e J L st
  apply fT b [0,1,2,3,4,5,6,7,8,9,10];apply f;intro o τ;refine ox τ p e (o 8) (o 9) (o 10) ⟨?_, ?_, ?_⟩;apply rfl;apply rfl;apply rfl;rfl;k_mem
 | esc t c u r s r' n n' z h S=>
  have R:r.length < 50000:=LZ (LZ hz)
  have hz2:(sv [cp c] u::r).length < 50000:=LZ hz
  have P:(i++[cp c]).length + s.length < 50000:=by rw [Lq,Ng];exact I
  have B:k=(i++[cp c])++s:=by rw [g];simp
  apply sK b c 0x70c1420304040080428000142c5801600580;intro V N T V D x f st
  apply eD b c 0x70c1420304040080400101000000002000000200000022400012000020004080000008000000011224489000058b;intro o;apply ds w a b A X l q C n Ch.b t ([(sv [(cp c)] u)]++r) (by intro M;cases M;done) ‹_›;walk_at "lv";intro K;have d:=z;revert d;generalize b=j;generalize c=c';revert j c';refine b5 ?_;kernel_rfl;intro K;intro e J L st
  apply eD b c 68738499721;intro o;apply ds w a b A X l q e n c u r z ‹_›;walk_at "lv";intro K;have d:=z;revert d;generalize b=j;generalize c=c';revert j c';refine b5 ?_;kernel_rfl;intro K;intro E Z T2 st
  apply lC b c 50313;intro o;apply bB w a b i [(cp c)] (H.t 1) u (oT I rfl);walk_at "lv";intro K;have d:=z;revert d;generalize b=j;generalize c=c';revert j c';refine b5 ?_;kernel_rfl;intro K;intro v1 N3 T3 st
  refine gb (is:=[0,1,2,3,4,5,6,7,8,9,10]) f (D.hA.mono (by decide)) x.hk x.hl (fun o=>S l E (ae (o 8)) (i++[(Mine.cp c)]) (my [(Mine.cp c)] u) ‹_› ‹_› ‹_›) (by kernel_rfl) (by have d:=z;revert d;generalize b=j;generalize c=c';revert j c';refine b5 ?_;kernel_rfl) (by kernel_rfl) (fun V V V hp=>hp)
 | plain c u r s r' n n' hp z h S=>
  have R:r.length < 50000:=LZ hz
  have P:(i++[cp c]).length + s.length < 50000:=by rw [Lq,Ng];exact I
  have B:k=(i++[cp c])++s:=by rw [g];simp
  apply sK b c 0x70c1420304040080428000142c5801600580;intro V N T V D x f st
  apply eD b c 0x100122400012000020004080000008000000011224489000058b;intro o;apply ds w a b A X l q C n c u r z ‹_›;walk_at "lv";intro K;have d:=hp;revert d;generalize b=j;generalize c=c';revert j c';refine mA ?_;kernel_rfl;intro K;intro e J L st
  apply lC b c 50313;intro o;apply bB w a b i [(cp c)] (H.t 1) u (oT I rfl);walk_at "lv";intro K;have d:=hp;revert d;generalize b=j;generalize c=c';revert j c';refine mA ?_;kernel_rfl;intro K;intro v1 Z T2 st
  refine gb (is:=[0,1,2,3,4,5,6,7,8,9,10]) f (D.hA.mono (by decide)) x.hk x.hl (fun o=>S l e (ae (o 8)) (i++[(Mine.cp c)]) (my [(Mine.cp c)] u) ‹_› ‹_› ‹_›) (by kernel_rfl) (by have d:=hp;revert d;generalize b=j;generalize c=c';revert j c';refine mA ?_;kernel_rfl) (by kernel_rfl) (fun V V V hp=>hp)
inductive TR:LV->LN->LV->Int->Int->Prop
 | fin (n:Int):TR [] [] [] n n
 | quo (t:Nat) (r:LV) (s:LN) (r':LV) (n:Int) (h:QR r s r'):TR (sv [34] t::r) s r' n n
 | esc (t:Nat) (c:Ch) (u:Nat) (r:LV) (s:LN) (r':LV) (n n':Int) (hc:c≠.nl) (h:BR r s r' n n'):TR (sv [92] t::sv [cp c] u::r) (cp c::s) r' n n'
 | plain (c:Ch) (u:Nat) (r:LV) (s:LN) (r':LV) (n n':Int) (hp:zz c=Lh) (hc:c≠.nl) (h:BR r s r' n n'):TR (sv [cp c] u::r) (cp c::s) r' n n'
theorem pa(w:Lj)(a b:Bool)(A:LexA)(X:LexX)(f h g:ab)(n:Int)(i:Nat) :
  CT w a b 3 (.call (.ref i) ⟨[],[]⟩) (aU A X f h g n []++[(i,az "method" [.ref 217,.ref A.l])])
   (fun j os c=>∃(t:Nat)(d:ab),j=.ok (.ret (sv [] t))/\os=(aU A X f h d n []).map (·.2)++[az "method" [.ref 217,.ref A.l]]/\c=[]):=by
 apply fE b 0xa000050a14200080020008101c00b16182810a1000306000000600000000c000000c000000c000000c10002040000004000000008a00285000004480;intro V N T V k m e st
 apply fT b [0,1,2,3,4,5,6,7,8];apply e;intro o τ;refine jm τ g ⟨?_, ?_, ?_⟩;apply rfl;apply rfl;apply rfl;rfl;k_mem
theorem E8(w:Lj)(a b:Bool)(A:LexA)(X:LexX)(z:ab)(n:Int)(F Y R:Nat)(W:ab){p:LV}{s:LN}{m:LV}(Q:QR p s m)(l C H:ab)(g:LN)(v:Lc)(k:LN)(j:k=g++s)(hz:p.length < 50000)(I:g.length + s.length < 50000) :
  CT w a b 5 (aC IA R (yu F)) (JV A X l z C n p F Y R g v H W)
   (fun rr os E=>∃(u:Nat)(J e:ab)(o1 o2 o3:Obj),rr=.ok (.ret (sv k u))/\os=(aU A X J z e n m).map (·.2)++[o1,o2,o3]/\E=[]):=by
 induction Q generalizing l C H g v with
 | stop t r=>
  have hr:k=g:=by simpa using j
  subst hr
  apply fE b 0x70c1420304040080428000142c5801600580;intro V N T V G B i st
  apply bA b 0x4800024489000058b;intro o;apply ds w a b A X l z C n Ch.q t r (by intro L;cases L;done) (oA (LZ hz) rfl);k_all;intro e S U st
  apply fT b [0,1,2,3,4,5,6,7,8,9,10];apply i;intro o τ;refine ox τ l e (o 8) (o 9) (o 10) ⟨?_, ?_, ?_⟩;apply rfl;apply rfl;apply rfl;rfl;k_mem
 | esc t c u r s r' x h P=>
  have O:r.length < 50000:=LZ (LZ hz)
  have hz2:(sv [cp c] u::r).length < 50000:=LZ hz
  have M:(g++[cp c]).length + s.length < 50000:=by rw [Lq,Ng];exact I
  have y:k=(g++[cp c])++s:=by rw [j];simp
  apply sK b c 0x70c1420304040080428000142c5801600580;intro V N T V G B i st
  apply eD b c 0x1c305080c1010020100040400000000800000080000008900004800024489000058b;intro o;apply ds w a b A X l z C n Ch.b t ([(sv [(cp c)] u)]++r) (by intro L;cases L;done) ‹_›;walk_at "lv";intro K;have d:=x;revert d;generalize b=f;generalize c=c';revert f c';refine b5 ?_;kernel_rfl;intro K;intro e S U st
  apply eD b c 68738499721;intro o;apply ds w a b A X l z e n c u r x ‹_›;walk_at "lv";intro K;have d:=x;revert d;generalize b=f;generalize c=c';revert f c';refine b5 ?_;kernel_rfl;intro K;intro D Z T2 st
  apply lC b c 50313;intro o;apply bB w a b g [(cp c)] (H.t 1) u (oT I rfl);walk_at "lv";intro K;have d:=x;revert d;generalize b=f;generalize c=c';revert f c';refine b5 ?_;kernel_rfl;intro K;intro v1 N3 T3 st
  refine gb (is:=[0,1,2,3,4,5,6,7,8,9,10]) i (G.hA.mono (by decide)) B.hk B.hl (fun o=>P l D (ae (o 8)) (g++[(Mine.cp c)]) (my [(Mine.cp c)] u) ‹_› ‹_› ‹_›) (by kernel_rfl) (by have d:=x;revert d;generalize b=f;generalize c=c';revert f c';refine b5 ?_;kernel_rfl) (by kernel_rfl) (fun V V V hp=>hp)
 | plain c u r s r' hp x h P=>
  have O:r.length < 50000:=LZ hz
  have M:(g++[cp c]).length + s.length < 50000:=by rw [Lq,Ng];exact I
  have y:k=(g++[cp c])++s:=by rw [j];simp
  apply sK b c 0x70c1420304040080428000142c5801600580;intro V N T V G B i st
  apply eD b c 0x40048900004800024489000058b;intro o;apply ds w a b A X l z C n c u r x ‹_›;walk_at "lv";intro K;have d:=hp;revert d;generalize b=f;generalize c=c';revert f c';refine mz ?_;kernel_rfl;intro K;intro e S U st
  apply lC b c 50313;intro o;apply bB w a b g [(cp c)] (H.t 1) u (oT I rfl);walk_at "lv";intro K;have d:=hp;revert d;generalize b=f;generalize c=c';revert f c';refine mz ?_;kernel_rfl;intro K;intro v1 Z T2 st
  refine gb (is:=[0,1,2,3,4,5,6,7,8,9,10]) i (G.hA.mono (by decide)) B.hk B.hl (fun o=>P l e (ae (o 8)) (g++[(Mine.cp c)]) (my [(Mine.cp c)] u) ‹_› ‹_› ‹_›) (by kernel_rfl) (by have d:=hp;revert d;generalize b=f;generalize c=c';revert f c';refine mz ?_;kernel_rfl) (by kernel_rfl) (fun V V V hp=>hp)
theorem ri:P7 Pz "callable_iterator.__next__" = Ld Os.«callable_iterator.__next__» := entryFor_of_tree (by kernel_rfl)
theorem rj:Pn "callable_iterator.__next__" = Lh:=by decide +kernel
theorem g6{M:Model}{A:L9}{E:Lc->Ly->Prop}{s:Ly}{Q:Bool->Ly->Prop}{a f l:Nat}{o:Obj}{b:Qe}(c:s.heap.get? a=Ld (az "method" [.ref f,.ref l]))(d:s.heap.get? f=Ld o)(e:o.data=.func b)(h:Q Lh s):L7 M A (TD (.ref a)) Q E s:=by
 show L7 _ _ (load a >>= _) _ _ _
 refine Le (wpAny_load c ?_)
 show L7 _ _ (load f >>= _) _ _ _
 refine Le (wpAny_load d ?_)
 rw [e]
 exact Lx h
theorem sY{w:Lj}{c:KT}{g h:ME}{o:Obj}(d:c.Holds g 1 0)(keep:∀b o,g.get? b=Ld o->h.get? b=Ld o){a:Nat}(e:c.get a=Ld o):h.get? a=Ld o:=by
 have z:=Ox d e
 rw [P3,O8] at z
 exact keep _ _ z
theorem rk(w:Lj)(a b:Bool)(A:LexA)(X:LexX)(v y L:ab)(n:Int)(j d u:Nat) :
  CT w a b 4 (.builtin "callable_iterator.__next__" ⟨[.ref d],[]⟩) (aU A X v y L n []++[(j,az "method" [.ref 217,.ref A.l]),(d,az "callable_iterator" [.ref j,sv [] u,.bool Li])])
   (fun rr os s=>∃(e K:Nat)(p:ab),rr=.error (.ref e)/\os=(aU A X v y p n []).map (·.2)++[az "method" [.ref 217,.ref A.l],az "callable_iterator" [.none,.none,.bool Lh]]/\s=[(e,az "StopIteration" [.ref K,.none,.none,.none,.bool Li,.none])]):=by
 refine bH rj ri fun A' g h G D O N T R hA U hl J S=>?_
 have c:h.get? d=Ld (az "callable_iterator" [.ref j,sv [] u,.bool Li]):=J.get (i:=9) rfl
 have q:h.get? j=Ld (az "method" [.ref 217,.ref A.l]):=J.get (i:=8) rfl
 have k:h.get? 217=Ld (uY (wd w a b).params):=sY (w:=w) U J.keep (by kernel_rfl)
 show L7 _ _ (PQ (.ref d) 2 >>= _) _ _ _
 refine Le (L8 c rfl (x:=.bool Li) rfl ?_)
 show L7 _ _ (if (Ov Li == Ov Lh)=Lh then _ else _) _ _ _
 show L7 _ _ (PQ (.ref d) 0 >>= _) _ _ _
 refine Le (L8 c rfl (x:=.ref j) rfl ?_)
 refine Le (wpAny_attempt ?_)
 unfold callOutOfASlot
 refine Le (g6 q k rfl ?_)
 show L7 _ _ (callBorrowed (.ref j) []) _ _ _
 refine PySem.W.X.x_call ?_ (by intro e;cases e)
 have C:=(pa w a b A X v y L n j).framed (M:=aU A X v y L n []++[(j,az "method" [.ref 217,.ref A.l]),(d,az "callable_iterator" [.ref j,sv [] u,.bool Li])]) (is:=[0,1,2,3,4,5,6,7,8]) rfl
 refine C _ _ _ _ _ _ _ _ _ hA.in1.unmark U hl J fun r os s N' T' z hp Y R'=>?_
 refine bp fun C kC=>?_;obtain ⟨os1,⟨t,p,rfl,rfl,rfl⟩,-,rfl⟩:=hp;apply kC;clear kC
 have I:Rep g z N' (aU A X v y p n []++[(j,az "method" [.ref 217,.ref A.l]),(d,az "callable_iterator" [.ref j,sv [] u,.bool Li])]):=R'
 clear R' Y c q k C
 have c:z.get? d=Ld (az "callable_iterator" [.ref j,sv [] u,.bool Li]):=I.get (i:=9) rfl
 have q:z.get? j=Ld (az "method" [.ref 217,.ref A.l]):=I.get (i:=8) rfl
 have k:z.get? 217=Ld (uY (wd w a b).params):=sY (w:=w) U I.keep (by kernel_rfl)
 refine Lx ?_
 refine Le (L8 c rfl (x:=.bool Li) rfl ?_)
 show L7 _ _ (if (Ov Li == Ov Lh)=Lh then _ else _) _ _ _
 show L7 _ _ (PQ (.ref d) 1 >>= _) _ _ _
 refine Le (L8 c rfl (x:=sv [] u) rfl ?_)
 refine Le (Nh (SV ?_))
 show L7 _ _ (if (!decide ((⟨⟨[]⟩⟩ : Str)=⟨⟨[]⟩⟩))=Lh then _ else _) _ _ _
 refine Le (Oa ?_)
 refine Le ?_
 show L7 _ _ (PQ (.ref d) 0 >>= _) _ _ _
 refine Le (L8 c rfl (x:=.ref j) rfl ?_)
 refine Le ?_
 show L7 _ _ (TD (.ref j) >>= _) _ _ _
 refine Le (g6 q k rfl (Lx ?_))
 have R2:=I.update (i:=9) (f:=LM (·.setIfInBounds 0 .none)) rfl rfl
 refine Le (MS c rfl (by show 0 < 3;decide) ?_)
 have E:(z.update d (LM (·.setIfInBounds 0 .none))).get? d=Ld (az "callable_iterator" [.none,sv [] u,.bool Li]):=R2.get (i:=9) rfl
 refine Le (MS E rfl (by show 1 < 3;decide) ?_)
 have P:=R2.update (i:=9) (f:=LM (·.setIfInBounds 1 .none)) rfl rfl
 have F:=P.get (i:=9) rfl
 refine MS F rfl (by show 2 < 3;decide) ?_
 have Q:=P.update (i:=9) (f:=LM (·.setIfInBounds 2 (.bool Lh))) rfl rfl
 generalize (((z.update d (LM (·.setIfInBounds 0 .none))).update d (LM (·.setIfInBounds 1 .none))).update d (LM (·.setIfInBounds 2 (.bool Lh))))=H at Q ⊢
 show L7 _ _ (Qk (.type "StopIteration") [] >>= _) _ _ _
 refine Le ?_
 simp only [Qk,RO]
 refine Le (Mg ?_ (by size_fits))
 refine Le (m:=PA _ _) (OG (a:=L3) (by rfl) ?_)
 refine Mg ?_ (by size_fits)
 simp only [RM]
 refine Le (PP ?_)
 rw [show A'.in1.handled=Lk from hA.1 (by kd_p)]
 refine Le (Lx (Qu ?_))
 have e1:=Q.size
 clear P;subst e1
 have R5:=Q.alloc (o:={ cls:=.type "tuple",data:=.seq #[] }) rfl
 have R6:=R5.alloc (o:=az "StopIteration" [.ref H.objs.size,.none,.none,.none,.bool Li,.none]) rfl
 rw [R5.size]
 have hp:=(fun(e K:Nat)=>(⟨e,K,p,rfl,rfl,rfl⟩ : ∃(e' Z:Nat)(B:ab),(.error (.ref e):Lm)=.error (.ref e')/\((aU A X v y p n []).map (·.2)++[az "method" [.ref 217,.ref A.l],az "callable_iterator" [.none,.none,.bool Lh]])=(aU A X v y B n []).map (·.2)++[az "method" [.ref 217,.ref A.l],az "callable_iterator" [.none,.none,.bool Lh]]/\([(e,az "StopIteration" [.ref K,.none,.none,.none,.bool Li,.none])] : Mem)=[(e',az "StopIteration" [.ref Z,.none,.none,.none,.bool Li,.none])]))
 refine S _ _ _ (H.objs.size + 1 + 1) _ _ (hp (H.objs.size + 1) H.objs.size) rfl ?_
 refine R6.pick (is:=[0,1,2,3,4,5,6,7,8,9,11]) (by decide) ?_
 kernel_rfl
theorem sZ(w:Lj)(a b:Bool)(A:LexA)(X:LexX)(p m E:ab){z:LV}{s:LN}{y:LV}{n n':Int}(Q:TR z s y n n')(D:Nat)(hz:z.length < 50000)(hs:s.length < 40000) :
  CT w a b 6 (bw 224 [.ref A.l]) (aU A X m p E n z++[(A.pb,aa [] D)])
   (fun Z os H=>∃(u:Nat)(j g:ab),Z=.ok (.ret (sv s u))/\os=(aU A X j p g n' y).map (·.2)++[aa [] D]/\H=[]):=by
 cases Q with
 | fin n=>
  apply fE b 0x80208489040008100000010000000022800a1400001;intro V N T V I M fin st
  apply bA b 0x2c5070c14203040400a043000c003000c003060a142858000000000000002000408000000000004000000008a000050a;intro o;apply du w a b A.pb [] D (by kd_p);k_all;intro t k C st
  apply vi b 163853;intro o;apply rk w a b A X m p E n k (k + 1) (C + 3);k_all;intro e tp g J L st
  apply fT b [0,1,2,3,4,5,6,7,8];apply fin;intro o τ;refine gB τ m g ⟨?_, ?_, ?_⟩;apply rfl;apply rfl;apply rfl;rfl;k_mem
 | quo t r s S n h=>
  have G:r.length < 50000:=LZ hz
  apply fE b 0x80208489040008100000010000000022800a1400001;intro V N T V I M fin st
  apply bA b 0xe1828406080801008580002c60c003000c003000c003060a142858000000000000002000408000000000004000000008a000050a;intro o;apply du w a b A.pb [] D (by decide);k_all;intro t1 k C st
  apply bA b 0x58a121c305080c101002c10c003000c18280001400002000408000000800000001142850a000060c;intro o;apply ds w a b A X m p E n Ch.q t r (by intro O;cases O;done) ‹_›;k_all;intro g J L st
  apply mv b 0;intro o;apply E8 w a b A X p n N k (k + 1) (ae (o 11)) h m g (ae (o 9)) [] (sv [(cp Ch.q)] t) s rfl ‹_› (by rw [LQ,M4];exact oA hs rfl);k_all;intro u j i o1 o2 o3 P R st
  apply fT b [0,1,2,3,4,5,6,7,8];apply fin;intro o τ;refine gB τ j i ⟨?_, ?_, ?_⟩;apply rfl;apply rfl;apply rfl;rfl;k_mem
 | esc t c u r s S n n' x h=>
  have G:r.length < 50000:=LZ (LZ hz)
  have Y:(sv [cp c] u::r).length < 50000:=LZ hz
  apply sK b c 0x80208489040008100000010000000022800a1400001;intro V N T V I M fin st
  apply eD b c 0xe1828406080801008580002c60c003000c003000c003060a142858000000000000002000408000000000004000000008a000050a;intro o;apply du w a b A.pb [] D (by decide);walk_at "lv";intro K;have d:=x;revert d;generalize b=f;generalize c=c';revert f c';refine b5 ?_;kernel_rfl;intro K;intro t1 k C st
  apply eD b c 0xe1828406080801008002020000000040000004000000450000280001400002000408000000800000001142850a000060c;intro o;apply ds w a b A X m p E n Ch.b t ([(sv [(cp c)] u)]++r) (by intro O;cases O;done) ‹_›;walk_at "lv";intro K;have d:=x;revert d;generalize b=f;generalize c=c';revert f c';refine b5 ?_;kernel_rfl;intro K;intro g J L st
  apply eD b c 68740613386;intro o;apply ds w a b A X m p g n c u r x ‹_›;walk_at "lv";intro K;have d:=x;revert d;generalize b=f;generalize c=c';revert f c';refine b5 ?_;kernel_rfl;intro K;intro i P R st
  apply lC b c 0x58a121c305080c101002c10c003000c182850a;intro o;apply bB w a b [] [(cp c)] C u (by exact (by decide:1 < 60000));walk_at "lv";intro K;have d:=x;revert d;generalize b=f;generalize c=c';revert f c';refine b5 ?_;kernel_rfl;intro K;intro v U W st
  apply E1 b c;intro o;apply yB w a b A X p N k (k + 1) (ae (o 11)) h m i (ae (o 9)) [(cp c)] (sv [(cp c)] u) ([(cp c)]++s) rfl ‹_› (by rw [NV];exact oA hs rfl);walk_at "lv";have d:=x;revert d;generalize b=f;generalize c=c';revert f c';refine b5 ?_;kernel_rfl;intro V V V N5 T5 B V;refine qc (fun u1 j F o1 o2 o3 B=>?_) B;apply dX B;apply na b c 0;intro st
  apply zs b c [0,1,2,3,4,5,6,7,8];apply fin;intro o τ;refine gB τ j F ⟨?_, ?_, ?_⟩;apply rfl;apply rfl;apply rfl;rfl;have d:=x;revert d;generalize b=f;generalize c=c';revert f c';refine b5 ?_;kernel_rfl
 | plain c u r s S n n' hp x h=>
  have G:r.length < 50000:=LZ hz
  apply sK b c 0x80208489040008100000010000000022800a1400001;intro V N T V I M fin st
  apply eD b c 0xe1828406080801008580002c60c003000c003000c003060a142858000000000000002000408000000000004000000008a000050a;intro o;apply du w a b A.pb [] D (by decide);walk_at "lv";intro K;have d:=hp;revert d;generalize b=f;generalize c=c';revert f c';refine g5 ?_;kernel_rfl;intro K;intro t k C st
  apply eD b c 0x2002850000280001400002000408000000800000001142850a000060c;intro o;apply ds w a b A X m p E n c u r x ‹_›;walk_at "lv";intro K;have d:=hp;revert d;generalize b=f;generalize c=c';revert f c';refine g5 ?_;kernel_rfl;intro K;intro g J L st
  apply lC b c 0x58a121c305080c101002c10c003000c182850a;intro o;apply bB w a b [] [(cp c)] C u (by exact (by decide:1 < 60000));walk_at "lv";intro K;have d:=hp;revert d;generalize b=f;generalize c=c';revert f c';refine g5 ?_;kernel_rfl;intro K;intro v P R st
  apply E1 b c;intro o;apply yB w a b A X p N k (k + 1) (ae (o 11)) h m g (ae (o 9)) [(cp c)] (sv [(cp c)] u) ([(cp c)]++s) rfl ‹_› (by rw [NV];exact oA hs rfl);walk_at "lv";have d:=hp;revert d;generalize b=f;generalize c=c';revert f c';refine g5 ?_;kernel_rfl;intro V V V U W B V;refine qc (fun u1 j i o1 o2 o3 B=>?_) B;apply dX B;apply na b c 0;intro st
  apply zs b c [0,1,2,3,4,5,6,7,8];apply fin;intro o τ;refine gB τ j i ⟨?_, ?_, ?_⟩;apply rfl;apply rfl;apply rfl;rfl;have d:=hp;revert d;generalize b=f;generalize c=c';revert f c';refine g5 ?_;kernel_rfl
noncomputable abbrev zA (x0):=(fun b os a=>(∃k:Nat,b=.ok (.ret (.int x0 k)))/\os=[]/\a=[] : bI)
section
variable(w:Lj)(a b:Bool)(x:Int)
include w a b x
theorem gH(m:Int)(t u:Nat)(hm:0 < m) :
  CT w a b 0 (b9 "int.__mod__" [.int x t,.int m u]) [] (zA (x.fmod m)):=
 bM (fun c=>∃k:Nat,c=.ok (.ret (.int (x.fmod m) k))) (by decide +kernel) F.entry_int_mod (Sv x t m u (fun z=>Tc hm (Ta z))) fun s=>⟨⟨s.toks,rfl⟩,rfl,rfl,rfl,rfl⟩
theorem pd(m:Int)(t u:Nat)(hm:0 < m)(c:m < 1000000) :
  CT w a b 0 (b9 "int.__floordiv__" [.int x t,.int m u]) [] (zA (x.fdiv m)):=
 bM (fun d=>∃k:Nat,d=.ok (.ret (.int (x.fdiv m) k))) (by decide +kernel) F.entry_int_floordiv (Sw x t m u (fun z=>Tc hm (Ta z)) (by rw [PyProof.noPylong_small (by kd_p)];decide)) fun s=>⟨⟨s.toks,rfl⟩,rfl,rfl,rfl,rfl⟩
theorem s8(y:Int)(t u:Nat)(e:0<=x)(c:x < 1000000) :
  CT w a b 0 (b9 "int.__mul__" [.int x t,.int y u]) [] (zA (x * y)):=by
 refine bM (fun d=>∃k:Nat,d=.ok (.ret (.int (x * y) k))) (by decide +kernel) F.entry_int_mul (gives_int_mul x y t u ?_) fun s=>⟨⟨s.toks,rfl⟩,rfl,rfl,rfl,rfl⟩
 mul_fits
end
inductive E4 where
 | z0|z1|z2|z3
noncomputable def e4:E4->Int
 | .z0=>0 | .z1=>1 | .z2=>2 | .z3=>3
noncomputable def lk{α:Type}(f:E4->α):List α:=[f .z0,f .z1,f .z2,f .z3]
theorem pf{α:Type}{f g:E4->α}(x:E4)(h:lk f=lk g):f x=g x:=by
 simp only [lk,NA,and_true] at h
 cases x
 .exact h.1
 .exact h.2.1
 .exact h.2.2.1
 .exact h.2.2.2
theorem Hk{α:Type}{f g:E4->E4->α}(x y:E4)(h:(lk fun x=>lk (f x))=lk fun x=>lk (g x)):f x y=g x y:=pf y (pf (f:=fun x=>lk (f x)) (g:=fun x=>lk (g x)) x h)
noncomputable def nD{α:Type}(x y:α):E4->E4->α
 | .z0,.z0 | .z1,.z1 | .z2,.z2 | .z3,.z3=>y
 | _,_=>x
theorem JX{α:Type}{f g:E4->E4->α}(x y:E4)(n:x≠y)(h:(lk fun x=>lk fun y=>nD (f x y) (g x y) x y)=lk fun x=>lk (g x)):f x y=g x y:=by
 have e:=Hk (f:=fun x y=>nD (f x y) (g x y) x y) x y h
 cases x<;>cases y<;>first|exact e|exact absurd rfl n
inductive E7 where
 | z0|z1|z2|z3|z4|z5|z6
noncomputable def e7:E7->Int
 | .z0=>0 | .z1=>1 | .z2=>2 | .z3=>3 | .z4=>4 | .z5=>5 | .z6=>6
noncomputable def JY:Nat->E4
 | 0=>.z0 | 1=>.z1 | 2=>.z2 | _=>.z3
noncomputable def JZ:Nat->E7
 | 0=>.z0 | 1=>.z1 | 2=>.z2 | 3=>.z3 | 4=>.z4 | 5=>.z5 | _=>.z6
theorem yC{x:Int}(a:0<=x)(b:x < 4):∃e,x=e4 e:=by
 obtain ⟨n,rfl⟩:=O4 a
 exact ⟨JY n,(by decide +kernel:∀n < 4,Ll n=e4 (JY n)) n (M5.mp b)⟩
theorem E9{x:Int}(a:0<=x)(b:x < 7):∃e,x=e7 e:=by
 obtain ⟨n,rfl⟩:=O4 a
 exact ⟨JZ n,(by decide +kernel:∀n < 7,Ll n=e7 (JZ n)) n (M5.mp b)⟩
section
variable(w:Lj)(a b:Bool)
include w a b
theorem zB(x:Int)(t u:Nat) :
  CT w a b 0 (b9 "int.__mod__" [.int x t,.int 4 u]) [] (fun d os c=>∃(e:E4)(k:Nat),d=.ok (.ret (.int (e4 e) k))/\os=[]/\c=[]/\x.fmod 4=e4 e):=
 (gH w a b x 4 t u (by decide)).weak (Lf _) fun r os c h=>by
  obtain ⟨⟨k,rfl⟩,rfl,rfl⟩:=h
  obtain ⟨e,he⟩:=yC (NJ x (by decide:(0:Int) < 4)) (Oh x (by decide:(0:Int) < 4))
  exact ⟨e,k,by rw [he],rfl,rfl,he⟩
theorem s9(x:Int)(t u:Nat) :
  CT w a b 0 (b9 "int.__mod__" [.int x t,.int 7 u]) [] (fun d os c=>∃(e:E7)(k:Nat),d=.ok (.ret (.int (e7 e) k))/\os=[]/\c=[]/\x.fmod 7=e7 e):=
 (gH w a b x 7 t u (by decide)).weak (Lf _) fun r os c h=>by
  obtain ⟨⟨k,rfl⟩,rfl,rfl⟩:=h
  obtain ⟨e,he⟩:=E9 (NJ x (by decide:(0:Int) < 7)) (Oh x (by decide:(0:Int) < 7))
  exact ⟨e,k,by rw [he],rfl,rfl,he⟩
theorem aF(l:Nat)(vs:LV)(e:Nat)(k:Int)(t:Nat)(v:Lc)(m:0<=k)(o:k < 100000)(q:vs[k.toNat]? = Ld v) :
  CT w a b 0 (b9 "list.__getitem__" [.ref l,.int k t]) [(l,aa vs e)] (go (.ret v) [aa vs e]):=
 bH (by decide +kernel) OZ fun A g h G D O N T R s n u d c=>by
  have p:=d.get (i:=0) rfl
  show L7 _ _ (MF (.int k t) >>= _) _ _ _
  refine Le (Rh (fitsIndex_of m (by kd_p)) ?_)
  obtain ⟨j,rfl⟩:=O4 m
  have f:(⟨vs⟩ : Array Lc)[j]? = Ld v:=by simpa using q
  show L7 _ _ ((seqItemAt l j >>= fun r=>Ob (r.map (j,·))) >>= _) _ _ _
  refine Le (Le (wpAny_seqItemAt p rfl (Lx ?_)))
  rw [f]
  first
   | exact Le (Lx (Lx (c _ [_] [] N T _ ⟨rfl,rfl,rfl⟩ rfl d)))
   | exact Lx (c _ [_] [] N T _ ⟨rfl,rfl,rfl⟩ rfl d)
abbrev Fa(n:Int)(J:ab):Obj:=az "range" [.int 0 (J.t 0),.int n (J.t 1),.int 1 (J.t 2)]
abbrev dg(x left:Int):Obj:=az "range_iterator" [.int x 0,.int left 0,.int 1 0]
theorem g7(r:Nat)(n:Int)(J:ab)(q:0<=n)(s:n < 100000) :
  CT w a b 0 (b9 "range.__iter__" [.ref r]) [(r,Fa n J)] (fun m os d=>∃x:Nat,m=.ok (.ret (.ref x))/\os=[Fa n J]/\d=[(x,dg 0 n)]):=by
 have hs:Ni 0 n 1=n:=by
  unfold Ni
  split
  .split<;>kd_p
  .kd_p
 have c:MY 0 n 1=Lh:=by
  unfold MY
  rw [hs]
  have f:∀k:Int,0<=k->k < 200000->Pv k=Lh:=fun k h p=>by
   unfold Pv
   simp only [Nx,decide_eq_true_eq]
   kd_p
  rw [f 0 (by kd_p) (by kd_p),f n (by kd_p) (by kd_p),f 1 (by kd_p) (by kd_p)]
  simp only [Bool.true_and,Bool.and_true]
  rw [if_pos (by kd_p),f (n + (1 - 1)) (by kd_p) (by kd_p),Bool.or_true]
 refine bg (by decide +kernel) RS (Pr r 0 n 1 (J.t 0) (J.t 1) (J.t 2) (by show ¬ (!MY 0 n 1)=Lh;rw [c];decide)) fun A g h G D O N T R u l j=>?_
 refine ⟨l.get (i:=0) rfl, ?_⟩
 show R _ { heap:=h.push { cls:=S4 (if MY 0 n 1=Lh then "range_iterator" else "longrange_iterator"),data:=S6 #[MQ 0,MQ (Ni 0 n 1),MQ 1] },gens:=G,drawn:=D,toks:=T,os:=O }
 rw [if_pos c,hs]
 have z:=l.alloc (o:=dg 0 n) rfl
 have e:=l.size
 subst e
 exact j _ [_] [_] _ _ _ ⟨_,rfl,rfl,rfl⟩ rfl z
theorem cQ(it:Nat)(x left:Int)(o:0 < left) :
  CT w a b 0 (b9 "range_iterator.__next__" [.ref it]) [(it,dg x left)] (fun j os c=>∃k:Nat,j=.ok (.ret (.int x k))/\os=[dg (x + 1) (left - 1)]/\c=[]):=by
 refine bg (by decide +kernel) Qy (AutoRange.range_iterator___next___range_iterator_1 it x left 1 (by kd_p)) fun A g h G D O N T R n e d=>?_
 refine ⟨e.get (i:=0) rfl, ?_⟩
 have l:=e.update (i:=0) (f:=LM (·.setIfInBounds 0 (MQ (x + 1)))) rfl rfl
 have m:=l.update (i:=0) (f:=LM (·.setIfInBounds 1 (MQ (left - 1)))) rfl rfl
 exact d _ [_] [] N (T + 1) _ ⟨T,rfl,rfl,rfl⟩ rfl m
theorem fV(it:Nat)(x left:Int)(q:left<=0) :
  CT w a b 1 (b9 "range_iterator.__next__" [.ref it]) [(it,dg x left)] (fun s os d=>∃(e t:Nat),s=.error (.ref e)/\os=[dg x left]/\d=[(e,dZ t)]):=
 bH (by decide +kernel) Qy fun A g h G D O N T R p u r j f=>by
  have c:=j.get (i:=0) rfl
  show L7 _ _ (PQ (.ref it) 0 >>= _) _ _ _
  refine Le (L8 c rfl (x:=MQ x) rfl ?_)
  refine Le (L8 c rfl (x:=MQ left) rfl ?_)
  refine Le (L8 c rfl (x:=MQ 1) rfl ?_)
  show L7 _ _ (if left<=0 then _ else _) _ _ _
  rw [if_pos q]
  refine Le (Oa ?_)
  refine Le ?_
  show L7 _ _ (Qk (.type "StopIteration") [] >>= _) _ _ _
  refine Le ?_
  simp only [Qk,RO]
  refine Le (Mg ?_ (by size_fits))
  refine Le (m:=PA _ _) (OG (a:=L3) (by rfl) ?_)
  refine Mg ?_ (by size_fits)
  simp only [RM]
  refine Le (PP ?_)
  rw [show A.in1.handled=Lk from p.1 (by decide)]
  refine Le (Lx (Qu ?_))
  have n:=j.size
  subst n
  have k:=j.alloc (o:={ cls:=.type "tuple",data:=.seq #[] }) rfl
  have l:=k.alloc (o:=dZ h.objs.size) rfl
  rw [k.size]
  refine f _ [_] [(h.objs.size + 1,dZ h.objs.size)] (h.objs.size + 1 + 1) _ _ (jm _ _ ⟨rfl,rfl,rfl⟩) rfl (l.pick (is:=[0,2]) (by decide) ?_)
  kernel_rfl
end
inductive bF:List Int->LV->Prop
 | nil:bF [] []
 | cons (n:Int) (t:Nat) {ns:List Int} {vs:LV} (h:bF ns vs):bF (n::ns) (.int n t::vs)
theorem bF.length{ss:List Int}{vs:LV}(h:bF ss vs):vs.length=ss.length:=by
 induction h with
 | nil=>rfl
 | cons s t _ a=>simp [a]
theorem bF.at_drop{ns:List Int}{n:Int} : ∀{vs:LV}{i:Nat},bF (n::ns) (vs.drop i)->∃t,vs[i]? = Ld (.int n t)/\bF ns (vs.drop (i + 1)):=by
 intro vs i h
 cases e:vs.drop i with
 | nil=>rw [e] at h;cases h
 | cons v r=>
  rw [e] at h
  cases h with
  | cons n t h=>
   refine ⟨t, ?_, ?_⟩
   .have:=congrArg OL e
    rw [NL] at this
    simpa using this
   .rw [show vs.drop (i + 1)=(vs.drop i).drop 1 from by rw [OM],e]
    exact h
theorem dx(w:Lj)(a b:Bool)(l:Nat)(vs:LV)(x:LN)(t e:Nat){ss:LLN}(hs:af ss vs)(hz:ss.length < 60000) :
  CT w a b 0 (eC "list.append" l x t) [(l,aa vs e)] (fun f os c=>∃J:ab,f=.ok (.ret .none)/\os=[aa (vs++[sv x t]) J.e]/\c=[]/\af (ss++[x]) (vs++[sv x t])):=
 (aB w a b l vs (sv x t) e (by rw [hs.length];exact hz)).weak (Lf _) fun r os c h=>by
  refine bj (fun J d=>?_) h;apply m8 d
  exact ⟨J,rfl,rfl,rfl,hs.append (.one x t)⟩
noncomputable def iZ{β:Type}(F:E4->β):List β:=[F .z0,F .z1,F .z2,F .z3]
noncomputable def i4{β:Type}(F:E4->β):List β:=[F .z0,F .z1,F .z2,F .z3]
theorem j7{β:Type}{F G:E4->β}(h:iZ F=i4 G)(x:E4):F x=G x:=by
 injection h with h0 h
 injection h with h1 h
 injection h with h2 h
 injection h with h3 h
 cases x<;>assumption
theorem q_BEB{α:Type}{X Y:Bool->E4->Bool->α}(h:(aK fun a=>iZ fun b=>aK fun c=>X a b c)=aM fun a=>i4 fun b=>aM fun c=>Y a b c):∀a b c,X a b c=Y a b c:=fun a b c=>aS (j7 (aS h a) b) c
theorem q_BE{α:Type}{X Y:Bool->E4->α}(h:(aK fun a=>iZ fun b=>X a b)=aM fun a=>i4 fun b=>Y a b):∀a b,X a b=Y a b:=fun a b=>j7 (aS h a) b
theorem IC{is:LN}{st:Bool->E4->an}{v:Bool->E4->br}(h:(aK fun a=>iZ fun b=>aR is (st a b))=aM fun a=>i4 fun b=>(v a b,aj (st a b))):∀(a:Bool)(b:E4),aR is (st a b)=(v a b,aj (st a b)):=fun a b=>j7 (aS h a) b
noncomputable def cD:E4->E4->Sg
 | .z0,.z0=>.q | .z0,.z1=>.b | .z0,.z2=>.s | .z0,.z3=>.k
 | .z1,.z0=>.b | .z1,.z1=>.s | .z1,.z2=>.k | .z1,.z3=>.q
 | .z2,.z0=>.s | .z2,.z1=>.k | .z2,.z2=>.q | .z2,.z3=>.b
 | .z3,.z0=>.k | .z3,.z1=>.q | .z3,.z2=>.b | .z3,.z3=>.s
noncomputable def ta(e:E4)(a b c d:Lc):LV:=match e with
 | .z0=>[a,b,c,d] | .z1=>[b,c,d] | .z2=>[c,d] | .z3=>[d]
noncomputable def tc(e:E4)(a b c:Lc):LV:=match e with
 | .z0=>[] | .z1=>[a] | .z2=>[a,b] | .z3=>[a,b,c]
noncomputable def ID(e:E4)(a b c d ep:Nat):ab:=match e with
 | .z0=>⟨fun V=>0,fun V=>0,fun | 0=>a | 1=>b | 2=>c | _=>d,ep⟩
 | .z1=>⟨fun V=>0,fun V=>0,fun | 0=>b | 1=>c | 2=>d | _=>a,ep⟩
 | .z2=>⟨fun V=>0,fun V=>0,fun | 0=>c | 1=>d | 2=>a | _=>b,ep⟩
 | .z3=>⟨fun V=>0,fun V=>0,fun | 0=>d | 1=>a | 2=>b | _=>c,ep⟩
abbrev zC(e:E4)(J:ab):Obj:=aa [sv [pc (cD e .z0)] (J.t 0),sv [pc (cD e .z1)] (J.t 1),sv [pc (cD e .z2)] (J.t 2),sv [pc (cD e .z3)] (J.t 3)] J.e
theorem pg(w:Lj)(a b:Bool)(p q:Nat)(vs c:LV)(k d:Nat)(hz:vs.length + c.length < 60000) :
  CT w a b 0 (b9 "list.__add__" [.ref p,.ref q]) [(p,aa vs k),(q,aa c d)] (fun m os f=>∃x:Nat,m=.ok (.ret (.ref x))/\os=[aa vs k,aa c d]/\f=[(x,aa (vs++c) 0)]):=by
 refine bg (by decide +kernel) F.entry_list_add (SQ p ⟨vs⟩ k q ⟨c⟩ d (by have:=aX;show vs.length + c.length<=_;kd_p)) fun A g h G D O N T R n j l=>?_
 refine ⟨j.get (i:=0) rfl,j.get (i:=1) rfl, ?_⟩
 have z:=j.alloc (o:={ cls:=.type "list",data:=.seq ((⟨vs⟩ : Array Lc)++(⟨c⟩ : Array Lc)) }) rfl
 have e:=j.size
 subst e
 have d:({ cls:=.type "list",data:=.seq ((⟨vs⟩ : Array Lc)++(⟨c⟩ : Array Lc)) } : Obj)=aa (vs++c) 0:=by
  show QL _ _ (.seq (OE vs++OE c) 0) _=_
  rw [Re]
 rw [d] at z
 show R _ ⟨h.push { cls:=.type "list",data:=.seq ((⟨vs⟩ : Array Lc)++(⟨c⟩ : Array Lc)) },G,D,T,O⟩
 rw [d]
 exact l _ [_,_] [_] _ _ _ ⟨_,rfl,rfl,rfl⟩ rfl z
theorem td(w:Lj)(a b:Bool)(e:E4)(p q d f g k i j:Nat) :
  CT w a b 0 (b9 "list.__add__" [.ref p,.ref q]) [(p,aa (ta e (sv [34] d) (sv [92] f) (sv [42] g) (sv [91] k)) i),(q,aa (tc e (sv [34] d) (sv [92] f) (sv [42] g)) j)]
   (fun m os c=>∃(x:Nat)(J:ab),m=.ok (.ret (.ref x))/\os=[aa (ta e (sv [34] d) (sv [92] f) (sv [42] g) (sv [91] k)) i,aa (tc e (sv [34] d) (sv [92] f) (sv [42] g)) j]/\c=[(x,zC e J)]):=
 (pg w a b p q _ _ i j (by cases e<;>simp [ta,tc])).weak (Lf _) fun r os c h=>by
  refine bj (fun x l=>?_) h;apply m8 l
  exact (jm x (ID e d f g k 0) ⟨rfl,rfl,by cases e<;>rfl⟩)
theorem j8(w:Lj)(a b:Bool)(l e:Nat)(x:LN)(t:Nat) :
  CT w a b 0 (eC "list.__contains__" l x t) [(l,aa [] e)] (go (.ret (.bool Li)) [aa [] e]):=
 (ff w a b l [] e x t .nil).weak (Lf _) fun r os c h=>by
  obtain ⟨v,rfl,rfl,rfl,rfl⟩:=h
  exact ⟨rfl,rfl,rfl⟩
noncomputable def fF{β:Type}(F:E7->β):List β:=[F .z0,F .z1,F .z2,F .z3,F .z4,F .z5,F .z6]
noncomputable def fG{β:Type}(F:E7->β):List β:=[F .z0,F .z1,F .z2,F .z3,F .z4,F .z5,F .z6]
theorem fW{β:Type}{F G:E7->β}(h:fF F=fG G)(x:E7):F x=G x:=by
 injection h with h0 h
 injection h with h1 h
 injection h with h2 h
 injection h with h3 h
 injection h with h4 h
 injection h with h5 h
 injection h with h6 h
 cases x<;>assumption
theorem q_BK{α:Type}{X Y:Bool->E7->α}(h:(aK fun a=>fF fun b=>X a b)=aM fun a=>fG fun b=>Y a b):∀a b,X a b=Y a b:=fun a b=>fW (aS h a) b
theorem q_BEK{α:Type}{X Y:Bool->E4->E7->α}(h:(aK fun a=>iZ fun b=>fF fun c=>X a b c)=aM fun a=>i4 fun b=>fG fun c=>Y a b c):∀a b c,X a b c=Y a b c:=fun a b c=>fW (j7 (aS h a) b) c
theorem q_BBK{α:Type}{X Y:Bool->Bool->E7->α}(h:(aK fun a=>aK fun b=>fF fun c=>X a b c)=aM fun a=>aM fun b=>fG fun c=>Y a b c):∀a b c,X a b c=Y a b c:=fun a b c=>fW (aS (aS h a) b) c
theorem q_BBB{α:Type}{X Y:Bool->Bool->Bool->α}(h:(aK fun a=>aK fun b=>aK fun c=>X a b c)=aM fun a=>aM fun b=>aM fun c=>Y a b c):∀a b c,X a b c=Y a b c:=fun a b c=>aS (aS (aS h a) b) c
local macro_rules | `(tactic| kcj_m)=>`(tactic| first|refine Mine.q_B ?_|refine Mine.q_BB ?_|refine Mine.q_BE ?_|refine Mine.q_BK ?_|refine Mine.q_BEK ?_|refine Mine.q_BBB ?_|refine Mine.q_BEB ?_|refine Mine.q_BBK ?_|refine Mine.q_BS ?_|refine Mine.q_BSS ?_)
section
variable(w:Lj)(a b:Bool)(A:LexA)(X:LexX)(g d f:ab)(chs:LV)(n:Int)(s:LN)(t:Nat)(r:LV)(c:Nat)(hz:r.length < 50000)
include w a b A X g d f chs n s t r c hz
theorem te :
  CT w a b 6 (bw 224 [.ref A.l]) (aU A X d g f n chs++[(A.pb,aa (sv s t::r) c)])
   (fun k os e=>∃(i:Nat),k=.ok (.ret (sv s t))/\os=(aU A X d g f n chs).map (·.2)++[aa r i]/\e=[]):=by
 apply fE b 0x80208489040008100000010000000022800a1400001;intro V N T V m v h st
 apply bA b 0x200821200489122410002040000004000000008a;intro o;apply du w a b A.pb ([(sv s t)]++r) c (by simp only [Ls,Lq,LQ] at *;kd_p);k_all;intro x p j st
 apply bA b 0;intro o;apply oZ w a b A.pb (sv s t) r c (j + 1) (by kd_p);k_all;intro e' q u st
 apply fT b [0,1,2,3,4,5,6,7,8];apply h;intro o τ;refine ⟨e',⟨?_, ?_, ?_⟩⟩;apply rfl;apply rfl;apply rfl;rfl;k_mem
theorem zD :
  CT w a b 6 (bw 231 [.ref A.l,sv s t]) (aU A X d g f n chs++[(A.pb,aa r c)])
   (fun k os h=>∃(j:Nat),k=.ok (.ret .none)/\os=(aU A X d g f n chs).map (·.2)++[aa (r++[sv s t]) j]/\h=[]):=by
 apply fE b 0x10041090028489122410002040000004000000008a002850a1400001;intro V N T V m u i st
 apply bA b 0;intro o;apply aB w a b A.pb r (sv s t) c (by kd_p);k_all;intro J p q st
 apply fT b [0,1,2,3,4,5,6,7,8];apply i;intro o τ;refine ⟨J.e,⟨?_, ?_, ?_⟩⟩;apply rfl;apply rfl;apply rfl;rfl;k_mem
end
inductive M3 where
 | m0|m1|m2
noncomputable def mi:M3->Int
 | .m0=>0 | .m1=>1 | .m2=>2
noncomputable def kX:Sg->Bool
 | .b=>Lh | _=>Li
noncomputable def ql:Sg->Bool
 | .q=>Lh | _=>Li
noncomputable def wr(w:List Sg):M3->LN
 | .m0=>(w.flatMap fun s=>[92,pc s])++[32]
 | .m1=>34::(w.flatMap fun s=>if kX s || ql s then [92,pc s] else [pc s])++[34]
 | .m2=>(match w with|s::_=>if ql s then [92] else [] | []=>[])++(w.flatMap fun s=>if kX s then [92,92] else [pc s])++[10]
theorem Fb(w:Lj)(a b:Bool)(i:Sg)(m:M3)(t u:Nat) :
  CT w a b 6 (bw 250 [sv [pc i] t,.int (mi m) u]) []
   (fun j os d=>∃(u:Nat),j=.ok (.ret (sv (wr [i] m) u))/\os=[]/\d=[]):=by
 cases m
 case m0=>
  cases a
  case false=>
   apply sK b i 0xc18000102040c08102040010004001830600180000020408081020400100040010004001020008000020000100040810200001;intro V N T V e f c st
   apply Hh b i [];apply c;intro o τ;refine ⟨τ,⟨?_, ?_, ?_⟩⟩;apply rfl;apply rfl;apply rfl;rfl;k_mem
  case true=>
   apply sK b i 0x30600004081030204081000400100060c18006000000810202040810004001000008000020000100040810200001;intro V N T V e f c st
   apply Hh b i [];apply c;intro o τ;refine ⟨τ,⟨?_, ?_, ?_⟩⟩;apply rfl;apply rfl;apply rfl;rfl;k_mem
 case m1=>
  apply sK b i 0x100020000100040810200001;intro V N T V e f c st
  apply eE b i 0x4000800004081;intro o;apply iY w a b [(pc i)] [92] [92,92] t T (by generalize i=x;revert x;exact sM (by kernel_rfl));k_all;intro k h g st
  apply eE b i 0;intro o;apply iY w a b (nC [(pc i)] [92] [92,92]) [34] [92,34] k g (by generalize i=x;revert x;exact sM (by kernel_rfl));k_all;intro p l n st
  apply Hh b i [];apply c;intro o τ;refine ⟨τ,⟨?_, ?_, ?_⟩⟩;apply rfl;apply rfl;apply rfl;rfl;k_mem
 case m2=>
  apply sK b i 0x100020000100040810200001;intro V N T V e f c st
  apply eE b i 0x400000000800004081;intro o;apply iY w a b [(pc i)] [92] [92,92] t T (by generalize i=x;revert x;exact sM (by kernel_rfl));k_all;intro k h g st
  apply Hh b i [];apply c;intro o τ;refine ⟨τ,⟨?_, ?_, ?_⟩⟩;apply rfl;apply rfl;apply rfl;rfl;k_mem
theorem Fc(w:Lj)(a b:Bool)(i j:Sg)(m:M3)(t u:Nat) :
  CT w a b 6 (bw 250 [sv [pc i,pc j] t,.int (mi m) u]) []
   (fun l os d=>∃(u:Nat),l=.ok (.ret (sv (wr [i,j] m) u))/\os=[]/\d=[]):=by
 cases m
 case m0=>
  cases a
  case false=>
   apply Hi b i j 0xc18000102040c0810204001000400183060018000002040808102040010004001830600180000020408081020400100040010004001020008000020000100040810200001;intro V N T V e f c st
   apply E2 b i j [];apply c;intro o τ;refine ⟨τ,⟨?_, ?_, ?_⟩⟩;apply rfl;apply rfl;apply rfl;rfl;k_mem
  case true=>
   apply Hi b i j 0x30600004081030204081000400100060c1800600000081020204081000400100060c18006000000810202040810004001000008000020000100040810200001;intro V N T V e f c st
   apply E2 b i j [];apply c;intro o τ;refine ⟨τ,⟨?_, ?_, ?_⟩⟩;apply rfl;apply rfl;apply rfl;rfl;k_mem
 case m1=>
  apply Hi b i j 0x100020000100040810200001;intro V N T V e f c st
  apply j3 b i j 0x4000800004081;intro o;apply iY w a b [(pc i),(pc j)] [92] [92,92] t T (by generalize i=x;generalize j=y;revert x y;exact sN (by kernel_rfl));k_all;intro k h g st
  apply j3 b i j 0;intro o;apply iY w a b (nC [(pc i),(pc j)] [92] [92,92]) [34] [92,34] k g (by generalize i=x;generalize j=y;revert x y;exact sN (by kernel_rfl));k_all;intro q n p st
  apply E2 b i j [];apply c;intro o τ;refine ⟨τ,⟨?_, ?_, ?_⟩⟩;apply rfl;apply rfl;apply rfl;rfl;k_mem
 case m2=>
  apply Hi b i j 0x100020000100040810200001;intro V N T V e f c st
  apply j3 b i j 0x400000000800004081;intro o;apply iY w a b [(pc i),(pc j)] [92] [92,92] t T (by generalize i=x;generalize j=y;revert x y;exact sN (by kernel_rfl));k_all;intro k h g st
  apply E2 b i j [];apply c;intro o τ;refine ⟨τ,⟨?_, ?_, ?_⟩⟩;apply rfl;apply rfl;apply rfl;rfl;k_mem
theorem fX(w:Lj)(a b:Bool)(x y:LN)(t u:Nat) :
  CT w a b 0 (b9 "str.__eq__" [sv x t,sv y u]) [] (fun d os c=>∃v:Bool,d=.ok (.ret (.bool v))/\os=[]/\c=[]/\v=(x == y)):=
 (bM (w:=w) (a:=a) (b:=b) (L:=0) (fun d=>d=.ok (.ret (.bool (x == y)))) (by decide +kernel) F.entry_str_eq (gives_str_eq ⟨⟨x⟩⟩ ⟨⟨y⟩⟩ t u) fun s=>⟨rfl,rfl,rfl,rfl,rfl⟩).weak (Lf _) fun r os c h=>⟨_,h.1,h.2.1,h.2.2,rfl⟩
theorem tf(w:Lj)(a b:Bool)(x:LN)(t u:Nat)(e:x≠[]) :
  CT w a b 0 (b9 "str.__ne__" [sv x t,sv [] u]) [] (go (.ret (.bool Lh)) []):=
 (bM (w:=w) (a:=a) (b:=b) (L:=0) (fun f=>f=.ok (.ret (.bool (x != [])))) (by decide +kernel) F.entry_str_ne (gives_str_ne ⟨⟨x⟩⟩ ⟨⟨[]⟩⟩ t u) fun s=>⟨rfl,rfl,rfl,rfl,rfl⟩).weak (Lf _) fun r os d h=>⟨by
  rw [h.1]
  cases x with
  | nil=>exact absurd rfl e
  | cons c x=>rfl,h.2.1,h.2.2⟩
theorem J6(n:Nat):(-1:Int) + ((n + 1:Nat):Int)=n:=by rw [P1,Int.add_comm,Int.add_neg_cancel_right]
theorem bh(w:Lj)(a b:Bool)(x:LN)(l t u:Nat) :
  CT w a b 0 (b9 "str.__getitem__" [sv (x++[l]) t,.int (-1) u]) [] (sV [l]):=by
 refine bM (fun d=>∃k:Nat,d=.ok (.ret (sv [l] k))) (by decide +kernel) PE (SF ⟨⟨x++[l]⟩⟩ (-1) t u l (by decide) ?_) fun s=>⟨by show 1<=_;decide,⟨s.toks,rfl⟩,rfl,rfl,rfl,rfl⟩
 have c:(⟨⟨x++[l]⟩⟩ : Str).length=x.length + 1:=by show (x++[l]).length=_;simp
 rw [StrLaws.seqIndex_neg (by decide) (by rw [c];kd_p),c]
 show (⟨x++[l]⟩ : Array Nat)[((-1:Int) + ((x.length + 1:Nat):Int)).toNat]? = Ld l
 rw [J6]
 simp
abbrev rl(b a:Lc):Obj:=az "slice" [b,a,.none]
theorem ph(n:Nat):NB Lk (Ld (-1)) 1 (n + 1)=NB (Ld ((0:Nat):Int)) (Ld (n:Int)) 1 (n + 1):=by
 dsimp only [NB]
 have a:=J6 n
 simp [a]
 congr 1
 all_goals kd_p
theorem cZ(w:Lj)(a b:Bool)(x:LN)(l t m u:Nat)(hz:x.length < 60000) :
  CT w a b 0 (b9 "str.__getitem__" [sv (x++[l]) t,.ref m]) [(m,rl .none (.int (-1) u))] (fun p os d=>(∃k:Nat,p=.ok (.ret (sv x k)))/\os=[rl .none (.int (-1) u)]/\d=[]):=by
 have c:(⟨⟨x++[l]⟩⟩ : Str).length=x.length + 1:=by show (x++[l]).length=_;simp
 have hp:NB Lk (Ld (-1)) 1 (x.length + 1)=(Np x.length).map (fun k=>0 + k):=by
  rw [ph]
  exact StrLaws.strSliceIndices_plain (MJ _) (P4 _)
 refine bg (by decide +kernel) PE (meets_str_getitem_slice ⟨⟨x++[l]⟩⟩ t m Lk (Ld (-1,u)) Lk (by decide)) fun A g h G D O N T R q n f=>?_
 refine ⟨⟨_,n.get (i:=0) rfl,rfl,rfl⟩, ?_⟩
 unfold sliceMade
 have j:(slicePicked ⟨⟨x++[l]⟩⟩ Lk (Ld (-1,u)) Lk)=(Np x.length).map (fun k=>0 + k):=by
  unfold slicePicked
  rw [c]
  exact hp
 rw [if_neg]
 .refine ⟨?_,f _ [_] [] N (T + 1) h ⟨⟨T, ?_⟩,rfl,rfl⟩ rfl (da n)⟩
  .rw [j]
   have:=aX
   have o:=List.length_filterMap_le (fun i=>(⟨⟨x++[l]⟩⟩ : Str).cps[i]?) ((Np x.length).map (fun k=>0 + k))
   show (((Np x.length).map (fun k=>0 + k)).filterMap _).length<=_
   simp at o ⊢
   kd_p
  .rw [j]
   have:=StrLaws.picks (x++[l]) x.length 0 (by simp)
   show Ro (Sk (Tl ⟨(Sn _ _).toArray⟩ T))=_
   have e:(Sn (fun i=>(⟨⟨x++[l]⟩⟩ : Str).cps[i]?) ((Np x.length).map (fun k=>0 + k)))=x:=by
    refine Eq.trans ?_ (this.trans (by simp))
    congr 1
    funext i
    simp
   rw [e]
 .rw [j,c]
  simp
theorem subAt_one(x:LN)(c i:Nat):TJ ⟨⟨x⟩⟩ ⟨⟨[c]⟩⟩ i=Lh↔x[i]? = Ld c:=by
 rw [StrLaws.subAt_eq]
 show (((x.drop i).take 1) == [c])=Lh↔_
 rw [beq_iff_eq]
 cases h:x.drop i with
 | nil=>
  have : x[i]? = Lk:=by
   have:=congrArg OL h
   rw [NL] at this
   exact this
  rw [this];simp
 | cons d r=>
  have : x[i]? = Ld d:=by
   have:=congrArg OL h
   rw [NL] at this
   simpa using this
  rw [this];simp
theorem vp(x:LN)(c:Nat):(!(MG ⟨⟨x⟩⟩ ⟨⟨[c]⟩⟩ 0 x.length 1).isEmpty)=x.contains c:=by
 rcases StrLaws.occ_head ⟨⟨x⟩⟩ ⟨⟨[c]⟩⟩ 1 (by decide) with ⟨h,e⟩ | ⟨i,r,h,a,_⟩
 .have b:MG ⟨⟨x⟩⟩ ⟨⟨[c]⟩⟩ 0 x.length 1=[]:=h
  rw [b]
  show Li=_
  symm
  rw [Bool.eq_false_iff]
  intro d
  have hm:c∈x:=by simpa using d
  obtain ⟨i,a⟩:=List.getElem?_of_mem hm
  refine e i ⟨?_,(subAt_one x c i).mpr a⟩
  have:=(Mn.mp a).1
  exact this
 .have b:MG ⟨⟨x⟩⟩ ⟨⟨[c]⟩⟩ 0 x.length 1=i::r:=h
  rw [b]
  show Lh=_
  symm
  have:=(subAt_one x c i).mp a.2
  simpa using Ma this
theorem g8(w:Lj)(a b:Bool)(x:LN)(c t u:Nat) :
  CT w a b 0 (b9 "str.__contains__" [sv x t,sv [c] u]) [] (fun e os d=>∃v:Bool,e=.ok (.ret (.bool v))/\os=[]/\d=[]/\v=x.contains c):=
 (bM (w:=w) (a:=a) (b:=b) (L:=0) (fun e=>e=.ok (.ret (.bool (x.contains c)))) (by decide +kernel) F.entry_str_contains (gives_str_contains ⟨⟨x⟩⟩ ⟨⟨[c]⟩⟩ t u) fun s=>⟨by
  have:=vp x c
  rw [<- this];rfl,rfl,rfl,rfl,rfl⟩).weak (Lf _) fun r os d h=>⟨_,h.1,h.2.1,h.2.2,rfl⟩
inductive bC:List (Nat × Nat)->LV->Prop
 | nil:bC [] []
 | cons (p q:Nat) (t:Nat) {ss:List (Nat × Nat)} {vs:LV} (h:bC ss vs):bC ((p,q)::ss) (sv [p,q] t::vs)
theorem bC.at_drop{p q:Nat}{ss:List (Nat × Nat)}{vs:LV}{i:Nat}(h:bC ((p,q)::ss) (vs.drop i)):∃t,vs[i]? = Ld (sv [p,q] t)/\bC ss (vs.drop (i + 1)):=by
 cases e:vs.drop i with
 | nil=>rw [e] at h;cases h
 | cons v r=>
  rw [e] at h
  cases h with
  | cons p q t h=>
   refine ⟨t, ?_, ?_⟩
   .have:=congrArg OL e
    rw [NL] at this
    simpa using this
   .rw [show vs.drop (i + 1)=(vs.drop i).drop 1 from by rw [OM],e]
    exact h
theorem bC.end_drop{vs:LV}{i:Nat}(h:bC [] (vs.drop i)):vs.length<=i:=by
 cases e:vs.drop i with
 | nil=>simpa using e
 | cons v r=>rw [e] at h;cases h
theorem j9(w:Lj)(a b:Bool)(A:LexA)(X:LexX)(i f g:ab)(d:LV)(n:Int)(s:LN)(t:Nat)(r:LV)(j:Nat){ss:LLN}(hs:af ss r)(hz:ss.length < 50000) :
  CT w a b 6 (bw 231 [.ref A.l,sv s t]) (aU A X f i g n d++[(A.pb,aa r j)])
   (fun k os c=>∃(e:Nat),k=.ok (.ret .none)/\os=(aU A X f i g n d).map (·.2)++[aa (r++[sv s t]) e]/\c=[]/\af (ss++[s]) (r++[sv s t])):=
 (zD w a b A X i f g d n s t r j (by rw [hs.length];exact hz)).weak (Lf _) fun k os c h=>by
  refine bj (fun e m=>?_) h;apply m8 m
  exact ⟨e,rfl,rfl,rfl,hs.append (.one s t)⟩
noncomputable def J7:L4:=ax bd 24
def J8:L4:=ax (ai J7) 2
def Fd:L4:=ax (ai (ax (ai J8) 1)) 0
def yD(F:Nat):Env:=⟨bY J7,F,3,[],⟨#[95,108,97,119,95,114,117,110,46,60,108,111,99,97,108,115,62,46]⟩,Ld 271,.ref 270,Ld F,0⟩
noncomputable def fH(l:Nat)(b:LN):List (Nat × Nat)->LLN->LLN
 | [],a=>a
 | (p,q)::r,a=>fH l b r (if ([p] == [l])=Lh then a++[b++[q]] else a)
abbrev ay (x0 x1 x2):=((x0,aJ x1 x2):Nat × Obj)
abbrev Hl(A:LexA)(X:LexX)(g i h:ab)(n:Int)(a pb:LV)(j:Nat)(f:Nat)(b:LV)(k:Nat)(F C:Nat)(d:LN)(c:Lc)(e:ab):Mem:=
 aU A X g i h n a++[(A.pb,aa pb j),(f,aa b k),(ay F [(oU,.ref A.l),(dT,.ref f),(jM,.ref C),(bK,sv d (e.t 3)),(ir,c)] e)]
theorem kc(w:Lj)(a b:Bool)(A:LexA)(X:LexX)(P L O:ab)(n:Int)(r:LV)(z:Nat)(g:LV)(K F C I:Nat)(f:LN)(l:Nat)(y:ab)(u:Lc)(d:List (Nat × Nat))(c:LLN)(s:LV)(J i:Nat)(out:LLN)(B:bC d (g.drop i))(hp:af c s)(hz:c.length + d.length < 40000)(hw:f.length < 1000)(R:out=fH l (f++[l]) d c) :
  CT w a b 7 (aC Fd I (yD F)) (Hl A X L P O n r s J z g K F C (f++[l]) u y++[(I,al z i)])
   (fun rr os E=>∃(G:LV)(Jp:ab)(H:Lc)(M:ab)(oi:Obj),rr=.ok .next/\os=(Hl A X L P O n r G Jp.e z g K F C (f++[l]) H M).map (·.2)++[oi]/\E=[]/\af out G):=by
 induction d generalizing c s J i u y with
 | nil=>
  have hi:=B.end_drop
  have S:out=c:=R
  subst S
  apply fE b 5114997373928960;intro V N T V B0 Y0 j st
  apply gF b 13;intro o;apply aP w a b I z i g K ‹_›;k_all;intro x tp N1 Q st
  apply fT b [0,1,2,3,4,5,6,7,8,9,10,11];apply j;intro o τ;refine m7 s (ae (o 8)) u y (o 11) ⟨?_, ?_, ?_,hp⟩;apply rfl;apply rfl;apply rfl;rfl;k_mem
 | cons pq d ih=>
  obtain ⟨p,q⟩:=pq
  obtain ⟨tv,hv,m⟩:=B.at_drop
  have D:c.length + d.length < 40000:=LZ hz
  have hz1:c.length < 50000:=oF D rfl
  have hz2:=D
  have hz3:(c++[f++[l]++[q]]).length + d.length < 40000:=by rw [Lq,Ng];exact hz
  have W:Lh=([p] == [l])->out=fH l (f++[l]) d (c++[f++[l]++[q]]):=fun h=>by rw [R,fH,if_pos h.symm]
  have U:Li=([p] == [l])->out=fH l (f++[l]) d c:=fun h=>by rw [R,fH,if_neg (by rw [<- h];decide)]
  have hwl:(f++[l]).length + [q].length < 60000:=oN hw rfl
  apply fE b 5114997373928960;intro V N T V B0 Y0 j st
  apply aE b 0x1000000580002c58b;intro o;apply aG w a b I z i g K (sv [p,q] tv) hv;k_all;intro N1 Q st
  apply fc b 256;intro o;apply bh w a b f l (y.t 3) (Q + 4);k_all;intro k N2 T2 st
  apply o7 b;intro o;apply fX w a b [p] [l] (Q + 2) k;k_all;intro v N3 T3 hq
  cases v
  .apply dC b 3;intro st
   apply Cg b [0,1,2,3,4,5,6,7,8,9,10,11];apply j;intro o;apply ih (ae (o 10)) (sv [p,q] tv) c s J (i + 1) m hp ‹_› (by exact U ‹_›);k_mem
  .apply dC b 0x100000058b040400000000800000080000008b;intro st
   apply fc b 0x101c305080c1010024100;intro o;apply bB w a b (f++[l]) [q] (y.t 3) (T3 + 1) ‹_›;k_all;intro v1 N4 T4 st
   apply jY b 3;intro o;apply j9 w a b A X P L O r n ((f++[l])++[q]) v1 s J hp ‹_›;k_all;intro Z N5 T5 Y st
   apply Cg b [0,1,2,3,4,5,6,7,8,9,10,11];apply j;intro o;apply ih (ae (o 10)) (sv [p,q] tv) (c++[((f++[l])++[q])]) (s++[(sv ((f++[l])++[q]) v1)]) Z (i + 1) m Y ‹_› (by exact W ‹_›);k_mem
theorem iz(l:Nat)(a:LN):∀(b:List (Nat × Nat))(ss:LLN),(fH l a b ss).length<=ss.length + b.length
 | [],_=>Lf _
 | (p,q)::r,ss=>by
  rw [fH]
  have:=iz l a r (if ([p] == [l])=Lh then ss++[a++[q]] else ss)
  refine LL this ?_
  split<;>simp<;>kd_p
inductive LW:LV->LLN->Int->Int->Prop
 | nil (n:Int):LW [] [] n n
 | cons {chs rest:LV} {s:LN} {ws:LLN} {n n1 n2:Int} (q:TR chs s rest n n1) (hz:chs.length < 50000) (hs:s.length < 1000) (h:LW rest ws n1 n2):LW chs (s::ws) n n2
inductive TK:LV->LV->Int->LN->LV->LV->Int->Prop
 | pb {s t pb chs n} (h:pb.length < 50000):TK (sv s t::pb) chs n s pb chs n
 | rd {chs s rest n n'} (q:TR chs s rest n n') (hz:chs.length < 50000) (hs:s.length < 40000):TK [] chs n s [] rest n'
noncomputable def nx:LLN->LLN->LN × LLN × LLN
 | s::ss,ws=>(s,ss,ws)
 | [],s::ws=>(s,[],ws)
 | [],[]=>([],[],[])
theorem qm{a e:LLN}{pb c:LV}{n n':Int}(hp:af a pb)(hz:a.length < 50000)(f:LW c e n n'):∃d b g,TK pb c n (nx a e).1 d b g/\af (nx a e).2.1 d/\LW b (nx a e).2.2 g n':=by
 cases hp with
 | cons s t hp=>exact ⟨_,_,_,.pb (hp.length ▸ LZ hz),hp,f⟩
 | nil=>cases f with
  | nil n=>exact ⟨_,_,_,.rd (.fin n) (by decide) (by decide),.nil,.nil _⟩
  | cons q hz hs h=>exact ⟨_,_,_,.rd q hz (MC hs (by decide)),.nil,h⟩
theorem mB(w:Lj)(a b:Bool)(A:LexA)(X:LexX)(o k m:ab){pb f j c:LV}{n n':Int}{s:LN}(q:TK pb f n s j c n')(p:Nat) :
  CT w a b 6 (bw 224 [.ref A.l]) (aU A X k o m n f++[(A.pb,aa pb p)])
   (fun r os i=>∃(u:Nat)(d e:ab)(g:Nat),r=.ok (.ret (sv s u))/\os=(aU A X d o e n' c).map (·.2)++[aa j g]/\i=[]):=by
 cases q with
 | pb h=>exact (te w a b A X o k m f n s _ _ p h).weak (Lf _) fun V V V h=>bj (fun g h=>jJ _ k m g h) h
 | rd q hz hs=>exact (sZ w a b A X o k m q p hz hs).weak (Lf _) fun V V V h=>ma (fun u d e h=>jJ u d e p h) h
def gI(c:List (Nat × Nat))(b:LN)(l:Nat)(a:LLN):LLN:=if b.dropLast.contains l then a else fH l b c a
def fJ(d:List (Nat × Nat)):Nat->LN->LLN->LLN->LLN->Option LLN
 | 0,_,_,_,_=>Lk
 | f + 1,b,c,g,a=>
  if 1000 < b.length + a.length + c.length + d.length then Lk else
  match b.getLast? with
  | none=>if c.isEmpty && g.isEmpty then Ld a else Lk
  | some l=>match nx (gI d b l c) g with
   | (s,ss,e)=>fJ d f s ss e (a++[b])
def ag(s:L4)(env:Env):Mk:=.whileLoop (sx s 0) (ai s) (eB s) env
set_option tactic.hygienic true in
theorem th(w:Lj)(a b:Bool)(A:LexA)(X:LexX)(P:ab)(St:Nat)(r:LV)(se F C:Nat)(g:List (Nat × Nat))(hst:bC g r)(n':Int)(out:LLN)(f:Nat)(L M:ab)(n:Int)(z:LV)(ws:LLN)(D:LN)(d:LLN)(Y:LV)(Z:Nat)(c:LLN)(E:LV)(ce:Nat)(y:ab)(s:Lc)
  (q:LW z ws n n') (hp:af d Y) (hc:af c E) (hf:fJ g f D d ws c=Ld out) :
  CT w a b 8 (ag J8 (yD F)) (Hl A X L P M n z Y Z St r se F C D s y++[(C,aa E ce)])
   (fun rr os W=>∃(i j Jp Jc O:ab)(x:Lc)(Q:LV),rr=.ok .next/\os=(Hl A X i P j n' [] [] Jp.e St r se F C [] x O).map (·.2)++[aa Q Jc.e]/\W=[]/\af out Q):=by
 induction f generalizing L M n z ws D d Y Z c E ce y s with
 | zero=>cases hf
 | succ f ih=>
  unfold fJ at hf
  split at hf
  .cases hf
  rename_i hb
  split at hf
  .rename_i hw
   have hw':D=[]:=by simpa using hw
   subst hw'
   split at hf
   .rename_i he
    cases hf
    have he1:d=[]:=by simpa using (LY.mp he).1
    have he2:ws=[]:=by simpa using (LY.mp he).2
    subst he1 he2
    cases q
    cases hp
    apply fE b 1408;intro V N T V B0 Y0 B st
    apply fT b [0,1,2,3,4,5,6,7,8,9,10,11];apply B;intro o τ;refine uM L M (ae (o 8)) (ae (o 11)) y s E ⟨?_, ?_, ?_,hc⟩;apply rfl;apply rfl;apply rfl;rfl;k_mem
   .cases hf
  .rename_i l hw
   obtain ⟨h,rfl⟩:=Nk.mp hw
   rw [gI,Oy] at hf
   simp only [Lq,Ls,LQ] at hb
   obtain ⟨U,hc0,H⟩:=Cv hb
   have hwn:h++[l]≠[]:=by simp
   have hcz:c.length < 60000:=oA hc0 rfl
   have hw6:h.length < 60000:=oA U rfl
   have hpz:d.length + g.length < 40000:=oA H rfl
   have R:d.length < 50000:=oF H rfl
   have S:bC g (r.drop 0):=hst
   apply fE b 4195712;intro V N T V B0 Y0 B st
   apply aE b 0x2c082180058c183060b;intro o;apply tf w a b (h++[l]) (y.t 3) T ‹_›;k_all;intro N1 T1 st
   apply jY b 536870923;intro o;apply dx w a b C E (h++[l]) (y.t 3) ce hc ‹_›;k_all;intro J N2 T2 hq st
   apply fc b 52811454742539;intro o;apply bh w a b h l (y.t 3) (T2 + 1);k_all;intro k N3 T3 st
   apply fc b 256;intro o;apply cZ w a b h l (y.t 3) N3 (T3 + 1) ‹_›;k_all;intro k1 N4 T4 st
   apply o7 b;intro o;apply g8 w a b h l k1 k;k_all;intro v N5 T5 hq1
   rw [<- hq1] at hf
   cases v
   .apply dC b 0xd14244070c14203040400c043800a002850b;intro st
    have hy:=iz l (h++[l]) g d
    apply lg b;intro o;apply kc w a b A X P L M n z St r se F C N5 h l y s g d Y Z 0 _ S hp hpz U rfl;k_mem;intro V V V N6 T6 p V;refine jA (fun pb' Jp x O oi p=>?_) p;apply jr p;intro hq2;apply dC b 0x101c305080c1010024100040400000000800000080000008b;intro st
    refine ma (fun I m n2 p=>?_) (qm hq2 (LJ hy (oA H rfl)) q)
    apply lg b;intro o;apply mB w a b A X P L M p.1 Jp.e;k_mem;intro V V V N7 T7 G V;refine gz (fun u i j K G=>?_) G;apply dX G;apply dC b 50571;intro st
    apply Cg b [0,1,2,3,4,5,6,7,8,9,10,11];apply B;intro o;apply ih i j n2 m _ _ _ I K (c++[(h++[l])]) (E++[(sv (h++[l]) (y.t 3))]) J.e (ae (o 10)) x p.2.2 p.2.1 hq hf;k_mem
   .apply dC b 0x101c305080c1010024100040400000000800000080000008b;intro st
    refine ma (fun I m n2 p=>?_) (qm hp R q)
    apply lg b;intro o;apply mB w a b A X P L M p.1 Z;k_mem;intro V V V N6 T6 G V;refine gz (fun u i j K G=>?_) G;apply dX G;apply dC b 50571;intro st
    apply Cg b [0,1,2,3,4,5,6,7,8,9,10,11];apply B;intro o;apply ih i j n2 m _ _ _ I K (c++[(h++[l])]) (E++[(sv (h++[l]) (y.t 3))]) J.e (ae (o 10)) s p.2.2 p.2.1 hq hf;k_mem
def iA(w:Lj)(kf:Nat->Nat):Nat->List (LN × Lc)->List NG
 | _,[]=>[]
 | i,(k,v)::r=>⟨QG w ⟨⟨k⟩⟩,.str ⟨⟨k⟩⟩ (kf i),v⟩::iA w kf (i + 1) r
abbrev bO(w:Lj)(kvs:List (LN × Lc))(J:ab)(ep:Nat):Obj:={ cls:=.type "dict",data:=.dict ⟨iA w J.k 0 kvs⟩ ep }
abbrev iB(w:Lj)(kvs:List (LN × Lc))(J:ab):Obj:=bO w kvs J J.e
noncomputable abbrev oz(kvs:List (LN × Lc)):List (Str × Lc):=kvs.map fun p=>(⟨⟨p.1⟩⟩,p.2)
theorem fg{x y:LN}(h:(⟨⟨x⟩⟩ : Str)=⟨⟨y⟩⟩):x=y:=by injection h with h;injection h
section
variable{prog:LU}{w:Lj}
theorem g9(kf:Nat->Nat):∀(kvs:List (LN × Lc))(i:Nat),∀e∈iA w kf i kvs,∃k:Str,(strKind prog w).is k e.key=Lh/\e.hash=(strKind prog w).hash k
 | [],_,_,h=>nomatch h
 | (k,v)::r,i,e,h=>by
  rcases LD.mp h with rfl|h
  .exact ⟨⟨⟨k⟩⟩,by show ((⟨⟨k⟩⟩ : Str) == ⟨⟨k⟩⟩)=Lh;simp,rfl⟩
  .exact g9 kf r (i + 1) e h
theorem eH(kf:Nat->Nat):∀(kvs:List (LN × Lc))(i:Nat),Pairs (strKind prog w) (iA w kf i kvs) (oz kvs)
 | [],_=>.nil
 | (k,v)::r,i=>.cons (by show ((⟨⟨k⟩⟩ : Str) == ⟨⟨k⟩⟩)=Lh;simp) rfl (eH kf r (i + 1))
theorem hF{h:ME}{d:Nat}{kvs:List (LN × Lc)}{J:ab}{ep:Nat}(hd:h.get? d=Ld (bO w kvs J ep))(a:(kvs.map (·.1)).Nodup):h.DictOf (strKind prog w) d (oz kvs):=by
 refine ⟨_,_,_,hd,⟨rfl,rfl,rfl⟩,rfl,fun e he=>g9 J.k kvs 0 e (by simpa using he),eH J.k kvs 0, ?_⟩
 rw [Mu]
 have : ((fun x:Str × Lc=>x.1) ∘ fun p:LN × Lc=>((⟨⟨p.1⟩⟩ : Str),p.2))=(fun x:LN=>(⟨⟨x⟩⟩ : Str)) ∘ (·.1):=rfl
 rw [this,<- Mu]
 exact MM.mpr (S9 (fun b he=>b (fg he)) a)
noncomputable def yE(t:Nat)(J:ab):ab:=⟨J.h,fun i=>match i with | 0=>t|i + 1=>J.k i,J.t,J.e⟩
theorem nE(t:Nat)(J:ab):∀(kvs:List (LN × Lc))(i:Nat),iA w (yE t J).k (i + 1) kvs=iA w J.k i kvs
 | [],_=>rfl
 | (k,v)::r,i=>by rw [iA,iA,nE t J r (i + 1)];rfl
theorem nG(ep:Nat):∀{b:List NG}{kvs:List (LN × Lc)},(∀e∈b,∃k:Str,(strKind prog w).is k e.key=Lh/\e.hash=(strKind prog w).hash k)->Pairs (strKind prog w) b (oz kvs)->∃J:ab,b=iA w J.k 0 kvs/\J.e=ep
 | [],[],_,_=>⟨⟨fun V=>0,fun V=>0,fun V=>0,ep⟩,rfl,rfl⟩
 | [],_::_,_,h=>by cases h
 | _::_,[],_,h=>by cases h
 | e::b,(k,v)::kvs,hk,h=>by
  cases h with
  | cons f g j=>
   obtain ⟨J,l,he⟩:=nG ep (fun e' c=>hk e' (.tail _ c)) j
   obtain ⟨t,i⟩:=Lc.isStrOf_shape f
   obtain ⟨m,d,a⟩:=hk e (.head _)
   refine ⟨yE t J, ?_,he⟩
   rw [iA,nE,<- l]
   have : m=⟨⟨k⟩⟩:=(strKind prog w).inj _ _ _ d f
   subst this
   obtain ⟨n,o,p⟩:=e
   dsimp only at i a g
   subst i a g
   rfl
theorem yF{h:ME}{d:Nat}{kvs:List (LN × Lc)}(hd:h.DictOf (strKind prog w) d (oz kvs)):∃J:ab,h.get? d=Ld (iB w kvs J):=by
 obtain ⟨o,i,ep,p,m,a,n,hp,_⟩:=hd
 obtain ⟨J,j,he⟩:=nG ep (fun e he=>n e (by simpa using he)) hp
 refine ⟨J, ?_⟩
 rw [p]
 obtain ⟨c,q,r,s⟩:=o
 obtain ⟨b,f,g⟩:=m
 dsimp only at b f g a
 subst b f g a
 obtain ⟨l⟩:=i
 show Ld (QL _ _ (.dict ⟨l⟩ ep) _)=_
 have : l=iA w J.k 0 kvs:=j
 rw [this,<- he]
end
noncomputable def am(kvs:List (LN × Lc))(k:LN):Option Lc:=match kvs with
 | []=>Lk
 | (k',v)::r=>if k'=k then Ld v else am r k
theorem cF(k:LN):∀kvs:List (LN × Lc),SB (oz kvs) (⟨⟨k⟩⟩ : Str)=am kvs k
 | []=>rfl
 | (k',v)::r=>by
  have a:=cF k r
  unfold SB at a ⊢
  show Option.map _ (List.find? _ (((⟨⟨k'⟩⟩ : Str),v)::oz r))=_
  rw [List.find?_cons]
  by_cases h:k'=k
  .subst h;simp [am]
  .have : ¬ (⟨⟨k'⟩⟩ : Str)=⟨⟨k⟩⟩:=fun q=>h (fg q)
   simp only [this,decide_false,am,if_neg h]
   exact a
theorem hH{w:Lj}{a b:Bool}{g h:ME}{N d:Nat}{o:Obj}{M:Mem}(f:(kt (wd w a b).params).Holds g 1 0)(c:Rep g h N ((d,o)::M)):(d == sysModules)=Li:=by
 have z:=Ox f (show (kt (wd w a b).params).get 1=Ld (o1 (wd w a b).params) from by kernel_rfl)
 rw [P3,O8] at z
 rw [beq_eq_false_iff_ne]
 intro e
 have:=(c.own (d,o) (.head _)).2
 have e':d=1:=e
 rw [show (d,o).1=1 from e',z] at this
 cases this
theorem cR{prog:LU}{w:Lj}(k:LN)(t:Nat):(strKind prog w).is (⟨⟨k⟩⟩ : Str) (sv k t)=Lh:=by show ((⟨⟨k⟩⟩ : Str) == ⟨⟨k⟩⟩)=Lh;simp
theorem kd:P7 Pz "dict.get" = Ld Os.«dict.get» := F.entry_dict_get
section
variable(w:Lj)(a b:Bool)(d:Nat)(kvs:List (LN × Lc))(J:ab)(ep:Nat)(k:LN)(t:Nat)
include w a b d kvs J ep k t
theorem pi(v:Lc)(j:(kvs.map (·.1)).Nodup)(l:am kvs k=Ld v) :
  CT w a b 0 (eC "dict.get" d k t) [(d,bO (wd w a b) kvs J ep)] (go (.ret v) [bO (wd w a b) kvs J ep]):=by
 refine bH (by decide +kernel) kd fun A g h G D O N T R m f n e c=>?_
 refine TC (strKind pw (wd w a b)) (k:=(⟨⟨k⟩⟩ : Str)) d (cR k t) (hH f e) A R _ ⟨_,(hF (e.get (i:=0) rfl) j).mapOf, ?_⟩
 rw [cF,l]
 exact c _ [_] [] N _ _ ⟨rfl,rfl,rfl⟩ rfl e
theorem vq(j:(kvs.map (·.1)).Nodup)(l:am kvs k=Lk) :
  CT w a b 0 (eC "dict.get" d k t) [(d,bO (wd w a b) kvs J ep)] (go (.ret .none) [bO (wd w a b) kvs J ep]):=by
 refine bH (by decide +kernel) kd fun A g h G D O N T R m f n e c=>?_
 refine TC (strKind pw (wd w a b)) (k:=(⟨⟨k⟩⟩ : Str)) d (cR k t) (hH f e) A R _ ⟨_,(hF (e.get (i:=0) rfl) j).mapOf, ?_⟩
 rw [cF,l]
 exact c _ [_] [] N _ _ ⟨rfl,rfl,rfl⟩ rfl e
theorem aY(v:Lc)(f:(kvs.map (·.1)).Nodup)(j:am kvs k=Ld v) :
  CT w a b 0 (eC "dict.__getitem__" d k t) [(d,bO (wd w a b) kvs J ep)] (go (.ret v) [bO (wd w a b) kvs J ep]):=by
 refine bH (by decide +kernel) Rt fun A g h G D O N T R l m n e c=>?_
 refine Sq (strKind pw (wd w a b)) (k:=(⟨⟨k⟩⟩ : Str)) d (cR k t) A R _ ⟨_,v,(hF (e.get (i:=0) rfl) f).mapOf,by rw [cF,j], ?_⟩
 exact c _ [_] [] N _ _ ⟨rfl,rfl,rfl⟩ rfl e
theorem yG(l:(kvs.map (·.1)).Nodup) :
  CT w a b 0 (eC "dict.__contains__" d k t) [(d,bO (wd w a b) kvs J ep)] (fun m os c=>∃v:Bool,m=.ok (.ret (.bool v))/\os=[bO (wd w a b) kvs J ep]/\c=[]/\v=(am kvs k).isSome):=by
 refine bH (by decide +kernel) F.entry_dict_contains fun A g h G D O N T R n j o f e=>?_
 refine meets_dict_contains (strKind pw (wd w a b)) (k:=(⟨⟨k⟩⟩ : Str)) d (cR k t) (hH j f) A R _ ⟨_,(hF (f.get (i:=0) rfl) l).mapOf, ?_⟩
 rw [cF]
 exact e _ [_] [] N _ _ ⟨_,rfl,rfl,rfl,rfl⟩ rfl f
end
noncomputable def pj(kvs:List (LN × Lc))(k:LN)(v:Lc):List (LN × Lc):=match kvs with
 | []=>[(k,v)]
 | (k',v')::r=>if k'=k then (k,v)::r else (k',v')::pj r k v
set_option tactic.hygienic true in
theorem lF(k:LN)(v:Lc):∀kvs:List (LN × Lc),(kvs.map (·.1)).Nodup->stored (oz kvs) (⟨⟨k⟩⟩ : Str) v=oz (pj kvs k v)
 | [],_=>rfl
 | (k',v')::r,hn=>by
  have a:=Mb.mp hn
  have b:=lF k v r a.2
  unfold stored at b ⊢
  by_cases h:k'=k
  .subst h
   have d:∀p∈r,¬ (⟨⟨p.1⟩⟩ : Str)=⟨⟨k'⟩⟩:=fun p hp q=>a.1 (LE.mpr ⟨p,hp,fg q⟩)
   simp only [Lz,OU,decide_true,Bool.true_or,if_true,pj]
   congr 1
   rw [Mu]
   refine Ns fun p hp=>?_
   show (if (⟨⟨p.1⟩⟩ : Str)=⟨⟨k'⟩⟩ then _ else _)=_
   rw [if_neg (d p hp)]
  .have e:¬ (⟨⟨k'⟩⟩ : Str)=⟨⟨k⟩⟩:=fun q=>h (fg q)
   simp only [Lz,OU,e,decide_false,OV,pj,if_neg h,if_false]
   split at b
   .rename_i c;rw [if_pos c,b]
   .rename_i c;rw [if_neg c]
    rw [MI,b]
abbrev vr (x0 x1 x2 x3):=(fun c os a=>∃b:ab,c=.ok (.ret .none)/\os=[iB (wd x0 x1 x2) x3 b]/\a=[] : bI)
section
variable(w:Lj)(a b:Bool)(d:Nat)(kvs:List (LN × Lc))(J:ab)(k:LN)(t:Nat)(v:Lc)(c:(kvs.map (·.1)).Nodup)(hz:kvs.length < 1000)
include w a b d kvs J k t v c hz
theorem zE :
  CT w a b 0 (b9 "dict.__setitem__" [.ref d,sv k t,v]) [(d,iB (wd w a b) kvs J)] (vr w a b (pj kvs k v)):=by
 refine bH (by decide +kernel) Rr fun A g h G D O N T R q r s j f=>?_
 refine meets_dict_setitem_pairs (strKind pw (wd w a b)) (k:=(⟨⟨k⟩⟩ : Str)) d (cR k t) v A R _ ⟨_,hF (j.get (i:=0) rfl) c,by have:=aX;rw [Ln];kd_p,fun n hd hs=>?_⟩
 rw [lF k v kvs c] at hd
 obtain ⟨l,o⟩:=yF hd
 exact f _ [_] [] _ _ n ⟨l,rfl,rfl,rfl⟩ rfl (j.one (fun m ob p e=>(hs.2 m p).trans e) o)
noncomputable def tm(kvs:List (LN × Lc))(k:LN):List (LN × Lc):=kvs.filter fun p=>decide (p.1≠k)
theorem zF(s:am kvs k=Ld v) :
  CT w a b 0 (eC "dict.__delitem__" d k t) [(d,iB (wd w a b) kvs J)] (vr w a b (tm kvs k)):=by
 refine bH (by decide +kernel) F.entry_dict_delitem fun A g h G D O N T R u x y j f=>?_
 refine meets_dict_delitem_pairs (strKind pw (wd w a b)) (k:=(⟨⟨k⟩⟩ : Str)) d (cR k t) A R _ ⟨_,hF (j.get (i:=0) rfl) c,by have:=aX;rw [Ln];kd_p,by rw [cF,s];rfl,fun n hd hs=>?_⟩
 have e:without (oz kvs) (⟨⟨k⟩⟩ : Str)=oz (tm kvs k):=by
  dsimp only [without,tm,oz]
  rw [List.filter_map]
  congr 1
  refine List.filter_congr fun p V=>?_
  show decide (¬ (⟨⟨p.1⟩⟩ : Str)=⟨⟨k⟩⟩)=decide (¬p.1=k)
  rw [decide_eq_decide]
  exact ⟨fun h q=>h (by rw [q]),fun h q=>h (fg q)⟩
 rw [e] at hd
 obtain ⟨l,o⟩:=yF hd
 exact f _ [_] [] _ _ n ⟨l,rfl,rfl,rfl⟩ rfl (j.one (fun m ob r e=>(hs.2 m r).trans e) o)
end
theorem ke{w:Lj}(kf:Nat->Nat)(k:LN)(t:Nat)(v:Lc):∀(kvs:List (LN × Lc))(i:Nat),
  iA w kf i kvs++[⟨QG w ⟨⟨k⟩⟩,.str ⟨⟨k⟩⟩ t,v⟩]=iA w (fun j=>if j=i + kvs.length then t else kf j) i (kvs++[(k,v)])
 | [],i=>by simp [iA]
 | (k',v')::r,i=>by
  rw [MI,iA,iA,MI,ke kf k t v r (i + 1)]
  have a:¬i=i + ((k',v')::r).length:=by simp
  rw [if_neg a]
  have b:i + 1 + r.length=i + ((k',v')::r).length:=by simp only [Ls];kd_p
  rw [b]
set_option tactic.hygienic true in
theorem iC{w:Lj}(kf:Nat->Nat)(k:LN):∀(kvs:List (LN × Lc))(i:Nat),am kvs k=Lk->∀e∈iA w kf i kvs,Lc.isStrOf ⟨⟨k⟩⟩ e.key=Li
 | [],_,_,_,h=>nomatch h
 | (k',v')::r,i,hl,e,h=>by
  unfold am at hl
  split at hl
  .cases hl
  .rename_i a
   rcases LD.mp h with rfl|h
   .show ((⟨⟨k'⟩⟩ : Str) == ⟨⟨k⟩⟩)=Li
    rw [beq_eq_false_iff_ne]
    exact fun q=>a (fg q)
   .exact iC kf k r (i + 1) hl e h
section
variable(w:Lj)(a b:Bool)(d:Nat)(kvs:List (LN × Lc))(J:ab)(ep:Nat)
include w a b d kvs J ep
theorem vt(k:LN)(t:Nat)(v:Lc)(hz:kvs.length < 1000)(r:am kvs k=Lk) :
  CT w a b 0 (b9 "dict.__setitem__" [.ref d,sv k t,v]) [(d,bO (wd w a b) kvs J ep)] (fun u os c=>∃p:ab,u=.ok (.ret .none)/\os=[bO (wd w a b) (kvs++[(k,v)]) p (ep + 1)]/\c=[]):=by
 refine bH (by decide +kernel) Rr fun A g h G D O N T R x y B o m=>?_
 have n:=o.get (i:=0) rfl
 have q:(⟨h,G,D,T,O⟩ : Ly).TypeIs (.ref d) "dict" := ⟨_,n,rfl⟩
 show L7 _ _ (Tq "__setitem__" ⟨[.ref d,sv k t,v],[]⟩ >>= _) _ _ _
 refine Le (Rz q ?_)
 show L7 _ _ (P8 d (sv k t) v >>= _) _ _ _
 refine Le ?_
 unfold P8
 refine Nh ?_
 refine Le ((strKind pw (wd w a b)).pyHash (cR k t) ?_)
 unfold dictSetHashed
 refine Nh ?_
 refine Le (Sz (knd:=strKind pw (wd w a b)) (s:=⟨h,G,D,T + 1,O⟩) (cR k t) n rfl (fun e he=>g9 J.k kvs 0 e (by simpa using he)) ?_)
 have hf:(⟨iA (wd w a b) J.k 0 kvs⟩ : Array NG).findIdx? (fun e=>(strKind pw (wd w a b)).is (⟨⟨k⟩⟩ : Str) e.key)=Lk:=by
  rw [Qi]
  intro e he
  exact iC J.k k kvs 0 r e (by simpa using he)
 rw [hf]
 have hsz:(⟨iA (wd w a b) J.k 0 kvs⟩ : Array NG).size=kvs.length:=by
  have:=(eH (prog:=pw) (w:=wd w a b) J.k kvs 0).length
  simpa using this
 refine Le (Oa (RL (hz:=by rw [hsz];have:=aX;kd_p) (s:=⟨h,G,D,T + 1,O⟩) n rfl ?_))
 have z:=o.update (i:=0) (f:=O9 (fun l=>l.push ⟨QG (wd w a b) ⟨⟨k⟩⟩,sv k t,v⟩)) rfl rfl
 have e:O9 (fun l=>l.push ⟨QG (wd w a b) ⟨⟨k⟩⟩,sv k t,v⟩) (bO (wd w a b) kvs J ep)=bO (wd w a b) (kvs++[(k,v)]) ⟨J.h,fun j=>if j=0 + kvs.length then t else J.k j,J.t,J.e⟩ (ep + 1):=by
  show QL _ _ (.dict (Te ⟨iA (wd w a b) J.k 0 kvs⟩ _) _) _=QL _ _ (.dict ⟨iA (wd w a b) _ 0 (kvs++[(k,v)])⟩ _) _
  rw [<- ke J.k k t v kvs 0]
  simp
 rw [e] at z
 exact Lx (m _ [_] [] N (T + 1) _ ⟨_,rfl,rfl,rfl⟩ rfl z)
abbrev cG(d i n ep:Nat):Obj:=az "dict_keyiterator" [.ref d,.int i 0,.int n 0,.int ep 0]
theorem mD :
  CT w a b 0 (b9 "dict.__iter__" [.ref d]) [(d,bO (wd w a b) kvs J ep)] (fun p os c=>∃x:Nat,p=.ok (.ret (.ref x))/\os=[bO (wd w a b) kvs J ep]/\c=[(x,cG d 0 kvs.length ep)]):=by
 refine bH (by decide +kernel) F.entry_dict_iter fun A g h G D O N T R q n r f j=>?_
 have l:=f.get (i:=0) rfl
 have m:(⟨h,G,D,T,O⟩ : Ly).TypeIs (.ref d) "dict" := ⟨_,l,rfl⟩
 unfold Os.«dict.__iter__»
 refine Le ?_
 unfold Tr
 refine Le (Rz m ?_)
 show L7 _ _ (Ob (Lv d)) _ _ _
 refine Lx ?_
 show L7 _ _ (PW d >>= _) _ _ _
 unfold PW
 rw [if_neg (by rw [hH n f];exact Oe)]
 refine Le (Lx ?_)
 refine Le (wpAny_dictEntries l rfl ?_)
 refine Le (wpAny_dictEpoch l rfl ?_)
 have hsz:(⟨iA (wd w a b) J.k 0 kvs⟩ : Array NG).size=kvs.length:=by
  have:=(eH (prog:=pw) (w:=wd w a b) J.k kvs 0).length
  simpa using this
 have z:=f.alloc (o:=cG d 0 kvs.length ep) rfl
 have e:=f.size
 subst e
 refine Le (Mg (Lx ?_))
 have e:({ cls:=.type "dict_keyiterator",dict:=Lk,data:=.fields #[.ref d,MQ 0,MQ ((⟨iA (wd w a b) J.k 0 kvs⟩ : Array NG).size),MQ ep] } : Obj)=cG d 0 kvs.length ep:=by rw [hsz];rfl
 show R _ ⟨h.push _,G,D,T,O⟩
 rw [e]
 exact j _ [_] [_] _ _ _ ⟨_,rfl,rfl,rfl⟩ rfl z
end
abbrev ao(d:Nat)(n:LN)(a:Int)(U:Nat)(J:ab):Obj:={ cls:=.ref 57,dict:=Ld d,slots:=#[Ld (sv n (J.t 0)),Ld (.int a (J.t 1)),Ld (.ref U)] }
abbrev fh(D:Nat)(a:Lc)(b nf:Int)(J:ab):Obj:=av [([95,110,111,100,101,50,105,110,102,111],.ref D),([95,114,101,97,100,121,95,110,111,100,101,115],a),([95,110,112,97,115,115,101,100,111,117,116],.int b (J.t 2)),([95,110,102,105,110,105,115,104,101,100],.int nf (J.t 3))] J
theorem Fe(w:Lj)(a b:Bool)(S q d:Nat)(kvs:List (LN × Lc))(i:ab)(c:LN)(l:Nat)(f:LN)(B m v u:Nat)(z:Int)(D:ab)(n x j:Nat)(h:Int)(s:ab)(k:LV)(e:Nat)(A nf:Int)(t:ab)(y:(kvs.map (·.1)).Nodup)(E:am kvs c=Ld (.ref m))(F:am kvs f=Ld (.ref n))(hz:k.length < 50000) :
  CT w a b 5 (bw 104 [.ref S,sv c l,sv f B]) [(S,cu 154 q),(q,fh d .none A nf t),(d,bO (wd w a b) kvs i 4),(m,ao v c z u D),(n,ao x f h j s),(j,aa k e)]
   (fun G os g=>∃(p C:ab),G=.ok (.ret .none)/\os=[cu 154 q,fh d .none A nf t,bO (wd w a b) kvs i 4,ao v c (z + 1) u p,ao x f h j s,aa (k++[sv c l]) C.e]/\g=[]):=by
 apply fE b 0x101040c009060c1830400081000000100000000224009122448000040080404000000008000000800000088040008100000010000000022000810204081000001;intro V N T V H Q r st
 apply aE b 0x80820600583060c182000408000000800000001160058b162c000020040202000000004000000400000044081028507142800a002800a001c0070e2020008000000000004000000000000000000200080000400000000800007001c0070000400001000400000000000200000000000000000000000080000000104081024489;intro o;apply pi w a b d kvs i 4 c l (.ref m) y E;k_all;intro I M st
 apply aE b 0x5020830010183060c14005000000000002800000000000000000000000a000000014408102c58b;intro o;apply pi w a b d kvs i 4 f B (.ref n) y F;k_all;intro K O st
 apply bA b 0x3450a0e285001400500;intro o;apply aB w a b j k (sv c l) e (by kd_p);k_all;intro J L P st
 apply fT b [0,1,2,3,4,5];apply r;intro o τ;refine jm (ae (o 3)) J ⟨?_, ?_, ?_⟩;apply rfl;apply rfl;apply rfl;rfl;k_mem
structure SrtA where
 S:Nat
 Sd:Nat
 Dd:Nat
 i0:Nat
 i1:Nat
 i2:Nat
 i3:Nat
 d0:Nat
 d1:Nat
 d2:Nat
 d3:Nat
 u0:Nat
 u1:Nat
 u2:Nat
 u3:Nat
noncomputable def SrtA.I(A:SrtA):E4->Nat
 | .z0=>A.i0 | .z1=>A.i1 | .z2=>A.i2 | .z3=>A.i3
noncomputable def SrtA.Dn(A:SrtA):E4->Nat
 | .z0=>A.d0 | .z1=>A.d1 | .z2=>A.d2 | .z3=>A.d3
noncomputable def SrtA.U(A:SrtA):E4->Nat
 | .z0=>A.u0 | .z1=>A.u1 | .z2=>A.u2 | .z3=>A.u3
noncomputable def b7{α:Type}(a b c d:α):E4->α
 | .z0=>a | .z1=>b | .z2=>c | .z3=>d
noncomputable abbrev kY(A:SrtA)(r:E4->Nat):List (LN × Lc):=[([r .z0],.ref A.i0),([r .z1],.ref A.i1),([r .z2],.ref A.i2),([r .z3],.ref A.i3)]
abbrev cT(w:Lj)(A:SrtA)(r:E4->Nat)(c:Lc)(n nf:Int)(a:E4->Int)(b:E4->LV)(i h d e f g:ab)(j k l m:Nat):Mem:=[
 (A.S,cu 154 A.Sd),(A.Sd,fh A.Dd c n nf i),(A.Dd,bO w (kY A r) h 4),
 (A.i0,ao A.d0 [r .z0] (a .z0) A.u0 d),(A.i1,ao A.d1 [r .z1] (a .z1) A.u1 e),(A.i2,ao A.d2 [r .z2] (a .z2) A.u2 f),(A.i3,ao A.d3 [r .z3] (a .z3) A.u3 g),
 (A.u0,aa (b .z0) j),(A.u1,aa (b .z1) k),(A.u2,aa (b .z2) l),(A.u3,aa (b .z3) m)]
section
variable{r:E4->Nat}(a:∀i j,r i=r j->i=j)(A:SrtA)
include r a A
theorem i5(i:E4):am (kY A r) [r i]=Ld (.ref (A.I i)):=by
 have h:∀i j,i≠j->¬ ([r i]=[r j]):=fun i j b q=>b (a i j (by injection q))
 cases i<;>simp [am,SrtA.I,h]
theorem ee:((kY A r).map (·.1)).Nodup:=by
 have h:∀i j,i≠j->¬ (r i=r j):=fun i j b q=>b (a i j q)
 simp [h]
end
noncomputable def bG{α:Type}(f:E4->α)(i:E4)(v:α):E4->α:=fun j=>match i,j with
 | .z0,.z0=>v | .z1,.z1=>v | .z2,.z2=>v | .z3,.z3=>v
 | _,j=>f j
noncomputable def kZ(k:Nat):E4->Nat
 | .z0=>k | .z1=>k + 1 | .z2=>k + 2 | .z3=>k + 3
theorem to(w:Lj)(a b:Bool)(A:SrtA)(r:E4->Nat)(N:∀i j,r i=r j->i=j)(y nf:Int)(q:E4->Int)(s:E4->LV)(x u d f g k:ab)(m n o p:Nat)(i j:E4)(O R:Nat)(t:i≠j)(hz:∀i,(s i).length < 50000) :
  CT w a b 5 (bw 104 [.ref A.S,sv [r i] O,sv [r j] R]) (cT (wd w a b) A r .none y nf q s x u d f g k m n o p)
   (fun Q os l=>∃(G F z B D E:ab)(H J K L:Nat),Q=.ok (.ret .none)/\os=(cT (wd w a b) A r .none y nf (bG q i (q i + 1)) (bG s j (s j++[sv [r i] O])) G F z B D E H J K L).map (·.2)/\l=[]):=by
 have P:=ee N A
 have C:=(Fe w a b A.S A.Sd A.Dd (kY A r) u [r i] O [r j] R (A.I i) (A.Dn i) (A.U i) (q i) (b7 d f g k i) (A.I j) (A.Dn j) (A.U j) (q j) (b7 d f g k j) (s j) (b7 m n o p j) y nf x P (i5 N A i) (i5 N A j) (hz j)).framed
  (M:=cT (wd w a b) A r .none y nf q s x u d f g k m n o p) (is:=[0,1,2,kZ 3 i,kZ 3 j,kZ 7 j]) (by apply JX i j t;kernel_rfl)
 refine C.weak (Lf _) fun Q os l h=>?_
 clear C P;obtain ⟨W,⟨c,v,rfl,rfl,rfl⟩,_,rfl⟩:=h
 refine rT x u (bG (b7 d f g k) i c .z0) (bG (b7 d f g k) i c .z1) (bG (b7 d f g k) i c .z2) (bG (b7 d f g k) i c .z3) (bG (b7 m n o p) j v.e .z0) (bG (b7 m n o p) j v.e .z1) (bG (b7 m n o p) j v.e .z2) (bG (b7 m n o p) j v.e .z3) ⟨rfl, ?_,rfl⟩
 apply JX i j t;kernel_rfl
set_option tactic.hygienic true in
theorem lG{k:LN}{v:Lc} : ∀{kvs:List (LN × Lc)},am kvs k=Lk->pj kvs k v=kvs++[(k,v)]
 | [],_=>rfl
 | (k',v')::r,h=>by
  unfold am at h
  split at h
  .cases h
  .rename_i a
   rw [pj,if_neg a,lG h];rfl
theorem vu(w:Lj)(a b:Bool)(d:Nat)(kvs:List (LN × Lc))(J:ab)(k:LN)(t:Nat)(v:Lc)(g:(kvs.map (·.1)).Nodup)(hz:kvs.length < 1000)(i:am kvs k=Lk) :
  CT w a b 0 (b9 "dict.__setitem__" [.ref d,sv k t,v]) [(d,iB (wd w a b) kvs J)] (vr w a b (kvs++[(k,v)])):=
 (zE w a b d kvs J k t v g hz).weak (Lf _) fun r os c h=>by
  refine bj (fun e f=>?_) h;apply m8 f
  exact ⟨e,rfl,by rw [lG i],rfl⟩
set_option tactic.hygienic true in
theorem fY{k:LN} : ∀{kvs:List (LN × Lc)},am kvs k=Lk->∀p∈kvs,p.1≠k
 | [],_,p,h=>nomatch h
 | (k',v')::r,h,p,hp=>by
  unfold am at h
  split at h
  .cases h
  .rename_i a
   rcases LD.mp hp with rfl|hp
   .exact a
   .exact fY h p hp
set_option tactic.hygienic true in
theorem kg{k:LN}{v:Lc} : ∀{kvs:List (LN × Lc)},am kvs k=Lk->am (kvs++[(k,v)]) k=Ld v
 | [],_=>by simp [am]
 | (k',v')::r,h=>by
  unfold am at h
  split at h
  .cases h
  .rename_i a
   rw [MI,am,if_neg a,kg h]
theorem nH(w:Lj)(a b:Bool)(d:Nat)(kvs:List (LN × Lc))(J:ab)(k:LN)(t:Nat)(v:Lc)(j:((kvs++[(k,v)]).map (·.1)).Nodup)(hz:kvs.length < 900)(c:am kvs k=Lk) :
  CT w a b 0 (eC "dict.__delitem__" d k t) [(d,iB (wd w a b) (kvs++[(k,v)]) J)] (vr w a b kvs):=
 (zF w a b d (kvs++[(k,v)]) J k t v j (by simp;kd_p) (kg c)).weak (Lf _) fun r os e h=>by
  refine bj (fun f g=>?_) h;apply m8 g
  refine ⟨f,rfl, ?_,rfl⟩
  have i:=fY c
  have : tm (kvs++[(k,v)]) k=kvs:=by
   unfold tm
   rw [List.filter_append,List.filter_eq_self.mpr (fun p hp=>decide_eq_true (i p hp))]
   simp
  rw [this]
section
variable(w:Lj)(a b:Bool)(l:Nat)
include w a b l
theorem lH(vs:LV)(x:Lc)(e:Nat)(hz:vs.length < 60000) :
  CT w a b 0 (b9 "list.pop" [.ref l]) [(l,aa (vs++[x]) e)] (zy x vs):=by
 refine bg (by decide +kernel) Ql (MeetsSeq.list_pop_last l ⟨vs++[x]⟩ e x (by simp) ?_) ?_
 .show (vs++[x]).length<=M9
  have : 60001<=M9:=by decide
  simp
  kd_p
 intro A g h G D O N T R k d c
 refine ⟨d.get (i:=0) rfl, ?_⟩
 have z:=d.update (i:=0) (f:=Nb fun xs=>xs.eraseIdxIfInBounds ((⟨vs++[x]⟩ : Array Lc).size - 1)) rfl rfl
 obtain ⟨e',j⟩:=ix (fun xs=>xs.eraseIdxIfInBounds ((⟨vs++[x]⟩ : Array Lc).size - 1)) (xs:=⟨vs++[x]⟩) (ys:=⟨vs⟩) (.type "list") e (by
  have : (vs++[x]).eraseIdx vs.length=vs:=by rw [List.eraseIdx_append_of_length_le (Lf _)];simp
  simpa [Array.eraseIdxIfInBounds] using this)
 rw [j] at z
 exact c _ [_] [] N T _ ⟨⟨fun V=>0,fun V=>0,fun V=>0,e'⟩,rfl,rfl,rfl⟩ rfl z
theorem pn(vs:LV)(x:Lc)(e:Nat)(hz:vs.length < 50000) :
  CT w a b 0 (.builtin "len" ⟨[.ref l],[]⟩) [(l,aa (vs++[x]) e)] (fun f os c=>∃(n t:Nat),f=.ok (.ret (.int (Ll (n + 1)) t))/\os=[aa (vs++[x]) e]/\c=[]/\n=vs.length):=
 (du w a b l (vs++[x]) e (by simp;kd_p)).weak (Lf _) fun r os c h=>by
  refine bj (fun t d=>?_) h;apply m8 d
  exact ⟨vs.length,t,by simp,rfl,rfl,rfl⟩
theorem lI(vs:LV)(v:Lc)(e t:Nat) :
  CT w a b 0 (b9 "list.__getitem__" [.ref l,.int (-1) t]) [(l,aa (vs++[v]) e)] (go (.ret v) [aa (vs++[v]) e]):=
 bH (by decide +kernel) OZ fun A g h G D O N T R n j o d c=>by
  have k:=d.get (i:=0) rfl
  show L7 _ _ (MF (.int (-1) t) >>= _) _ _ _
  refine Le (Rh (by decide) ?_)
  refine Le (Le ?_)
  show L7 _ _ (SY (.ref l) >>= _) _ _ _
  refine Le (N0 k rfl (Lx (Lx ?_)))
  rw [seqIndex_neg (by decide) (by simp;kd_p)]
  have m:(⟨vs++[v]⟩ : Array Lc)[((-1:Int) + ((⟨vs++[v]⟩ : Array Lc).size:Int)).toNat]? = Ld v:=by
   have f:((-1:Int) + ((⟨vs++[v]⟩ : Array Lc).size:Int)).toNat=vs.length:=by simp;kd_p
   rw [f]
   simp
  simp only [Option.bind_some,m,Ru]
  first
   | exact Le (Lx (Lx (c _ [_] [] N T _ ⟨rfl,rfl,rfl⟩ rfl d)))
   | exact Lx (c _ [_] [] N T _ ⟨rfl,rfl,rfl⟩ rfl d)
theorem tq(q:Nat)(vs:LV)(e:Nat)(k:Int)(t:Nat)(hz:vs.length < 60000) :
  CT w a b 0 (b9 "list.__getitem__" [.ref l,.ref q]) [(l,aa vs e),(q,rl (.int k t) .none)] (fun B os j=>∃(x:Nat)(n:LV),B=.ok (.ret (.ref x))/\os=[aa vs e,rl (.int k t) .none]/\j=[(x,aa n 0)]/\n.length<=vs.length):=
 bH (by decide +kernel) OZ fun A g h G D O N T R C v E p r=>by
  have z:=p.get (i:=0) rfl
  have c:=p.get (i:=1) rfl
  have y:=p.size
  have d:(⟨h,G,D,T,O⟩ : Ly).TypeIs (.ref q) "slice" := ⟨_,c,rfl⟩
  have hsz:=SC ⟨vs⟩ (Ld k) Lk Lk
  have u:vs.length<=M9:=by
   have : 60000<=M9:=by decide
   kd_p
  have s:=p.alloc (o:=aa (Pf ⟨vs⟩ (Ld k) Lk Lk).toList 0) rfl
  have f:=r (.ok (.ret (.ref h.objs.size))) [_,_] [(h.objs.size,aa (Pf ⟨vs⟩ (Ld k) Lk Lk).toList 0)] (N + 1) T (h.push (aa (Pf ⟨vs⟩ (Ld k) Lk Lk).toList 0)) (jm h.objs.size _ ⟨rfl,rfl,rfl,by simpa using hsz⟩) rfl (by rw [y];exact s)
  show L7 _ _ (MF (.ref q) >>= _) _ _ _
  refine Le ?_
  dsimp only [MF]
  refine Le (Tf d TA ?_)
  simp only [Q0,if_true]
  refine Lx ?_
  refine Le (wpAny_typeOf d ?_)
  refine Le (Le (L8 c rfl (x:=.none) rfl (Le (Ou .none ?_))))
  refine Le (L8 c rfl (x:=.int k t) rfl (Le (Ou (.int k t) ?_)))
  refine Le (L8 c rfl (x:=.none) rfl (Le (Ou .none (Lx ?_))))
  refine Le (m:=NY (.ref l)) ?_
  unfold NY
  refine Le (N0 z rfl (Lx ?_))
  refine Le (OG (SX (Ld k) Lk Lk vs.length (by decide)) ?_)
  refine Le (Mg (Lx ?_) (LL hsz u))
  exact f
end
abbrev bk(a:List (LN × Lc))(J:ab)(b:Array (Option Lc)):Obj:={ cls:=.type "frame",data:=.dict ⟨vd J 0 a⟩ J.e,slots:=b }
def J9:L4:=ax (ai (ax bd 7)) 8
def hM:L4:=ax (ai J9) 5
def ll:L4:=ax (ai hM) 1
def fZ:L4:=ax (ai ll) 1
noncomputable def k9(s:L4):List MD:=(uN s).hs
noncomputable def vw:List MD->List MD
 | .ExceptHandler t _ _ p::_=>[.ExceptHandler t Lk [] p]
 | _=>[]
noncomputable def Hm:List MD->List MD
 | .ExceptHandler _ n b p::_=>[.ExceptHandler Lk n b p]
 | _=>[]
def ap(F:Nat):Env:=⟨bY J9,F,3,[],⟨#[84,111,112,111,108,111,103,105,99,97,108,83,111,114,116,101,114,46,95,102,105,110,100,95,99,121,99,108,101,46,60,108,111,99,97,108,115,62,46]⟩,Ld 144,.ref 143,Ld F,0⟩
abbrev gw(S a f b e d:Nat)(g:Lc)(c:ab)(h:Array (Option Lc)):Obj:=bk [(jo,.ref S),(lA,.ref a),([115,116,97,99,107],.ref f),([105,116,115,116,97,99,107],.ref b),([115,101,101,110],.ref e),([110,111,100,101,50,115,116,97,99,107,105],.ref d),(jL,g)] c h
abbrev lJ(it:Nat):Obj:=az "method-wrapper" [.builtin "list_iterator.__next__",.ref it]
section
variable(w:Lj)(a b:Bool)(F S Dd d f i h:Nat)
include w a b F S Dd d f i h
theorem Ff(c:Nat)(j:Lc)(g:ab)(k:Array (Option Lc)) :
  CT w a b 5 (ag fZ (ap F)) [(F,gw S Dd d f i h j g k),(d,aa [] c)]
   (go .brk [gw S Dd d f i h j g k,aa [] c]):=by
 apply fE b 4432947347584;intro V N T V l p e st
 apply bA b 0;intro o;apply du w a b d [] c (by simp only [Ls,Lq,LQ] at *;kd_p);k_all;intro t m n st
 apply fT b [0,1];apply e;intro o τ;refine ⟨?_, ?_, ?_⟩;apply rfl;apply rfl;apply rfl;rfl;k_mem
abbrev cg (x0 x1 x2 x3):=((x0,aa (x1++x2) x3):Nat × Obj)
theorem Fg(q p:Nat)(D:Lc)(A:ab)(z:Array (Option Lc))(e g:LV)(x m it U c t:Nat)(k:LV)(r y v:Nat)(C:k[c]? = Ld (sv [y] v))(hz:e.length < 1000) :
  CT w a b 5 (ag fZ (ap F)) [(F,gw S Dd d f i h D A z),(cg d e [sv [x] t] q),(cg f g [.ref m] p),(m,lJ it),(it,al U c),(U,aa k r)]
   (fun E os j=>∃(l:ab),E=.ok .next/\os=[gw S Dd d f i h (sv [y] v) l z,aa (e++[sv [x] t]) q,aa (g++[.ref m]) p,lJ it,al U (c + 1),aa k r]/\j=[]):=by
 apply fE b 4432947347584;intro V N T V G M s st
 apply lg b;intro o;apply pn w a b d e (sv [x] t) q (by kd_p);k_mem;intro V V V H B u V;refine d9 (fun n P u=>?_) u;apply jr u;intro O;apply dC b 0x808206001830600001;intro st
 apply aE b 22128212639748;intro o;apply lI w a b f g (.ref m) p (B + 1);k_all;intro I K st
 apply aE b 129;intro o;apply aG w a b it U c k r (sv [y] v) C;k_all;intro J L st
 apply fT b [0,1,2,3,4,5];apply s;intro o τ;refine ⟨(ae (o 0)),⟨?_, ?_, ?_⟩⟩;apply rfl;apply rfl;apply rfl;rfl;k_mem
abbrev Hn(w:Lj)(a b:Bool)(L:Nat)(c:Mk)(d:Mem)(e:bI):Prop:=vm pw (wd w a b) (kt (wd w a b).params) L c d e
theorem IE(l:Lc)(j:ab)(m:Array (Option Lc))(x:Nat)(p n:Lc)(vs:LV) :
  Hn w a b 5 (.handlers (.ref x) (vw (k9 (ax (ai fZ) 0))) (ap F)) [(F,gw S Dd d f i h l j m),(x,az "StopIteration" (p::n::vs))]
   (go .brk [gw S Dd d f i h l j m,az "StopIteration" (p::n::vs)]):=by
 refine jE fun e k g G D O N T r s t c=>?_
 refine ⟨4194304, ?_⟩
 refine gX (is:=[0,1]) c (fun o τ=>⟨rfl,⟨rfl,rfl⟩⟩) rfl (by generalize b=q;revert q;refine cV ?_;kernel_rfl)
theorem IF(Q P:Nat)(R:Lc)(E:ab)(U:Array (Option Lc))(j c:LV)(x m t:Nat)(kvs:List (LN × Lc))(v:Lc)(H:ab)(hz:j.length < 1000)(hi:c.length < 1000)(hn:((kvs++[([x],v)]).map (·.1)).Nodup)(B:kvs.length < 900)(hv:am kvs [x]=Lk)(e:Nat)(W:Lc)(s:Nat)(K L M:Lc)(X vs:LV) :
  Hn w a b 5 (.handlers (.ref e) (Hm (k9 (ax (ai fZ) 0))) (ap F)) [(F,gw S Dd d f i h R E U),(cg d j [sv [x] t] Q),(cg f c [.ref m] P),(h,iB (wd w a b) (kvs++[([x],v)]) H),(e,az "StopIteration" (W :: .ref s::vs)),(s,az "traceback" (K::L::M :: .none::X))]
   (fun rr os n=>∃(q Z r:ab),rr=.ok .next/\os=[gw S Dd d f i h R E U,aa j q.e,aa c Z.e,iB (wd w a b) kvs r,az "StopIteration" (W :: .ref s::vs),az "traceback" (K::L::M :: .none::X)]/\n=[]):=by
 refine jE fun C I g G D O N T y z A u=>?_
 refine ⟨319427518011902676707284451968, ?_⟩
 refine sR (y.mono (by decide)) z A (fun o=>lH w a b d j (my [x] t) Q (by kd_p)) (by generalize b=k;revert k;refine cV ?_;kernel_rfl) ?_
 intro V V V N1 T2 p;refine bj (fun J l=>?_) p;apply m8 l;intro V
 refine ⟨13229044531716, ?_⟩
 refine sR (y.mono (by decide)) z A (fun o=>nH w a b h kvs H [x] t v hn B hv) (by generalize b=k;revert k;refine cV ?_;kernel_rfl) ?_
 intro V V V N2 T3 p;refine bj (fun Y l=>?_) p;apply m8 l;intro V
 refine ⟨18519940762605502849, ?_⟩
 refine sR (y.mono (by decide)) z A (fun o=>lH w a b f c (Lv m) P (by kd_p)) (by generalize b=k;revert k;refine cV ?_;kernel_rfl) ?_
 intro V V V N3 T4 p;refine bj (fun q l=>?_) p;apply m8 l;intro V
 refine ⟨0, ?_⟩
 refine gX (is:=[0,1,2,3,4,5]) u (fun o τ=>(gB J q Y ⟨rfl,rfl,rfl⟩)) rfl (by generalize b=k;revert k;refine cV ?_;kernel_rfl)
end
def eI(s:L4):Lg:=sx s 0
def lK(s:L4):List L4:=ai s
noncomputable def rm:L4->Pos
 | .Try _ _ _ _ p=>p
 | _=>default
def eJ:L4:=ax (ai fZ) 0
abbrev Fh(w:Lj)(a b:Bool)(L:Nat)(c:Mk)(t:Sem Fin)(d:Mem)(e:bI):Prop:=EY pw (wd w a b) (kt (wd w a b).params) L c t d e
theorem Fi(w:Lj)(a b:Bool)(F S u i h z y l k:Nat)(A:Lc)(v:ab)(B:Array (Option Lc))(d f:LV)(x m it U c t:Nat)(j:LV)(p:Nat)(D:j.length<=c)(hz:d.length < 1000) :
  Fh w a b 5 (ag fZ (ap F)) (sS (eI fZ) (rm eJ) (lK eJ) (ap F)) [(F,gw S u i h z y A v B),(cg i d [sv [x] t] l),(cg h f [.ref m] k),(m,lJ it),(it,al U c),(U,aa j p)]
   (fun E os g=>∃(e s:Nat),E=.ok (.ret (.ref e))/\os=[gw S u i h z y A v B,aa (d++[sv [x] t]) l,aa (f++[.ref m]) k,lJ it,iX c,aa j p]/\g=[(e,dZ s)]):=by
 apply Hg b 34632401153;intro V N T V H O q st
 apply lg b;intro o;apply pn w a b i d (sv [x] t) l (by kd_p);k_mem;intro V V V I C r V;refine d9 (fun n Q r=>?_) r;apply jr r;intro P;apply dC b 0x808206001830600001;intro st
 apply aE b 22128212639748;intro o;apply lI w a b h f (.ref m) k (C + 1);k_all;intro J L st
 apply gF b 0;intro o;apply aP w a b it U c j p D;k_all;intro G s K M st
 apply fT b [0,1,2,3,4,5,6];apply q;intro o τ;refine jm G s ⟨?_, ?_, ?_⟩;apply rfl;apply rfl;apply rfl;rfl;k_mem
open PySem.W.X (KT postC postE)
abbrev ak(w:Lj)(a b:Bool)(fr:List Env)(L:Nat)(c:Mk)(F:Mem)(d:Lm->Mem->Prop):Prop:=aO pw (wd w a b) (kt (wd w a b).params) fr L c F d
abbrev dh(w:Lj)(a b:Bool)(fr:List Env)(L:Nat)(c:Mk)(t:Sem Fin)(F:Mem)(d:Lm->Mem->Prop):Prop:=bW pw (wd w a b) (kt (wd w a b).params) fr L c t F d
noncomputable def Ho:List MD->Lg
 | .ExceptHandler (Ld t) _ _ _::_=>t
 | _=>default
noncomputable def Hp:List MD->List L4
 | .ExceptHandler _ _ b _::_=>b
 | _=>[]
noncomputable def Cj:List MD->Pos
 | .ExceptHandler _ _ _ p::_=>p
 | _=>default
abbrev IG:MD:=.ExceptHandler (Ld (Ho (k9 eJ))) Lk (Hp (k9 eJ)) (Cj (k9 eJ))
theorem tu(F:Nat):ag fZ (ap F)=.whileLoop (eI fZ) [.Try (lK eJ) [IG] [] [] (rm eJ)] (eB fZ) (ap F):=by kernel_rfl
noncomputable abbrev aD(o:Obj)(a:Array (Option Lc)):Obj:={ o with slots:=a }
theorem o6.split{a:Nat}{o:Obj}{r M:Mem}(h:o6 ((a,o)::r) M):∃b c,M=(a,aD o b)::c/\o6 r c:=by
 cases h with
 | cons b h=>exact ⟨b,_,rfl,h⟩
theorem o6.none{M:Mem}(h:o6 [] M):M=[]:=by cases h;rfl
structure fK where
 P:Nat
 Q:Nat
 L:Nat
 eP:Env
 eQ:Env
 eL:Env
noncomputable abbrev fK.envs(Z:fK):List Env:=[Z.eP,Z.eQ,Z.eL]
def dS(o:Obj):Prop:=∀vs,o.data≠.fields vs
structure fK.Ok(Z:fK):Prop where
 kP:Z.eP.scope.kind≠.module
 kQ:Z.eQ.scope.kind≠.module
 kL:Z.eL.scope.kind≠.module
 fP:Z.eP.frame=Ld Z.P
 fQ:Z.eQ.frame=Ld Z.Q
 fL:Z.eL.frame=Ld Z.L
theorem fK.Ok.mem{Z:fK}(z:Z.Ok){a b oL:Obj}(c:dS a)(d:dS b)(hL:dS oL):dG Z.envs [(Z.P,a),(Z.Q,b),(Z.L,oL)]:=
 .cons z.kP z.fP c (.cons z.kQ z.fQ d (.cons z.kL z.fL hL .nil))
theorem vy(F:Nat):(ap F).scope.kind≠.module:=by
 intro h
 have : (match (ap F).scope.kind with | .module=>Lh | _=>Li)=Li:=by kernel_rfl
 rw [h] at this
 cases this
abbrev iD (x0 x1 x2):=((x0,az "traceback" (.none :: .ref x1 :: .none :: .none::x2)):Nat × Obj)
abbrev zG (x0 x1 x2):=((x0,az "StopIteration" (.ref x1 :: .ref x2::[.none,.none,.bool Li,.none])):Nat × Obj)
theorem Fj(w:Lj)(a b:Bool)(Z:fK)(z:Z.Ok)(B E oL:Obj)(hP:dS B)(hQ:dS E)(hL:dS oL)(F S o k i s j X W:Nat)(y:Lc)(p:ab)(sl:Array (Option Lc))(d c:LV)(x m it U l t:Nat)(H:LV)(J:Nat)(kvs:List (LN × Lc))(v:Lc)(Y:ab)(lows:Mem)(post:Lm->Mem->Prop)(hy:H.length<=l)(hz:d.length < 1000)(hi:c.length < 1000)(hn:((kvs++[([x],v)]).map (·.1)).Nodup)(hl2:kvs.length < 900)(hv:am kvs [x]=Lk)(K:∀(Jf':ab)(n sP sQ sL:Array (Option Lc))(es' ei':Nat)(I:ab),ak w a b (ap F::Z.envs) 5 (ag fZ (ap F))
   ([(F,gw S o k i s j y Jf' n),(Z.P,aD B sP),(Z.Q,aD E sQ),(Z.L,aD oL sL),(k,aa d es'),(i,aa c ei'),(j,iB (wd w a b) kvs I),(U,aa H J)]++lows) post) :
  ak w a b (ap F::Z.envs) 5 (ag fZ (ap F))
   ([(F,gw S o k i s j y p sl),(Z.P,B),(Z.Q,E),(Z.L,oL),(cg k d [sv [x] t] X),(cg i c [.ref m] W),(j,iB (wd w a b) (kvs++[([x],v)]) Y),(m,lJ it),(it,al U l),(U,aa H J)]++lows) post:=by
 intro A g h G D O N T R hA hfr hk hl hR fin
 rw [tu]
 refine ra ?_
 have C:=(Fi w a b F S o k i s j X W y p sl d c x m it U l t H J hy hz).row (M:=[(F,gw S o k i s j y p sl),(Z.P,B),(Z.Q,E),(Z.L,oL),(cg k d [sv [x] t] X),(cg i c [.ref m] W),(j,iB (wd w a b) (kvs++[([x],v)]) Y),(m,lJ it),(it,al U l),(U,aa H J)]) (lows:=lows) [0,4,5,7,8,9] (by kernel_rfl) (G:=G) (D:=D) (O:=O) (T:=T) hA hk hl hR
  (R:=fun r s'=>∃e,r=.ok (.ret e) /\
   L7 (Lw pw (wd w a b)) A (Nc e (ap F)) (fun V s2=>L7 (Lw pw (wd w a b)) A (OT e Lk) (fun V s3=>L7 (Lw pw (wd w a b)) A (RQ e (ap F) [IG]) (fun f s4=>f=.next/\Mm (Lw pw (wd w a b)) A (.whileLoop (eI fZ) [.Try (lK eJ) [IG] [] [] (rm eJ)] (eB fZ) (ap F)) R s4)
    (fun V V=>False) s3) (fun V V=>False) s2) (fun V V=>False) s') ?_
 .rw [tu] at C
  refine OW C (fun f s' q=>?_) (fun e s' q=>?_)
  .intro f' hf
   subst hf
   refine bj (fun e u=>?_) q;obtain ⟨h1,h2⟩:=u
   cases h1
   exact ⟨e,rfl,h2⟩
  .refine bj (fun e u=>?_) q;obtain ⟨h1,_⟩:=u
   cases h1
 .intro r os news N1 T1 h1 q0;refine d9 (fun e tp u=>?_) q0;apply m8 u;intro V R1
  refine ⟨_,rfl, ?_⟩
  have hfcF:dS (gw S o k i s j y p sl):=fun vs q=>by cases q
  have fm:dG (ap F::Z.envs) [(F,gw S o k i s j y p sl),(Z.P,B),(Z.Q,E),(Z.L,oL)]:=.cons (vy F) rfl hfcF (z.mem hP hQ hL)
  have R1':=Rep.pickL (M:=[(F,gw S o k i s j y p sl),(Z.P,B),(Z.Q,E),(Z.L,oL),(cg k d [sv [x] t] X),(cg i c [.ref m] W),(j,iB (wd w a b) (kvs++[([x],v)]) Y),(m,lJ it),(it,iX l),(U,aa H J),(e,dZ tp)]) (lows:=lows)
   (L:=[(F,gw S o k i s j y p sl),(Z.P,B),(Z.Q,E),(Z.L,oL),(e,dZ tp),(cg k d [sv [x] t] X),(cg i c [.ref m] W),(j,iB (wd w a b) (kvs++[([x],v)]) Y),(U,aa H J),(m,lJ it),(it,iX l)]) [0,1,2,3,10,4,5,6,9,7,8] R1 (by kernel_rfl)
  clear R1
  refine j6 (frs:=[(F,gw S o k i s j y p sl),(Z.P,B),(Z.Q,E),(Z.L,oL)]) (Mr:=[(cg k d [sv [x] t] X),(cg i c [.ref m] W),(j,iB (wd w a b) (kvs++[([x],v)]) Y),(U,aa H J),(m,lJ it),(it,iX l)]++lows) hfr rfl fm R1' fun h2 frs' tb hu R2=>?_
  refine d9 (fun n r1 u=>?_) (hu.split);obtain ⟨rfl,hu1⟩:=u
  refine d9 (fun sP r2 u=>?_) (hu1.split);obtain ⟨rfl,hu2⟩:=u
  refine d9 (fun sQ r3 u=>?_) (hu2.split);obtain ⟨rfl,hu3⟩:=u
  refine d9 (fun sL r4 u=>?_) (hu3.split);obtain ⟨rfl,hu4⟩:=u
  obtain rfl:=hu4.none
  refine gG R2 fun h3 R3=>?_
  have e1:vw (k9 (ax (ai fZ) 0))=[.ExceptHandler (Ld (Ho (k9 eJ))) Lk [] (Cj (k9 eJ))]:=by kernel_rfl
  have e2:Hm (k9 (ax (ai fZ) 0))=[.ExceptHandler Lk Lk (Hp (k9 eJ)) (Cj (k9 eJ))]:=by kernel_rfl
  have fA:eG (A.mark (Ld (.ref e))) 5:=⟨hA.2.1,hA.2.2⟩
  refine Sb ?_ (by intro q;cases q)
  refine (IE w a b F S o k i s j y p n e (.ref tp) (.ref N1) [.none,.none,.bool Li,.none]).row
   (M:=[(F,gw S o k i s j y p n),(Z.P,aD B sP),(Z.Q,aD E sQ),(Z.L,aD oL sL),(zG e tp N1),(iD N1 F tb),(cg k d [sv [x] t] X),(cg i c [.ref m] W),(j,iB (wd w a b) (kvs++[([x],v)]) Y),(U,aa H J),(m,lJ it),(it,iX l)]) (lows:=lows)
   [0,4] (by kernel_rfl) fA hk hl R3 ?_
  intro r os news N2 T2 h4 q0;apply m8 q0;intro V R4
  show Mm _ _ _ _ _
  refine (IF w a b F S o k i s j X W y p n d c x m t kvs v Y hz hi hn hl2 hv e (.ref tp) N1 .none (.ref F) .none tb [.none,.none,.bool Li,.none]).row
   (M:=[(F,gw S o k i s j y p n),(Z.P,aD B sP),(Z.Q,aD E sQ),(Z.L,aD oL sL),(zG e tp N1),(iD N1 F tb),(cg k d [sv [x] t] X),(cg i c [.ref m] W),(j,iB (wd w a b) (kvs++[([x],v)]) Y),(U,aa H J),(m,lJ it),(it,iX l)]) (lows:=lows)
   [0,6,7,8,4,5] (by kernel_rfl) fA hk hl R4 ?_
  intro r os news N3 T3 h5 q0;refine ma (fun J1 J2 I u=>?_) q0;apply m8 u;intro V R5
  refine ⟨rfl, ?_⟩
  have R6:=Rep.pickL (M:=[(F,gw S o k i s j y p n),(Z.P,aD B sP),(Z.Q,aD E sQ),(Z.L,aD oL sL),(zG e tp N1),(iD N1 F tb),(k,aa d J1.e),(i,aa c J2.e),(j,iB (wd w a b) kvs I),(U,aa H J),(m,lJ it),(it,iX l)]) (lows:=lows)
   (L:=[(F,gw S o k i s j y p n),(Z.P,aD B sP),(Z.Q,aD E sQ),(Z.L,aD oL sL),(k,aa d J1.e),(i,aa c J2.e),(j,iB (wd w a b) kvs I),(U,aa H J)]) [0,1,2,3,6,7,8,9] R5 (by kernel_rfl)
  exact K p n sP sQ sL J1.e J2.e I A g h5 G D O N3 T3 R hA hfr hk hl R6 fin
noncomputable abbrev fM(D:OI):Obj:={ cls:=.type "set",data:=D }
noncomputable def pp(ss:LLN)(x:Str):Bool:=ss.any fun s=>decide ((⟨⟨s⟩⟩ : Str)=x)
def ci(w:Lj)(D:OI)(ss:LLN):Prop:=∃a ep t n,D=.set a ep t/\ElemsOf (strKind pw w) a.toList/\(∀k,pp ss k=Lh↔∃e∈a.toList,(strKind pw w).is k e.2=Lh)/\a.size < S0/\t.fits a.size=Lh/\a.size=n/\n<=ss.length
theorem ci.of{w:Lj}{D:OI}{ss:LLN}(h:ci w D ss){hp:ME}{a:Nat}(k:hp.get? a=Ld (fM D)):∃n,hp.SetOf (strKind pw w) a (pp ss) n/\n<=ss.length:=by
 refine gz (fun c ep t n d=>?_) h;refine Ku (fun b e f g h4 i j=>?_) d;subst b
 exact ⟨n,⟨_,c,ep,t,k,⟨rfl,rfl,rfl⟩,rfl,e,f,g,h4,i⟩,j⟩
theorem lm(ss:LLN)(x:LN):pp ss ⟨⟨x⟩⟩=ss.contains x:=by
 unfold pp
 induction ss with
 | nil=>rfl
 | cons s ss c=>
  rw [OU,Py,c]
  congr 1
  by_cases h:s=x
  .subst h;simp
  .have a:¬ (⟨⟨s⟩⟩ : Str)=⟨⟨x⟩⟩:=fun q=>h (fg q)
   have b:¬x=s:=fun q=>h q.symm
   simp [a,b]
theorem ci.nil(w:Lj)(a:Bool):ci w (.set #[] 0 (.fresh 0 0 a)) []:=
 (jJ (#[]) 0 _ 0 ⟨rfl,fun e he=>by simp at he,fun k=>by simp [pp],by decide,by show (SetTable.fits _ _)=Lh;rfl,rfl,Lf _⟩)
section
variable(w:Lj)(a b:Bool)(d:Nat)(D:OI)(ss:LLN)(k:LN)(t:Nat)(hs:ci (wd w a b) D ss)
include w a b d D ss k t hs
theorem yH :
  CT w a b 0 (eC "set.__contains__" d k t) [(d,fM D)] (fun o os c=>∃v:Bool,o=.ok (.ret (.bool v))/\os=[fM D]/\c=[]/\v=ss.contains k):=by
 refine bH (by decide +kernel) entry_set_contains fun A g h G j O N T R p q u f e=>?_
 obtain ⟨n,l,_⟩:=hs.of (f.get (i:=0) rfl)
 unfold Os.«frozenset.__contains__» Pj
 simp only [O2,bind_assoc]
 dsimp only [RU,RT,setContains]
 refine Le (Lx ?_)
 try dsimp only
 refine Le (Lx ?_)
 try dsimp only
 refine Le (wpAny_tryCatch ?_)
 refine Nh ?_
 refine Le ((strKind pw (wd w a b)).pyHash (cR k t) ?_)
 refine Le (wpAny_setFind_of (knd:=strKind pw (wd w a b)) (s:={ heap:=h,gens:=G,drawn:=j,toks:=T + 1,os:=O }) (cR k t) rfl l fun r m=>?_)
 refine Lx ?_
 show L7 _ _ (ret (Ov r.isSome)) _ _ _
 rw [m,lm]
 exact Lx (e _ [_] [] N _ _ ⟨_,rfl,rfl,rfl,rfl⟩ rfl f)
theorem zH(hz:ss.length < 1000) :
  CT w a b 0 (eC "set.add" d k t) [(d,fM D)] (fun Z os l=>∃v:OI,Z=.ok (.ret .none)/\os=[fM v]/\l=[]/\ci (wd w a b) v (k::ss)):=by
 refine bH (by decide +kernel) F.entry_set_add fun A g h G E O N T R hA hk hl B m=>?_
 refine bp fun C f=>?_;obtain ⟨n,S,W⟩:=hs.of (B.get (i:=0) rfl);apply f;clear f
 unfold Os.«set.add» Pj
 simp only [O2,bind_assoc]
 refine Le (Lx ?_)
 try dsimp only
 refine Le (Lx ?_)
 try dsimp only
 refine Le ?_
 refine Nh ?_
 refine Le ((strKind pw (wd w a b)).pyHash (cR k t) ?_)
 have j:n + 1 < S0:=by
  have : (2000:Nat) < S0:=by decide
  kd_p
 refine wpAny_setAddHashed_of (knd:=strKind pw (wd w a b)) (s:={ heap:=h,gens:=G,drawn:=E,toks:=T + 1,os:=O }) (cR k t) rfl S j fun J u p=>?_
 show L7 _ _ (ret L3) _ _ _
 refine gz (fun o I ep tt K=>?_) p;refine bp fun C f=>?_;obtain ⟨X,r,hd,L,M,P,h4,Q⟩:=K;apply f;clear f
 refine bp fun C f=>?_;obtain ⟨c,d',dt,sl⟩:=o;apply f;clear f
 refine bp fun C f=>?_;obtain ⟨x,y,z⟩:=r;apply f;clear f
 dsimp only at x y z hd
 subst x y z hd
 refine Lx (m _ [_] [] _ _ J ⟨_,rfl,rfl,rfl,I,ep,tt,_,rfl,L,fun Y=>?_,P,h4,Q, ?_⟩ rfl (B.one (fun H ob U e=>(u.2 H U).trans e) X))
 .rw [<- M Y]
  dsimp only [pp]
  rw [OU,Bool.or_comm]
  constructor
  .intro q;rcases Nt.mp q with q|q
   .exact Nt.mpr (.inl q)
   .exact Nt.mpr (.inr (by have:=of_decide_eq_true q;exact decide_eq_true this.symm))
  .intro q;rcases Nt.mp q with q|q
   .exact Nt.mpr (.inl q)
   .exact Nt.mpr (.inr (by have:=of_decide_eq_true q;exact decide_eq_true this.symm))
 .have : (if pp ss ⟨⟨k⟩⟩=Lh then n else n + 1)<=n + 1:=by split<;>kd_p
  exact LL this (MZ W)
end
section
variable(w:Lj)(a b:Bool)
include w a b
section
variable(d:Nat)(D:OI)(ss:LLN)(k:LN)(t:Nat)(hs:ci (wd w a b) D ss)
include d D ss k t hs
theorem pt(h:ss.contains k=Lh) :
  CT w a b 0 (eC "set.__contains__" d k t) [(d,fM D)] (go (.ret (.bool Lh)) [fM D]):=
 (yH w a b d D ss k t hs).weak (Lf _) fun r os c q=>by
  obtain ⟨v,rfl,rfl,rfl,rfl⟩:=q
  exact ⟨by rw [h],rfl,rfl⟩
theorem iE(h:ss.contains k=Li) :
  CT w a b 0 (eC "set.__contains__" d k t) [(d,fM D)] (go (.ret (.bool Li)) [fM D]):=
 (yH w a b d D ss k t hs).weak (Lf _) fun r os c q=>by
  obtain ⟨v,rfl,rfl,rfl,rfl⟩:=q
  exact ⟨by rw [h],rfl,rfl⟩
end
section
variable(d:Nat)(kvs:List (LN × Lc))(J:ab)(ep:Nat)(k:LN)(t:Nat)
include d kvs J ep k t
theorem zI(v:Lc)(e:(kvs.map (·.1)).Nodup)(h:am kvs k=Ld v) :
  CT w a b 0 (eC "dict.__contains__" d k t) [(d,bO (wd w a b) kvs J ep)] (go (.ret (.bool Lh)) [bO (wd w a b) kvs J ep]):=
 (yG w a b d kvs J ep k t e).weak (Lf _) fun r os c q=>by
  obtain ⟨v,rfl,rfl,rfl,rfl⟩:=q
  exact ⟨by rw [h];rfl,rfl,rfl⟩
theorem zJ(e:(kvs.map (·.1)).Nodup)(h:am kvs k=Lk) :
  CT w a b 0 (eC "dict.__contains__" d k t) [(d,bO (wd w a b) kvs J ep)] (go (.ret (.bool Li)) [bO (wd w a b) kvs J ep]):=
 (yG w a b d kvs J ep k t e).weak (Lf _) fun r os c q=>by
  obtain ⟨v,rfl,rfl,rfl,rfl⟩:=q
  exact ⟨by rw [h];rfl,rfl,rfl⟩
end
def ro:L4:=ax (ai ll) 0
theorem zK(F S s m u l g p:Nat)(v f:ab)(A:Array (Option Lc))(c:LV)(j:OI)(ss:LLN)(x d:Nat)(kvs:List (LN × Lc))(k:Int)(n:Nat)(hs:ci (wd w a b) j ss)(E:ss.contains [x]=Lh)(z:(kvs.map (·.1)).Nodup)(y:am kvs [x]=Ld (.int k n))(hz:c.length < 1000) :
  Fh w a b 5 (ag ll (ap F)) (Ci (eI ll) ro (ap F)) [(F,gw S s m u l g (sv [x] d) v A),(l,fM j),(g,iB (wd w a b) kvs f),(m,aa c p)]
   (fun G os h=>∃(C:Nat)(vs:LV)(t:Nat)(J:ab),G=.ok (.ret (.ref C))/\os=[gw S s m u l g (sv [x] d) v A,fM j,iB (wd w a b) kvs f,aa c p]/\h=[(cg C vs [sv [x] t] J.e)]/\vs.length < 1000):=by
 apply Hg b 72629408808075393;intro V N T V K X q st
 apply aE b 0x20208180060c081;intro o;apply pt w a b l j ss [x] d hs E;k_all;intro L P st
 apply aE b 0x808206001830604081;intro o;apply zI w a b g kvs f f.e [x] d (.int k n) z y;k_all;intro M Q st
 apply aE b 0x406081040010204;intro o;apply aY w a b g kvs f f.e [x] d (.int k n) z y;k_all;intro B R st
 apply lg b;intro o;apply tq w a b m B c p k n (by kd_p);k_mem;intro V V V D U r V;refine d9 (fun H i r=>?_) r;apply jr r;intro Y;apply dC b 0x30504083000c1c301;intro st
 apply bA b 0;intro o;apply pg w a b H D i [(sv [x] d)] 0 0 (by simp only [Ls,Lq,LQ] at *;kd_p);k_all;intro I O W st
 apply fT b [0,1,2,3,7];apply q;intro o τ;refine jJ I i d (ae (o 7)) ⟨?_, ?_, ?_,(by kd_p)⟩;apply rfl;apply rfl;apply rfl;rfl;k_mem
theorem zL(F S j m k g f:Nat)(l d:ab)(n:Array (Option Lc))(c:OI)(ss:LLN)(x h:Nat)(kvs:List (LN × Lc))(hs:ci (wd w a b) c ss)(p:ss.contains [x]=Lh)(r:(kvs.map (·.1)).Nodup)(q:am kvs [x]=Lk) :
  Fh w a b 5 (ag ll (ap F)) (Ci (eI ll) ro (ap F)) [(F,gw S j m k g f (sv [x] h) l n),(g,fM c),(f,iB (wd w a b) kvs d)]
   (go .next [gw S j m k g f (sv [x] h) l n,fM c,iB (wd w a b) kvs d]):=by
 apply Hg b 72629408808075393;intro V N T V s z i st
 apply aE b 0x20208180060c081;intro o;apply pt w a b g c ss [x] h hs p;k_all;intro t v st
 apply aE b 0;intro o;apply zJ w a b f kvs d d.e [x] h r q;k_all;intro u y st
 apply fT b [0,1,2];apply i;intro o τ;refine ⟨?_, ?_, ?_⟩;apply rfl;apply rfl;apply rfl;rfl;k_mem
noncomputable abbrev mE (x0 x1):=Ll (@Og x0 x1)
theorem zM(F S n i p h q y H:Nat)(C E s D:ab)(M:Array (Option Lc))(c f:LV)(l:OI)(ss:LLN)(x g:Nat)(kvs d:List (LN × Lc))(ep I G U:Nat)(L:Int)(O:LV)(K:Nat)(hs:ci (wd w a b) l ss)(R:ss.contains [x]=Li)(hsz:ss.length < 1000)(Y:(kvs.map (·.1)).Nodup)(W:am kvs [x]=Lk)(A:kvs.length < 1000)(hz:c.length < 1000)(hi:f.length < 1000)(B:(d.map (·.1)).Nodup)(X:am d [x]=Ld (.ref I)) :
  Fh w a b 5 (ag ll (ap F)) (Ci (eI ll) ro (ap F)) [(F,gw S n i p h q (sv [x] g) C M),(h,fM l),(q,iB (wd w a b) kvs E),(i,aa c y),(p,aa f H),(n,bO (wd w a b) d s ep),(I,ao G [x] L U D),(U,aa O K)]
   (fun rr os j=>∃(k:OI)(u r Q:ab)(m it tk:Nat),rr=.ok .next/\os=[gw S n i p h q (sv [x] g) C M,fM k,iB (wd w a b) (kvs++[([x],.int (Ll c.length) tk)]) u,aa (c++[sv [x] g]) r.e,aa (f++[.ref m]) Q.e,bO (wd w a b) d s ep,ao G [x] L U D,aa O K]/\j=[(m,lJ it),(it,al U 0)]/\ci (wd w a b) k ([x]::ss)):=by
 apply Hg b 72629408808075393;intro V N T V B0 Y0 z st
 apply aE b 0x408204000820408101;intro o;apply iE w a b h l ss [x] g hs R;k_all;intro N1 T1 st
 apply jY b 0x502083000c1830102000050a14281;intro o;apply zH w a b h l ss [x] g hs hsz;k_all;intro k N2 T2 Z st
 apply aE b 0x201041400012000091224009002448010004080000007001c00000000000e000000000000000000000003800000007;intro o;apply aY w a b n d s ep [x] g (.ref I) B X;k_all;intro v T3 st
 apply bA b 0xc0820004000;intro o;apply aB w a b p f (.ref (v + 1)) H (by kd_p);k_all;intro J N4 T4 st
 apply bA b 0x20208180060c081;intro o;apply du w a b i c y (by kd_p);k_all;intro t N5 T5 st
 apply bA b 0xc08208000840810201;intro o;apply vu w a b q kvs E [x] g (.int (mE Lc c) t) Y A W;k_all;intro P N6 T6 st
 apply bA b 0;intro o;apply aB w a b i c (sv [x] g) y (by kd_p);k_all;intro r N7 T7 st
 apply fT b [0,1,2,3,4,5,6,7,9,8];apply z;intro o τ;refine uM k P r J (v + 1) v t ⟨?_, ?_, ?_,Z⟩;apply rfl;apply rfl;apply rfl;rfl;k_mem
end
def Pk(M M2:Mem):Prop:=∀g h N,Rep g h N M->Rep g h N M2
theorem Pk.of{M M2 lows:Mem}(is:LN)(e:co M is=Ld M2):Pk (M++lows) (M2++lows):=fun V V V R=>R.pickL is e
theorem Pk.of2{M M2 M3 lows:Mem}(is:LN)(e:co M is=Ld (M2++M3)):Pk (M++lows) (M2++(M3++lows)):=fun V V V R=>by
 rw [<- Lr];exact R.pickL is e
theorem Pk.refl(M:Mem):Pk M M:=fun V V V R=>R
theorem Pk.trans{a M2 M3:Mem}(x:Pk a M2)(y:Pk M2 M3):Pk a M3:=fun g h N R=>y g h N (x g h N R)
theorem Pk.perm{M M2:Mem}(p:M.Perm M2):Pk M M2:=fun V V V R=>R.perm p
section
variable{prog:LU}{w:Lj}{kt:KT}{fr:List Env}{L:Nat}
include prog w kt fr L
theorem aO.pk{c:Mk}{M M2:Mem}{a:Lm->Mem->Prop}(C:aO prog w kt fr L c M2 a)(e:Pk M M2):aO prog w kt fr L c M a:=
 fun A g h G D O N T R d hf i j f b=>C A g h G D O N T R d hf i j (e _ _ _ f) b
theorem aO.weakP{L':Nat}{c:Mk}{M:Mem}{a post':Lm->Mem->Prop}(C:aO prog w kt fr L c M a)(l:L<=L')(hp:∀r d,a r d->∃b,Pk d b/\post' r b):aO prog w kt fr L' c M post':=
 fun A g h G D O N T R o hf s t q e=>C A g h G D O N T R (o.mono l) hf s t q fun r d j k m p f=>by
  refine bj (fun b n=>?_) (hp _ _ p);obtain ⟨i,u⟩:=n
  exact e r b j k m u (i _ _ _ f)
theorem aO.frame{c:Mk}{M X:Mem}{a:Lm->Mem->Prop}(C:aO prog w kt fr L c M a):aO prog w kt fr L c (M++X) (fun r b=>∃e,a r e/\b=e++X):=by
 intro A g h G D O N T R m hf o p n d
 obtain ⟨j,t⟩:=n.tail
 exact C A _ h G D O N T R m hf (Ml t.keep o) (p.keeps t.keep) j fun r b f k l hp i=>d r _ f k l ⟨b,hp,rfl⟩ (t.rep i)
end
noncomputable def Fk(s:L4):Pos:=(uN s).p
theorem tA(F:Nat):ag ll (ap F)=.whileLoop (eI ll) [ro,.While (eI fZ) (ai fZ) (eB fZ) (Fk fZ)] (eB ll) (ap F):=by kernel_rfl
theorem Hq(F:Nat):ag fZ (ap F)=.whileLoop (eI fZ) (ai fZ) (eB fZ) (ap F):=by kernel_rfl
theorem pu{w:Lj}{a b:Bool}{fr:List Env}{F:Nat}{M lows j:Mem}{p:bI}{d:Lm->Mem->Prop}(is:LN)(C:Fh w a b 5 (ag ll (ap F)) (Ci (eI ll) ro (ap F)) j p)(e:co M is=Ld j)(next:∀B os c,p B os c->(B=.ok .next/\∃post1,ak w a b fr 5 (ag fZ (ap F)) (dU 0 M (is.zip os)++(c++lows)) post1 /\
    (∀r n,post1 r n->(r=.ok .next/\ak w a b fr 5 (ag ll (ap F)) n d)∨(r=.ok .brk/\∃i,Pk n i/\d (.ok .next) i))) ∨
   (∃v i,B=.ok (.ret v)/\Pk (dU 0 M (is.zip os)++(c++lows)) i/\d (.ok (.ret v)) i)):ak w a b fr 5 (ag ll (ap F)) (M++lows) d:=by
 intro A g h G D O N T R u s x y X l
 rw [tA]
 refine rc ?_
 have E:=C.row (M:=M) (lows:=lows) is e (G:=G) (D:=D) (O:=O) (T:=T) u x y X
  (R:=fun r t=>(r=.ok .next/\Mm (Lw pw (wd w a b)) A (.whileLoop (eI fZ) (ai fZ) (eB fZ) (ap F)) (fun r J=>(r=.ok .next/\Mm (Lw pw (wd w a b)) A (.whileLoop (eI ll) [ro,.While (eI fZ) (ai fZ) (eB fZ) (Fk fZ)] (eB ll) (ap F)) R J)∨(r=.ok .brk/\R (.ok .next) J)) t)∨(∃v,r=.ok (.ret v)/\R (.ok (.ret v)) t)) ?_
 .rw [tA] at E
  refine OW E (fun f t q=>?_) (fun e t q=>?_)
  .intro Z hf
   subst hf
   rcases q with ⟨k,o⟩ | ⟨v,k,o⟩
   .cases k
    exact .inl ⟨rfl,o⟩
   .cases k
    exact .inr ⟨v,rfl,o⟩
  .rcases q with ⟨k,_⟩ | ⟨v,k,_⟩<;>cases k
 .rintro r os c P S k hp _ H
  rcases next r os c hp with ⟨rfl,post1,K,W⟩ | ⟨v,i,rfl,m,z⟩
  .refine .inl ⟨rfl, ?_⟩
   refine K A g k G D O P S _ u s x y H fun Y n Q U o q I=>?_
   rcases W Y n q with ⟨rfl,L⟩ | ⟨rfl,i,m,z⟩
   .exact .inl ⟨rfl,L A g o G D O Q U R u s x y I l⟩
   .exact .inr ⟨rfl,l _ i _ _ _ z (m _ _ _ I)⟩
  .exact .inr ⟨v,rfl,l _ i _ _ _ z (m _ _ _ H)⟩
noncomputable def iF:E4->E4->Bool
 | .z0,.z0=>Lh | .z1,.z1=>Lh | .z2,.z2=>Lh | .z3,.z3=>Lh
 | _,_=>Li
theorem gf{x y:E4} : iF x y=Lh↔x=y:=by cases x<;>cases y<;>simp [iF]
noncomputable def dI(x:E4):List E4->Bool
 | []=>Li
 | y::l=>match iF x y with
  | true=>Lh
  | false=>dI x l
theorem di{x:E4} : ∀{l:List E4},dI x l=Lh↔x∈l
 | []=>by simp [dI]
 | y::l=>by
  dsimp only [dI]
  cases h:iF x y with
  | true=>simp [gf.mp h]
  | false=>
   have : x≠y:=fun q=>by rw [gf.mpr q] at h;cases h
   simp [di (l:=l),this]
theorem gg{r:E4->Nat}(a:∀i j,r i=r j->i=j)(x:E4):∀(l:List E4),(l.map fun y=>[r y]).contains [r x]=dI x l
 | []=>rfl
 | y::l=>by
  have b:=gg a x l
  rw [Lz,Py,b]
  show (([r x] == [r y]) || dI x l)=(match iF x y with|true=>Lh|false=>dI x l)
  cases h:iF x y with
  | true=>rw [gf.mp h];simp
  | false=>
   have : (([r x] : LN) == [r y])=Li:=beq_eq_false_iff_ne.mpr fun q=>by rw [gf.mpr (a _ _ (by injection q))] at h;cases h
   rw [this];rfl
theorem dJ{l:List E4}(h:l.Nodup):l.length<=4:=by
 have : ∀(l:List E4),l.Nodup->∀i:E4,True:=fun V V V=>trivial
 have b:(l.map fun x=>match x with | .z0=>0 | .z1=>1 | .z2=>2 | .z3=>3).Nodup:=by
  refine MM.mpr (h.imp fun {x y} q e=>q ?_)
  cases x<;>cases y<;>first|rfl|(exact absurd e (by decide))
 have sub:∀n∈(l.map fun x:E4=>match x with | .z0=>0 | .z1=>1 | .z2=>2 | .z3=>3),n < 4:=by
  intro n a
  obtain ⟨x,_,rfl⟩:=LE.mp a
  cases x<;>decide
 have:=List.Nodup.length_le_of_subset (l₁:=l.map fun x:E4=>match x with | .z0=>0 | .z1=>1 | .z2=>2 | .z3=>3) (l₂:=Np 4) b (fun n a=>Sm.mpr (sub n a))
 simpa using this
abbrev cH (x0 x1 x2 x3 x4 x5 x6):=((x0,bO (wd x1 x2 x3) (kY x4 x5) x6 4):Nat × Obj)
section
variable(w:Lj)(a b:Bool)(A:SrtA)(r:E4->Nat)(c:ab)(it:Nat)
include w a b A r c it
theorem qn :
  CT w a b 1 (b9 "dict_keyiterator.__next__" [.ref it]) [(it,cG A.Dd 0 4 4),(cH A.Dd w a b A r c)] (go (.ret (sv [r .z0] (c.k 0))) [cG A.Dd 1 4 4,bO (wd w a b) (kY A r) c 4]):=by
 apply fE b 0x8102040820404080;intro V N T V e f d st
 apply fT b [0,1];apply d;intro o τ;refine ⟨?_, ?_, ?_⟩;apply rfl;apply rfl;apply rfl;rfl;k_mem
theorem Fl :
  CT w a b 1 (b9 "dict_keyiterator.__next__" [.ref it]) [(it,cG A.Dd 1 4 4),(cH A.Dd w a b A r c)] (go (.ret (sv [r .z1] (c.k 1))) [cG A.Dd 2 4 4,bO (wd w a b) (kY A r) c 4]):=by
 apply fE b 0x8102040820404080;intro V N T V e f d st
 apply fT b [0,1];apply d;intro o τ;refine ⟨?_, ?_, ?_⟩;apply rfl;apply rfl;apply rfl;rfl;k_mem
theorem Fn :
  CT w a b 1 (b9 "dict_keyiterator.__next__" [.ref it]) [(it,cG A.Dd 2 4 4),(cH A.Dd w a b A r c)] (go (.ret (sv [r .z2] (c.k 2))) [cG A.Dd 3 4 4,bO (wd w a b) (kY A r) c 4]):=by
 apply fE b 0x8102040820404080;intro V N T V e f d st
 apply fT b [0,1];apply d;intro o τ;refine ⟨?_, ?_, ?_⟩;apply rfl;apply rfl;apply rfl;rfl;k_mem
theorem Fp :
  CT w a b 1 (b9 "dict_keyiterator.__next__" [.ref it]) [(it,cG A.Dd 3 4 4),(cH A.Dd w a b A r c)] (go (.ret (sv [r .z3] (c.k 3))) [cG A.Dd 4 4 4,bO (wd w a b) (kY A r) c 4]):=by
 apply fE b 0x8102040820404080;intro V N T V e f d st
 apply fT b [0,1];apply d;intro o τ;refine ⟨?_, ?_, ?_⟩;apply rfl;apply rfl;apply rfl;rfl;k_mem
theorem Fq :
  CT w a b 1 (b9 "dict_keyiterator.__next__" [.ref it]) [(it,cG A.Dd 4 4 4),(cH A.Dd w a b A r c)] (fun h os d=>∃(e i:Nat)(o:Obj),h=.error (.ref e)/\os=[o,bO (wd w a b) (kY A r) c 4]/\d=[(e,dZ i)]):=by
 apply fE b 567382900752512;intro V N T V j k f st
 refine yo (is:=[0,1,3]) f (fun o=>(gB (N + 1) N (o 0) ⟨rfl,rfl,rfl⟩)) rfl (by generalize b=g;revert g;refine cV ?_;kernel_rfl)
end
section
variable{prog:LU}{w:Lj}{kt:KT}{fr:List Env}{L:Nat}{c:Mk}{M M2:Mem}
include prog w kt fr L c M M2
theorem aO.pick{lows:Mem}{a:Lm->Mem->Prop}(C:aO prog w kt fr L c (M2++lows) a)(is:LN)(e:co M is=Ld M2):aO prog w kt fr L c (M++lows) a:=
 fun A g h G D O N T R d hf i j f b=>C A g h G D O N T R d hf i j (f.pickL is e) b
theorem aO.pick2{M3 lows:Mem}{a:Lm->Mem->Prop}(C:aO prog w kt fr L c (M2++(M3++lows)) a)(is:LN)(e:co M is=Ld (M2++M3)):aO prog w kt fr L c (M++lows) a:=
 aO.pick (M2:=M2++M3) (by rw [Lr];exact C) is e
theorem aO.eqM{a:Lm->Mem->Prop}(e:M=M2)(C:aO prog w kt fr L c M2 a):aO prog w kt fr L c M a:=e ▸ C
end
inductive ju(r:E4->Nat)(A:SrtA):List (E4 × Nat)->LV->LV->List (LN × Lc)->Mem->Prop
 | nil (M:Mem):ju r A [] [] [] [] M
 | cons (x:E4) (pos t m it tk:Nat) {ents:List (E4 × Nat)} {stv itv:LV} {kvs:List (LN × Lc)} {lows:Mem} (h:ju r A ents stv itv kvs lows) :
   ju r A ((x,pos)::ents) (stv++[sv [r x] t]) (itv++[.ref m]) (kvs++[([r x],.int ents.length tk)]) ((m,lJ it)::(it,al (A.U x) pos)::lows)
section
variable{r:E4->Nat}{A:SrtA}
include r A
theorem ju.inv{x:E4}{d:Nat}{a:List (E4 × Nat)}{c b:LV}{kvs:List (LN × Lc)}{lows:Mem}{M:LV->LV->List (LN × Lc)->Mem->Prop}(h:ju r A ((x,d)::a) c b kvs lows)(k:∀(c b:LV)(kvs:List (LN × Lc))(lows:Mem)(t m it e:Nat),ju r A a c b kvs lows->M (c++[sv [r x] t]) (b++[.ref m]) (kvs++[([r x],.int a.length e)]) ((m,lJ it)::(it,al (A.U x) d)::lows)):M c b kvs lows:=by
 cases h with
 | cons _ _ t m it e h=>exact k _ _ _ _ t m it e h
theorem ju.inv0{b a:LV}{kvs:List (LN × Lc)}{lows:Mem}{M:LV->LV->List (LN × Lc)->Prop}(h:ju r A [] b a kvs lows)(k:M [] [] []):M b a kvs:=by
 cases h;exact k
section
variable{ents:List (E4 × Nat)}{stv itv:LV}{kvs:List (LN × Lc)}{lows:Mem}(h:ju r A ents stv itv kvs lows)
include ents stv itv kvs lows h
theorem ju.len:stv.length=ents.length/\itv.length=ents.length/\kvs.length=ents.length:=by
 induction h with
 | nil=>exact ⟨rfl,rfl,rfl⟩
 | cons x b t m it c h a=>simp [a]
theorem ju.keys:kvs.map (·.1)=(ents.map fun e=>[r e.1]).reverse:=by
 induction h with
 | nil=>rfl
 | cons x b t m it c h a=>simp [a]
end
end
theorem fj{k:LN} : ∀{kvs:List (LN × Lc)},k∉kvs.map (·.1)->am kvs k=Lk
 | [],_=>rfl
 | (k',v)::l,h=>by
  simp only [Lz,LD,not_or] at h
  rw [am,fj h.2,if_neg (fun q=>h.1 q.symm)]
noncomputable def cj(a:E4->List E4):List (E4 × Nat)->Option (E4 × List (E4 × Nat))
 | []=>Lk
 | (x,pos)::ents=>match (a x)[pos]? with
  | some y=>Ld (y,(x,pos + 1)::ents)
  | none=>cj a ents
def cA(r:E4->Nat)(b:E4->List E4)(a:E4->LV):Prop:=∀x,af ((b x).map fun y=>[r y]) (a x)
abbrev u4(A:SrtA)(a:E4->LV)(b c d e:Nat):Mem:=[(A.u0,aa (a .z0) b),(A.u1,aa (a .z1) c),(A.u2,aa (a .z2) d),(A.u3,aa (a .z3) e)]
def nb(A:SrtA)(a:E4->LV)(b c d e:Nat):E4->Mem
 | .z0=>[(A.u1,aa (a .z1) c),(A.u2,aa (a .z2) d),(A.u3,aa (a .z3) e)]
 | .z1=>[(A.u0,aa (a .z0) b),(A.u2,aa (a .z2) d),(A.u3,aa (a .z3) e)]
 | .z2=>[(A.u0,aa (a .z0) b),(A.u1,aa (a .z1) c),(A.u3,aa (a .z3) e)]
 | .z3=>[(A.u0,aa (a .z0) b),(A.u1,aa (a .z1) c),(A.u2,aa (a .z2) d)]
noncomputable def rp(k:Nat):E4->LN
 | .z0=>[k + 1,k + 2,k + 3] | .z1=>[k,k + 2,k + 3] | .z2=>[k,k + 1,k + 3] | .z3=>[k,k + 1,k + 2]
noncomputable def Fr(k:Nat):E4->LN
 | .z0=>[k,k + 1,k + 2,k + 3] | .z1=>[k + 1,k,k + 2,k + 3] | .z2=>[k + 1,k + 2,k,k + 3] | .z3=>[k + 1,k + 2,k + 3,k]
abbrev tB(w:Lj)(Z:fK)(q r oL:Obj)(A:SrtA)(a:E4->LV)(j k l m:Nat)(F f d i e:Nat)(p:Lc)(g:ab)(s:Array (Option Lc))(c b:LV)(kvs:List (LN × Lc))(o n:Nat)(h:ab):Mem:=
 [(F,gw A.S A.Dd f d i e p g s),(Z.P,q),(Z.Q,r),(Z.L,oL),(f,aa c o),(d,aa b n),(e,iB w kvs h),(A.u0,aa (a .z0) j),(A.u1,aa (a .z1) k),(A.u2,aa (a .z2) l),(A.u3,aa (a .z3) m)]
theorem vz(w:Lj)(a b:Bool)(Z:fK)(z:Z.Ok)(A:SrtA)(r:E4->Nat)(hr:∀i j,r i=r j->i=j)(su:E4->List E4)(d:E4->LV)(hsu:cA r su d)(B s D E F I G R H:Nat)(nv:Lc)(K:Lm->Mem->Prop)(c:List (E4 × Nat)):∀(u v oL:Obj)(hP:dS u)(hQ:dS v)(hL:dS oL)(Jf:ab)(N:Array (Option Lc))(g f:LV)(kvs:List (LN × Lc))(J W:Nat)(Jn:ab)(lows:Mem)
  (hst:ju r A c g f kvs lows) (hnd:(c.map (·.1)).Nodup) (hz:c.length < 500)
  (hN:cj su c=Lk->∀(n:ab)(sl' sP sQ sL:Array (Option Lc))(Y X:Nat)(O:ab)(o:Mem),K (.ok .brk) (tB (wd w a b) Z (aD u sP) (aD v sQ) (aD oL sL) A d B s D E F I G R H nv n sl' [] [] [] Y X O++o))
  (hS:∀y l,cj su c=Ld (y,l)->∀(ty:Nat)(n:ab)(sl' sP sQ sL:Array (Option Lc))(stv' itv':LV)(kvs':List (LN × Lc))(Y X:Nat)(O:ab)(o:Mem),ju r A l stv' itv' kvs' o->(l.map (·.1)).Nodup ->
   K (.ok .next) (tB (wd w a b) Z (aD u sP) (aD v sQ) (aD oL sL) A d B s D E F I G R H (sv [r y] ty) n sl' stv' itv' kvs' Y X O++o)),
  ak w a b (ap F::Z.envs) 5 (ag fZ (ap F)) (tB (wd w a b) Z u v oL A d B s D E F I G R H nv Jf N g f kvs J W Jn++lows) K:=by
 induction c with
 | nil=>
  intro u v oL hP hQ hL Jf N g f kvs J W Jn lows hst hnd hz hN hS
  apply hst.inv0
  refine ((Ff w a b F A.S A.Dd I G R H J nv Jf N).row (M:=tB (wd w a b) Z u v oL A d B s D E F I G R H nv Jf N [] [] [] J W Jn) (lows:=lows) (ap F::Z.envs) [0,4] (by kernel_rfl)).weak (Lf _) fun rr F' q=>?_
  refine bp fun C kC=>?_;obtain ⟨os,news,⟨rfl,rfl,rfl⟩,_,rfl⟩:=q;apply kC;clear kC
  exact ⟨_,.refl _,hN rfl Jf N u.slots v.slots oL.slots J W Jn lows⟩
 | cons e c ih=>
  obtain ⟨x,k⟩:=e
  intro u v oL hP hQ hL Jf N g f kvs J W Jn lows hst hnd hz hN hS
  apply hst.inv;intro g f kvs lows t m it tk h
  refine bp fun C kC=>?_;obtain ⟨l1,l2,l3⟩:=h.len;apply kC;clear kC
  have hz':c.length < 500:=by simp only [Ls] at hz;kd_p
  refine bp fun C kC=>?_;cases hp:(su x)[k]? with
  | some y=>
   apply kC;clear kC
   have hx:∃ty,(d x)[k]? = Ld (sv [r y] ty):=(hsu x).get (by rw [MO,hp];rfl)
   clear hz;obtain ⟨ty,hx⟩:=hx
   have C:=((Fg w a b F A.S A.Dd I G R H J W nv Jf N g f (r x) m it (A.U x) k t (d x) (b7 B s D E x) (r y) ty hx (by kd_p)).row
    (M:=tB (wd w a b) Z u v oL A d B s D E F I G R H nv Jf N (g++[sv [r x] t]) (f++[.ref m]) (kvs++[([r x],.int c.length tk)]) J W Jn++[(m,lJ it),(it,al (A.U x) k)]) (lows:=lows) (ap F::Z.envs) [0,4,5,11,12,kZ 7 x] (by apply pf x;kernel_rfl))
   refine aO.weak C (Lf _) fun rr F' q=>?_
   clear C;obtain ⟨os,news,⟨n,rfl,rfl,rfl⟩,_,rfl⟩:=q
   refine ⟨_, ?_,hS y ((x,k + 1)::c) (by simp only [cj,hp]) ty n N u.slots v.slots oL.slots _ _ _ J W Jn _ (.cons x (k + 1) t m it tk h) hnd⟩
   have s:dU 0 (tB (wd w a b) Z u v oL A d B s D E F I G R H nv Jf N (g++[sv [r x] t]) (f++[.ref m]) (kvs++[([r x],.int c.length tk)]) J W Jn++[(m,lJ it),(it,al (A.U x) k)]) ([0,4,5,11,12,kZ 7 x].zip [gw A.S A.Dd I G R H (sv [r y] ty) n N,aa (g++[sv [r x] t]) J,aa (f++[.ref m]) W,lJ it,al (A.U x) (k + 1),aa (d x) (b7 B s D E x)]) =
    tB (wd w a b) Z u v oL A d B s D E F I G R H (sv [r y] ty) n N (g++[sv [r x] t]) (f++[.ref m]) (kvs++[([r x],.int c.length tk)]) J W Jn++[(m,lJ it),(it,al (A.U x) (k + 1))]:=by apply pf x;kernel_rfl
   rw [s]
   exact .refl _
  | none=>
   apply kC;clear kC
   have hin:cj su ((x,k)::c)=cj su c:=by simp only [cj,hp]
   have hlen:(d x).length<=k:=by rw [(hsu x).length,Ln];exact List.getElem?_eq_none_iff.mp hp
   have hnd2:=(Mb.mp hnd)
   have hk1:[r x]∉kvs.map (·.1):=by
    rw [h.keys]
    intro q
    rw [PU] at q
    obtain ⟨e,he,hq⟩:=LE.mp q
    exact hnd2.1 (LE.mpr ⟨e,he,hr _ _ (by injection hq)⟩)
   have hkn:(kvs.map (·.1)).Nodup:=by
    rw [h.keys]
    refine QU.mpr ?_
    refine MM.mpr ?_
    refine (MM.mp hnd2.2).imp fun {e e'} q q2=>q (hr _ _ (by injection q2)).symm
   have hkn2:((kvs++[([r x],(L6 c.length tk))]).map (·.1)).Nodup:=by
    rw [LC]
    refine LK.mpr ⟨hkn,by simp,fun p hp q hq e=>?_⟩
    rw [Lz,SU,ND] at hq
    subst hq;subst e
    exact hk1 hp
   have C:=Fj w a b Z z u v oL hP hQ hL F A.S A.Dd I G R H J W nv Jf N g f (r x) m it (A.U x) k t (d x) (b7 B s D E x) kvs (.int c.length tk) Jn (nb A d B s D E x++lows) K hlen (by kd_p) (by kd_p) hkn2 (by kd_p) (fj hk1)
    (fun n sl' sP sQ sL Y X O=>aO.pick2 (M:=[(F,gw A.S A.Dd I G R H nv n sl'),(Z.P,aD u sP),(Z.Q,aD v sQ),(Z.L,aD oL sL),(I,aa g Y),(G,aa f X),(H,iB (wd w a b) kvs O),(A.U x,aa (d x) (b7 B s D E x))]++nb A d B s D E x) (M3:=[])
     (ih (aD u sP) (aD v sQ) (aD oL sL) hP hQ hL n sl' g f kvs Y X O lows h hnd2.2 hz' (fun q=>hN (hin.trans q)) (fun y l q=>hS y l (hin.trans q))) ([0,1,2,3,4,5,6]++Fr 7 x) (by apply pf x;kernel_rfl))
   exact aO.pick2 (M:=tB (wd w a b) Z u v oL A d B s D E F I G R H nv Jf N (g++[sv [r x] t]) (f++[.ref m]) (kvs++[([r x],.int c.length tk)]) J W Jn++[(m,lJ it),(it,al (A.U x) k)]) (M3:=nb A d B s D E x) C ([0,1,2,3,4,5,6,11,12,kZ 7 x]++rp 7 x) (by apply pf x;kernel_rfl)
theorem kh{g:E4->List E4}{y:E4} : ∀{b a:List (E4 × Nat)},cj g b=Ld (y,a)->∀e∈a,∃c∈b,c.1=e.1
 | [],_,h=>by cases h
 | (x,pos)::r,a,h=>by
  unfold cj at h
  split at h
  .cases h
   intro e he
   rcases LD.mp he with rfl|he
   .exact ⟨_,.head _,rfl⟩
   .exact ⟨e,.tail _ he,rfl⟩
  .intro e he
   obtain ⟨c,d,f⟩:=kh h e he
   exact ⟨c,.tail _ d,f⟩
theorem lL{k:LN}{l2:List (LN × Lc)} : ∀{l:List (LN × Lc)},am (l++l2) k=(am l k).or (am l2 k)
 | []=>by simp [am]
 | (k',v)::l=>by
  show (if k'=k then Ld v else am (l++l2) k)=((if k'=k then Ld v else am l k)).or _
  split
  .rfl
  .exact lL
set_option tactic.hygienic true in
theorem ju.look{r:E4->Nat}(u:∀i j,r i=r j->i=j){A:SrtA}{x:E4}{b:List (E4 × Nat)}{n g:LV}{kvs:List (LN × Lc)}{lows:Mem}(h:ju r A b n g kvs lows)(hx:x∈b.map (·.1)):∃(k:Int)(d:Nat),am kvs [r x]=Ld (.int k d):=by
 induction h with
 | nil=>cases hx
 | cons y w t m it d h v=>
  rw [lL]
  rw [Lz,LD] at hx
  rename_i a p o c l
  rcases Classical.em (x∈NK (·.1) a) with hm|hm
  .refine d9 (fun k d f=>?_) (v hm);have e:=f
   exact ⟨k,d,by rw [e];rfl⟩
  .rcases hx with rfl|hx
   .have : am c [r x]=Lk:=by
     refine fj ?_
     rw [h.keys]
     intro q
     rw [PU] at q
     refine bj (fun e f=>?_) (LE.mp q);obtain ⟨he,s⟩:=f
     exact hm (LE.mpr ⟨e,he,u _ _ (by injection s)⟩)
    rw [this]
    refine (jm (Ll a.length) d ?_)
    show (Lk:Option Lc).or (if [r x]=[r x] then Ld _ else Lk)=_
    rw [if_pos rfl]
    rfl
   .exact absurd hx hm
section
variable{r:E4->Nat}(a:∀i j,r i=r j->i=j){A:SrtA}
include r a A
theorem ju.lookN{x:E4}{b:List (E4 × Nat)}{d c:LV}{kvs:List (LN × Lc)}{lows:Mem}(h:ju r A b d c kvs lows)(g:x∉b.map (·.1)):am kvs [r x]=Lk:=by
 refine fj ?_
 rw [h.keys]
 intro q
 rw [PU] at q
 obtain ⟨e,he,f⟩:=LE.mp q
 exact g (LE.mpr ⟨e,he,a _ _ (by injection f)⟩)
theorem ju.knd{b:List (E4 × Nat)}{d c:LV}{kvs:List (LN × Lc)}{lows:Mem}(h:ju r A b d c kvs lows)(f:(b.map (·.1)).Nodup):(kvs.map (·.1)).Nodup:=by
 rw [h.keys]
 refine QU.mpr (MM.mpr ((MM.mp f).imp fun {e e'} q q2=>q (a _ _ (by injection q2)).symm))
end
def wF(c:E4->List E4):Nat->E4->List (E4 × Nat)->List E4->Option (Bool × List E4)
 | 0,_,_,_=>Lk
 | n + 1,x,b,aw=>match dI x aw with
  | true=>match dI x (b.map (·.1)) with
   | true=>Ld (Lh,aw)
   | false=>match cj c b with
    | none=>Ld (Li,aw)
    | some (y,a)=>wF c n y a aw
  | false=>match cj c ((x,0)::b) with
   | none=>Ld (Li,x::aw)
   | some (y,a)=>wF c n y a (x::aw)
abbrev Ka(w:Lj)(A:SrtA)(r:E4->Nat)(b:Lc)(i nf:Int)(a:E4->Int)(h g c d e f:ab):Mem:=[
 (A.S,cu 154 A.Sd),(A.Sd,fh A.Dd b i nf h),(A.Dd,bO w (kY A r) g 4),
 (A.i0,ao A.d0 [r .z0] (a .z0) A.u0 c),(A.i1,ao A.d1 [r .z1] (a .z1) A.u1 d),(A.i2,ao A.d2 [r .z2] (a .z2) A.u2 e),(A.i3,ao A.d3 [r .z3] (a .z3) A.u3 f)]
abbrev wM(w:Lj)(Z:fK)(C D oL:Obj)(A:SrtA)(r:E4->Nat)(b:Lc)(E nf:Int)(z:E4->Int)(o l h i j k:ab)(d:E4->LV)(s t u v:Nat)(F q g e p:Nat)(B:Lc)(m:ab)(G:Array (Option Lc))(c a:LV)(kvs:List (LN × Lc))(y x:Nat)(n:ab)(f:OI):Mem:=
 tB w Z C D oL A d s t u v F q g e p B m G c a kvs y x n++((e,fM f)::Ka w A r b E nf z o l h i j k)
section
variable(w:Lj)(a b:Bool)(Z:fK)(z:Z.Ok)(A:SrtA)(r:E4->Nat)(O:∀i j,r i=r j->i=j)(d:Lc)(H nf:Int)(D:E4->Int)(K B G u E s:ab)(N:E4->List E4)(c:E4->LV)(R:cA r N c)(e0 e1 e2 g F o p f l:Nat)
include w a b Z z A r O d H nf D K B G u E s N c R e0 e1 e2 g F o p f l
theorem tC(nv:Lc)(L:List (E4 × Nat))(Y oQ oL:Obj)(hP:dS Y)(hQ:dS oQ)(hL:dS oL)(Jf:ab)(sl:Array (Option Lc))(W U:LV)(kvs:List (LN × Lc))(es ei:Nat)(Jn:ab)(DD:OI)(lows:Mem)(hst:ju r A L W U kvs lows)(hnd:(L.map (·.1)).Nodup) :
  ak w a b (ap F::Z.envs) 5 (ag fZ (ap F)) (wM (wd w a b) Z Y oQ oL A r d H nf D K B G u E s c e0 e1 e2 g F o p f l nv Jf sl W U kvs es ei Jn DD++lows)
   (fun rr F'=>(∃(k:ab)(v Q S P:Array (Option Lc))(t n:Nat)(m:ab)(e:Mem),rr=.ok .brk/\cj N L=Lk/\F'=wM (wd w a b) Z (aD Y Q) (aD oQ S) (aD oL P) A r d H nf D K B G u E s c e0 e1 e2 g F o p f l nv k v [] [] [] t n m DD++e) ∨
    (∃(y:E4)(i:List (E4 × Nat))(ty:Nat)(k:ab)(v Q S P:Array (Option Lc))(J x:LV)(I:List (LN × Lc))(t n:Nat)(m:ab)(e:Mem),rr=.ok .next/\cj N L=Ld (y,i)/\F'=wM (wd w a b) Z (aD Y Q) (aD oQ S) (aD oL P) A r d H nf D K B G u E s c e0 e1 e2 g F o p f l (sv [r y] ty) k v J x I t n m DD++e/\ju r A i J x I e/\(i.map (·.1)).Nodup)):=by
 have hz:L.length < 500:=by have:=dJ hnd;rw [Ln] at this;kd_p
 have C:=vz w a b Z z A r O N c R e0 e1 e2 g F o p f l nv (fun rr F'=>(∃(k:ab)(v Q S P:Array (Option Lc))(t n:Nat)(m:ab)(e:Mem),rr=.ok .brk/\cj N L=Lk/\F'=tB (wd w a b) Z (aD Y Q) (aD oQ S) (aD oL P) A c e0 e1 e2 g F o p f l nv k v [] [] [] t n m++e) ∨
    (∃(y:E4)(i:List (E4 × Nat))(ty:Nat)(k:ab)(v Q S P:Array (Option Lc))(J x:LV)(I:List (LN × Lc))(t n:Nat)(m:ab)(e:Mem),rr=.ok .next/\cj N L=Ld (y,i)/\F'=tB (wd w a b) Z (aD Y Q) (aD oQ S) (aD oL P) A c e0 e1 e2 g F o p f l (sv [r y] ty) k v J x I t n m++e/\ju r A i J x I e/\(i.map (·.1)).Nodup))
  L Y oQ oL hP hQ hL Jf sl W U kvs es ei Jn lows hst hnd hz (fun h k v Q S P t n m e=>.inl (Cu k v Q S P t n m e ⟨rfl,h,rfl⟩))
  (fun y i h ty k v Q S P J x I t n m e h1 h2=>.inr (oy y i ty k v Q S P (uM J x I t n m e ⟨rfl,h,rfl,h1,h2⟩)))
 have C2:=(aO.frame (X:=(f,fM DD)::Ka (wd w a b) A r d H nf D K B G u E s) C).pk (M:=wM (wd w a b) Z Y oQ oL A r d H nf D K B G u E s c e0 e1 e2 g F o p f l nv Jf sl W U kvs es ei Jn DD++lows) (Pk.perm (by
  rw [wM,Lr,Lr]
  exact MR _ MU))
 refine C2.weakP (Lf _) fun rr F' q=>?_
 refine bp fun C kC=>?_;obtain ⟨F2,q,rfl⟩:=q;apply kC;clear kC
 rcases q with q0|q0
 .refine Cc (fun k v Q S P t n m e h0=>?_) q0;apply Jt h0;intro h
  refine ⟨_,Pk.perm ?_,.inl (Cu k v Q S P t n m e ⟨rfl,h,rfl⟩)⟩
  rw [wM,Lr,Lr]
  exact MR _ MU
 .refine oO (fun y i ty k v Q S P h0=>?_) q0;refine uL (fun J x I t n m e h0=>?_) h0;apply Jv h0;intro h h12
  refine ⟨_,Pk.perm ?_,.inr (oy y i ty k v Q S P (uM J x I t n m e ⟨rfl,h,rfl,h12⟩))⟩
  rw [wM,Lr,Lr]
  exact MR _ MU
theorem Kb(oP oQ oL:Obj)(hP:dS oP)(hQ:dS oQ)(hL:dS oL)(post:Lm->Mem->Prop)(res:Bool × List E4)(hE:res.1=Li->∀(nv:Lc)(Jf':ab)(sl' sP sQ sL:Array (Option Lc))(es' ei':Nat)(Jn':ab)(DD':OI)(W:Mem),ci (wd w a b) DD' (res.2.map fun y=>[r y])->post (.ok .next) (wM (wd w a b) Z (aD oP sP) (aD oQ sQ) (aD oL sL) A r d H nf D K B G u E s c e0 e1 e2 g F o p f l nv Jf' sl' [] [] [] es' ei' Jn' DD'++W))(hC:res.1=Lh->∀(C:Nat)(vs:LV)(v:Lc)(ec:Nat)(sP sQ sL:Array (Option Lc))(W:Mem),vs.length < 1000->post (.ok (.ret (.ref C))) ([(Z.P,aD oP sP),(Z.Q,aD oQ sQ),(Z.L,aD oL sL),(C,aa (vs++[v]) ec)]++cT (wd w a b) A r d H nf D c K B G u E s e0 e1 e2 g++W))(n:Nat) :
  ∀(x:E4)(i:List (E4 × Nat))(aw:List E4),wF N n x i aw=Ld res->aw.Nodup->(∀e∈i,e.1∈aw)->(i.map (·.1)).Nodup ->
  ∀(tx:Nat)(Jf:ab)(sl sP sQ sL:Array (Option Lc))(stv itv:LV)(kvs:List (LN × Lc))(es ei:Nat)(Jn:ab)(DD:OI)(lows:Mem),ju r A i stv itv kvs lows->ci (wd w a b) DD (aw.map fun y=>[r y]) ->
  ak w a b (ap F::Z.envs) 5 (ag ll (ap F)) (wM (wd w a b) Z (aD oP sP) (aD oQ sQ) (aD oL sL) A r d H nf D K B G u E s c e0 e1 e2 g F o p f l (sv [r x] tx) Jf sl stv itv kvs es ei Jn DD++lows) post:=by
 induction n with
 | zero=>intro x i aw h;cases h
 | succ n ih=>
  intro x i aw hw hsn hes hnd tx Jf sl sP sQ sL stv itv kvs es ei Jn DD lows hst hDD
  unfold wF at hw
  refine qd (fun l1 l2 l3=>?_) (hst.len)
  have l4:i.length<=4:=by have:=dJ hnd;rwa [Ln] at this
  have l5:=dJ hsn
  have hkn:=hst.knd O hnd
  have hin:=gg O x aw
  have inner:∀(Y:List (E4 × Nat))(X:List E4),(match cj N Y with|none=>Ld (Li,X)|some (y,ents')=>wF N n y ents' X)=Ld res->X.Nodup->(∀e∈Y,e.1∈X)->(Y.map (·.1)).Nodup ->
    ∀(stv2 itv2:LV)(kvs2:List (LN × Lc))(es2 ei2:Nat)(Jn2:ab)(DD2:OI)(lows2:Mem),ju r A Y stv2 itv2 kvs2 lows2->ci (wd w a b) DD2 (X.map fun y=>[r y]) ->
    ∃post1,ak w a b (ap F::Z.envs) 5 (ag fZ (ap F)) (wM (wd w a b) Z (aD oP sP) (aD oQ sQ) (aD oL sL) A r d H nf D K B G u E s c e0 e1 e2 g F o p f l (sv [r x] tx) Jf sl stv2 itv2 kvs2 es2 ei2 Jn2 DD2++lows2) post1 /\
     (∀r F',post1 r F'->(r=.ok .next/\ak w a b (ap F::Z.envs) 5 (ag ll (ap F)) F' post)∨(r=.ok .brk/\∃F2,Pk F' F2/\post (.ok .next) F2)):=by
   intro Y X hw2 hsn2 hes2 hnd2 stv2 itv2 kvs2 es2 ei2 Jn2 DD2 lows2 hst2 hD2
   refine ⟨_,tC w a b Z z A r O d H nf D K B G u E s N c R e0 e1 e2 g F o p f l (sv [r x] tx) Y (aD oP sP) (aD oQ sQ) (aD oL sL) hP hQ hL Jf sl stv2 itv2 kvs2 es2 ei2 Jn2 DD2 lows2 hst2 hnd2,fun rr F' q=>?_⟩
   rcases q with q0|q0
   .refine Cc (fun Jf' sl' sP' sQ' sL' es' ei' Jn' W h0=>?_) q0;apply Jt h0;intro h
    rw [h] at hw2
    have e:=MK hw2
    exact .inr ⟨rfl,_,Pk.refl _,hE (congrArg Sl e).symm _ Jf' sl' sP' sQ' sL' es' ei' Jn' DD2 W (congrArg Prod.snd e ▸ hD2)⟩
   .refine oO (fun y ents' ty Jf' sl' sP' sQ' sL' h0=>?_) q0;refine uL (fun stv' itv' kvs' es' ei' Jn' W h0=>?_) h0;apply Jv h0;intro h h12
    rw [h] at hw2
    refine .inl ⟨rfl,ih y ents' X hw2 hsn2 (fun e he=>?_) h12.2 ty Jf' sl' sP' sQ' sL' stv' itv' kvs' es' ei' Jn' DD2 W h12.1 hD2⟩
    refine bj (fun e0 h0=>?_) (kh h e he);obtain ⟨h3,h4⟩:=h0
    rw [<- h4]
    exact hes2 e0 h3
  refine bp fun C kC=>?_;cases hm:dI x aw with
  | true=>
   apply kC;clear kC
   rw [hm] at hw hin
   cases hk:dI x (i.map (·.1)) with
   | true=>
    rw [hk] at hw
    have e:=MK hw
    refine d9 (fun k tk h0=>?_) (hst.look O (di.mp hk));have hlk:=h0
    refine pu [0,11,6,4] (zK w a b F A.S A.Dd o p f l es Jf Jn sl stv DD _ (r x) tx kvs k tk hDD hin hkn hlk (by kd_p)) (by kernel_rfl) fun rr os news q=>?_
    refine gz (fun C vs t J h0=>?_) q;apply y8 h0;intro hv
    refine .inr (jm _ _ ⟨rfl,Pk.of2 (lows:=lows) (M:=wM (wd w a b) Z (aD oP sP) (aD oQ sQ) (aD oL sL) A r d H nf D K B G u E s c e0 e1 e2 g F o p f l (sv [r x] tx) Jf sl stv itv kvs es ei Jn DD++[(cg C vs [sv [r x] t] J.e)]) (M3:=[]) (M2:=[(Z.P,aD oP sP),(Z.Q,aD oQ sQ),(Z.L,aD oL sL),(cg C vs [sv [r x] t] J.e)]++cT (wd w a b) A r d H nf D c K B G u E s e0 e1 e2 g) [1,2,3,19,12,13,14,15,16,17,18,7,8,9,10] (by kernel_rfl), ?_⟩)
    exact hC (congrArg Sl e).symm C vs _ J.e sP sQ sL lows hv
   | false=>
    rw [hk] at hw
    have hlk:=hst.lookN O (x:=x) (fun q=>by rw [di.mpr q] at hk;cases hk)
    refine pu [0,11,6] (zL w a b F A.S A.Dd o p f l Jf Jn sl DD _ (r x) tx kvs hDD hin hkn hlk) (by kernel_rfl) fun rr os news q=>?_
    apply m8 q
    exact .inl ⟨rfl,inner i aw hw hsn hes hnd stv itv kvs es ei Jn DD lows hst hDD⟩
  | false=>
   apply kC;clear kC
   rw [hm] at hw hin
   have hx:x∉aw:=fun q=>by rw [di.mpr q] at hm;cases hm
   have hxe:x∉i.map (·.1):=fun q=>by
    refine bj (fun e h0=>?_) (LE.mp q);obtain ⟨h1,h2⟩:=h0
    exact hx (h2 ▸ hes e h1)
   have hlk:=hst.lookN O hxe
   refine pu [0,11,6,4,5,14,kZ 15 x,kZ 7 x] (zM w a b F A.S A.Dd o p f l es ei Jf Jn B (b7 G u E s x) sl stv itv DD _ (r x) tx kvs (kY A r) 4 (A.I x) (A.Dn x) (A.U x) (D x) (c x) (b7 e0 e1 e2 g x) hDD hin (by rw [Ln];kd_p) hkn hlk (by kd_p) (by kd_p) (by kd_p) (ee O A) (i5 O A x)) (by apply pf x;kernel_rfl) fun rr os news q=>?_
   refine uL (fun D' Jn' J1' J2' m it tk h0=>?_) q;apply y8 h0;intro hD'
   refine .inl ⟨rfl, ?_⟩
   have hst2:=ju.cons x 0 tx m it tk hst
   rw [<- l1] at hst2
   have e1:dU 0 (wM (wd w a b) Z (aD oP sP) (aD oQ sQ) (aD oL sL) A r d H nf D K B G u E s c e0 e1 e2 g F o p f l (sv [r x] tx) Jf sl stv itv kvs es ei Jn DD) ([0,11,6,4,5,14,kZ 15 x,kZ 7 x].zip [gw A.S A.Dd o p f l (sv [r x] tx) Jf sl,fM D',iB (wd w a b) (kvs++[([r x],.int (Ll stv.length) tk)]) Jn',aa (stv++[sv [r x] tx]) J1'.e,aa (itv++[.ref m]) J2'.e,bO (wd w a b) (kY A r) B 4,ao (A.Dn x) [r x] (D x) (A.U x) (b7 G u E s x),aa (c x) (b7 e0 e1 e2 g x)]) =
     wM (wd w a b) Z (aD oP sP) (aD oQ sQ) (aD oL sL) A r d H nf D K B G u E s c e0 e1 e2 g F o p f l (sv [r x] tx) Jf sl (stv++[sv [r x] tx]) (itv++[.ref m]) (kvs++[([r x],.int (Ll stv.length) tk)]) J1'.e J2'.e Jn' D':=by apply pf x;kernel_rfl
   rw [e1]
   exact inner ((x,0)::i) (x::aw) hw (Mb.mpr ⟨hx,hsn⟩) (fun e he=>by
    rcases LD.mp he with rfl|he
    .exact .head _
    .exact .tail _ (hes e he)) (Mb.mpr ⟨hxe,hnd⟩) _ _ _ J1'.e J2'.e Jn' D' _ hst2 hD'
end
noncomputable def yI:Nat->Option E4
 | 0=>Ld .z0 | 1=>Ld .z1 | 2=>Ld .z2 | 3=>Ld .z3 | _=>Lk
theorem zN(w:Lj)(a b:Bool)(A:SrtA)(r:E4->Nat)(c:ab)(it k:Nat)(x:E4)(h:yI k=Ld x) :
  CT w a b 1 (b9 "dict_keyiterator.__next__" [.ref it]) [(it,cG A.Dd k 4 4),(cH A.Dd w a b A r c)] (fun e os d=>∃t:Nat,e=.ok (.ret (sv [r x] t))/\os=[cG A.Dd (k + 1) 4 4,bO (wd w a b) (kY A r) c 4]/\d=[]):=by
 match k,h with
 | 0,h=>cases h;exact (qn w a b A r c it).weak (Lf _) fun V V V q=>⟨_,q⟩
 | 1,h=>cases h;exact (Fl w a b A r c it).weak (Lf _) fun V V V q=>⟨_,q⟩
 | 2,h=>cases h;exact (Fn w a b A r c it).weak (Lf _) fun V V V q=>⟨_,q⟩
 | 3,h=>cases h;exact (Fp w a b A r c it).weak (Lf _) fun V V V q=>⟨_,q⟩
def dK(b:E4->List E4)(n:Nat):List E4->List E4->Option Bool
 | [],_=>Ld Li
 | x::xs,aw=>match dI x aw with
  | true=>dK b n xs aw
  | false=>match wF b n x [] aw with
   | some (Lh,_)=>Ld Lh
   | some (Li,a)=>dK b n xs a
   | none=>Lk
section
variable(w:Lj)(a b:Bool)(Z:fK)(z:Z.Ok)(A:SrtA)(r:E4->Nat)(J:∀i j,r i=r j->i=j)(f:Lc)(p nf:Int)(B:E4->Int)(u t E m D l:ab)(G:E4->List E4)(d:E4->LV)(o:cA r G d)(e0 e1 e2 s:Nat)(g k oL:Obj)(H:dS g)(I:dS k)(hL:dS oL)(n:Nat)(x:E4)(aw c:List E4)
include w a b Z z A r J f p nf B u t E m D l G d o e0 e1 e2 s g k oL H I hL n x aw c
theorem zO(h:wF G n x [] aw=Ld (Li,c))(hsn:aw.Nodup)(F X S W U tx:Nat)(Jf:ab)(sl P Q O:Array (Option Lc))(es ei:Nat)(Jn:ab)(R:OI)(lows:Mem)(Y:ci (wd w a b) R (aw.map fun y=>[r y])) :
  ak w a b (ap F::Z.envs) 5 (ag ll (ap F)) (wM (wd w a b) Z (aD g P) (aD k Q) (aD oL O) A r f p nf B u t E m D l d e0 e1 e2 s F X S W U (sv [r x] tx) Jf sl [] [] [] es ei Jn R++lows)
   (fun rr F'=>∃(nv:Lc)(C:ab)(N sP' sQ' sL':Array (Option Lc))(M L:Nat)(K:ab)(v:OI)(i:Mem),rr=.ok .next/\F'=wM (wd w a b) Z (aD g sP') (aD k sQ') (aD oL sL') A r f p nf B u t E m D l d e0 e1 e2 s F X S W U nv C N [] [] [] M L K v++i/\ci (wd w a b) v (c.map fun y=>[r y])):=
 Kb w a b Z z A r J f p nf B u t E m D l G d o e0 e1 e2 s F X S W U g k oL H I hL _ (Li,c)
  (fun V nv C N P Q O M L K v i hD=>(qU nv C N P Q O M L K v i ⟨rfl,rfl,hD⟩)) (fun q=>by cases q) n x [] aw h hsn (fun e he=>by cases he) .nil tx Jf sl P Q O [] [] [] es ei Jn R lows (.nil _) Y
abbrev zP (x0 x1 x2 x3 x4 x5 x6 x7 x8 x9 x10 x11 x12 x13 x14 x15 x16 x17 x18 x19 x20 x21 x22 x23 x24 x25):=(fun g e=>∃(C:Nat)(vs:LV)(v:Lc)(f:Nat)(c d b:Array (Option Lc))(a:Mem),g=.ok (.ret (.ref C))/\e=([(x0,aD x1 c),(x2,aD x3 d),(x4,aD x5 b),(C,aa (vs++[v]) f)]++cT (wd x6 x7 x8) x9 x10 x11 x12 x13 x14 x15 x16 x17 x18 x19 x20 x21 x22 x23 x24 x25)++a/\vs.length < 1000:Lm->Mem->Prop)
theorem Fs(h:wF G n x [] aw=Ld (Lh,c))(S:aw.Nodup)(F St U Se Y tx:Nat)(W:ab)(sl M N K:Array (Option Lc))(es ei:Nat)(X:ab)(O:OI)(lows:Mem)(R:ci (wd w a b) O (aw.map fun y=>[r y])) :
  ak w a b (ap F::Z.envs) 5 (ag ll (ap F)) (wM (wd w a b) Z (aD g M) (aD k N) (aD oL K) A r f p nf B u t E m D l d e0 e1 e2 s F St U Se Y (sv [r x] tx) W sl [] [] [] es ei X O++lows)
   (zP Z.P g Z.Q k Z.L oL w a b A r f p nf B d u t E m D l e0 e1 e2 s):=
 Kb w a b Z z A r J f p nf B u t E m D l G d o e0 e1 e2 s F St U Se Y g k oL H I hL _ (Lh,c)
  (fun q=>by cases q) (fun V C vs v ec M N K i hv=>(oy C vs v ec M N K i ⟨rfl,rfl,hv⟩)) n x [] aw h S (fun e he=>by cases he) .nil tx W sl M N K [] [] [] es ei X O lows (.nil _) R
end
set_option tactic.hygienic true in
theorem eK{e:E4->List E4} : ∀{n:Nat}{x:E4}{a:List (E4 × Nat)}{aw:List E4}{b:Bool × List E4},wF e n x a aw=Ld b->aw.Nodup->b.2.Nodup
 | 0,_,_,_,_,h,_=>by cases h
 | n + 1,x,a,aw,b,h,c=>by
  unfold wF at h
  split at h
  .split at h
   .cases h;exact c
   .split at h
    .cases h;exact c
    .exact eK h c
  .rename_i hm
   have d:(x::aw).Nodup:=Mb.mpr ⟨(fun q=>by rw [di.mpr q] at hm;cases hm),c⟩
   split at h
   .cases h;exact d
   .exact eK h d
abbrev nL (x0 x1 x2 x3 x4 x5 x6 x7 x8 x9 x10 x11 x12 x13 x14 x15 x16 x17 x18 x19 x20 x21 x22 x23 x24 x25 x26 x27 x28 x29 x30 x31 x32 x33 x34 x35 x36 x37 x38 x39 x40 x41 x42):=(wM (wd x0 x1 x2) x3 (aD x4 x5) (aD x6 x7) (aD x8 x9) x10 x11 x12 x13 x14 x15 x16 x17 x18 x19 x20 x21 x22 x23 x24 x25 x26 x27 x28 x29 x30 x31 x32 x33 x34 [] [] [] x35 x36 x37 x38++[(x39,cG x40 x41 4 4)])++x42
section
variable(w:Lj)(a b:Bool)(Z:fK)
include w a b Z
theorem zQ(A:SrtA)(r:E4->Nat)(d:Lc)(B nf:Int)(x:E4->Int)(q g l m n p:ab)(f:E4->LV)(s t u v:Nat)(y z oL:Obj)(F R I O M it:Nat)(W:Lc)(J:ab)(Y D E C:Array (Option Lc))(U S:Nat)(K:ab)(G:OI)(lows:Mem) :
  ak w a b (ap F::Z.envs) 6 (aC hM it (ap F)) (nL w a b Z y D z E oL C A r d B nf x q g l m n p f s t u v F R I O M W J Y U S K G it A.Dd 4 lows)
   (fun X H=>∃(j k i:Array (Option Lc))(c:Mem),X=.ok .next/\H=([(Z.P,aD y j),(Z.Q,aD z k),(Z.L,aD oL i)]++cT (wd w a b) A r d B nf x f q g l m n p s t u v)++c):=by
 apply cW b 7964931529902592;intro V N T B0 Y0 h st
 apply vi b 21;intro o;apply Fq w a b A r g it;k_all;intro e tp o N1 T1 st
 apply b4 b [1,2,3,12,13,14,15,16,17,18,7,8,9,10];apply h;intro o τ;refine jJ D E C lows ⟨?_, ?_⟩;apply rfl;apply rfl;k_mem
section
variable(z:Z.Ok)(A:SrtA)(r:E4->Nat)(M:∀i j,r i=r j->i=j)(e:Lc)(q nf:Int)(E:E4->Int)(D f H p G m:ab)(I:E4->List E4)(d:E4->LV)(s:cA r I d)(e0 e1 e2 u:Nat)(g l oL:Obj)(J:dS g)(K:dS l)(hL:dS oL)(n k:Nat)(x:E4)(B:yI k=Ld x)(aw c:List E4)
include z A r M e q nf E D f H p G m I d s e0 e1 e2 u g l oL J K hL n k x B aw c
theorem zR(h:wF I n x [] aw=Ld (Lh,c))(W:aw.Nodup)(hm:(aw.map fun y=>[r y]).contains [r x]=Li)(F St It S Nd it:Nat)(nv:Lc)(Jf:ab)(sl sP sQ sL:Array (Option Lc))(es ei:Nat)(Jn:ab)(R:OI)(lows:Mem)(O:ci (wd w a b) R (aw.map fun y=>[r y])) :
  ak w a b (ap F::Z.envs) 6 (aC hM it (ap F)) (nL w a b Z g sP l sQ oL sL A r e q nf E D f H p G m d e0 e1 e2 u F St It S Nd nv Jf sl es ei Jn R it A.Dd k lows)
   (zP Z.P g Z.Q l Z.L oL w a b A r e q nf E d D f H p G m e0 e1 e2 u):=by
 apply cW b 7964931529902592;intro V N T B0 Y0 U st
 apply bA b 0x2c082180060c0204081;intro o;apply zN w a b A r f it k x B;k_all;intro t N1 T1 st
 apply aE b 0x12224078e1a3058a12203860a101820200982;intro o;apply iE w a b S R (@NK E4 LN (fun y=>[r y]) aw) [(r x)] t O hm;k_all;intro N2 T2 st
 apply sJ b 0;intro o;apply Fs w a b Z z A r M e q nf E D f H p G m I d s e0 e1 e2 u g l oL J K hL n x aw c h W F St It S Nd t (ae (o 0)) sl sP sQ sL es ei Jn R lows O;k_all;intro C vs v ec Y sQ' X i N3 T3 hq Y0 st
 apply b4 b [0,1,2,3,4,5,6,7,8,9,10,11,12,13,14];apply U;intro o τ;refine oy C vs v ec Y sQ' X i ⟨?_, ?_,hq⟩;apply rfl;apply rfl;k_mem
theorem tD(h:wF I n x [] aw=Ld (Li,c))(hsn:aw.Nodup)(hm:(aw.map fun y=>[r y]).contains [r x]=Li)(F St It P Nd it:Nat)(nv:Lc)(Jf:ab)(X U W S:Array (Option Lc))(R Q:Nat)(O:ab)(v:OI)(lows:Mem)(C:ci (wd w a b) v (aw.map fun y=>[r y]))(i:Lm->Mem->Prop)(IH:∀(nv:Lc)(Jf:ab)(X U W S:Array (Option Lc))(R Q:Nat)(O:ab)(v:OI)(lows:Mem)(C:ci (wd w a b) v (c.map fun y=>[r y])),ak w a b (ap F::Z.envs) 6 (aC hM it (ap F)) (nL w a b Z g U l W oL S A r e q nf E D f H p G m d e0 e1 e2 u F St It P Nd nv Jf X R Q O v it A.Dd (k + 1) lows) i) :
  ak w a b (ap F::Z.envs) 6 (aC hM it (ap F)) (nL w a b Z g U l W oL S A r e q nf E D f H p G m d e0 e1 e2 u F St It P Nd nv Jf X R Q O v it A.Dd k lows) i:=by
 apply cW b 7964931529902592;intro V N T B0 Y0 fin st
 apply bA b 0x2c082180060c0204081;intro o;apply zN w a b A r f it k x B;k_all;intro t N1 T1 st
 apply aE b 0x12224078e1a3058a12203860a101820200982;intro o;apply iE w a b P v (@NK E4 LN (fun y=>[r y]) aw) [(r x)] t C hm;k_all;intro N2 T2 st
 apply j0 b;intro o;apply zO w a b Z z A r M e q nf E D f H p G m I d s e0 e1 e2 u g l oL J K hL n x aw c h hsn F St It P Nd t (ae (o 0)) X U W S R Q O v lows C;k_mem;intro V V N3 T3 h0;refine ni (fun nv1 Jf' sl' sP' sQ' sL' es' ei' Jn' Y L h0=>?_) h0;apply jt h0;intro hq;refine ⟨_,_,.refl _,fun Y0=>?_⟩;apply dC b 3;intro st
 apply lB b [0,1,2,3,4,5,6,7,8,9,10,11,12,13,14,15,16,17,18,19];apply fin;intro o;apply IH nv1 Jf' sl' sP' sQ' sL' es' ei' Jn' Y L hq;k_mem
end
theorem tE(A:SrtA)(r:E4->Nat)(d:Lc)(U nf:Int)(Q:E4->Int)(I p D E G H:ab)(e:E4->LV)(L M O P:Nat)(R S oL:Obj)(k:Nat)(x:E4)(z:yI k=Ld x)(aw:List E4)(hm:(aw.map fun y=>[r y]).contains [r x]=Lh)(F K C s J it:Nat)(B:Lc)(q:ab)(n l m j:Array (Option Lc))(i h:Nat)(g:ab)(f:OI)(lows:Mem)(v:ci (wd w a b) f (aw.map fun y=>[r y]))(c:Lm->Mem->Prop)(IH:∀(B:Lc)(q:ab)(n l m j:Array (Option Lc))(i h:Nat)(g:ab)(lows:Mem),ak w a b (ap F::Z.envs) 6 (aC hM it (ap F)) (nL w a b Z R l S m oL j A r d U nf Q I p D E G H e L M O P F K C s J B q n i h g f it A.Dd (k + 1) lows) c) :
  ak w a b (ap F::Z.envs) 6 (aC hM it (ap F)) (nL w a b Z R l S m oL j A r d U nf Q I p D E G H e L M O P F K C s J B q n i h g f it A.Dd k lows) c:=by
 apply cW b 7964931529902592;intro V N T W Y0 u st
 apply bA b 0x2c082180060c0204081;intro o;apply zN w a b A r p it k x z;k_all;intro t X T1 st
 apply aE b 3;intro o;apply pt w a b s f (@NK E4 LN (fun y=>[r y]) aw) [(r x)] t v hm;k_all;intro Y T2 st
 apply lB b [0,1,2,3,4,5,6,7,8,9,10,11,12,13,14,15,16,17,18,19];apply u;intro o;apply IH (sv [(r x)] t) (ae (o 0)) n l m j i h g lows;k_mem
end
abbrev rq(d i n ep:Nat):Obj:=az "dict_valueiterator" [.ref d,.int i 0,.int n 0,.int ep 0]
abbrev tF (x0 x1 x2 x3 x4 x5 x6 x7 x8):=go (.ret (.ref x0)) [rq x1 x2 4 4,bO (wd x3 x4 x5) (kY x6 x7) x8 4]
section
variable(w:Lj)(a b:Bool)(A:SrtA)(r:E4->Nat)(c:ab)(it:Nat)
include w a b A r c it
theorem Ft :
  CT w a b 1 (b9 "dict_valueiterator.__next__" [.ref it]) [(it,rq A.Dd 0 4 4),(cH A.Dd w a b A r c)] (tF A.i0 A.Dd 1 w a b A r c):=by
 apply fE b 0x408102040820404080;intro V N T V e f d st
 apply fT b [0,1];apply d;intro o τ;refine ⟨?_, ?_, ?_⟩;apply rfl;apply rfl;apply rfl;rfl;k_mem
theorem Fu :
  CT w a b 1 (b9 "dict_valueiterator.__next__" [.ref it]) [(it,rq A.Dd 1 4 4),(cH A.Dd w a b A r c)] (tF A.i1 A.Dd 2 w a b A r c):=by
 apply fE b 0x408102040820404080;intro V N T V e f d st
 apply fT b [0,1];apply d;intro o τ;refine ⟨?_, ?_, ?_⟩;apply rfl;apply rfl;apply rfl;rfl;k_mem
theorem Fv :
  CT w a b 1 (b9 "dict_valueiterator.__next__" [.ref it]) [(it,rq A.Dd 2 4 4),(cH A.Dd w a b A r c)] (tF A.i2 A.Dd 3 w a b A r c):=by
 apply fE b 0x408102040820404080;intro V N T V e f d st
 apply fT b [0,1];apply d;intro o τ;refine ⟨?_, ?_, ?_⟩;apply rfl;apply rfl;apply rfl;rfl;k_mem
theorem Fw :
  CT w a b 1 (b9 "dict_valueiterator.__next__" [.ref it]) [(it,rq A.Dd 3 4 4),(cH A.Dd w a b A r c)] (tF A.i3 A.Dd 4 w a b A r c):=by
 apply fE b 0x408102040820404080;intro V N T V e f d st
 apply fT b [0,1];apply d;intro o τ;refine ⟨?_, ?_, ?_⟩;apply rfl;apply rfl;apply rfl;rfl;k_mem
theorem Fy :
  CT w a b 1 (b9 "dict_valueiterator.__next__" [.ref it]) [(it,rq A.Dd 4 4 4),(cH A.Dd w a b A r c)] (fun h os d=>∃(e i:Nat)(o:Obj),h=.error (.ref e)/\os=[o,bO (wd w a b) (kY A r) c 4]/\d=[(e,dZ i)]):=by
 apply fE b 567382900752512;intro V N T V j k f st
 refine yo (is:=[0,1,3]) f (fun o=>(gB (N + 1) N (o 0) ⟨rfl,rfl,rfl⟩)) rfl (by generalize b=g;revert g;refine cV ?_;kernel_rfl)
theorem vA(k:Nat)(x:E4)(h:yI k=Ld x) :
  CT w a b 1 (b9 "dict_valueiterator.__next__" [.ref it]) [(it,rq A.Dd k 4 4),(cH A.Dd w a b A r c)] (tF (A.I x) A.Dd (k + 1) w a b A r c):=by
 match k,h with
 | 0,h=>cases h;exact Ft w a b A r c it
 | 1,h=>cases h;exact Fu w a b A r c it
 | 2,h=>cases h;exact Fv w a b A r c it
 | 3,h=>cases h;exact Fw w a b A r c it
end
def II:L4:=ax (ai (ax bd 7)) 3
def nM:Lg:=ed (ax (ai II) 1)
noncomputable def ki(e:Lg):Scope:=(ym e).c
noncomputable def Kc:Str:=⟨#[84,111,112,111,108,111,103,105,99,97,108,83,111,114,116,101,114,46,112,114,101,112,97,114,101,46,60,108,111,99,97,108,115,62,46]⟩
def dL(F:Nat):Env:=⟨bY II,F,3,[],Kc,Ld 109,.ref 108,Ld F,0⟩
def gJ(CL F:Nat):Env:=⟨ki nM,CL,3,[],Kc,Lk,.ref 108,Ld F,0⟩
abbrev jv (x0 x1 x2 x3 x4 x5 x6 x7 x8 x9 x10 x11 x12 x13 x14 x15 x16):=([(x0,av x1 x2),(x3,rq x4 x5 4 4),(x6,aa x7 x8),(cH x4 x9 x10 x11 x12 x13 x14),x15]++x16:Mem)
section
variable(w:Lj)(a b:Bool)(fr:List Env)(A:SrtA)(r:E4->Nat)(c d:ab)(CL F it ac k:Nat)(x:E4)(f:yI k=Ld x)
include w a b fr A r c d CL F it ac k x f
section
variable(m:Nat)(vs:LV)(h:Nat)(J:ab)(lows:Mem)(g:Lm->Mem->Prop)(hz:vs.length < 1000)
include m vs h J lows g hz
theorem zS(IH:∀(v:Lc)(J:ab)(h:Nat),ak w a b fr 6 (.compLoop nM 0 (.ref it) (.ref ac) (gJ CL F)) (jv CL [([105],v)] J it A.Dd (k + 1) ac (vs++[sv [r x] (d.t 0)]) h w a b A r c (A.I x,ao (A.Dn x) [r x] 0 (A.U x) d) lows) g) :
  ak w a b fr 6 (.compLoop nM 0 (.ref it) (.ref ac) (gJ CL F)) (jv CL [] J it A.Dd k ac vs h w a b A r c (A.I x,ao (A.Dn x) [r x] 0 (A.U x) d) lows) g:=by
 apply cW b 0x6041020400100;intro V N T l s i st
 apply aE b 0x202081800a002800000000001400000000000000000000000500000000a040000a002800000000001400000000000000000000000500000000a04081;intro o;apply vA w a b A r c it k x f;k_all;intro m p st
 apply bA b 3;intro o;apply aB w a b ac vs (sv [(r x)] (d.t 0)) h (by kd_p);k_all;intro j n q st
 apply lB b [0,1,2,3,4];apply i;intro o;apply IH (.ref (A.I x)) (ae (o 0)) j.e;k_mem
theorem zT(IH:∀(v:Lc)(J:ab)(h:Nat),ak w a b fr 6 (.compLoop nM 0 (.ref it) (.ref ac) (gJ CL F)) (jv CL [([105],v)] J it A.Dd (k + 1) ac (vs) h w a b A r c (A.I x,ao (A.Dn x) [r x] (Ll (m + 1)) (A.U x) d) lows) g) :
  ak w a b fr 6 (.compLoop nM 0 (.ref it) (.ref ac) (gJ CL F)) (jv CL [] J it A.Dd k ac vs h w a b A r c (A.I x,ao (A.Dn x) [r x] (Ll (m + 1)) (A.U x) d) lows) g:=by
 apply cW b 0x6041020400100;intro V N T i n e st
 apply aE b 0xc0000a002800000000001400000000000000000000000500000000a04081;intro o;apply vA w a b A r c it k x f;k_all;intro j l st
 apply lB b [0,1,2,3,4];apply e;intro o;apply IH (.ref (A.I x)) (ae (o 0)) h;k_mem
end
section
variable(v:Lc)(m:Nat)(vs:LV)(h:Nat)(J:ab)(lows:Mem)(g:Lm->Mem->Prop)(hz:vs.length < 1000)
include v m vs h J lows g hz
theorem zU(IH:∀(v:Lc)(J:ab)(h:Nat),ak w a b fr 6 (.compLoop nM 0 (.ref it) (.ref ac) (gJ CL F)) (jv CL [([105],v)] J it A.Dd (k + 1) ac (vs++[sv [r x] (d.t 0)]) h w a b A r c (A.I x,ao (A.Dn x) [r x] 0 (A.U x) d) lows) g) :
  ak w a b fr 6 (.compLoop nM 0 (.ref it) (.ref ac) (gJ CL F)) (jv CL [([105],v)] J it A.Dd k ac vs h w a b A r c (A.I x,ao (A.Dn x) [r x] 0 (A.U x) d) lows) g:=by
 apply cW b 0x6041020400100;intro V N T l s i st
 apply aE b 0x202081800a002800000000001400000000000000000000000500000000a040000a002800000000001400000000000000000000000500000000a04081;intro o;apply vA w a b A r c it k x f;k_all;intro m p st
 apply bA b 3;intro o;apply aB w a b ac vs (sv [(r x)] (d.t 0)) h (by kd_p);k_all;intro j n q st
 apply lB b [0,1,2,3,4];apply i;intro o;apply IH (.ref (A.I x)) (ae (o 0)) j.e;k_mem
theorem zV(IH:∀(v:Lc)(J:ab)(h:Nat),ak w a b fr 6 (.compLoop nM 0 (.ref it) (.ref ac) (gJ CL F)) (jv CL [([105],v)] J it A.Dd (k + 1) ac (vs) h w a b A r c (A.I x,ao (A.Dn x) [r x] (Ll (m + 1)) (A.U x) d) lows) g) :
  ak w a b fr 6 (.compLoop nM 0 (.ref it) (.ref ac) (gJ CL F)) (jv CL [([105],v)] J it A.Dd k ac vs h w a b A r c (A.I x,ao (A.Dn x) [r x] (Ll (m + 1)) (A.U x) d) lows) g:=by
 apply cW b 0x6041020400100;intro V N T i n e st
 apply aE b 0xc0000a002800000000001400000000000000000000000500000000a04081;intro o;apply vA w a b A r c it k x f;k_all;intro j l st
 apply lB b [0,1,2,3,4];apply e;intro o;apply IH (.ref (A.I x)) (ae (o 0)) h;k_mem
end
end
theorem Fz(w:Lj)(a b:Bool)(fr:List Env)(A:SrtA)(r:E4->Nat)(d:ab)(CL F it ac:Nat)(v:Lc)(vs:LV)(c:Nat)(J:ab)(lows:Mem) :
  ak w a b fr 6 (.compLoop nM 0 (.ref it) (.ref ac) (gJ CL F)) ([(CL,av [([105],v)] J),(it,rq A.Dd 4 4 4),(ac,aa vs c),(cH A.Dd w a b A r d)]++lows)
   (fun h g=>∃(v:Lc)(J:ab)(c:Nat),h=.ok .next/\g=[(CL,av [([105],v)] J),(ac,aa vs c),(cH A.Dd w a b A r d)]++lows):=by
 apply cW b 0x6041020400100;intro V N T i l f st
 apply vi b 5;intro o;apply Fy w a b A r d it;k_all;intro e m o j k st
 apply b4 b [0,2,3];apply f;intro o τ;refine gB v J c ⟨?_, ?_⟩;apply rfl;apply rfl;k_mem
noncomputable abbrev bx(vs:LV)(e:Nat):Obj:={ cls:=.type "tuple",data:=.seq ⟨vs⟩ e }
theorem Rep.ext{g h a:ME}{N:Nat}{M:Mem}(R:Rep g h N M)(e:∀b o,h.get? b=Ld o->a.get? b=Ld o):Rep g a a.objs.size M:=
 ⟨rfl,fun p hp=>⟨e _ _ (R.own p hp).1,(R.own p hp).2⟩,R.nd,fun b o q=>e _ _ (R.keep b o q)⟩
section
variable(w:Lj)(a b:Bool)(l:Nat)(vs:LV)(e:Nat)(hz:vs.length < 60000)
include w a b l vs e hz
theorem zW :
  CT w a b 1 (b9 "tuple.__new__" [.type "tuple",.ref l]) [(l,aa vs e)] (fun k os c=>∃(t:Nat)(J:ab),k=.ok (.ret (.ref t))/\os=[aa vs e]/\c=[(t,bx vs J.e)]):=
 bg (by decide +kernel) F.entry_tuple_new (meets_tuple_new_list l (aa vs e) ⟨vs⟩ e rfl rfl (by have:=aX;show vs.length<=_;kd_p)) fun A g h G D O N T R n f d=>by
  refine ⟨f.get (i:=0) rfl,fun m j=>?_⟩
  have z:=(f.ext j).alloc (o:={ cls:=.type "tuple",data:=.seq ⟨vs⟩ }) rfl
  exact d _ [_] [_] _ T _ (jm _ ⟨fun V=>0,fun V=>0,fun V=>0,0⟩ ⟨rfl,rfl,rfl⟩) rfl z
theorem px :
  CT w a b 0 (.builtin "len" ⟨[.ref l],[]⟩) [(l,bx vs e)] (fun j os c=>∃t:Nat,j=.ok (.ret (.int vs.length t))/\os=[bx vs e]/\c=[]):=
 oY S1 S2 fun A g h G D O N T R k f d=>
  len_body_tuple (items:=⟨vs⟩) ⟨_,f.get (i:=0) rfl,rfl,_,rfl⟩ (by show (vs.length:Int) < _;kd_p)
   (d _ [_] [] N _ _ ⟨_,rfl,rfl,rfl⟩ rfl (da f))
theorem tG :
  CT w a b 0 (b9 "list.clear" [.ref l]) [(l,aa vs e)] (zy .none []):=
 bg (by decide +kernel) F.entry_list_clear (SP l ⟨vs⟩ e (by have:=aX;show vs.length<=_;kd_p)) fun A g h G D O N T R k d c=>by
  refine ⟨d.get (i:=0) rfl, ?_⟩
  obtain ⟨J,j⟩:=dY (fun V=>(#[] : Array Lc)) (xs:=vs) (ys:=[]) e rfl
  have z:=d.update (i:=0) (f:=Nb fun V=>#[]) rfl rfl
  rw [j] at z
  exact c _ [_] [] N T _ ⟨J,rfl,rfl,rfl⟩ rfl z
end
theorem eM:Pn "tuple_iterator.__next__" = Lh:=by decide +kernel
abbrev cI(l:Nat)(i:Nat):Obj:=az "tuple_iterator" [.ref l,.int i 0]
abbrev FB(i:Nat):Obj:=az "tuple_iterator" [.none,.int i 0]
theorem mF(w:Lj)(a b:Bool)(it l i:Nat)(vs:LV)(e:Nat)(v:Lc)(k:vs[i]? = Ld v) :
  CT w a b 0 (b9 "tuple_iterator.__next__" [.ref it]) [(it,cI l i),(l,bx vs e)] (go (.ret v) [cI l (i + 1),bx vs e]):=
 bH eM Qx fun A g h G D O N T R n o p d c=>by
  have j:=d.get (i:=0) rfl
  have hL:=d.get (i:=1) rfl
  show L7 _ _ (PQ (.ref it) 0 >>= _) _ _ _
  refine Le (L8 j rfl (x:=.ref l) rfl ?_)
  show L7 _ _ (if (Lv l == L3)=Lh then _ else _) _ _ _
  rw [if_neg (show ¬ ((Lv l == L3)=Lh) from Oe)]
  show L7 _ _ (PQ (.ref it) 1 >>= _) _ _ _
  refine Le (L8 j rfl (x:=.int i 0) rfl ?_)
  show L7 _ _ (SY (.ref l) >>= _) _ _ _
  refine Le (N0 hL rfl ?_)
  have m:(⟨vs⟩ : Array Lc)[(i:Int).toNat]? = Ld v:=by simpa using k
  simp only [m]
  refine Le (MS j rfl (by show 1 < 2;decide) (Lx ?_))
  have z:=d.update (i:=0) (f:=LM (·.setIfInBounds 1 (MQ (i + 1)))) rfl rfl
  exact c _ [_,_] [] N T _ ⟨rfl,rfl,rfl⟩ rfl z
theorem i6(w:Lj)(a b:Bool)(it l i:Nat)(vs:LV)(e:Nat)(t:vs.length<=i) :
  CT w a b 1 (b9 "tuple_iterator.__next__" [.ref it]) [(it,cI l i),(l,bx vs e)] (fun v os c=>∃(x y:Nat),v=.error (.ref x)/\os=[FB i,bx vs e]/\c=[(x,dZ y)]):=
 bH eM Qx fun A g h G D O N T R s z B k j=>by
  have n:=k.get (i:=0) rfl
  have hL:=k.get (i:=1) rfl
  show L7 _ _ (PQ (.ref it) 0 >>= _) _ _ _
  refine Le (L8 n rfl (x:=.ref l) rfl ?_)
  refine Le (L8 n rfl (x:=.int i 0) rfl ?_)
  refine Le (N0 hL rfl ?_)
  have u:(⟨vs⟩ : Array Lc)[(i:Int).toNat]? = Lk:=by simpa using t
  simp only [u]
  refine Le (Oa (Le (MS n rfl (by show 0 < 2;decide) ?_)))
  have d:=k.update (i:=0) (f:=LM (·.setIfInBounds 0 .none)) rfl rfl
  generalize h.update it (LM (·.setIfInBounds 0 .none))=H at d ⊢
  show L7 _ _ (Qk (.type "StopIteration") [] >>= _) _ _ _
  refine Le ?_
  simp only [Qk,RO]
  refine Le (Mg ?_ (by size_fits))
  refine Le (m:=PA _ _) (OG (a:=L3) (by rfl) ?_)
  refine Mg ?_ (by size_fits)
  simp only [RM]
  refine Le (PP ?_)
  rw [show A.in1.handled=Lk from s.1 (by decide)]
  refine Le (Lx (Qu ?_))
  have r:=d.size
  subst r
  have p:=d.alloc (o:={ cls:=.type "tuple",data:=.seq #[] }) rfl
  have q:=p.alloc (o:=dZ H.objs.size) rfl
  rw [p.size]
  refine j _ [_,_] [(H.objs.size + 1,dZ H.objs.size)] (H.objs.size + 1 + 1) _ _ (jm _ _ ⟨rfl,rfl,rfl⟩) rfl (q.pick (is:=[0,1,3]) (by decide) ?_)
  kernel_rfl
section
open PySem PySem.W PyProof.Rows PySem.Spec
theorem Rep.grow{g h c:ME}{N:Nat}{M:Mem}(R:Rep g h N M)(e:∀b o,h.get? b=Ld o->c.get? b=Ld o){a:Nat}{o:Obj}(f:h.get? a=Lk)(i:c.get? a=Ld o):Rep g c c.objs.size (M++[(a,o)]):=by
 refine ⟨rfl,fun p hp=>?_, ?_,fun b o q=>e _ _ (R.keep b o q)⟩
 .rcases MA.mp hp with hp|hp
  .exact ⟨e _ _ (R.own p hp).1,(R.own p hp).2⟩
  .rw [ND.mp hp]
   refine ⟨i, ?_⟩
   cases q:g.get? a with
   | none=>rfl
   | some m=>have:=R.keep _ _ q;rw [f] at this;cases this
 .rw [LC]
  refine LK.mpr ⟨R.nd,by simp,fun x k y l q=>?_⟩
  have d:y=a:=by simpa using l
  subst d;subst q
  obtain ⟨p,hp,j⟩:=LE.mp k
  have:=(R.own p hp).1
  rw [j,f] at this;cases this
def cS(ss c:LLN):Prop:=c.Perm ss/\c.Pairwise (fun a b=>decide (b < a)=Li)
theorem ln(a b:LN)(c:decide (b < a)=Li)(d:decide (a < b)=Li):a=b:=by
 have c:=of_decide_eq_false c
 have d:=of_decide_eq_false d
 exact List.le_antisymm (show a<=b from c) (show b<=a from d)
theorem cS.unique{ss a b:LLN}(x:cS ss a)(y:cS ss b):a=b:=
 P0 (fun u v V V c d=>ln u v c d) x.2 y.2 (x.1.trans y.1.symm)
open Classical in
noncomputable def cX(ss:LLN):LLN:=if h:∃a,cS ss a then h.choose else []
theorem cS.is{ss a:LLN}(h:cS ss a):a=cX ss:=by
 have b:∃a,cS ss a:=⟨a,h⟩
 unfold cX
 rw [dif_pos b]
 exact h.unique b.choose_spec
theorem cS.perm{ss b a:LLN}(p:ss.Perm b):cS ss a↔cS b a:=
 ⟨fun h=>⟨h.1.trans p,h.2⟩,fun h=>⟨h.1.trans p.symm,h.2⟩⟩
open Classical in
theorem py{ss b:LLN}(p:ss.Perm b):cX ss=cX b:=by
 have e:(fun a=>cS ss a)=(fun a=>cS b a):=funext fun V=>propext (cS.perm p)
 unfold cX
 have : ∀(P Q:LLN->Prop),P=Q->(if h:∃s,P s then h.choose else [])=(if h:∃s,Q s then h.choose else []):=by
  intro P Q h;subst h;rfl
 exact this _ _ e
theorem af.are{ss:LLN}{vs:LV}(h:af ss vs):StrsAre vs (ss.map fun x=>(⟨⟨x⟩⟩ : Str)):=by
 induction h with
 | nil=>exact .nil
 | cons s t _ a=>exact .cons _ t a
theorem af.of_are{vs:LV} : ∀{ss:List Str},StrsAre vs ss->af (ss.map fun x=>x.cps.toList) vs:=by
 induction vs with
 | nil=>intro ss h;cases h;exact .nil
 | cons v vs a=>intro ss h;cases h with
  | cons y t h=>exact .cons _ t (a h)
theorem lM:∀(p:Str)(l:List Str),risingS p l=Lh->(∀x∈l,decide (x.cps.toList < p.cps.toList)=Li)/\l.Pairwise (fun a b=>decide (b.cps.toList < a.cps.toList)=Li)
 | p,[],_=>⟨(fun V h=>nomatch h),S8⟩
 | p,x::r,h=>by
  have c:(!ltCps x.cps.toList p.cps.toList && risingS x r)=Lh:=h
  rw [Nx,Bool.not_eq_true',ltCps_eq] at c
  obtain ⟨d,g⟩:=lM x r c.2
  refine ⟨fun y hy=>?_,NC.mpr ⟨d,g⟩⟩
  rcases LD.mp hy with rfl|hy
  .exact c.1
  .have e:=of_decide_eq_false c.1
   have f:=of_decide_eq_false (d y hy)
   exact decide_eq_false (fun q=>Q6.mpr (List.le_trans (Q6.mp e) (Q6.mp f)) q)
theorem rs:∀(l:List Str),sortedS l=Lh->l.Pairwise (fun a b=>decide (b.cps.toList < a.cps.toList)=Li)
 | [],_=>.nil
 | x::r,h=>by
  obtain ⟨c,d⟩:=lM x r h
  exact NC.mpr ⟨c,d⟩
theorem nN(w:Lj)(a b:Bool)(t:Nat)(T:String)(W:T = "list" ∨ T = "tuple")(vs:LV)(e:Nat){ss:LLN}(hs:af ss vs)(hz:vs.length < 64) :
  CT w a b 1 (b9 "sorted" [.ref t]) [(t,{ cls:=.type T,data:=.seq ⟨vs⟩ e })] (fun Z os l=>∃(R:Nat)(n:LV)(J:ab),Z=.ok (.ret (.ref R))/\os=[{ cls:=.type T,data:=.seq ⟨vs⟩ e }]/\l=[(R,aa n J.e)]/\af (cX ss) n):=
 bH plain_sorted entry_sorted fun A g h G D O N L R hA hk hl B p=>by
  have Y:=B.get (i:=0) rfl
  have hsz:(⟨vs⟩ : Array Lc).size<=M9:=by
   have Q:=aX
   have S:vs.length<=60000:=Mh (MC hz (by decide))
   exact LL S Q
  unfold Qo
  refine Le (m:=checkCount "sorted" 1 1 _) (Lx ?_)
  refine Le (SA (hsz:=hsz) (items:=⟨vs⟩) t W Y rfl rfl fun c C=>?_)
  refine Le (Q8 ?_)
  have j:(c.push (Nq "list" vs.toArray 0)).get? c.objs.size=Ld (Nq "list" vs.toArray 0):=OB _ rfl
  refine Le (Nh (wpAny_call_entry TM ⟨_,j,rfl⟩ Tt (list_sort_treeK strKind_oneLt (vs:=vs) j hs.are.keysOf (fun H I F e=>keyKind_strs (by rw [<- e];exact hs.are)) hz fun d hp v=>⟨_,rfl, ?_⟩) (args_list_sort _)))
  refine bj (fun y P=>?_) (sorted_out_str hs.are hp v);refine qd (fun r s u=>?_) P
  obtain ⟨e',he⟩:=sortedHeap_at (vs:=vs) (out:=(M8 d).map (·.2)) j
  have f:∀b o,h.get? b=Ld o->(sortedHeap (c.push (Nq "list" vs.toArray 0)) c.objs.size vs ((M8 d).map (·.2))).get? b=Ld o:=fun b o q=>by
   have E:=C _ _ q
   have k:=Ol E
   rw [sortedHeap_old (PK k) (by rw [size_push'];exact PM k)]
   exact ML _ E
  refine Lx ?_
  generalize sortedHeap (c.push (Nq "list" vs.toArray 0)) c.objs.size vs ((M8 d).map (·.2))=z at he f ⊢
  have U:cS ss (y.map fun x=>x.cps.toList):=by
   refine ⟨?_,MM.mpr (rs _ u)⟩
   have:=s.map (fun x:Str=>x.cps.toList)
   rw [Mu] at this
   have M:ss.map ((fun x:Str=>x.cps.toList) ∘ fun x=>(⟨⟨x⟩⟩ : Str))=ss:=by
    have : ((fun x:Str=>x.cps.toList) ∘ fun x:LN=>(⟨⟨x⟩⟩ : Str))=id:=rfl
    rw [this,List.map_id]
   rwa [M] at this
  have hout:=af.of_are r
  rw [U.is] at hout
  generalize (M8 d).map (·.2)=out at he hout
  obtain ⟨out⟩:=out
  have X:h.get? c.objs.size=Lk:=by
   cases q:h.get? c.objs.size with
   | none=>rfl
   | some o=>exact absurd (Ol (C _ _ q)) (NN _)
  have K:=B.grow f X he
  exact p _ [_] [(c.objs.size,aa out e')] z.objs.size L z (gB _ out ⟨fun V=>0,fun V=>0,fun V=>0,e'⟩ ⟨rfl,rfl,rfl,hout⟩) rfl K
theorem vB(w:Lj)(a b:Bool)(l it:Nat)(vs:LV)(e d:Nat)(hz:vs.length < 60000) :
  CT w a b 0 (b9 "list.__iadd__" [.ref l,.ref it]) [(l,aa [] d),(it,bx vs e)] (fun n os c=>∃J:ab,n=.ok (.ret (.ref l))/\os=[aa vs J.e,bx vs e]/\c=[]):=
 bH F.plain_list_iadd F.entry_list_iadd fun A g h G D O N T R o p q k j=>by
  have hsz:(⟨vs⟩ : Array Lc).size<=M9:=LL (Mh hz) aX
  refine wpAny_extend_seq (hsz:=hsz) l it (.ref l) d (.inr rfl) (k.get (i:=0) rfl) (k.get (i:=1) rfl) rfl rfl ?_
  obtain ⟨J,m⟩:=dY (fun x=>x++(⟨vs⟩ : Array Lc)) (xs:=[]) (ys:=vs) d (by simp)
  have z:=k.update (i:=0) (f:=Nb fun x=>x++(⟨vs⟩ : Array Lc)) rfl rfl
  rw [m] at z
  exact j _ [_,_] [] N T _ ⟨J,rfl,rfl,rfl⟩ rfl z
end
abbrev bR(c:Bool)(a:LN)(v:Lc)(J:ab):Obj:=av (match c with|true=>[(a,v)]|false=>[]) J
inductive gK(Out:Lc->LV->Prop):LV->LV->Prop
 | nil:gK Out [] []
 | cons {x:Lc} {o xs acc:LV} (h:Out x o) (hs:gK Out xs acc):gK Out (x::xs) (o++acc)
theorem nO{prog:LU}{w:Lj}{kt:KT}{fr:List Env}{L:Nat}{e:Lg}{d it ac CL:Nat}{env:Env}(l:Nat)(p:LN)(f lows:Mem)(vs:LV)(j:Lc->LV->Prop)(G:∀x o,j x o->o.length<=1)(hz:vs.length < 900)(T:∀(i:Nat)(x:Lc)(C:vs[i]? = Ld x)(c:Bool)(v:Lc)(J:ab)(a:LV)(g:Nat)(hz:a.length < 1000)(r:Lm->Mem->Prop)
   (IH:∀(v:Lc)(J:ab)(o:LV)(A:j x o)(g:Nat),aO prog w kt fr L (.compLoop e d (.ref it) (.ref ac) env) (([(CL,bR Lh p v J),(it,al l (i + 1)),(ac,aa (a++o) g)]++f)++lows) r),
   aO prog w kt fr L (.compLoop e d (.ref it) (.ref ac) env) (([(CL,bR c p v J),(it,al l i),(ac,aa a g)]++f)++lows) r)(E:∀(i:Nat)(M:vs.length<=i)(c:Bool)(v:Lc)(J:ab)(a:LV)(g:Nat),aO prog w kt fr L (.compLoop e d (.ref it) (.ref ac) env) (([(CL,bR c p v J),(it,al l i),(ac,aa a g)]++f)++lows)
   (fun t s=>t=.ok .next/\s=([(CL,bR c p v J),(ac,aa a g)]++f)++lows))(D:Lc)(B:ab)(u:Nat) :
  aO prog w kt fr L (.compLoop e d (.ref it) (.ref ac) env) (([(CL,bR Li p D B),(it,al l 0),(ac,aa [] u)]++f)++lows)
   (fun t s=>∃(v:Lc)(J:ab)(b:LV)(k:Nat),t=.ok .next/\s=([(CL,bR (!vs.isEmpty) p v J),(ac,aa b k)]++f)++lows/\gK j vs b):=by
 suffices H:∀(xs:LV)(i:Nat)(m:vs.drop i=xs)(c:Bool)(v:Lc)(J:ab)(a:LV)(g:Nat)(hz:a.length + xs.length < 1000)(c':Bool)(n:c'=(c || !xs.isEmpty))(P:LV->Prop)(z:∀b,gK j xs b->P (a++b)),
   aO prog w kt fr L (.compLoop e d (.ref it) (.ref ac) env) (([(CL,bR c p v J),(it,al l i),(ac,aa a g)]++f)++lows)
    (fun t s=>∃(v:Lc)(J:ab)(b:LV)(k:Nat),t=.ok .next/\s=([(CL,bR c' p v J),(ac,aa b k)]++f)++lows/\P b) from
  H vs 0 rfl Li D B [] u (by simp only [LQ];kd_p) (!vs.isEmpty) (by simp) (gK j vs) (fun b h=>h)
 intro xs
 induction xs with
 | nil=>
  intro i m c v J a g hz c' n P z
  have n:c'=c:=by simpa using n
  subst n
  refine aO.weak (E i (by simpa using m) _ v J a g) (Lf _) fun t s q=>?_
  obtain ⟨rfl,rfl⟩:=q
  exact ⟨_,.refl _,(jJ v J a g ⟨rfl,rfl,by have:=z [] .nil;rwa [Mp] at this⟩)⟩
 | cons x xs I=>
  intro i m c v J a g hz c' n P z
  have n:c'=(Lh || !xs.isEmpty):=by simpa using n
  simp only [Ls] at hz
  have C:vs[i]? = Ld x:=by
   have:=congrArg OL m
   rw [NL] at this
   simpa using this
  have y:vs.drop (i + 1)=xs:=by
   rw [show vs.drop (i + 1)=(vs.drop i).drop 1 from by rw [OM],m];rfl
  refine T i x C c v J a g (by kd_p) _ fun K F o A k=>?_
  refine I (i + 1) y Lh K F (a++o) k (by have:=G x o A;rw [Lq];kd_p) c' n P fun b h=>?_
  rw [Lr]
  exact z _ (.cons A h)
theorem gK.strs{f:LN->LLN}{ss:LLN}{vs:LV}(h:af ss vs):∀{a:LV},gK (fun x o=>∀s t,x=sv s t->af (f s) o) vs a->af (ss.flatMap f) a:=by
 induction h with
 | nil=>intro a h;cases h;exact .nil
 | cons s t _ b=>
  intro a h
  cases h with
  | cons h hs=>exact (h s t rfl).append (b hs)
theorem IJ{is:LN}{st:Bool->Bool->an}{v:Bool->Bool->br}(h:(aK fun a=>aK fun b=>aR is (st a b))=aM fun a=>aM fun b=>(v a b,aj (st a b))):∀(a:Bool)(b:Bool),aR is (st a b)=(v a b,aj (st a b)):=fun a b=>aS (aS h a) b
theorem gK.mono{P Q:Lc->LV->Prop}(h:∀x o,P x o->Q x o){xs a:LV}(x:gK P xs a):gK Q xs a:=by
 induction x with
 | nil=>exact .nil
 | cons b _ c=>exact .cons (h _ _ b) c
def IK(e:Lg):Lg:=ex e 2
def IL(e:Lg):Lg:=ex e 1
theorem af.at{ss:LLN}{vs:LV}(h:af ss vs):∀{i:Nat}{x:Lc},vs[i]? = Ld x->∃s t,s∈ss/\x=sv s t:=by
 induction h with
 | nil=>intro i x h;simp at h
 | cons s t _ d=>
  intro i x h
  cases i with
  | zero=>simp at h;exact ⟨s,t,.head _,h.symm⟩
  | succ i=>
   simp only [Nw] at h
   refine d9 (fun e f a=>?_) (d h);obtain ⟨b,c⟩:=a
   exact ⟨e,f,.tail _ b,c⟩
noncomputable def IM:L4:=ax bd 26
def kj:Lg:=ed (ax (ai IM) 0)
def nP:Lg:=IL (IK kj)
noncomputable def Kd:Str:=⟨#[95,108,97,119,95,114,111,117,110,100,115,95,100,117,101,46,60,108,111,99,97,108,115,62,46]⟩
noncomputable def vE(s:Scope):Scope:={ s with names:=s.names.map fun p=>match p.2 with | .free=>(p.1,.cell)|k=>(p.1,k) }
def fN(e:Lg)(CL F:Nat)(a:List (Str × Nat)):Env:=⟨vE (ki e),CL,3,a,Kd,Lk,.ref 282,Ld F,0⟩
abbrev f0 (x0 x1 x2 x3 x4 x5 x6 x7 x8 x9):=([x0,(x1,al x2 x3),(x4,aa x5 x6)]++[(x2,aa x7 x8)])++x9
theorem vF(w:Lj)(a b:Bool)(fr:List Env)(F m n:Nat)(g:LV)(CL it ac i:Nat)(j:LN)(l t:Nat)(s:g[i]? = Ld (sv (j++[l]) t))(c:Bool)(v:Lc)(J:ab)(d:LV)(h:Nat)(hz:d.length < 1000)(lows:Mem)(f:Lm->Mem->Prop)(IH:∀(v:Lc)(J:ab)(u:Nat)(h:Nat),ak w a b fr 8 (.compLoop nP 0 (.ref it) (.ref ac) (fN nP CL F [])) (f0 (CL,bR Lh iu v J) it m (i + 1) ac (d++[sv [l] u]) h g n lows) f) :
  ak w a b fr 8 (.compLoop nP 0 (.ref it) (.ref ac) (fN nP CL F [])) (f0 (CL,bR c iu v J) it m i ac d h g n lows) f:=by
 apply eY b c 0x6041020400100;intro V N T x D p st
 apply bo b c 8796093038721;intro o;apply aG w a b it m i g n (sv (j++[l]) t) s;k_all;intro y r st
 apply eE b c 539001216;intro o;apply bh w a b j l t (r + 2);k_all;intro k z B st
 apply cP b c 3;intro o;apply aB w a b ac d (sv [l] k) h (by kd_p);k_all;intro q A C st
 apply gT b c [0,1,2,3];apply p;intro o;apply IH (sv (j++[l]) t) (ae (o 0)) k q.e;k_mem
noncomputable def Ke:L4:=ax bd 22
def KE:L4:=ax (ai Ke) 4
def FD(F:Nat):Env:=⟨bY Ke,F,3,[],⟨#[95,108,97,119,95,100,114,97,119,46,60,108,111,99,97,108,115,62,46]⟩,Ld 257,.ref 256,Ld F,0⟩
noncomputable def pr(a c d b:Nat):E7->LN
 | .z0=>[a,c] | .z1=>[a,d] | .z2=>[a,b] | .z3=>[c,d] | .z4=>[c,b] | .z5=>[d,b] | .z6=>[b,a]
noncomputable def vG:Int->E7
 | 0=>.z0 | 1=>.z1 | 2=>.z2 | 3=>.z3 | 4=>.z4 | 5=>.z5 | _=>.z6
theorem tH(e:E7):vG (e7 e)=e:=by cases e<;>rfl
noncomputable def d4(f:E7->LN):List Int->Int->LLN->LLN
 | [],_,a=>a
 | n::ns,k,a=>d4 f ns (k + 1) (if a.contains (f (vG ((n + 5 * k).fmod 7))) then a else a++[f (vG ((n + 5 * k).fmod 7))])
abbrev Kf(f F R g h:Nat)(j:LV)(i:Nat)(b:Int)(Sg:Nat)(r p q:Lc)(d:ab)(k l m n:Nat)(a:ab)(c:LV)(o:Nat)(x left:Int):Mem:=[
 (f,aa j i),
 (ay F [(uV,.ref f),([116,117,114,110],.int b (d.t 1)),([115,105,103,110,115],.ref Sg),(fD,.ref R),(dT,.ref g),([107],r),(iu,p),([111,116,104,101,114],q)] d),
 (R,aa [sv [k] (a.t 0),sv [l] (a.t 1),sv [m] (a.t 2),sv [n] (a.t 3)] a.e),
 (g,aa c o),
 (h,dg x left)]
noncomputable def dA:E7->E4
 | .z0=>.z0 | .z1=>.z0 | .z2=>.z0 | .z3=>.z1 | .z4=>.z1 | .z5=>.z2 | .z6=>.z3
noncomputable def dB:E7->E4
 | .z0=>.z1 | .z1=>.z2 | .z2=>.z3 | .z3=>.z2 | .z4=>.z3 | .z5=>.z3 | .z6=>.z0
noncomputable def eN:E4->Nat
 | .z0=>0 | .z1=>1 | .z2=>2 | .z3=>3
noncomputable def kN:E7->Nat
 | .z0=>0 | .z1=>1 | .z2=>2 | .z3=>3 | .z4=>4 | .z5=>5 | .z6=>6
noncomputable def hL:E7->Nat
 | .z0=>0xc08208002040400003000c003060c1020600180060c1820408102044070e0c387001c0070e1c1870e003800e1c3830e1c007001c380060018306003400d003468d
 | .z1=>0xc08208002040400003000c003060c1020600180060c1820408102044070e0e387001c0070e1c1c70e003800e1c3838e1c007001c38007001c387003400d003468d
 | .z2=>0xc08208002040400003000c003060c1020600180060c1820408102044070e10387001c0070e1c2070e003800e1c3840e1c007001c380080020408003400d003468d
 | .z3=>0xc08208002040400003000c003060c1020600180060c1820408102044070e12387001c0070e1c2470e003800e1c3848e1c007001c380090024489003400d003468d
 | .z4=>0xc08208002040400003000c003060c1020600180060c1820408102044070e14387001c0070e1c2870e003800e1c3850e1c007001c3800a002850a003400d003468d
 | .z5=>0xc08208002040400003000c003060c1020600180060c1820408102044070e16387001c0070e1c2c70e003800e1c3858e1c007001c3800b002c58b003400d003468d
 | .z6=>0xc08208002040400003000c003060c1020600180060c1820408102044070e18387001c0070e1c3070e003800e1c3860e1c007001c3800c003060c003400d003468d
theorem KG{x left:Int}{n:Nat}(a:0<=x)(h:x + left < 1000)(b:left=((n + 1:Nat):Int)):0 < left/\0<=x + 1/\x + 1 + (left - 1) < 1000/\x < 100000/\left - 1=n/\(x + 1).toNat=x.toNat + 1:=by
 subst b
 refine ⟨Int.natCast_pos.mpr (NH n),Td a (QW (Int.lt_succ x)), ?_, ?_,Ry (n:Int) 1,(Int.toNat_add a (by decide)).trans rfl⟩<;>lia
theorem vH(w:Lj)(a b:Bool)(A F R u m:Nat)(r:LV)(I:Nat)(j:Int)(Sg f g h i:Nat)(S:ab)(ns:List Int)(x left:Int)(ss:LLN)(vs:LV)(s:Nat)(P K M:Lc)(y:ab)(out:LLN)(hn:bF ns (r.drop x.toNat))(Z:0<=x)(H:x + left < 1000)(X:left=ns.length)(hs:af ss vs)(hz:ss.length + ns.length < 10000)(Y:out=d4 (pr f g h i) ns x ss) :
  CT w a b 4 (aC KE m (FD F)) (Kf A F R u m r I j Sg P K M y f g h i S vs s x left)
   (fun rr os q=>∃(Q L O:Lc)(z:ab)(t:LV)(Js:ab)(x' l':Int),rr=.ok .next/\os=(Kf A F R u m r I j Sg Q L O z f g h i S t Js.e x' l').map (·.2)/\q=[]/\af out t):=by
 induction ns generalizing x left ss vs s P K M y with
 | nil=>
  have hl0:left<=0:=QX X
  have D:out=ss:=Y
  subst D
  apply fE b 17627093140096;intro V N T V B0 Y0 c st
  apply gF b 6;intro o;apply fV w a b m x left ‹_›;k_all;intro e tp N1 p st
  apply fT b [0,1,2,3,4];apply c;intro o τ;refine oy P K M y vs (ae (o 3)) x left ⟨?_, ?_, ?_,hs⟩;apply rfl;apply rfl;apply rfl;rfl;k_mem
 | cons n ns ih=>
  refine bj (fun tn d=>?_) (hn.at_drop);obtain ⟨C,B⟩:=d
  have l:=KG Z H X
  have hl1:=l.1
  have hn2:bF ns (r.drop (x + 1).toNat):=by rw [l.2.2.2.2.2];exact B
  have hx3:=l.2.1
  have hx4:=l.2.2.1
  have hx5:=l.2.2.2.1
  have hl2:=l.2.2.2.2.1
  clear l
  apply fE b 17627093140096;intro V N T V B0 Y0 c st
  apply bA b 0x410100040810408102;intro o;apply cQ w a b m x left ‹_›;k_all;intro k N1 p st
  apply aE b 32770;intro o;apply aF w a b A r I x k (.int n tn) Z ‹_› C;k_all;intro N2 T2 st
  apply fc b 4194304;intro o;apply s8 w a b 5 x T2 k (by kd_p) (by kd_p);k_all;intro k1 N3 U st
  apply lg b;intro o;apply s9 w a b (n + (5 * x)) U (U + 1);k_mem;intro V V V N4 T4 d V;refine d9 (fun e k2 d=>?_) d;apply jr d;intro hq
  apply KA b e fun V k=>hL k
  intro st
  apply Ix b e;intro o;apply ff w a b u vs s (pr f g h i e) (T4 + 2) hs;k_mem;intro V V V N5 W d V;refine bj (fun v d=>?_) d;apply jr d;intro E
  have hd:out=d4 (pr f g h i) ns (x + 1) (if v=Lh then ss else ss++[(pr f g h i e)]):=by rw [Y,d4,hq,tH,<- E]
  cases v
  .apply na b e 0x1810410000000c003000c1830408180060018306081040810202;intro st
   apply E0 b e 3;intro o;apply dx w a b u vs (pr f g h i e) W s hs (by kd_p);k_all;intro J N6 T6 G st
   apply JP b e [0,1,2,3,4];apply c;intro o;apply ih (x + 1) (left - 1) (ss++[(pr f g h i e)]) (vs++[(sv (pr f g h i e) W)]) J.e (.int x k) (.int (e4 (dA e)) (p + (2 * kN e + 1))) (.int (e4 (dB e)) (p + (2 * kN e + 2))) (ae (o 1)) ‹_› ‹_› ‹_› ‹_› G (by simp only [Ls,Lq,LQ] at *;kd_p) hd;k_mem
  .apply na b e 3;intro st
   apply JP b e [0,1,2,3,4];apply c;intro o;apply ih (x + 1) (left - 1) ss vs s (.int x k) (.int (e4 (dA e)) (p + (2 * kN e + 1))) (.int (e4 (dB e)) (p + (2 * kN e + 2))) (ae (o 1)) ‹_› ‹_› ‹_› ‹_› hs (by kd_p) hd;k_mem
abbrev eO(e:E4):E7->LN:=pr (pc (cD e .z0)) (pc (cD e .z1)) (pc (cD e .z2)) (pc (cD e .z3))
theorem nQ{f:E7->LN}{a:Int}{ns:List Int}{k:E7}{x:LN}{vs:LV}(b:(a + 5 * 0).fmod 7=e7 k)(c:f k=x)(h:af (d4 f ns (0 + 1) ([]++[x])) vs):af (d4 f (a::ns) 0 []) vs:=by
 dsimp only [d4]
 rw [b,tH,c]
 exact h
noncomputable def hD:E7->Nat
 | .z0=>0x8008002000810201021000400102040204081020458a141850a002800a142830a14005001428506142800a00285000c003060c004c013004c993
 | .z1=>0x8008002000810201021000400102040204081020458a141a50a002800a142834a14005001428506942800a00285000d003468d004c013004c993
 | .z2=>0x8008002000810201021000400102040204081020458a141c50a002800a142838a14005001428507142800a00285000e003870e004c013004c993
 | .z3=>0x8008002000810201021000400102040204081020458a141e50a002800a14283ca14005001428507942800a00285000f003c78f004c013004c993
 | .z4=>0x8008002000810201021000400102040204081020458a142050a002800a142840a14005001428508142800a0028500100040810004c013004c993
 | .z5=>0x8008002000810201021000400102040204081020458a142250a002800a142844a14005001428508942800a0028500110044891004c013004c993
 | .z6=>0x8008002000810201021000400102040204081020458a142450a002800a142848a14005001428509142800a0028500120048912004c013004c993
abbrev eR (x0 x1 x2 x3 x4):=((x0,aa (.int x1 x2::x3) x4):Nat × Obj)
noncomputable abbrev tI (x0 x1):=[(pc (cD x0 (dA x1))),(pc (cD x0 (dB x1)))]
theorem zX(w:Lj)(a b:Bool)(j:Nat)(f:Int)(h:Nat)(ns:List Int)(d:LV)(l:Nat)(B:bF ns d)(hz:ns.length < 100) :
  CT w a b 6 (bw 257 [.ref j]) [(eR j f h d l)]
   (fun rr os n=>∃(u R H:Nat)(e:E4)(U Q s:ab)(vs:LV),rr=.ok (.ret (.ref u))/\os=[aa (.int f h::d) l]/\n=[(u,EX [.ref R,.ref H] U),(R,zC e Q),(H,aa vs s.e)] /\
    e4 e=(f.fdiv 7).fmod 4/\af (d4 (eO e) (f::ns) 0 []) vs):=by
 have i:=B.length
 have m:af [] []:=.nil
 have r:d.length + 1 < 101:=Nat.succ_lt_succ (i ▸ hz)
 have L:Ll (d.length + 1) - 1=d.length:=(congrArg (· - 1) (P1 d.length)).trans (Ry _ _)
 have h2:bF ns ((L6 f h::d).drop ((0:Int) + 1).toNat):=by simpa using B
 apply fE b 0x82020008102080020400001;intro V N T V B0 Y0 A st
 apply aE b 256;intro o;apply aF w a b j ([(L6 f h)]++d) l 0 (T + 1) (.int f h) (by decide) (by decide) rfl;k_all;intro N1 T1 st
 apply fc b 256;intro o;apply pd w a b f 7 h T1 (by decide) (by decide);k_all;intro k N2 T2 st
 apply lg b;intro o;apply zB w a b (Pu f 7) k T2;k_mem;intro V V V z q g V;refine d9 (fun e k1 g=>?_) g;apply jr g;intro hq
 apply na b e 0x60808105001438506183060c18003000c18304081840810204000c003060c1020408102;intro st
 apply nA b e 0x20800200000000408102;intro o;apply td w a b e (z + 2) (z + 4) (q + 1) (q + 2) (q + 3) (q + 4) 0 0;k_all;intro x J p T4 st
 apply cP b e 0x902085001428500140050a0000000;intro o;apply du w a b j ([(L6 f h)]++d) l (oA r rfl);k_all;intro t N5 T5 st
 apply cP b e 5633969253171211;intro o;apply g7 w a b N5 (mE Lc ([(L6 f h)]++d)) (ae (o 9)) (NI _) (M5.mpr (oA r rfl));k_all;intro O N6 T6 st
 apply cP b e 0x410100040810408102;intro o;apply cQ w a b O 0 (mE Lc ([(L6 f h)]++d)) (M5.mpr (NH _));k_all;intro F N7 I st
 apply bo b e 32770;intro o;apply aF w a b j ([(L6 f h)]++d) l 0 F (.int f h) (by decide) (by decide) rfl;k_all;intro N8 T8 st
 apply eE b e 4194304;intro o;apply s8 w a b 5 0 T8 F (by decide) (by decide);k_all;intro k3 N9 K st
 apply zr b e;intro o;apply s9 w a b (f + (5 * 0)) K (K + 1);k_all;intro c k4 W T10 C
 apply KB b e c fun V V k=>hD k
 intro st
 apply j3 b e c 4508068809426050;intro o;apply bB w a b [(pc (cD e (dA c)))] [(pc (cD e (dB c)))] (J.t (eN (dA c))) (J.t (eN (dB c))) (by exact (by decide:2 < 60000));k_all;intro v X T11 st
 apply jD b e c;intro o;apply j8 w a b p 0 (tI e c) v;k_mem;intro V V V Y T12 g V;apply dX g;apply eF b e c 0x2002000800204080408400100040810081091224482;intro st
 apply j3 b e c 2149614720;intro o;apply bB w a b [(pc (cD e (dA c)))] [(pc (cD e (dB c)))] (J.t (eN (dA c))) (J.t (eN (dB c))) (by exact (by decide:2 < 60000));k_all;intro M Z T13 st
 apply jD b e c;intro o;apply dx w a b p [] (tI e c) M 0 m (by decide);k_mem;intro V V V N14 T14 g V;refine bj (fun P g=>?_) g;apply jr g;intro D;apply eF b e c 44257224163970;intro st
 apply jD b e c;intro o;apply vH w a b j N x p O ([(L6 f h)]++d) l (e4 e) z (pc (cD e E4.z0)) (pc (cD e E4.z1)) (pc (cD e E4.z2)) (pc (cD e E4.z3)) J ns 1 ((mE Lc ([(L6 f h)]++d)) - 1) [(tI e c)] [(sv (tI e c) M)] P.e (.int 0 F) (.int (e4 (dA c)) (I + (2 * kN c + 1))) (.int (e4 (dB c)) (I + (2 * kN c + 2))) (ae (o 1)) (d4 (pr (pc (cD e E4.z0)) (pc (cD e E4.z1)) (pc (cD e E4.z2)) (pc (cD e E4.z3))) ns 1 [(tI e c)]) B (by decide) (by show 1 + (Ll (d.length + 1) - 1) < 1000;rw [L];exact M5.mpr (NV 1 d.length ▸ oA r rfl)) (by show Ll (d.length + 1) - 1=_;rw [L,i]) D (by show 1 + ns.length < _;rw [NV,<- i];exact oA r rfl) rfl;k_mem;intro V V V y T15 g V;refine oO (fun vk' v1' v2' S G s x' l' g=>?_) g;apply jr g;intro E;apply eF b e c 258;intro st
 apply E2 b e c [0,22,7,8];apply A;intro o τ;refine oy y x p e (ae (o 22)) J s G ⟨?_, ?_, ?_,hq.symm,(by exact nQ C (by cases c<;>rfl) E)⟩;apply rfl;apply rfl;apply rfl;rfl;k_mem
theorem iG(w:Lj)(a b:Bool)(x y:LN)(t u:Nat)(h:x=y) :
  CT w a b 0 (b9 "str.__eq__" [sv x t,sv y u]) [] (go (.ret (.bool Lh)) []):=
 (fX w a b x y t u).weak (Lf _) fun r os c q=>by
  obtain ⟨v,rfl,rfl,rfl,rfl⟩:=q
  exact ⟨by rw [beq_iff_eq.mpr h],rfl,rfl⟩
theorem iH(w:Lj)(a b:Bool)(x y:LN)(t u:Nat)(h:x≠y) :
  CT w a b 0 (b9 "str.__eq__" [sv x t,sv y u]) [] (go (.ret (.bool Li)) []):=
 (fX w a b x y t u).weak (Lf _) fun r os c q=>by
  obtain ⟨v,rfl,rfl,rfl,rfl⟩:=q
  exact ⟨by rw [beq_eq_false_iff_ne.mpr h],rfl,rfl⟩
theorem hU(w:Lj)(a b:Bool)(l m:Nat)(vs c:LV)(e g:Nat){ss f:LLN}(i:af ss vs)(j:af f c)(hz:ss.length + f.length < 60000) :
  CT w a b 0 (b9 "list.extend" [.ref l,.ref m]) [(l,aa vs e),(m,aa c g)] (fun n os d=>∃J:ab,n=.ok (.ret .none)/\os=[aa (vs++c) J.e,aa c g]/\d=[]/\af (ss++f) (vs++c)):=
 (sU w a b l m vs c e g (by rw [i.length,j.length];exact hz)).weak (Lf _) fun r os d h=>by
  refine bj (fun J k=>?_) h;apply m8 k
  exact ⟨J,rfl,rfl,rfl,i.append j⟩
noncomputable def Kg:L4:=ax bd 23
def FE:L4:=ax (ai Kg) 2
def FG(F:Nat):Env:=⟨bY Kg,F,3,[],⟨#[95,108,97,119,95,119,97,121,115,46,60,108,111,99,97,108,115,62,46]⟩,Ld 264,.ref 263,Ld F,0⟩
noncomputable def d5(g:LN->Option LLN)(l:Nat)(b:LN):List (Nat × Nat)->LLN->Option LLN
 | [],a=>Ld a
 | (p,q)::r,a=>if p=l then (match g (b++[q]) with
   | some c=>if 1000 < a.length + c.length then Lk else d5 g l b r (a++c)
   | none=>Lk) else d5 g l b r a
def bU(b:List (Nat × Nat)):Nat->LN->Option LLN
 | 0,_=>Lk
 | n + 1,a=>match a.getLast? with
  | none=>Lk
  | some l=>if 100 < a.length then Lk else if a.dropLast.contains l then Ld [a] else d5 (bU b n) l a b [a]
abbrev CW(w:Lj)(a b:Bool)(n:Nat)(g:List (Nat × Nat))(h:Nat)(d:LV)(i:Nat):Prop:=∀(f:LN)(t:Nat)(out:LLN),bU g n f=Ld out ->
 CT w a b (2 * n + 6) (.call (.ref 264) ⟨[sv f t,.ref h],[]⟩) [(h,aa d i)] (fun j os c=>∃(R:Nat)(J:ab)(vs:LV),j=.ok (.ret (.ref R))/\os=[aa d i]/\c=[(R,aa vs J.e)]/\af out vs)
abbrev KH(a:Nat)(b:LV)(h F d:Nat)(j:LN)(l:Nat)(c:Lc)(e:ab)(g:LV)(f:Nat)(it i:Nat):Mem:=[(a,aa b h),(ay F [(bK,sv (j++[l]) (e.t 0)),(dT,.ref a),([102,111,117,110,100],.ref d),(ir,c)] e),(d,aa g f),(it,al a i)]
set_option tactic.hygienic true in
theorem qo(w:Lj)(a b:Bool)(n:Nat)(I:List (Nat × Nat))(z:Nat)(c:LV)(B:Nat)(IH:CW w a b n I z c B)(F O it:Nat)(g:LN)(l:Nat)(d:List (Nat × Nat))(u:Lc)(y:ab)(m:LLN)(r:LV)(L i:Nat)(out:LLN)
  (G:bC d (c.drop i)) (hs:af m r) (hw:g.length < 1000) (hf:d5 (bU I n) l (g++[l]) d m=Ld out) :
  CT w a b (2 * n + 7) (aC FE it (FG F)) (KH z c B F O g l u y r L it i)
   (fun rr os H=>∃(E:LV)(Jo D:ab)(K:Lc)(oi:Obj),rr=.ok .next/\os=[aa c B,aJ [(bK,sv (g++[l]) (D.t 0)),(dT,.ref z),([102,111,117,110,100],.ref O),(ir,K)] D,aa E Jo.e,oi]/\H=[]/\af out E):=by
 induction d generalizing u y m r L i with
 | nil=>
  have hi:=G.end_drop
  have P:m=out:=by simpa [d5] using hf
  subst P
  apply fE b 0xc1020800200;intro V N T V W Z f st
  apply gF b 5;intro o;apply aP w a b it z i c B ‹_›;k_all;intro x tp X A st
  apply fT b [0,1,2,3];apply f;intro o τ;refine m7 r (ae (o 2)) y u (o 3) ⟨?_, ?_, ?_,hs⟩;apply rfl;apply rfl;apply rfl;rfl;k_mem
 | cons pq d ih=>
  refine bp fun C kC=>?_;obtain ⟨p,q⟩:=pq;apply kC;clear kC
  refine bj (fun M h0=>?_) (G.at_drop);obtain ⟨hv,j⟩:=h0
  have hwl:(g++[l]).length + [q].length < 60000:=oN hw rfl
  by_cases s:p=l
  .subst s
   rw [d5,if_pos rfl] at hf
   split at hf
   .rename_i U S
    split at hf
    .cases hf
    .rename_i hb
     have heq:[p]=[p]:=rfl
     have hz:m.length + U.length < 60000:=oI hb rfl
     apply fE b 0xc1020800200;intro V N T V W Z f st
     apply aE b 0x10000001000008102;intro o;apply aG w a b it z i c B (sv [p,q] M) hv;k_all;intro X A st
     apply fc b 256;intro o;apply bh w a b g p (y.t 0) (A + 4);k_all;intro k N2 T2 st
     apply aE b 0x4000000408003060c182;intro o;apply iG w a b [p] [p] (A + 2) k ‹_›;k_all;intro N3 Y st
     apply fc b 2129922;intro o;apply bB w a b (g++[p]) [q] (y.t 0) (Y + 1) ‹_›;k_all;intro v N4 T4 st
     apply jZ b 137980051840;intro o;apply IH ((g++[p])++[q]) v U S;k_all;intro R J vs N5 T5 hq st
     apply jY b 3;intro o;apply hU w a b O R r vs L J.e hs hq ‹_›;k_all;intro J1 N6 T6 Q st
     apply Cg b [0,1,2,3];apply f;intro o;apply ih (sv [p,q] M) (ae (o 1)) (m++U) (r++vs) J1.e (i + 1) j Q hf;k_mem
   .cases hf
  .rw [d5,if_neg s] at hf
   have hne:[p]≠[l]:=fun h=>s (by injection h)
   apply fE b 0xc1020800200;intro V N T V W Z f st
   apply aE b 0x10000001000008102;intro o;apply aG w a b it z i c B (sv [p,q] M) hv;k_all;intro X A st
   apply fc b 256;intro o;apply bh w a b g l (y.t 0) (A + 4);k_all;intro k N2 T2 st
   apply aE b 3;intro o;apply iH w a b [p] [l] (A + 2) k ‹_›;k_all;intro N3 Y st
   apply Cg b [0,1,2,3];apply f;intro o;apply ih (sv [p,q] M) (ae (o 1)) m r L (i + 1) j hs hf;k_mem
inductive yJ:Nat->List E4->Prop
 | e:yJ 4 []
 | c {k:Nat} {x:E4} {xs:List E4} (h:yI k=Ld x) (hs:yJ (k + 1) xs):yJ k (x::xs)
noncomputable def aV:List E4:=[.z0,.z1,.z2,.z3]
set_option tactic.hygienic true in
theorem zY(w:Lj)(a b:Bool)(Z:fK)(z:Z.Ok)(A:SrtA)(r:E4->Nat)(hr:∀i j,r i=r j->i=j)(g:Lc)(po nf:Int)(Y:E4->Int)(O N I J K M:ab)(su:E4->List E4)(e:E4->LV)(hsu:cA r su e)(R S U W:Nat)(G H oL:Obj)(hP:dS G)(hQ:dS H)(hL:dS oL)(n:Nat)(F St It Se Nd it:Nat)(xs:List E4):∀(k:Nat)(hs:yJ k xs)(aw:List E4)(h:dK su n xs aw=Ld Li)(f:aw.Nodup)(s:Lc)(m:ab)(B u v t:Array (Option Lc))(q p:Nat)(o:ab)(l:OI)(lows:Mem)(d:ci (wd w a b) l (aw.map fun y=>[r y])),
  ak w a b (ap F::Z.envs) 6 (aC hM it (ap F)) (nL w a b Z G u H v oL t A r g po nf Y O N I J K M e R S U W F St It Se Nd s m B q p o l it A.Dd k lows)
   (fun rr F'=>∃(sP' sQ' sL':Array (Option Lc))(E:Mem),rr=.ok .next/\F'=([(Z.P,aD G sP'),(Z.Q,aD H sQ'),(Z.L,aD oL sL')]++cT (wd w a b) A r g po nf Y e O N I J K M R S U W)++E):=by
 induction xs with
 | nil=>
  intro k hs aw h f s m B u v t q p o l lows d
  cases hs
  exact zQ w a b Z A r g po nf Y O N I J K M e R S U W G H oL F St It Se Nd it s m B u v t q p o l lows
 | cons x xs ih=>
  intro k hs aw h f s m B u v t q p o l lows d
  refine bp fun C kC=>?_;cases hs with
  | c X hs=>
  apply kC;clear kC
  have D:=gg hr x aw
  unfold dK at h
  cases hm:dI x aw with
  | true=>
   rw [hm] at h D
   exact tE w a b Z A r g po nf Y O N I J K M e R S U W G H oL k x X aw D F St It Se Nd it s m B u v t q p o l lows d _ fun s m B u v t q p o lows=>ih (k + 1) hs aw h f s m B u v t q p o l lows d
  | false=>
   rw [hm] at h D
   dsimp only at h
   split at h
   .rename_i s' hw
    cases h
   .rename_i s' hw
    exact tD w a b Z z A r hr g po nf Y O N I J K M su e hsu R S U W G H oL hP hQ hL n k x X aw s' hw f D F St It Se Nd it s m B u v t q p o l lows d _ fun s m B u v t q p o l lows d=>ih (k + 1) hs s' h (eK hw f) s m B u v t q p o l lows d
   .cases h
set_option tactic.hygienic true in
theorem zZ(w:Lj)(a b:Bool)(Z:fK)(z:Z.Ok)(A:SrtA)(r:E4->Nat)(hr:∀i j,r i=r j->i=j)(l:Lc)(po nf:Int)(np:E4->Int)(S R K M N O:ab)(su:E4->List E4)(f:E4->LV)(hsu:cA r su f)(U W X Y:Nat)(I J oL:Obj)(hP:dS I)(hQ:dS J)(hL:dS oL)(n:Nat)(F St It Se Nd it:Nat)(xs:List E4):∀(k:Nat)(hs:yJ k xs)(aw:List E4)(h:dK su n xs aw=Ld Lh)(e:aw.Nodup)(t:Lc)(o:ab)(E B D u:Array (Option Lc))(s q:Nat)(p:ab)(m:OI)(lows:Mem)(d:ci (wd w a b) m (aw.map fun y=>[r y])),
  ak w a b (ap F::Z.envs) 6 (aC hM it (ap F)) (nL w a b Z I B J D oL u A r l po nf np S R K M N O f U W X Y F St It Se Nd t o E s q p m it A.Dd k lows)
   (fun rr F'=>∃(C:Nat)(vs:LV)(v:Lc)(ec:Nat)(sP' sQ' sL':Array (Option Lc))(H:Mem),rr=.ok (.ret (.ref C))/\F'=([(Z.P,aD I sP'),(Z.Q,aD J sQ'),(Z.L,aD oL sL'),(C,aa (vs++[v]) ec)]++cT (wd w a b) A r l po nf np f S R K M N O U W X Y)++H/\vs.length < 1000):=by
 induction xs with
 | nil=>
  intro k hs aw h e t o E B D u s q p m lows d
  cases hs
  cases h
 | cons x xs ih=>
  intro k hs aw h e t o E B D u s q p m lows d
  refine bp fun C kC=>?_;cases hs with
  | c G hs=>
  apply kC;clear kC
  have g:=gg hr x aw
  unfold dK at h
  cases hm:dI x aw with
  | true=>
   rw [hm] at h g
   exact tE w a b Z A r l po nf np S R K M N O f U W X Y I J oL k x G aw g F St It Se Nd it t o E B D u s q p m lows d _ fun t o E B D u s q p lows=>ih (k + 1) hs aw h e t o E B D u s q p m lows d
  | false=>
   rw [hm] at h g
   dsimp only at h
   split at h
   .rename_i s' hw
    exact (zR w a b Z z A r hr l po nf np S R K M N O su f hsu U W X Y I J oL hP hQ hL n k x G aw s' hw e g F St It Se Nd it t o E B D u s q p m lows d)
   .rename_i s' hw
    exact tD w a b Z z A r hr l po nf np S R K M N O su f hsu U W X Y I J oL hP hQ hL n k x G aw s' hw e g F St It Se Nd it t o E B D u s q p m lows d _ fun t o E B D u s q p m lows d=>ih (k + 1) hs s' h (eK hw e) t o E B D u s q p m lows d
   .cases h
abbrev rt (x0 x1 x2):=OI.set (MT []) 0 (SetTable.mk 7 (MT []) (MT []) 0 (Bool.not (LH.followText (Qd.params (Qd.mk pw (Lj.params (wd x0 x1 x2)))) "set-order")) 0 Lh)
noncomputable abbrev vI (x0 x1 x2 x3 x4 x5 x6 x7):=([([x0],(Lv x1)),([x2],(Lv x3)),([x4],(Lv x5)),([x6],(Lv x7))] : List (LN × Lc))
set_option tactic.hygienic true in
theorem FH(w:Lj)(a b:Bool)(Z:fK)(z:Z.Ok)(A:SrtA)(r:E4->Nat)(hr:∀i j,r i=r j->i=j)(m:Lc)(po nf:Int)(Y:E4->Int)(O p I J K M:ab)(su:E4->List E4)(g:E4->LV)(B:cA r su g)(R U W X:Nat)(C D oL:Obj)(hP:dS C)(hQ:dS D)(hL:dS oL)(n:Nat)(h:dK su n aV []=Ld Li)(sP sQ sL:Array (Option Lc))(lows:Mem) :
  ak w a b Z.envs 8 (bw 144 [.ref A.S]) (([(Z.P,aD C sP),(Z.Q,aD D sQ),(Z.L,aD oL sL)]++cT (wd w a b) A r m po nf Y g O p I J K M R U W X)++lows)
   (fun rr F'=>∃(t u s:Array (Option Lc))(f:Mem),rr=.ok (.ret .none)/\F'=([(Z.P,aD C t),(Z.Q,aD D u),(Z.L,aD oL s)]++cT (wd w a b) A r m po nf Y g O p I J K M R U W X)++f):=by
 have hs0:ci (wd w a b) (.set #[] 0 (.fresh 0 0 ((wd w a b).params.followText "set-order"))) (([] : List E4).map fun y=>[r y]):=ci.nil _ _
 have v:([] : List E4).Nodup:=MN
 have hin:(([] : List E4).map fun y=>[r y]).contains [r .z0]=Li:=rfl
 unfold aV dK at h
 dsimp only [dI] at h
 split at h
 .rename_i d hw
  cases h
 .rename_i d hw
  have hsf:yJ 1 [.z1,.z2,.z3]:=.c rfl (.c rfl (.c rfl .e))
  have hs2:d.Nodup:=eK hw v
  have IHn:=fun F St It Se Nd it=>zY w a b Z z A r hr m po nf Y O p I J K M su g B R U W X C D oL hP hQ hL n F St It Se Nd it [.z1,.z2,.z3] 1 hsf d h hs2
  apply cW b 0xa04106001830f1e3c78f244801224009120000000000078f1e3c78f0a0020400000040000000083c00f1e00001;intro V N T B0 Y0 fin st
  apply bA b 0x526081140050014;intro o;apply mD w a b A.Dd (vI (r E4.z0) A.i0 (r E4.z1) A.i1 (r E4.z2) A.i2 (r E4.z3) A.i3) p 4;k_all;intro x N1 T1 st
  apply aE b 0x4408224009121e3c78f;intro o;apply qn w a b A r p x;k_all;intro N2 T2 st
  apply aE b 0x9101c305080c88d182c512203c1010038982;intro o;apply iE w a b (N + 3) (rt w a b) [] [(r E4.z0)] (p.k 0) (by exact ci.nil _ _) hin;k_all;intro N3 T3 st
  apply j0 b;intro o;apply zO w a b Z z A r hr m po nf Y O p I J K M su g B R U W X C D oL hP hQ hL n .z0 [] d hw v N (N + 1) (N + 2) (N + 3) (N + 4) (p.k 0) (ae (o 14)) (MT []) sP sQ sL 0 0 (ae (o 18)) (rt w a b) lows (by exact ci.nil _ _);k_mem;intro V V N4 T4 q;refine ni (fun nv Jf' sl' t u s es' ei' Jn' DD' f q=>?_) q;apply jt q;intro hq;refine ⟨_,_,.refl _,fun Y0=>?_⟩;apply dC b 0x992224078e1a3058a12203860a101820200a02;intro st
  apply j0 b;intro o;apply IHn N (N + 1) (N + 2) (N + 3) (N + 4) x nv Jf' sl' t u s es' ei' Jn' DD' f hq;k_mem;intro V V N5 T5 q;refine gz (fun G H E l q=>?_) q;apply iq q;refine ⟨_,_,.refl _,fun Y0=>?_⟩;apply dC b 0;intro st
  apply b4 b [0,1,2,3,4,5,6,7,8,9,10,11,12,13];apply fin;intro o τ;refine jJ G H E l ⟨?_, ?_⟩;apply rfl;apply rfl;k_mem
 .cases h
set_option tactic.hygienic true in
theorem FI(w:Lj)(a b:Bool)(Z:fK)(z:Z.Ok)(A:SrtA)(r:E4->Nat)(hr:∀i j,r i=r j->i=j)(m:Lc)(po nf:Int)(Y:E4->Int)(M g H I J K:ab)(su:E4->List E4)(l:E4->LV)(t:cA r su l)(O R U W:Nat)(E G oL:Obj)(hP:dS E)(hQ:dS G)(hL:dS oL)(n:Nat)(h:dK su n aV []=Ld Lh)(sP sQ sL:Array (Option Lc))(lows:Mem) :
  ak w a b Z.envs 8 (bw 144 [.ref A.S]) (([(Z.P,aD E sP),(Z.Q,aD G sQ),(Z.L,aD oL sL)]++cT (wd w a b) A r m po nf Y l M g H I J K O R U W)++lows)
   (zP Z.P E Z.Q G Z.L oL w a b A r m po nf Y l M g H I J K O R U W):=by
 have hs0:ci (wd w a b) (.set #[] 0 (.fresh 0 0 ((wd w a b).params.followText "set-order"))) (([] : List E4).map fun y=>[r y]):=ci.nil _ _
 have s:([] : List E4).Nodup:=MN
 have X:(([] : List E4).map fun y=>[r y]).contains [r .z0]=Li:=rfl
 unfold aV dK at h
 dsimp only [dI] at h
 split at h
 .rename_i d hw
  apply cW b 0xa04106001830f1e3c78f244801224009120000000000078f1e3c78f0a0020400000040000000083c00f1e00001;intro V N T B0 Y0 q st
  apply bA b 0x526081140050014;intro o;apply mD w a b A.Dd (vI (r E4.z0) A.i0 (r E4.z1) A.i1 (r E4.z2) A.i2 (r E4.z3) A.i3) g 4;k_all;intro x N1 T1 st
  apply aE b 0x4408224009121e3c78f;intro o;apply qn w a b A r g x;k_all;intro N2 T2 st
  apply aE b 0x9101c305080c88d182c512203c1010038982;intro o;apply iE w a b (N + 3) (rt w a b) [] [(r E4.z0)] (g.k 0) (by exact ci.nil _ _) X;k_all;intro N3 T3 st
  apply sJ b 0;intro o;apply Fs w a b Z z A r hr m po nf Y M g H I J K su l t O R U W E G oL hP hQ hL n .z0 [] d hw s N (N + 1) (N + 2) (N + 3) (N + 4) (g.k 0) (ae (o 14)) (MT []) sP sQ sL 0 0 (ae (o 18)) (rt w a b) lows (by exact ci.nil _ _);k_all;intro C vs v ec B D u f N4 T4 hq Y0 st
  apply b4 b [0,1,2,3,4,5,6,7,8,9,10,11,12,13,14];apply q;intro o τ;refine oy C vs v ec B D u f ⟨?_, ?_,hq⟩;apply rfl;apply rfl;k_mem
 .rename_i d hw
  have hsf:yJ 1 [.z1,.z2,.z3]:=.c rfl (.c rfl (.c rfl .e))
  have hs2:d.Nodup:=eK hw s
  have IHn:=fun F St It Se Nd it=>zZ w a b Z z A r hr m po nf Y M g H I J K su l t O R U W E G oL hP hQ hL n F St It Se Nd it [.z1,.z2,.z3] 1 hsf d h hs2
  apply cW b 0xa04106001830f1e3c78f244801224009120000000000078f1e3c78f0a0020400000040000000083c00f1e00001;intro V N T B0 Y0 q st
  apply bA b 0x526081140050014;intro o;apply mD w a b A.Dd (vI (r E4.z0) A.i0 (r E4.z1) A.i1 (r E4.z2) A.i2 (r E4.z3) A.i3) g 4;k_all;intro x N1 T1 st
  apply aE b 0x4408224009121e3c78f;intro o;apply qn w a b A r g x;k_all;intro N2 T2 st
  apply aE b 0x9101c305080c88d182c512203c1010038982;intro o;apply iE w a b (N + 3) (rt w a b) [] [(r E4.z0)] (g.k 0) (by exact ci.nil _ _) X;k_all;intro N3 T3 st
  apply j0 b;intro o;apply zO w a b Z z A r hr m po nf Y M g H I J K su l t O R U W E G oL hP hQ hL n .z0 [] d hw s N (N + 1) (N + 2) (N + 3) (N + 4) (g.k 0) (ae (o 14)) (MT []) sP sQ sL 0 0 (ae (o 18)) (rt w a b) lows (by exact ci.nil _ _);k_mem;intro V V N4 T4 h0;refine ni (fun nv Jf' sl' B D u es' ei' Jn' DD' f h0=>?_) h0;apply jt h0;intro hq;refine ⟨_,_,.refl _,fun Y0=>?_⟩;apply dC b 0x992224078e1a3058a12203860a101820200a02;intro st
  apply sJ b 0;intro o;apply IHn N (N + 1) (N + 2) (N + 3) (N + 4) x nv Jf' sl' B D u es' ei' Jn' DD' f hq;k_all;intro C vs v ec sP'1 sQ'1 sL'1 p N5 T5 hq1 Y0 st
  apply b4 b [0,1,2,3,4,5,6,7,8,9,10,11,12,13,14];apply q;intro o τ;refine oy C vs v ec sP'1 sQ'1 sL'1 p ⟨?_, ?_,hq1⟩;apply rfl;apply rfl;k_mem
 .cases h
theorem dM{prog:LU}{w:Lj}{A:L9}{R:Lm->Ly->Prop}{s:Ly}{e:Lg}{d:Nat}{it a:Lc}{env:Env}{g:OD}(j:(My e d it a env).isFrame=Li)(k:(My e d it a env).weight=0)(o:(My e d it a env).cUnits=0)(m:(Nr e)[d]? = Ld g)(n:(g.is_async != 0)=Li)(l:Mm (Lw prog w) A (.compLoop e d it a env) R s)(h:L7 (Lw prog w) A (pyIter it) (fun b f=>Mm (Lw prog w) A (.compLoop e d b a env) R f) (notedBy (Lw prog w) A env fun x f=>R (.error x) f) s) :
  Mm (Lw prog w) A (.compStart e d it a env) R s:=by
 refine codeAny_of_tree ?_ (c:=.compStart e d it a env)
 rw [L9.under_of_weight k o]
 show L7 _ _ (if (My e d it a env).isFrame then (S3 e d it a env).onRaise (Po env) else (S3 e d it a env).onRaise (fun x=>do Nc x env;O5 theWindowsPlace)) _ _ s
 rw [if_neg (by rw [j];exact Oe)]
 refine wpAny_notedAt ?_
 dsimp only [S3]
 rw [m]
 simp only [Option.elim,n,Nf,if_false]
 show L7 _ _ (ask >>= _) _ _ s
 refine Le (wpAny_askSetting (wpAny_ite ?_))
 split
 .first
   | exact Le (Lx (Lx (QH rfl l)))
   | exact Lx (QH rfl l)
 .first
   | exact Le (Oa (Le (wpAny_standAt (Le (QI h (fun b f i=>Lx (QH rfl i)) fun V V x=>x)))))
   | (refine Le (Oa ?_);show L7 _ _ (O5 g.iter.pos >>= _) _ _ s;exact Le (wpAny_standAt (Le (QI h (fun b f i=>Lx (QH rfl i)) fun V V x=>x))))
section
variable{prog:LU}{w:Lj}{kt:KT}{fr:List Env}{L:Nat}{e:Lg}{d it l i:Nat}
include prog w kt fr L e d it l i
theorem bD{a:Lc}{env:Env}{b:Mem}{c:Lm->Mem->Prop}(k:Nat)(g:OD)(hf:b[k]? = Ld (it,al l i))(m:(My e d (.ref it) a env).isFrame=Li)(n:(My e d (.ref it) a env).weight=0)(x:(My e d (.ref it) a env).cUnits=0)(s:(Nr e)[d]? = Ld g)(t:(g.is_async != 0)=Li)(C:aO prog w kt fr L (.compLoop e d (.ref it) a env) b c):aO prog w kt fr L (.compStart e d (.ref it) a env) b c:=by
 intro A q h G D O N T R r f u v p j
 have o:=C A q h G D O N T R r f u v p j
 refine dM m n x s t o (wpAny_pyIter_listiter (l:=l) (i:=i) ?_ o)
 exact ⟨_,p.get hf,rfl,rfl⟩
theorem mG{n ep:Nat}{a:Lc}{env:Env}{b:Mem}{c:Lm->Mem->Prop}(k:Nat)(g:OD)(hf:b[k]? = Ld (it,az "dict_valueiterator" [.ref l,.int i 0,.int n 0,.int ep 0]))(m:(My e d (.ref it) a env).isFrame=Li)(o:(My e d (.ref it) a env).weight=0)(y:(My e d (.ref it) a env).cUnits=0)(t:(Nr e)[d]? = Ld g)(u:(g.is_async != 0)=Li)(C:aO prog w kt fr L (.compLoop e d (.ref it) a env) b c):aO prog w kt fr L (.compStart e d (.ref it) a env) b c:=by
 intro A r h G D O N T R s f v x q j
 have p:=C A r h G D O N T R s f v x q j
 refine dM m o y t u p (wpAny_pyIter_valiter (d:=l) (i:=i) (n:=n) (ep:=ep) ?_ p)
 exact ⟨_,q.get hf,rfl,rfl⟩
end
noncomputable def ar(a:E4->Nat):List E4->List E4
 | []=>[]
 | x::xs=>match a x with
  | 0=>x::ar a xs
  | _ + 1=>ar a xs
noncomputable def gp{α:Type}(n:Nat)(x y:α):α:=match n with
 | 0=>x
 | _ + 1=>y
noncomputable abbrev cJ(a:E4->Nat):E4->Int:=fun x=>Ll (a x)
abbrev gL(w:Lj)(A:SrtA)(r:E4->Nat)(a:E4->Int)(f b c d e:ab):Mem:=[(A.Dd,bO w (kY A r) f 4),(A.i0,ao A.d0 [r .z0] (a .z0) A.u0 b),(A.i1,ao A.d1 [r .z1] (a .z1) A.u1 c),(A.i2,ao A.d2 [r .z2] (a .z2) A.u2 d),(A.i3,ao A.d3 [r .z3] (a .z3) A.u3 e)]
abbrev kl(w:Lj)(A:SrtA)(r:E4->Nat)(a:E4->Int)(b c d e:ab):E4->Mem
 | .z0=>[(A.i1,ao A.d1 [r .z1] (a .z1) A.u1 c),(A.i2,ao A.d2 [r .z2] (a .z2) A.u2 d),(A.i3,ao A.d3 [r .z3] (a .z3) A.u3 e)]
 | .z1=>[(A.i0,ao A.d0 [r .z0] (a .z0) A.u0 b),(A.i2,ao A.d2 [r .z2] (a .z2) A.u2 d),(A.i3,ao A.d3 [r .z3] (a .z3) A.u3 e)]
 | .z2=>[(A.i0,ao A.d0 [r .z0] (a .z0) A.u0 b),(A.i1,ao A.d1 [r .z1] (a .z1) A.u1 c),(A.i3,ao A.d3 [r .z3] (a .z3) A.u3 e)]
 | .z3=>[(A.i0,ao A.d0 [r .z0] (a .z0) A.u0 b),(A.i1,ao A.d1 [r .z1] (a .z1) A.u1 c),(A.i2,ao A.d2 [r .z2] (a .z2) A.u2 d)]
section
variable(w:Lj)(a b:Bool)(fr:List Env)(A:SrtA)(r:E4->Nat)
include w a b fr A r
theorem FJ(g d:ab)(CL F it ac k:Nat)(x:E4)(f:yI k=Ld x)(n:Nat)(vs:LV)(e:Nat)(J:ab)(lows:Mem)(c:Lm->Mem->Prop)(hz:vs.length < 1000)(IH:∀(v:Lc)(J:ab)(e:Nat),ak w a b fr 6 (.compLoop nM 0 (.ref it) (.ref ac) (gJ CL F)) (jv CL [([105],v)] J it A.Dd (k + 1) ac (gp n (vs++[sv [r x] (d.t 0)]) vs) e w a b A r g (A.I x,ao (A.Dn x) [r x] (Ll n) (A.U x) d) lows) c) :
  ak w a b fr 6 (.compLoop nM 0 (.ref it) (.ref ac) (gJ CL F)) (jv CL [] J it A.Dd k ac vs e w a b A r g (A.I x,ao (A.Dn x) [r x] (Ll n) (A.U x) d) lows) c:=by
 cases n with
 | zero=>exact zS w a b fr A r g d CL F it ac k x f 0 vs e J lows c hz IH
 | succ m=>exact zT w a b fr A r g d CL F it ac k x f m vs e J lows c hz IH
theorem FK(g d:ab)(CL F it ac k:Nat)(x:E4)(f:yI k=Ld x)(v:Lc)(n:Nat)(vs:LV)(e:Nat)(J:ab)(lows:Mem)(c:Lm->Mem->Prop)(hz:vs.length < 1000)(IH:∀(v:Lc)(J:ab)(e:Nat),ak w a b fr 6 (.compLoop nM 0 (.ref it) (.ref ac) (gJ CL F)) (jv CL [([105],v)] J it A.Dd (k + 1) ac (gp n (vs++[sv [r x] (d.t 0)]) vs) e w a b A r g (A.I x,ao (A.Dn x) [r x] (Ll n) (A.U x) d) lows) c) :
  ak w a b fr 6 (.compLoop nM 0 (.ref it) (.ref ac) (gJ CL F)) (jv CL [([105],v)] J it A.Dd k ac vs e w a b A r g (A.I x,ao (A.Dn x) [r x] (Ll n) (A.U x) d) lows) c:=by
 cases n with
 | zero=>exact zU w a b fr A r g d CL F it ac k x f v 0 vs e J lows c hz IH
 | succ m=>exact zV w a b fr A r g d CL F it ac k x f v m vs e J lows c hz IH
theorem FL(e:E4->Nat)(p f g h i:ab)(CL F it ac:Nat)(lows:Mem)(o xs:List E4):∀(k:Nat)(hs:yJ k xs)(d:List E4)(v:Lc)(vs:LV)(l:Nat)(J:ab)(j:af (d.map fun y=>[r y]) vs)(hz:d.length + xs.length < 1000)(u:d++ar e xs=o),
  ak w a b fr 6 (.compLoop nM 0 (.ref it) (.ref ac) (gJ CL F)) (([(CL,av [([105],v)] J),(it,rq A.Dd k 4 4),(ac,aa vs l)]++gL (wd w a b) A r (cJ e) p f g h i)++lows)
   (fun D B=>∃(v:Lc)(J:ab)(n:LV)(l:Nat),D=.ok .next/\B=([(CL,av [([105],v)] J),(ac,aa n l)]++gL (wd w a b) A r (cJ e) p f g h i)++lows/\af (o.map fun y=>[r y]) n):=by
 induction xs with
 | nil=>
  intro k hs d v vs l J j hz u
  cases hs
  rw [ar,Mp] at u
  subst u
  have C:=(Fz w a b fr A r p CL F it ac v vs l J (([(A.i0,ao A.d0 [r .z0] (cJ e .z0) A.u0 f),(A.i1,ao A.d1 [r .z1] (cJ e .z1) A.u1 g),(A.i2,ao A.d2 [r .z2] (cJ e .z2) A.u2 h),(A.i3,ao A.d3 [r .z3] (cJ e .z3) A.u3 i)] : Mem)++lows))
  refine (aO.weakP C (Lf _) fun D B q=>?_)
  refine ma (fun v J l O=>?_) q;apply kW O
  exact ⟨_,Pk.refl _,(jJ v J vs l ⟨rfl,rfl,j⟩)⟩
 | cons x xs P=>
  intro k hs d v vs l J j hz u
  cases hs with
  | c E hs=>
  have C:=FK w a b fr A r p (b7 f g h i x) CL F it ac k x E v (e x) vs l J (kl (wd w a b) A r (cJ e) f g h i x++lows) (fun D B=>∃(v:Lc)(J:ab)(n:LV)(l:Nat),D=.ok .next/\B=([(CL,av [([105],v)] J),(ac,aa n l)]++gL (wd w a b) A r (cJ e) p f g h i)++lows/\af (o.map fun y=>[r y]) n) (by rw [j.length,Ln];kd_p) (fun L K s=>?_)
  .refine aO.pick2 (M:=[(CL,av [([105],v)] J),(it,rq A.Dd k 4 4),(ac,aa vs l)]++gL (wd w a b) A r (cJ e) p f g h i) (M3:=kl (wd w a b) A r (cJ e) f g h i x) C ([0,1,2,3,kZ 4 x]++rp 4 x) (by cases x<;>kernel_rfl)
  .have z:af ((gp (e x) (d++[x]) d).map fun y=>[r y]) (gp (e x) (vs++[sv [r x] ((b7 f g h i x).t 0)]) vs):=by
    cases e x with
    | zero=>simpa [gp] using j.append (.one [r x] ((b7 f g h i x).t 0))
    | succ m=>exact j
   have G:gp (e x) (d++[x]) d++ar e xs=o:=by
    rw [<- u,ar]
    cases e x with
    | zero=>simp [gp]
    | succ m=>rfl
   have H:(gp (e x) (d++[x]) d).length + xs.length < 1000:=by
    simp only [Ls] at hz
    cases e x with
    | zero=>simp only [gp,Lq,Ls,LQ];kd_p
    | succ m=>simp only [gp];kd_p
   have N:=P (k + 1) hs (gp (e x) (d++[x]) d) L _ s K z H G
   refine aO.pick2 (M:=[(CL,av [([105],L)] K),(it,rq A.Dd (k + 1) 4 4),(ac,aa (gp (e x) (vs++[sv [r x] ((b7 f g h i x).t 0)]) vs) s),(cH A.Dd w a b A r p),(A.I x,ao (A.Dn x) [r x] (Ll (e x)) (A.U x) (b7 f g h i x))]++kl (wd w a b) A r (cJ e) f g h i x) (M3:=[]) N ([0,1,2,3]++Fr 4 x) (by cases x<;>kernel_rfl) |>.pk ?_
   exact Pk.refl _
theorem yK(d:E4->Nat)(p g j k o:ab)(CL F it ac h:Nat)(J:ab)(lows:Mem) :
  ak w a b fr 6 (.compStart nM 0 (.ref it) (.ref ac) (gJ CL F)) (([(CL,av [] J),(it,rq A.Dd 0 4 4),(ac,aa [] h)]++gL (wd w a b) A r (cJ d) p g j k o)++lows)
   (fun B s=>∃(v:Lc)(J:ab)(f:LV)(h:Nat),B=.ok .next/\s=([(CL,av [([105],v)] J),(ac,aa f h)]++gL (wd w a b) A r (cJ d) p g j k o)++lows/\af ((ar d aV).map fun y=>[r y]) f):=by
 refine mG (l:=A.Dd) (i:=0) (n:=4) (ep:=4) 1 ((Nr nM)[0]!) rfl (by kernel_rfl) (by kernel_rfl) (by kernel_rfl) (by kernel_rfl) (by kernel_rfl) ?_
 have C:=FJ w a b fr A r p g CL F it ac 0 .z0 rfl (d .z0) [] h J (kl (wd w a b) A r (cJ d) g j k o .z0++lows) (fun B s=>∃(v:Lc)(J:ab)(f:LV)(h:Nat),B=.ok .next/\s=([(CL,av [([105],v)] J),(ac,aa f h)]++gL (wd w a b) A r (cJ d) p g j k o)++lows/\af ((ar d aV).map fun y=>[r y]) f) (by decide) (fun E D u=>?_)
 .exact C
 .have q:af ((gp (d .z0) ([]++[.z0]) []).map fun y=>[r y]) (gp (d .z0) ([]++[sv [r .z0] (g.t 0)]) []):=by
   cases d .z0 with
   | zero=>exact .one _ _
   | succ m=>exact .nil
  have x:gp (d .z0) ([]++[.z0]) []++ar d [.z1,.z2,.z3]=ar d aV:=by
   have e:ar d aV=(match d .z0 with | 0=>.z0::ar d [.z1,.z2,.z3] | _ + 1=>ar d [.z1,.z2,.z3]):=rfl
   rw [e]
   cases d .z0 with
   | zero=>rfl
   | succ m=>rfl
  have z:(gp (d .z0) (([] : List E4)++[.z0]) []).length + [E4.z1,.z2,.z3].length < 1000:=by
   cases d .z0 with
   | zero=>decide
   | succ m=>exact (by decide:([] : List E4).length + [E4.z1,.z2,.z3].length < 1000)
  exact FL w a b fr A r d p g j k o CL F it ac lows _ [.z1,.z2,.z3] 1 (.c rfl (.c rfl (.c rfl .e))) _ E _ u D q z x
end
def Kh:L4:=ax (ai (ax bd 7)) 4
def i7:L4:=ax (ai Kh) 3
def hV(F:Nat):Env:=⟨bY Kh,F,3,[],⟨#[84,111,112,111,108,111,103,105,99,97,108,83,111,114,116,101,114,46,103,101,116,95,114,101,97,100,121,46,60,108,111,99,97,108,115,62,46]⟩,Ld 116,.ref 115,Ld F,0⟩
noncomputable abbrev Hr(S t a:Nat):List (LN × Lc):=[(jo,.ref S),(sq,.ref t),(lA,.ref a)]
abbrev z7(S t a:Nat)(J:ab):Obj:=aJ [(jo,.ref S),(sq,.ref t),(lA,.ref a)] J
abbrev uO(S t a:Nat)(v:Lc)(J:ab):Obj:=aJ [(jo,.ref S),(sq,.ref t),(lA,.ref a),(jL,v)] J
section
variable(w:Lj)(a b:Bool)(fr:List Env)(A:SrtA)(r:E4->Nat)(f:∀i j,r i=r j->i=j)(d e J:ab)(F it c i ep:Nat)
include w a b fr A r f d e J F it c i ep
theorem FM(vs:LV)(x:E4)(h:Nat)(n:vs[i]? = Ld (sv [r x] h))(p:Int)(lows:Mem)(g:Lm->Mem->Prop)(IH:∀(v:Lc)(J e:ab),ak w a b fr 6 (aC i7 it (hV F)) ([(F,uO A.S c A.Dd v J),(it,cI c (i + 1)),(c,bx vs ep),(cH A.Dd w a b A r d),(A.I x,ao (A.Dn x) [r x] (-1) (A.U x) e)]++lows) g) :
  ak w a b fr 6 (aC i7 it (hV F)) ([(F,z7 A.S c A.Dd J),(it,cI c i),(c,bx vs ep),(cH A.Dd w a b A r d),(A.I x,ao (A.Dn x) [r x] p (A.U x) e)]++lows) g:=by
 have m:=ee f A
 have l:=i5 f A x
 apply cW b 0x4041020400100;intro V N T q z k st
 apply aE b 0x3020820008102010200081;intro o;apply mF w a b it c i vs ep (sv [(r x)] h) n;k_all;intro s u st
 apply aE b 0x6140050000000000028000000000000000001400500002800000005;intro o;apply aY w a b A.Dd (kY A r) d 4 [(r x)] h (.ref (A.I x)) ‹_› l;k_all;intro t y st
 apply lB b [0,1,2,3,4];apply k;intro o;apply IH (sv [(r x)] h) (ae (o 0)) (ae (o 4));k_mem
theorem FN(q:Lc)(vs:LV)(x:E4)(h:Nat)(n:vs[i]? = Ld (sv [r x] h))(p:Int)(lows:Mem)(g:Lm->Mem->Prop)(IH:∀(v:Lc)(J e:ab),ak w a b fr 6 (aC i7 it (hV F)) ([(F,uO A.S c A.Dd v J),(it,cI c (i + 1)),(c,bx vs ep),(cH A.Dd w a b A r d),(A.I x,ao (A.Dn x) [r x] (-1) (A.U x) e)]++lows) g) :
  ak w a b fr 6 (aC i7 it (hV F)) ([(F,uO A.S c A.Dd q J),(it,cI c i),(c,bx vs ep),(cH A.Dd w a b A r d),(A.I x,ao (A.Dn x) [r x] p (A.U x) e)]++lows) g:=by
 have m:=ee f A
 have l:=i5 f A x
 apply cW b 0x4041020400100;intro V N T s B k st
 apply aE b 0x3020820008102010200081;intro o;apply mF w a b it c i vs ep (sv [(r x)] h) n;k_all;intro t y st
 apply aE b 0x6140050000000000028000000000000000001400500002800000005;intro o;apply aY w a b A.Dd (kY A r) d 4 [(r x)] h (.ref (A.I x)) ‹_› l;k_all;intro u z st
 apply lB b [0,1,2,3,4];apply k;intro o;apply IH (sv [(r x)] h) (ae (o 0)) (ae (o 4));k_mem
end
noncomputable abbrev d6 (x0 x1 x2):=(fun b a=>b=.ok x0/\a=x1++x2:Lm->Mem->Prop)
theorem yL(w:Lj)(a b:Bool)(fr:List Env)(F it c i ep:Nat)(vs:LV)(e:vs.length<=i)(lows:Mem) :
  ak w a b fr 6 (aC i7 it (hV F)) ([(it,cI c i),(c,bx vs ep)]++lows)
   (d6 .next [(c,bx vs ep)] lows):=by
 apply cW b 563019211866240;intro V N T g k d st
 apply gF b 3;intro o;apply i6 w a b it c i vs ep e;k_all;intro x f h j st
 apply b4 b [1];apply d;intro o τ;refine ⟨?_, ?_⟩;apply rfl;apply rfl;k_mem
theorem af.drop_cons{s:LN}{ss:LLN}{vs:LV}{i:Nat}(h:af (s::ss) (vs.drop i)):∃t,vs[i]? = Ld (sv s t)/\af ss (vs.drop (i + 1)):=by
 cases e:vs.drop i with
 | nil=>rw [e] at h;cases h
 | cons v r=>
  rw [e] at h
  cases h with
  | cons s t h=>
   refine ⟨t, ?_, ?_⟩
   .have:=congrArg OL e
    rw [NL] at this
    simpa using this
   .rw [show vs.drop (i + 1)=(vs.drop i).drop 1 from by rw [OM],e]
    exact h
theorem af.drop_nil{vs:LV}{i:Nat}(h:af [] (vs.drop i)):vs.length<=i:=by
 cases e:vs.drop i with
 | nil=>simpa using e
 | cons v r=>rw [e] at h;cases h
def gq(v:Int)(a:E4->Int):List E4->E4->Int
 | []=>a
 | x::xs=>gq v (bG a x v) xs
section
variable(w:Lj)(a b:Bool)(fr:List Env)(A:SrtA)(r:E4->Nat)(c:∀i j,r i=r j->i=j)
include w a b fr A r c
theorem FO(h:ab)(F it e ep:Nat)(vs:LV)(lows:Mem)(xs:List E4):∀(i:Nat)(k:af (xs.map fun y=>[r y]) (vs.drop i))(g:E4->Int)(d:E4->ab)(l:Lc)(J:ab),
  ak w a b fr 6 (aC i7 it (hV F)) (([(F,uO A.S e A.Dd l J),(it,cI e i),(e,bx vs ep)]++gL (wd w a b) A r g h (d .z0) (d .z1) (d .z2) (d .z3))++lows)
   (fun s p=>∃(t:List (LN × Lc))(m:ab)(f:E4->ab),s=.ok .next/\p=([(ay F (Hr A.S e A.Dd++t) m),(e,bx vs ep)]++gL (wd w a b) A r (gq (-1) g xs) h (f .z0) (f .z1) (f .z2) (f .z3))++lows):=by
 induction xs with
 | nil=>
  intro i k g d l J
  refine aO.weakP ((yL w a b fr F it e i ep vs k.drop_nil (((F,uO A.S e A.Dd l J)::gL (wd w a b) A r g h (d .z0) (d .z1) (d .z2) (d .z3))++lows)).pk (Pk.of2 (M:=[(F,uO A.S e A.Dd l J),(it,cI e i),(e,bx vs ep)]++gL (wd w a b) A r g h (d .z0) (d .z1) (d .z2) (d .z3)) [1,2,0,3,4,5,6,7] (by kernel_rfl))) (Lf _) fun s p q=>?_
  obtain ⟨rfl,rfl⟩:=q
  exact ⟨_,Pk.of (M:=[(e,bx vs ep),(F,uO A.S e A.Dd l J)]++gL (wd w a b) A r g h (d .z0) (d .z1) (d .z2) (d .z3)) [1,0,2,3,4,5,6] (by kernel_rfl),(gB [(jL,l)] J d ⟨rfl,rfl⟩)⟩
 | cons x xs D=>
  intro i k g d l J
  refine bj (fun E z=>?_) (k.drop_cons);obtain ⟨B,o⟩:=z
  have C:=FN w a b fr A r c h (d x) J F it e i ep l vs x E B (g x) (kl (wd w a b) A r g (d .z0) (d .z1) (d .z2) (d .z3) x++lows) (fun s p=>∃(t:List (LN × Lc))(m:ab)(f:E4->ab),s=.ok .next/\p=([(ay F (Hr A.S e A.Dd++t) m),(e,bx vs ep)]++gL (wd w a b) A r (gq (-1) g (x::xs)) h (f .z0) (f .z1) (f .z2) (f .z3))++lows) (fun v m n=>?_)
  .exact aO.pick2 (M:=[(F,uO A.S e A.Dd l J),(it,cI e i),(e,bx vs ep)]++gL (wd w a b) A r g h (d .z0) (d .z1) (d .z2) (d .z3)) (M3:=kl (wd w a b) A r g (d .z0) (d .z1) (d .z2) (d .z3) x) C ([0,1,2,3,kZ 4 x]++rp 4 x) (by cases x<;>kernel_rfl)
  .have u:=D (i + 1) o (bG g x (-1)) (bG d x n) v m
   refine aO.pick2 (M:=[(F,uO A.S e A.Dd v m),(it,cI e (i + 1)),(e,bx vs ep),(cH A.Dd w a b A r h),(A.I x,ao (A.Dn x) [r x] (-1) (A.U x) n)]++kl (wd w a b) A r g (d .z0) (d .z1) (d .z2) (d .z3) x) (M3:=[]) u ([0,1,2,3]++Fr 4 x) (by cases x<;>kernel_rfl) |>.pk ?_
   exact Pk.refl _
abbrev FP (x0 x1 x2 x3 x4 x5 x6 x7 x8 x9 x10 x11 x12 x13 x14):=(fun e b=>∃(d:List (LN × Lc))(c:ab)(a:E4->ab),e=.ok .next/\b=([(ay x0 (Hr x1 x2 x3++d) c),(x2,bx x4 x5)]++gL (wd x6 x7 x8) x9 x10 (gq (-1) x11 x12) x13 (a .z0) (a .z1) (a .z2) (a .z3))++x14:Lm->Mem->Prop)
theorem z8(k:ab)(F it h ep:Nat)(vs:LV)(lows:Mem)(xs:List E4)(o:af (xs.map fun y=>[r y]) vs)(i:E4->Int)(d e f g J:ab) :
  ak w a b fr 6 (aC i7 it (hV F)) (([(F,z7 A.S h A.Dd J),(it,cI h 0),(h,bx vs ep)]++gL (wd w a b) A r i k d e f g)++lows)
   (FP F A.S h A.Dd vs ep w a b A r i xs k lows):=by
 have l:af (xs.map fun y=>[r y]) (vs.drop 0):=o
 cases xs with
 | nil=>
  refine aO.weakP ((yL w a b fr F it h 0 ep vs l.drop_nil (((F,z7 A.S h A.Dd J)::gL (wd w a b) A r i k d e f g)++lows)).pk (Pk.of2 (M:=[(F,z7 A.S h A.Dd J),(it,cI h 0),(h,bx vs ep)]++gL (wd w a b) A r i k d e f g) [1,2,0,3,4,5,6,7] (by kernel_rfl))) (Lf _) fun D B q=>?_
  obtain ⟨rfl,rfl⟩:=q
  exact ⟨_,Pk.of (M:=[(h,bx vs ep),(F,z7 A.S h A.Dd J)]++gL (wd w a b) A r i k d e f g) [1,0,2,3,4,5,6] (by kernel_rfl),(gB [] J (b7 d e f g) ⟨rfl,rfl⟩)⟩
 | cons x xs=>
  refine bj (fun z t=>?_) (l.drop_cons);obtain ⟨u,n⟩:=t
  have C:=FM w a b fr A r c k (b7 d e f g x) J F it h 0 ep vs x z u (i x) (kl (wd w a b) A r i ((b7 d e f g) .z0) ((b7 d e f g) .z1) ((b7 d e f g) .z2) ((b7 d e f g) .z3) x++lows) (FP F A.S h A.Dd vs ep w a b A r i (x::xs) k lows) (fun v p m=>?_)
  .exact aO.pick2 (M:=[(F,z7 A.S h A.Dd J),(it,cI h 0),(h,bx vs ep)]++gL (wd w a b) A r i k ((b7 d e f g) .z0) ((b7 d e f g) .z1) ((b7 d e f g) .z2) ((b7 d e f g) .z3)) (M3:=kl (wd w a b) A r i ((b7 d e f g) .z0) ((b7 d e f g) .z1) ((b7 d e f g) .z2) ((b7 d e f g) .z3) x) C ([0,1,2,3,kZ 4 x]++rp 4 x) (by cases x<;>kernel_rfl)
  .have s:=FO w a b fr A r c k F it h ep vs lows xs 1 n (bG i x (-1)) (bG (b7 d e f g) x m) v p
   refine aO.pick2 (M:=[(F,uO A.S h A.Dd v p),(it,cI h 1),(h,bx vs ep),(cH A.Dd w a b A r k),(A.I x,ao (A.Dn x) [r x] (-1) (A.U x) m)]++kl (wd w a b) A r i ((b7 d e f g) .z0) ((b7 d e f g) .z1) ((b7 d e f g) .z2) ((b7 d e f g) .z3) x) (M3:=[]) s ([0,1,2,3]++Fr 4 x) (by cases x<;>kernel_rfl) |>.pk ?_
   exact Pk.refl _
theorem FQ(R nf:Int)(v:E4->Int)(X s l m n p:ab)(x:E4->LV)(M O P Q ac G:Nat)(vs:LV)(xs:List E4)(K:af (xs.map fun y=>[r y]) vs)(hz:vs.length < 1000)(lows:Mem) :
  ak w a b fr 9 (bw 116 [.ref A.S]) ((cT (wd w a b) A r (.ref ac) R nf v x X s l m n p M O P Q++[(ac,aa vs G)])++lows)
   (fun D z=>∃(t et H:Nat)(L:Int)(E d f g h:ab),D=.ok (.ret (.ref t))/\z=(cT (wd w a b) A r (.ref ac) L nf (gq (-1) v xs) x E s d f g h M O P Q++[(ac,aa [] H),(t,bx vs et)])++lows):=by
 have hkn:=ee c A
 have U:∀(fr:List Env)(F it k ep:Nat)(lows:Mem)(l m n p J:ab),ak w a b fr 6 (aC i7 it (hV F)) (([(F,z7 A.S k A.Dd J),(it,cI k 0),(k,bx vs ep)]++gL (wd w a b) A r v s l m n p)++lows)
   (fun D z=>∃(C:List (LN × Lc))(B d f g h:ab),D=.ok .next/\z=([(ay F (Hr A.S k A.Dd++C) B),(k,bx vs ep)]++gL (wd w a b) A r (gq (-1) v xs) s d f g h)++lows):=fun fr F it k ep lows l m n p J=>
  (z8 w a b fr A r c s F it k ep vs lows xs K v l m n p J).weakP (Lf _) fun D z q=>by
   refine ma (fun C B i u=>?_) q;apply kW u
   exact ⟨_,Pk.refl _,(ox C B (i .z0) (i .z1) (i .z2) (i .z3) ⟨rfl,rfl⟩)⟩
 apply cW b 0x58104000000400081000000100000000234000040008100000010000000023400d1a00001;intro V N T B0 Z I st
 apply gF b 0x60a101821a38608043c00e003870d1a3410002040000004000000008d1a347001c0070e;intro o;apply zW w a b ac vs G (by kd_p);k_all;intro t J Y T1 st
 apply j0 b;intro o;apply U ([(hV N)]++fr) N Y t J.e lows l m n p (ae (o 12));k_mem;intro V V N2 T2 u;refine qc (fun C B d f g h u=>?_) u;apply iq u;refine ⟨_,_,.refl _,fun Z=>?_⟩;apply dC b 0x340821c0070e1c38480102000000200000000401;intro st
 apply bA b 0x102080010000480102000000200000000401;intro o;apply tG w a b ac vs G (by kd_p);k_all;intro W N3 T3 st
 apply bA b 0x8912240080000008002000010000000020000;intro o;apply px w a b t vs J.e (by kd_p);k_all;intro t1 N4 T4 st
 apply b4 b [7,8,2,3,4,5,6,9,10,11,12,13,1];apply I;intro o τ;refine Cu t J.e W.e (R + (@Nat.cast Int instNatCastInt (@Og Lc vs))) (ae (o 8)) d f g h ⟨?_, ?_⟩;apply rfl;apply rfl;k_mem
end
theorem lN(w:Lj)(a b:Bool)(d:Nat)(kvs:List (LN × Lc))(J:ab)(ep:Nat)(l:(kvs.map (·.1)).Nodup) :
  CT w a b 0 (b9 "dict.values" [.ref d]) [(d,bO (wd w a b) kvs J ep)] (fun m os c=>∃v:Nat,m=.ok (.ret (.ref v))/\os=[bO (wd w a b) kvs J ep]/\c=[(v,az "dict_values" [.ref d])]):=by
 refine bH (by decide +kernel) F.entry_dict_values fun A g h G D O N T R n k p f j=>?_
 refine meets_dict_values (strKind pw (wd w a b)) d (hH k f) A R _ ⟨⟨_,hF (f.get (i:=0) rfl) l⟩, ?_⟩
 have z:=f.alloc (o:=az "dict_values" [.ref d]) rfl
 have e:=f.size
 subst e
 exact j _ [_] [_] _ _ _ ⟨_,rfl,rfl,rfl⟩ rfl z
structure Two where
 Q:Nat
 L:Nat
 eQ:Env
 eL:Env
noncomputable abbrev Two.envs(Y:Two):List Env:=[Y.eQ,Y.eL]
structure Two.Ok(Y:Two):Prop where
 kQ:Y.eQ.scope.kind≠.module
 kL:Y.eL.scope.kind≠.module
 fQ:Y.eQ.frame=Ld Y.Q
 fL:Y.eL.frame=Ld Y.L
theorem Two.Ok.mem{Y:Two}(y:Y.Ok){a oL:Obj}(b:dS a)(hL:dS oL):dG Y.envs [(Y.Q,a),(Y.L,oL)]:=.cons y.kQ y.fQ b (.cons y.kL y.fL hL .nil)
theorem qp(F:Nat):(dL F).scope.kind≠.module:=by
 intro h
 have : (match (dL F).scope.kind with | .module=>Lh | _=>Li)=Li:=by kernel_rfl
 rw [h] at this
 cases this
abbrev Zp(Y:Two)(P:Nat):fK:=⟨P,Y.Q,Y.L,dL P,Y.eQ,Y.eL⟩
theorem zp{Y:Two}(y:Y.Ok)(P:Nat):(Zp Y P).Ok:=⟨qp P,y.kQ,y.kL,rfl,y.fQ,y.fL⟩
abbrev FR(S:Nat)(J:ab):Obj:=aJ [(jo,.ref S)] J
theorem eS(a:List (LN × Lc))(J:ab):dS (aJ a J):=fun vs q=>by cases q
section
variable(w:Lj)(a b:Bool)(Y:Two)(y:Y.Ok)
include w a b Y y
theorem vJ(A:SrtA)(r:E4->Nat)(U:∀i j,r i=r j->i=j)(I nf:Int)(l:E4->Nat)(u g m p q s:ab)(M:E4->List E4)(d:E4->LV)(H:cA r M d)(z B C D:Nat)(t oL:Obj)(hQ:dS t)(hL:dS oL)(n:Nat)(h:dK M n aV []=Ld Li)(X W:Array (Option Lc))(lows:Mem) :
  ak w a b Y.envs 10 (bw 109 [.ref A.S]) (([(Y.Q,aD t X),(Y.L,aD oL W)]++cT (wd w a b) A r .none I nf (cJ l) d u g m p q s z B C D)++lows)
   (fun rr Z=>∃(ac:Nat)(vs:LV)(E:Nat)(x:ab)(f e:Array (Option Lc))(c:Mem),rr=.ok (.ret .none)/\Z=([(Y.Q,aD t f),(Y.L,aD oL e)]++cT (wd w a b) A r (.ref ac) I nf (cJ l) d x g m p q s z B C D++[(ac,aa vs E)])++c/\af ((ar l aV).map fun y=>[r y]) vs):=by
 have hkn:=ee U A
 have FC:=fun(P:Nat)(Jp u:ab)(K:Lc)=>FH w a b (Zp Y P) (zp y P) A r U K I nf (cJ l) u g m p q s M d H z B C D (FR A.S Jp) t oL (eS _ _) hQ hL n h
 have PC:=fun(fr:List Env)=>yK w a b fr A r l g m p q s
 apply cW b 0x100820a002850a14200060c000000c000000018e080018300000030000000063800e1c00001;intro V N T B0 R F st
 apply bA b 0x203860a1080f22201100a147801e0078f;intro o;apply lN w a b A.Dd (vI (r E4.z0) A.i0 (r E4.z1) A.i1 (r E4.z2) A.i2 (r E4.z3) A.i3) g 4 ‹_›;k_all;intro v k T1 st
 apply iW b 0x1c3460b0c1420304284880e3c702002c500000000a000000a000000a202c58b0028000002800a0000500000000a2004081;intro o;apply PC [(dL N),Y.eQ,Y.eL] (k + 2) N k (k + 1) 0 (ae (o 17)) lows;k_all;intro v1 J O E N2 T2 hq R st
 apply j0 b;intro o;apply FC N (ae (o 15)) (ae (o 10)) (.ref (k + 1)) (MT []) X W lows;k_mem;intro V V N3 T3 G;refine gz (fun sP' f e c G=>?_) G;apply iq G;refine ⟨_,_,.refl _,fun R=>?_⟩;apply dC b 16513;intro st
 apply b4 b [1,2,3,4,5,6,7,8,9,10,11,12,13,15];apply F;intro o τ;refine uM (k + 1) O E (ae (o 4)) f e c ⟨?_, ?_,hq⟩;apply rfl;apply rfl;k_mem
def iI:List L4:=ai II
noncomputable abbrev gr(b:Nat)(a:Lc):Obj:={ cls:=.ref 72,data:=.fields ⟨[.ref b,a,.none,.none,.bool Li,.none]⟩ }
section
variable(P:Nat)(A:SrtA)(r:E4->Nat)(X:∀i j,r i=r j->i=j)(x nf:Int)(d:E4->Nat)(F k u p s m:ab)(K:E4->List E4)(c:E4->LV)(B:cA r K c)(e0 e1 e2 z:Nat)(l oL:Obj)(W:dS l)(hL:dS oL)(n:Nat)(h:dK K n aV []=Ld Lh)(E:ab)(H U I:Array (Option Lc))(lows:Mem)
include P A r X x nf d F k u p s m K c B e0 e1 e2 z l oL W hL n h E H U I lows
theorem vK :
  dh w a b Y.envs 9 (.func iI (dL P)) (sT iI (dL P)) (([(P,aD (FR A.S E) H),(Y.Q,aD l U),(Y.L,aD oL I)]++cT (wd w a b) A r .none x nf (cJ d) c F k u p s m e0 e1 e2 z)++lows)
   (fun rr F'=>∃(e tp C:Nat)(Jp':ab)(Z:Array (Option Lc))(ac:Nat)(vs:LV)(ea:Nat)(Js':ab)(sQ' R:Array (Option Lc))(i:Mem),rr=.error (.ref e)/\F'=([(e,gr tp .none),(P,bk [(jo,.ref A.S),(qf,.ref C)] Jp' Z),(Y.Q,aD l sQ'),(Y.L,aD oL R)]++cT (wd w a b) A r (.ref ac) x nf (cJ d) c Js' k u p s m e0 e1 e2 z++[(ac,aa vs ea)])++i/\af ((ar d aV).map fun y=>[r y]) vs):=by
 have hkn:=ee X A
 have FC:=fun(P:Nat)(E F:ab)(rdy:Lc)=>FI w a b (Zp Y P) (zp y P) A r X rdy x nf (cJ d) F k u p s m K c B e0 e1 e2 z (FR A.S E) l oL (eS _ _) W hL n h
 have PC:=fun(fr:List Env)=>yK w a b fr A r d k u p s m
 refine mu fun A₀ R₀ g0 g G D O N T hA hfr hk0 hl0 hk hl hT fin=>?_
 refine ⟨36242471122779347199186638436676194292238778301286393834163183385845956608513, ?_⟩
 refine bL (hA.mono (by decide)) hk hl (fun o=>lN w a b (Mine.SrtA.Dd A) [([(r Mine.E4.z0)],(Lv (Mine.SrtA.i0 A))),([(r Mine.E4.z1)],(Lv (Mine.SrtA.i1 A))),([(r Mine.E4.z2)],(Lv (Mine.SrtA.i2 A))),([(r Mine.E4.z3)],(Lv (Mine.SrtA.i3 A)))] k 4 ‹_›) (by generalize b=f;revert f;refine cV ?_;kernel_rfl) ?_
 intro V V V N1 T1 M;refine bj (fun v q=>?_) M;apply m8 q;intro V
 refine ⟨770988828646646246068482044481530496911, ?_⟩
 refine ca (hA.mono (by decide)) hfr hk0 hl0 hT (fun o=>PC [(dL P),(Mine.Two.eQ Y),(Mine.Two.eL Y)] (N1 + 2) P N1 (N1 + 1) 0 (ae (o 17)) lows) (by generalize b=f;revert f;refine cV ?_;kernel_rfl) (by generalize b=f;cases f<;>kernel_rfl) ?_
 intro V V N2 T2 M;refine gz (fun v1 J vs' ea q=>?_) M;apply gu q;intro hq
 refine ⟨_,_,.refl _,fun g hk hl hT=>⟨1190742355038141856034016830348098510019530518724975328090249408100469718836086936428680859928195685364647916558368897, ?_⟩⟩
 refine ca (hA.mono (by decide)) hfr hk0 hl0 hT (fun o=>FC P E (ae (o 11)) (Lv (N1 + 1)) H U I lows) (by generalize b=f;revert f;refine cV ?_;kernel_rfl) (by generalize b=f;cases f<;>kernel_rfl) ?_
 intro V V N3 T3 M;refine oO (fun C vs v2 ec Z sQ' R i q=>?_) M;apply gu q;intro hq1
 refine ⟨_,_,.refl _,fun g hk hl hT=>⟨1693317708398721, ?_⟩⟩
 refine bL (hA.mono (by decide)) hk hl (fun o=>pn w a b C vs v2 ec (by kd_p)) (by generalize b=f;revert f;refine cV ?_;kernel_rfl) ?_
 intro V V V N4 T4 M;refine d9 (fun n1 t q=>?_) M;apply y8 q;intro hq2;intro V
 refine ⟨128, ?_⟩
 refine yn hA hk hl (by generalize b=f;revert f;refine cV ?_;kernel_rfl) ?_
 intro p1 below1
 refine ⟨4212750785625489224886132644858321236600695180591088558116175872000, ?_⟩
 refine ve (is:=[19,0,1,2,4,5,6,7,8,9,10,11,12,13,14,16]) hT fin (fun o=>(uS (N4 + 1) (N4 + 2) C (ae (o 0)) Z (N1 + 1) vs' ea (ae (o 5)) sQ' R i ⟨rfl,rfl,hq⟩)) (by generalize b=f;revert f;refine cV ?_;kernel_rfl)
theorem vL :
  ak w a b Y.envs 9 (.func iI (dL P)) (([(P,aD (FR A.S E) H),(Y.Q,aD l U),(Y.L,aD oL I)]++cT (wd w a b) A r .none x nf (cJ d) c F k u p s m e0 e1 e2 z)++lows)
   (fun rr F'=>∃(e tp T1:Nat)(tb:LV)(ac:Nat)(vs:LV)(ea:Nat)(o:ab)(J v:Array (Option Lc))(i:Mem),rr=.error (.ref e)/\F'=([(e,gr tp (.ref T1)),(iD T1 P tb),(Y.Q,aD l J),(Y.L,aD oL v)]++cT (wd w a b) A r (.ref ac) x nf (cJ d) c o k u p s m e0 e1 e2 z++[(ac,aa vs ea)])++i/\af ((ar d aV).map fun y=>[r y]) vs):=by
 intro AA g t G D O N T R hA hfr hk hl hR fin
 refine o9 ?_
 have C:=vK w a b Y y P A r X x nf d F k u p s m K c B e0 e1 e2 z l oL W hL n h E H U I lows AA g t G D O N T (fun rr s'=>∃e,rr=.error e/\L7 (Lw pw (wd w a b)) (AA.under (.func iI (dL P))) (Po (dL P) e) (fun V s2=>R (.error e) s2) (fun V V=>False) s') hA hfr hk hl hR ?_
 .refine OW C (fun f s' q=>?_) (fun e s' q=>?_)
  .intro f' hf
   subst hf
   refine bj (fun e t=>?_) q;obtain ⟨h1,_⟩:=t
   cases h1
  .refine bj (fun e' t=>?_) q;obtain ⟨h1,h2⟩:=t
   cases h1
   exact h2
 .intro rr F' N1 T1 h1 q0;refine uR (fun e tp C Z sP' ac vs ea o J v i t=>?_) q0;apply gu t;intro hvs;intro R1
  refine ⟨_,rfl, ?_⟩
  have fm:dG (dL P::Y.envs) [(P,bk [(jo,.ref A.S),(qf,.ref C)] Z sP'),(Y.Q,aD l J),(Y.L,aD oL v)]:=.cons (qp P) rfl (fun vs q=>by cases q) (y.mem W hL)
  have hfr2:(AA.under (.func iI (dL P))).frames=Ld (dL P::Y.envs):=by
   show TB [dL P] AA.frames=_
   rw [hfr];rfl
  have R2:=Rep.pickL (L:=[(P,bk [(jo,.ref A.S),(qf,.ref C)] Z sP'),(Y.Q,aD l J),(Y.L,aD oL v)]++(e,gr tp .none)::(cT (wd w a b) A r (.ref ac) x nf (cJ d) c o k u p s m e0 e1 e2 z++[(ac,aa vs ea)])) [1,2,3,0,4,5,6,7,8,9,10,11,12,13,14,15] R1 (by kernel_rfl)
  refine nB hfr2 rfl fm R2 fun h2 frs' T2 tb hu R3=>?_
  refine d9 (fun sP2 r1 t=>?_) (hu.split);obtain ⟨rfl,hu1⟩:=t
  refine d9 (fun sQ2 r2 t=>?_) (hu1.split);obtain ⟨rfl,hu2⟩:=t
  refine d9 (fun sL2 r3 t=>?_) (hu2.split);obtain ⟨rfl,hu3⟩:=t
  obtain rfl:=hu3.none
  have R4:=Rep.pickL (M:=[(P,aD (bk [(jo,.ref A.S),(qf,.ref C)] Z sP') sP2),(Y.Q,aD l sQ2),(Y.L,aD oL sL2),(e,gr tp (.ref T2)),(iD T2 P tb)]++(cT (wd w a b) A r (.ref ac) x nf (cJ d) c o k u p s m e0 e1 e2 z++[(ac,aa vs ea)])) (lows:=i)
   (L:=[(e,gr tp (.ref T2)),(iD T2 P tb),(Y.Q,aD l sQ2),(Y.L,aD oL sL2)]++cT (wd w a b) A r (.ref ac) x nf (cJ d) c o k u p s m e0 e1 e2 z++[(ac,aa vs ea)]) [3,4,1,2,5,6,7,8,9,10,11,12,13,14,15,16] R3 (by kernel_rfl)
  exact fin _ _ _ _ _ (qU e tp T2 tb ac vs ea o sQ2 sL2 i ⟨rfl,rfl,hvs⟩) R4
end
theorem vM(A:SrtA)(r:E4->Nat)(hr:∀i j,r i=r j->i=j)(H nf:Int)(g:E4->Nat)(R z t u v x:ab)(su:E4->List E4)(d:E4->LV)(X:cA r su d)(C D E F:Nat)(m oL:Obj)(hQ:dS m)(hL:dS oL)(n:Nat)(h:dK su n aV []=Ld Lh)(s p:Array (Option Lc))(lows:Mem) :
  ak w a b Y.envs 9 (bw 109 [.ref A.S]) (([(Y.Q,aD m s),(Y.L,aD oL p)]++cT (wd w a b) A r .none H nf (cJ g) d R z t u v x C D E F)++lows)
   (fun M K=>∃(e J B P:Nat)(I:LV)(ac:Nat)(vs:LV)(G:Nat)(f:ab)(l k:Array (Option Lc))(c:Mem),M=.error (.ref e)/\K=([(e,gr J (.ref B)),(iD B P I),(Y.Q,aD m l),(Y.L,aD oL k)]++cT (wd w a b) A r (.ref ac) H nf (cJ g) d f z t u v x C D E F++[(ac,aa vs G)])++c/\af ((ar g aV).map fun y=>[r y]) vs):=by
 have U:∀(P:Nat)(O:ab)(sP s p:Array (Option Lc))(lows:Mem),ak w a b Y.envs 9 (.func iI (dL P)) (([(P,aD (FR A.S O) sP),(Y.Q,aD m s),(Y.L,aD oL p)]++cT (wd w a b) A r .none H nf (cJ g) d R z t u v x C D E F)++lows)
   (fun M K=>∃(e J B P:Nat)(I:LV)(ac:Nat)(vs:LV)(G:Nat)(f:ab)(l k:Array (Option Lc))(c:Mem),M=.error (.ref e)/\K=([(e,gr J (.ref B)),(iD B P I),(Y.Q,aD m l),(Y.L,aD oL k)]++cT (wd w a b) A r (.ref ac) H nf (cJ g) d f z t u v x C D E F++[(ac,aa vs G)])++c/\af ((ar g aV).map fun y=>[r y]) vs):=fun P O sP s p lows=>aO.weakP (vL w a b Y y P A r hr H nf g R z t u v x su d X C D E F m oL hQ hL n h O sP s p lows) (Lf _) fun M K q=>by
  refine ni (fun e J T2 I ac vs G f sQ2 sL2 c h0=>?_) q;apply gu h0;intro Z
  exact ⟨_,Pk.refl _,(uS e J T2 P I ac vs G f sQ2 sL2 c ⟨rfl,rfl,Z⟩)⟩
 apply cW b 106866671617;intro V N T B0 Y0 W st
 apply lB b [13,0,1,2,3,4,5,6,7,8,9,10,11,12];apply W;intro o;apply U N (ae (o 13)) (MT []) s p lows;k_mem
end
theorem dj(w:Lj)(a b:Bool)(S j d:Nat)(kvs:List (LN × Lc))(h:ab)(ep:Nat)(c:LN)(l:Nat)(r nf:Int)(n:ab)(x:(kvs.map (·.1)).Nodup)(q:am kvs c=Lk)(hz:kvs.length < 1000) :
  CT w a b 5 (bw 104 [.ref S,sv c l]) [(S,cu 154 j),(j,fh d .none r nf n),(d,bO (wd w a b) kvs h ep)]
   (fun y os f=>∃(m v p:Nat)(u i t:ab),y=.ok (.ret .none)/\os=[cu 154 j,fh d .none r nf n,bO (wd w a b) (kvs++[(c,.ref m)]) i (ep + 1)]/\f=[(m,ao v c 0 p u),(p,aa [] t.e)]):=by
 apply fE b 0x101040c006060c18304000810000001000000002180060c183000004005040400000000800000080000008504000810000001000000002140050a142850a00001;intro V N T V z D k st
 apply aE b 0x808206001830c080010200000020000000043080020000000000010000000000000000000800200001000000002048800200000000000100000000000000000008002000010000000020488002000000000001000000000000000000080020000100000000204890024489120000100000001000400000000000000000000000000000000000000000000000000000000000c00306;intro o;apply vq w a b d kvs h ep c l x q;k_all;intro g B st
 apply bA b 0x1a2c584162c00b002c00b001000408144001000000000000800000000000000000040010000080000000100000400100040000280002000800000000000400000000000000000000000100000000202850a18306;intro o;apply vt w a b d kvs h ep c l (.ref (g + 1)) hz q;k_all;intro s A C st
 apply fT b [0,1,2,7,9];apply k;intro o τ;refine ox (g + 1) g (g + 3) (ae (o 7)) s (ae (o 9)) ⟨?_, ?_, ?_⟩;apply rfl;apply rfl;apply rfl;rfl;k_mem
noncomputable def ru:L4:=ax bd 25
def hX:L4:=ax (ai ru) 2
def Hs:L4:=ax (ai ru) 7
def bm(F:Nat):Env:=⟨bY ru,F,3,[],⟨#[95,108,97,119,95,114,111,117,110,100,115,46,60,108,111,99,97,108,115,62,46]⟩,Ld 278,.ref 277,Ld F,0⟩
noncomputable abbrev Ht(a b S:Nat)(v:Lc):List (LN × Lc):=[(fD,.ref a),(dT,.ref b),(qe,.ref S),(jB,v)]
noncomputable abbrev lp(a b S:Nat)(v c:Lc):List (LN × Lc):=[(fD,.ref a),(dT,.ref b),(qe,.ref S),(jB,v),(ir,c)]
abbrev mH (x0 x1 x2 x3 x4 x5 x6 x7):=[(ay x0 x1 x2),(x3,al x4 x5),(x4,aa x6 x7)]
section
variable(w:Lj)(a b:Bool)(fr:List Env)(A:SrtA)(r:E4->Nat)(x:∀i j,r i=r j->i=j)(s nf:Int)(l:E4->Int)(c:E4->LV)(k h n f m e J:ab)(e0 e1 e2 g F it v d i u:Nat)(v0:Lc)
include w a b fr A r x s nf l c k h n f m e J e0 e1 e2 g F it v d i u v0
theorem z9(y:LV)(p q:E4)(U:Nat)(W:y[i]? = Ld (sv [r p,r q] U))(R:q≠p)(hz:∀i,(c i).length < 50000)(lows:Mem)(z:Lm->Mem->Prop)(IH:∀(X:Lc)(t:Nat)(J k h n f m e:ab)(e0 e1 e2 g:Nat),ak w a b fr 6 (aC hX it (bm F)) (((mH F (lp v d A.S v0 X) J it d (i + 1) y u)++cT (wd w a b) A r .none s nf (bG l q (l q + 1)) (bG c p (c p++[sv [r q] t])) k h n f m e e0 e1 e2 g)++lows) z) :
  ak w a b fr 6 (aC hX it (bm F)) (((mH F (Ht v d A.S v0) J it d i y u)++cT (wd w a b) A r .none s nf l c k h n f m e e0 e1 e2 g)++lows) z:=by
 apply cW b 0x4041020400100;intro V N T Y Y0 P st
 apply aE b 0x68c16284880e18284062c100000008000042840000000080000008000000804081;intro o;apply aG w a b it d i y u (sv [(r p),(r q)] U) W;k_all;intro Z I st
 apply lg b;intro o;apply to w a b A r x s nf l c k h n f m e e0 e1 e2 g q p (I + 2) (I + 4) R hz;k_mem;intro V V V N2 T2 Q V;refine qS (fun H G B C D E K L M O Q=>?_) Q;apply dX Q;apply dC b 3;intro st
 apply lB b [0,1,2,3,4,5,6,7,8,9,10,11,12,13];apply P;intro o;apply IH (sv [(r p),(r q)] U) (I + 2) (ae (o 0)) H G B C D E K L M O;k_mem
theorem Aa(W:Lc)(y:LV)(p q:E4)(U:Nat)(X:y[i]? = Ld (sv [r p,r q] U))(R:q≠p)(hz:∀i,(c i).length < 50000)(lows:Mem)(z:Lm->Mem->Prop)(IH:∀(W:Lc)(t:Nat)(J k h n f m e:ab)(e0 e1 e2 g:Nat),ak w a b fr 6 (aC hX it (bm F)) (((mH F (lp v d A.S v0 W) J it d (i + 1) y u)++cT (wd w a b) A r .none s nf (bG l q (l q + 1)) (bG c p (c p++[sv [r q] t])) k h n f m e e0 e1 e2 g)++lows) z) :
  ak w a b fr 6 (aC hX it (bm F)) (((mH F (lp v d A.S v0 W) J it d i y u)++cT (wd w a b) A r .none s nf l c k h n f m e e0 e1 e2 g)++lows) z:=by
 apply cW b 0x4041020400100;intro V N T Y Y0 P st
 apply aE b 0x68c16284880e18284062c100000008000042840000000080000008000000804081;intro o;apply aG w a b it d i y u (sv [(r p),(r q)] U) X;k_all;intro Z I st
 apply lg b;intro o;apply to w a b A r x s nf l c k h n f m e e0 e1 e2 g q p (I + 2) (I + 4) R hz;k_mem;intro V V V N2 T2 Q V;refine qS (fun H G B C D E K L M O Q=>?_) Q;apply dX Q;apply dC b 3;intro st
 apply lB b [0,1,2,3,4,5,6,7,8,9,10,11,12,13];apply P;intro o;apply IH (sv [(r p),(r q)] U) (I + 2) (ae (o 0)) H G B C D E K L M O;k_mem
end
theorem Ab(w:Lj)(a b:Bool)(fr:List Env)(F it d i f:Nat)(c:LV)(g:c.length<=i)(lows:Mem) :
  ak w a b fr 6 (aC hX it (bm F)) ([(it,al d i),(d,aa c f)]++lows)
   (d6 .next [(d,aa c f)] lows):=by
 apply cW b 563019211866240;intro V N T h l e st
 apply gF b 3;intro o;apply aP w a b it d i c f g;k_all;intro x m j k st
 apply b4 b [1];apply e;intro o τ;refine ⟨?_, ?_⟩;apply rfl;apply rfl;k_mem
theorem cB{M:Model}{Γ:Ctx}{env:Env}{E:Lc->Pos->Ly->Prop}(a:List L4):∀(b:List L4)(Q:Oi->Pos->Ly->Prop)(p:Pos)(s:Ly),
  Mz M Γ (OH b env) (fun f p s=>match f with | .next=>Mz M Γ (OH a env) Q E p s|f=>Q f p s) E p s->Mz M Γ (OH (b++a) env) Q E p s
 | [],Q,p,s,h=>h
 | st::b,Q,p,s,h=>by
  rw [MI,Na,Lp]
  rw [Na,Lp] at h
  refine Lt M Γ _ (fun f d e c=>?_) (fun V V V x=>x) p s h
  cases f with
  | next=>exact cB a b Q d e c
  | _=>exact c
noncomputable def vN(a:List L4)(c:Pos)(b:List L4)(env:Env):Sem Fin:=
 point >>= fun V=>L5 a env >>= fun f=>match f with
  | .next=>O5 c >>= fun V=>(L5 b env).attempt >>= fun r=>match r with
   | .ok .next=>Ob (.done .next)
   | .ok _=>Ob (.done .cont)
   | .error e=>Ob (.done (.ret e))
  | _=>Ob (.done .cont)
noncomputable def i9(a:List L4)(env:Env):Sem Fin:=
 L5 a env >>= fun f=>match f with
  | .ret v=>ret v
  | _=>ret .none
theorem tJ{prog:LU}{w:Lj}{A:L9}{R:Lm->Ly->Prop}{s:Ly}{g B a:List L4}{F:MD}{C:Pos}{env:Env}{c:Mk}(I:c=.func (g ++ .Try B [F] [] [] C::a) env)(S:NE (Lw prog w) A c (vN g C B env) (fun b i=>∀f,b=.done f ->
   (f=.next/\NE (Lw prog w) A c (i9 a env) (fun b d=>∀f,b=.done f->R (.ok f) d) (fun V V=>False) i) ∨
   (∃e,f=.ret e/\L7 (Lw prog w) (A.under c) (Nc e env) (fun V d=>L7 (Lw prog w) (A.under c) (OT e Lk) (fun V m=>L7 (Lw prog w) (A.under c) (RQ e env [F]) (fun f z=>f=.next /\
    NE (Lw prog w) A c (i9 a env) (fun b d=>∀f,b=.done f->R (.ok f) d) (fun V V=>False) z) (fun V V=>False) m) (fun V V=>False) d) (fun V V=>False) i)) (fun V V=>False) s) :
  Mm (Lw prog w) A c R s:=by
 refine PD (prog:=prog) (w:=w) A R s _ ?_
 intro Γ p G l
 have H:=S Γ p G l
 unfold vN at H
 rw [<- Mc] at H
 have k:Γ.In (A.under c):=by have:=l.in;rwa [G] at this
 have K:Mz (Lw prog w) Γ (OH g env >>= fun f=>match f with
  | .next=>O5 C >>= fun V=>(OH B env).attempt >>= fun r=>match r with
   | .ok .next=>(Ob (.done .next):Sem Fin)
   | .ok _=>Ob (.done .cont)
   | .error e=>Ob (.done (.ret e))
  | _=>Ob (.done .cont)) _ _ p s:=H
 rw [I]
 show Mz (Lw prog w) Γ ((OH (g ++ .Try B [F] [] [] C::a) env).onRaise (Po env) >>= fun f=>match f with
  | .ret v=>ret v
  | _=>ret .none) _ _ p s
 rw [Lp,Ny]
 rw [Lp] at K
 have j:∀u i,NE (Lw prog w) A c (i9 a env) (fun b d=>∀f,b=.done f->R (.ok f) d) (fun V V=>False) i->∀E:Lc->Pos->Ly->Prop,
   Mz (Lw prog w) Γ (OH a env) (fun f y d=>Mz (Lw prog w) Γ (match f with | .ret v=>ret v | _=>ret .none) (fun b V i=>PR prog w A R b i) (fun e V i=>Qw R e i) y d) E u i:=by
  intro u i h E
  have D:=h Γ u G l
  unfold i9 at D
  rw [<- Mc,Lp] at D
  refine Lt (Lw prog w) Γ _ (fun f y d q=>?_) (fun V V V x=>x.elim) u i D
  cases f with
  | ret v=>exact q _ rfl
  | _=>exact q _ rfl
 refine cB _ g _ p s ?_
 refine Lt (Lw prog w) Γ _ (fun f U X o=>?_) (fun V V V x=>x.elim) p s K
 cases f with
 | next=>
  dsimp only at o ⊢
  rw [Lp] at o
  rw [Na,Lp,arm_exec_Try,Lp]
  refine Lt (Lw prog w) Γ _ (fun V y d L=>?_) (fun V V V x=>x.elim) U X o
  rw [Lp,Pq] at L
  dsimp only [tryStmt]
  simp only [O2,if_true,Rx,So,Nf,if_false]
  rw [Lp,Pq]
  refine Lt (Lw prog w) Γ _ (fun f n m t=>?_) (fun e n m t=>?_) y d L
  .cases f with
   | next=>
    obtain ⟨_,h4⟩ | ⟨e,h,_⟩:=t _ rfl
    .exact j n m h4 _
    .cases h
   | _=>
    obtain ⟨h,_⟩ | ⟨e,h,_⟩:=t _ rfl<;>cases h
  .obtain ⟨h,_⟩ | ⟨e',h,h4⟩:=t _ rfl
   .cases h
   cases h
   show Mz (Lw prog w) Γ (Nc e env >>= _) _ _ n m
   rw [Lp]
   refine Lt (Lw prog w) Γ _ (fun V J z N=>?_) (fun V V V x=>x.elim) n m (h4 Γ n k)
   show Mz (Lw prog w) Γ (OT e Lk >>= _) _ _ J z
   rw [Lp]
   refine Lt (Lw prog w) Γ _ (fun V M Y O=>?_) (fun V V V x=>x.elim) J z (N Γ J k)
   refine Lt (Lw prog w) Γ _ (fun f W Z P=>?_) (fun V V V x=>x.elim) M Y (O Γ M k)
   obtain ⟨rfl,Q⟩:=P
   exact j W Z Q _
 | _=>
  obtain ⟨h,_⟩ | ⟨e,h,_⟩:=o _ rfl<;>cases h
def aA:List (E4 × E4)->(E4->Nat)->(E4->List E4)->(E4->Nat) × (E4->List E4)
 | [],a,b=>(a,b)
 | (p,q)::l,a,b=>aA l (bG a q (a q + 1)) (bG b p (b p++[q]))
theorem qq(a:E4->Nat)(q:E4):bG (cJ a) q (cJ a q + 1)=cJ (bG a q (a q + 1)):=funext fun j=>by cases q<;>cases j<;>rfl
theorem cA.upd{r:E4->Nat}{b:E4->List E4}{a:E4->LV}(h:cA r b a)(p q:E4)(t:Nat):cA r (bG b p (b p++[q])) (bG a p (a p++[sv [r q] t])):=by
 intro x
 have c:=h x
 have hp:=h p
 cases p<;>cases x<;>first|exact c|(show af (NK _ (_++_)) _;rw [LC];exact hp.append (.one _ _))
noncomputable def bz(r:E4->Nat)(a:List (E4 × E4)):List (Nat × Nat):=a.map fun p=>(r p.1,r p.2)
theorem nR{a:E4->List E4}{p q:E4}{n:Nat}(h:∀x,(a x).length<=n):∀x,(bG a p (a p++[q]) x).length<=n + 1:=by
 intro x
 have b:=h x
 have hp:=h p
 cases p<;>cases x<;>first|exact NS b|(show Og (_++_:List E4)<=_;rw [Lq,Pe];exact MZ hp)
section
variable(w:Lj)(a b:Bool)(fr:List Env)(A:SrtA)(r:E4->Nat)(g:∀i j,r i=r j->i=j)(f nf:Int)(F it e c d:Nat)(v0:Lc)(stv:LV)(lows:Mem)
include w a b fr A r g f nf F it e c d v0 stv lows
theorem FS(k:List (E4 × E4)):∀(i:Nat)(hs:bC (bz r k) (stv.drop i))(hne:∀p∈k,p.2≠p.1)(G:E4->Nat)(I:E4->List E4)(h:E4->LV)(m:cA r I h)(n:Nat)(K:∀x,(I x).length<=n)(Z:n + k.length < 1000)(z y o s u v J:ab)(B C D E:Nat)(l:Lc),
  ak w a b fr 6 (aC hX it (bm F)) (((mH F (lp e c A.S v0 l) J it c i stv d)++cT (wd w a b) A r .none f nf (cJ G) h z y o s u v B C D E)++lows)
   (fun rr F'=>∃(l:Lc)(J R Q L N O P:ab)(U W X Y:Nat)(H:E4->LV),rr=.ok .next/\F'=([(ay F (lp e c A.S v0 l) J),(c,aa stv d)]++cT (wd w a b) A r .none f nf (cJ (aA k G I).1) H R Q L N O P U W X Y)++lows/\cA r (aA k G I).2 H):=by
 induction k with
 | nil=>
  intro i hs hne G I h m n K Z z y o s u v J B C D E l
  refine aO.weakP ((Ab w a b fr F it c i d stv (bC.end_drop hs) (((ay F (lp e c A.S v0 l) J)::cT (wd w a b) A r .none f nf (cJ G) h z y o s u v B C D E)++lows)).pk (Pk.of2 (M:=(mH F (lp e c A.S v0 l) J it c i stv d)++cT (wd w a b) A r .none f nf (cJ G) h z y o s u v B C D E) [1,2,0,3,4,5,6,7,8,9,10,11,12,13] (by kernel_rfl))) (Lf _) fun rr F' q=>?_
  obtain ⟨rfl,rfl⟩:=q
  exact ⟨_,Pk.of (M:=[(c,aa stv d),(ay F (lp e c A.S v0 l) J)]++cT (wd w a b) A r .none f nf (cJ G) h z y o s u v B C D E) [1,0,2,3,4,5,6,7,8,9,10,11,12] (by kernel_rfl),(rU l J z y o s u v B C D E h ⟨rfl,rfl,m⟩)⟩
 | cons pq k ih=>
  obtain ⟨p,q⟩:=pq
  intro i hs hne G I h m n K Z z y o s u v J B C D E l
  refine bj (fun ts h0=>?_) (bC.at_drop hs);obtain ⟨hv,hs'⟩:=h0
  simp only [Ls] at Z
  refine Aa w a b fr A r g f nf (cJ G) h z y o s u v J B C D E F it e c i d v0 l stv p q ts hv (hne (p,q) (.head _)) (fun x=>by rw [(m x).length,Ln];have:=K x;kd_p) lows _ fun l t J z y o s u v B C D E=>?_
  rw [qq]
  exact ih (i + 1) hs' (fun p hp=>hne p (.tail _ hp)) _ _ _ (m.upd p q t) (n + 1) (nR K) (by kd_p) z y o s u v J B C D E l
theorem tK(p q:E4)(sts' h:List (E4 × E4))(m:h=(p,q)::sts')(hs:bC (bz r h) stv)(hne:∀p∈h,p.2≠p.1)(G:E4->Nat)(H:E4->List E4)(l:E4->LV)(n:cA r H l)(Y:∀x,(H x).length<=0)(hn:h.length < 1000)(z y o s u v J:ab)(B C D E:Nat) :
  ak w a b fr 6 (aC hX it (bm F)) (((mH F (Ht e c A.S v0) J it c 0 stv d)++cT (wd w a b) A r .none f nf (cJ G) l z y o s u v B C D E)++lows)
   (fun rr Z=>∃(X:Lc)(J O N I K L M:ab)(P Q R U:Nat)(k:E4->LV),rr=.ok .next/\Z=([(ay F (lp e c A.S v0 X) J),(c,aa stv d)]++cT (wd w a b) A r .none f nf (cJ (aA h G H).1) k O N I K L M P Q R U)++lows/\cA r (aA h G H).2 k):=by
 subst m
 obtain ⟨ts,hv,W⟩:=bC.at_drop (i:=0) hs
 simp only [Ls] at hn
 refine z9 w a b fr A r g f nf (cJ G) l z y o s u v J B C D E F it e c 0 d v0 stv p q ts hv (hne (p,q) (.head _)) (fun x=>by rw [(n x).length,Ln];have:=Y x;kd_p) lows _ fun X t J z y o s u v B C D E=>?_
 rw [qq]
 exact FS w a b fr A r g f nf F it e c d v0 stv lows sts' 1 W (fun p hp=>hne p (.tail _ hp)) _ _ _ (n.upd p q t) 1 (nR Y) (by kd_p) z y o s u v J B C D E X
end
def dk:L4:=ax (ai ru) 4
def tL:List L4:=[ax (ai ru) 0,ax (ai ru) 1,ax (ai ru) 2,ax (ai ru) 3]
def km:List L4:=[ax (ai ru) 5,ax (ai ru) 6,ax (ai ru) 7,ax (ai ru) 8]
abbrev Ki:MD:=.ExceptHandler (Ld (Ho (k9 dk))) Lk (Hp (k9 dk)) (Cj (k9 dk))
abbrev nS(F:Nat):Mk:=.func (ai ru) (bm F)
theorem FT(F:Nat):nS F=.func (tL ++ .Try (lK dk) [Ki] [] [] (rm dk)::km) (bm F):=by kernel_rfl
theorem qr(F:Nat):(bm F).scope.kind≠.module:=by
 intro h
 have : (match (bm F).scope.kind with | .module=>Lh | _=>Li)=Li:=by kernel_rfl
 rw [h] at this
 cases this
noncomputable abbrev tM(a b S:Nat)(v d c:Lc):List (LN × Lc):=[(fD,.ref a),(dT,.ref b),(qe,.ref S),(jB,v),(ir,d),(gV,c)]
abbrev bq(r:E4->Nat)(J:ab):Obj:=aa [sv [r .z0] (J.t 0),sv [r .z1] (J.t 1),sv [r .z2] (J.t 2),sv [r .z3] (J.t 3)] J.e
structure vO where
 L:Nat
 eL:Env
structure vO.Ok(X:vO):Prop where
 kL:X.eL.scope.kind≠.module
 fL:X.eL.frame=Ld X.L
abbrev Yl(X:vO)(F:Nat):Two:=⟨F,X.L,bm F,X.eL⟩
theorem yl{X:vO}(x:X.Ok)(F:Nat):(Yl X F).Ok:=⟨qr F,x.kL,rfl,x.fL⟩
abbrev jw (x0 x1 x2 x3 x4 x5 x6 x7 x8):=((x0,bk (tM x1 x2 x3 x4 x5 (.bool x6)) x7 x8):Nat × Obj)
section
variable(w:Lj)(a b:Bool)(F c d S:Nat)(v0 v1:Lc)(f:ab)(sl:Array (Option Lc))(x e:Nat)
include w a b F c d S v0 v1 f sl x e
theorem Ac(k:Lc) :
  Hn w a b 5 (.handlers (.ref x) (vw (k9 dk)) (bm F)) [(jw F c d S v0 v1 Li f sl),(x,gr e k)]
   (go .brk [bk (tM c d S v0 v1 (.bool Li)) f sl,gr e k]):=by
 refine jE fun i j g G D O N T m n p h=>?_
 refine ⟨68719476736, ?_⟩
 refine gX (is:=[0,1]) h (fun o τ=>⟨rfl,⟨rfl,rfl⟩⟩) rfl (by generalize b=l;revert l;refine cV ?_;kernel_rfl)
theorem Ae(j:Nat)(n p q:Lc)(r:LV) :
  Hn w a b 5 (.handlers (.ref x) (Hm (k9 dk)) (bm F)) [(jw F c d S v0 v1 Li f sl),(x,gr e (.ref j)),(j,az "traceback" (n::p::q :: .none::r))]
   (fun t os h=>∃i:ab,t=.ok .next/\os=[bk (tM c d S v0 v1 (.bool Lh)) i sl,gr e (.ref j),az "traceback" (n::p::q :: .none::r)]/\h=[]):=by
 refine jE fun l m g G D O N T u v y k=>?_
 refine ⟨34634514688, ?_⟩
 refine gX (is:=[0,1,2]) k (fun o τ=>⟨(ae (o 0)),⟨rfl,⟨rfl,rfl⟩⟩⟩) rfl (by generalize b=s;revert s;refine cV ?_;kernel_rfl)
end
noncomputable abbrev dD (x0):=aA x0 (fun V=>0) fun V=>[]
abbrev FU (x0 x1 x2 x3 x4 x5 x6 x7 x8 x9 x10 x11 x12 x13):=(fun m l=>∃(n:Lc)(J g f b c d e:ab)(h i j k:Nat)(a:E4->LV),m=.ok .next/\l=([(ay x0 (lp x1 x2 x3 x4 n) J),(x2,aa x5 x6)]++cT (wd x7 x8 x9) x10 x11 .none 0 0 (cJ (dD x12).1) a g f b c d e h i j k)++x13/\cA x11 (dD x12).2 a:Lm->Mem->Prop)
section
variable(w:Lj)(a b:Bool)(X:vO)(x:X.Ok)(F:Nat)(r:E4->Nat)(l:∀i j,r i=r j->i=j)(f d k:Nat)(c J:ab)(stv:LV)(p q:E4)(sts' sts:List (E4 × E4))(g:sts=(p,q)::sts')(hs:bC (bz r sts) stv)(hne:∀p∈sts,p.2≠p.1)(m:sts.length < 900)(oL:Obj)(hL:dS oL)(n:Nat)
include w a b X x F r l f d k c J stv p q sts' sts g hs hne m oL hL n
theorem Af(h:dK (dD sts).2 n aV []=Ld Li)(sL:Array (Option Lc))(lows:Mem) :
  dh w a b [X.eL] 12 (nS F) (vN tL (rm dk) (lK dk) (bm F)) ([(ay F [(fD,.ref f),(dT,.ref d)] J),(X.L,aD oL sL),(f,bq r c),(d,aa stv k)]++lows)
   (fun rr F'=>∃(A:SrtA)(O v1:Lc)(Jf R Q B C D E:ab)(sl sL':Array (Option Lc))(G H I K ac ea:Nat)(vs:LV)(s:E4->LV)(u:Mem),rr=.ok .next/\F'=([(jw F f d A.S O v1 Li Jf sl),(X.L,aD oL sL'),(f,bq r c),(d,aa stv k)]++cT (wd w a b) A r (.ref ac) 0 0 (cJ (dD sts).1) s R Q B C D E G H I K++[(ac,aa vs ea)])++u/\af ((ar (dD sts).1 aV).map fun y=>[r y]) vs/\cA r (dD sts).2 s):=by
 have m:∀i j:E4,i≠j->¬ (r i=r j):=fun i j h q=>h (l i j q)
 have hsu0:cA r (fun V=>[]) (b7 [] [] [] []):=fun x=>by cases x<;>exact .nil
 have SL:∀(fr:List Env)(A:SrtA)(F it:Nat)(O:Lc)(lows:Mem)(Js Jd J0 J1 J2 J3 J:ab)(e0 e1 e2 e3:Nat),ak w a b fr 6 (aC hX it (bm F)) (((mH F (Ht f d A.S O) J it d 0 stv k)++cT (wd w a b) A r .none 0 0 (cJ fun V=>0) (b7 [] [] [] []) Js Jd J0 J1 J2 J3 e0 e1 e2 e3)++lows)
   (FU F f d A.S O stv k w a b A r sts lows):=fun fr A F it O lows Js Jd J0 J1 J2 J3 J e0 e1 e2 e3=>
  tK w a b fr A r l 0 0 F it f d k O stv lows p q sts' sts g hs hne (fun V=>0) (fun V=>[]) (b7 [] [] [] []) hsu0 (fun V=>Lf _) (by kd_p) Js Jd J0 J1 J2 J3 J e0 e1 e2 e3
 have PN:=fun(F:Nat)(Jf:ab)(O v1:Lc)(A:SrtA)(suv:E4->LV)(hsu:cA r (dD sts).2 suv)(Js Jd J0 J1 J2 J3:ab)(e0 e1 e2 e3:Nat)=>vJ w a b (Yl X F) (yl x F) A r l 0 0 (dD sts).1 Js Jd J0 J1 J2 J3 (dD sts).2 suv hsu e0 e1 e2 e3 (aJ (tM f d A.S O v1 (.bool Li)) Jf) oL (eS _ _) hL n h
 apply fU b 0x3840a0c10002143000000006000000600000060204089120c48900240090024003000c18102043850a14006000000600180000c0000000183850a14006000000600180000c0000000183850a14006000000600180000c0000000183850a14006000000600180000c0000000183800e1c387000000100000000c003000000000000000000000000000000000000000000000000000;intro V N T B0 Y0 fin st
 apply mv b 0x1c20506080010a18000000030000003000000301020448906244801200480;intro o;apply dj w a b (N + 1) N (N + 3) [] (ae (o 7)) 0 [(r E4.z0)] (c.t 0) 0 0 (ae (o 4)) (by simp [am,m]) (by simp [am,m]) (by simp [am,m]);k_all;intro In dn Un Jn Q Jl N1 T1 st
 apply mv b 0x1c20506080010a18000000030000003000000301020448906244801200480;intro o;apply dj w a b (N + 1) N (N + 3) [([(r E4.z0)],(Lv In))] Q 1 [(r E4.z1)] (c.t 1) 0 0 (ae (o 4)) (by simp [am,m]) (by simp [am,m]) (by simp [am,m]);k_all;intro v Z U Jn1 Jd'1 Jl1 N2 T2 st
 apply mv b 0x1c20506080010a18000000030000003000000301020448906244801200480;intro o;apply dj w a b (N + 1) N (N + 3) [([(r E4.z0)],(Lv In)),([(r E4.z1)],(Lv v))] Jd'1 2 [(r E4.z2)] (c.t 2) 0 0 (ae (o 4)) (by simp [am,m]) (by simp [am,m]) (by simp [am,m]);k_all;intro z dn2 W Jn2 Jd'2 Jl2 N3 T3 st
 apply mv b 0x4070c143c68b121c205064c00e04500040010201004c48906244801200480;intro o;apply dj w a b (N + 1) N (N + 3) [([(r E4.z0)],(Lv In)),([(r E4.z1)],(Lv v)),([(r E4.z2)],(Lv z))] Jd'2 3 [(r E4.z3)] (c.t 3) 0 0 (ae (o 4)) (by simp [am,m]) (by simp [am,m]) (by simp [am,m]);k_all;intro P dn3 Y Jn3 Jd'3 Jl3 N4 T4 st
 apply j0 b;intro o;apply SL [(bm F),X.eL] (SrtA.mk (N + 1) N (N + 3) In v z P dn Z dn2 dn3 Un U W Y) F (N4 + 2) (sv [(r E4.z3)] (c.t 3)) lows (ae (o 4)) Jd'3 Jn Jn1 Jn2 Jn3 (ae (o 0)) Jl.e Jl1.e Jl2.e Jl3.e;k_mem;intro V V N5 T5 h0;refine qT (fun v1 J1 R M B C D E G H I K s h0=>?_) h0;apply jt h0;intro hq;refine ⟨_,_,.refl _,fun Y0=>?_⟩;apply dC b 0x60b14244070c14203043400d04002030000000060000006000000604081;intro st
 apply j0 b;intro o;apply PN F (ae (o 0)) (sv [(r E4.z3)] (c.t 3)) v1 (SrtA.mk (N + 1) N (N + 3) In v z P dn Z dn2 dn3 Un U W Y) s ‹_› R M B C D E G H I K (MT []) sL lows;k_mem;intro V V N6 T6 h0;refine uL (fun ac vs ea Js'1 sQ' sL' u h0=>?_) h0;apply jt h0;intro hq1;refine ⟨_,_,.refl _,fun Y0=>?_⟩;apply dC b 0;intro st
 apply b4 b [0,1,15,14,2,3,4,5,6,7,8,9,10,11,12,13];apply fin;intro o τ;refine rT (SrtA.mk (N + 1) N (N + 3) In v z P dn Z dn2 dn3 Un U W Y) (sv [(r E4.z3)] (c.t 3)) v1 (ae (o 0)) Js'1 M B C D E (qU sQ' sL' G H I K ac ea vs s u ⟨?_, ?_,hq1,‹_›⟩);apply rfl;apply rfl;k_mem
theorem Ag(h:dK (dD sts).2 n aV []=Ld Lh)(sL:Array (Option Lc))(lows:Mem) :
  dh w a b [X.eL] 12 (nS F) (vN tL (rm dk) (lK dk) (bm F)) ([(ay F [(fD,.ref f),(dT,.ref d)] J),(X.L,aD oL sL),(f,bq r c),(d,aa stv k)]++lows)
   (fun rr F'=>∃(e tp T1 P:Nat)(tb:LV)(A:SrtA)(O v1:Lc)(Jf U R B C D E:ab)(sl sL':Array (Option Lc))(G H I K ac ea:Nat)(vs:LV)(s:E4->LV)(u:Mem),rr=.ok (.ret (.ref e))/\F'=([(e,gr tp (.ref T1)),(iD T1 P tb),(jw F f d A.S O v1 Li Jf sl),(X.L,aD oL sL'),(f,bq r c),(d,aa stv k)]++cT (wd w a b) A r (.ref ac) 0 0 (cJ (dD sts).1) s U R B C D E G H I K++[(ac,aa vs ea)])++u/\af ((ar (dD sts).1 aV).map fun y=>[r y]) vs/\cA r (dD sts).2 s):=by
 have m:∀i j:E4,i≠j->¬ (r i=r j):=fun i j h q=>h (l i j q)
 have hsu0:cA r (fun V=>[]) (b7 [] [] [] []):=fun x=>by cases x<;>exact .nil
 have SL:∀(fr:List Env)(A:SrtA)(F it:Nat)(O:Lc)(lows:Mem)(Js Jd J0 J1 J2 J3 J:ab)(e0 e1 e2 e3:Nat),ak w a b fr 6 (aC hX it (bm F)) (((mH F (Ht f d A.S O) J it d 0 stv k)++cT (wd w a b) A r .none 0 0 (cJ fun V=>0) (b7 [] [] [] []) Js Jd J0 J1 J2 J3 e0 e1 e2 e3)++lows)
   (FU F f d A.S O stv k w a b A r sts lows):=fun fr A F it O lows Js Jd J0 J1 J2 J3 J e0 e1 e2 e3=>
  tK w a b fr A r l 0 0 F it f d k O stv lows p q sts' sts g hs hne (fun V=>0) (fun V=>[]) (b7 [] [] [] []) hsu0 (fun V=>Lf _) (by kd_p) Js Jd J0 J1 J2 J3 J e0 e1 e2 e3
 have PN:=fun(F:Nat)(Jf:ab)(O v1:Lc)(A:SrtA)(suv:E4->LV)(hsu:cA r (dD sts).2 suv)(Js Jd J0 J1 J2 J3:ab)(e0 e1 e2 e3:Nat)=>vM w a b (Yl X F) (yl x F) A r l 0 0 (dD sts).1 Js Jd J0 J1 J2 J3 (dD sts).2 suv hsu e0 e1 e2 e3 (aJ (tM f d A.S O v1 (.bool Li)) Jf) oL (eS _ _) hL n h
 apply fU b 0x3840a0c10002143000000006000000600000060204089120c48900240090024003000c18102043850a14006000000600180000c0000000183850a14006000000600180000c0000000183850a14006000000600180000c0000000183850a14006000000600180000c0000000183800e1c387000000100000000c003000000000000000000000000000000000000000000000000000;intro V N T B0 Y0 fin st
 apply mv b 0x1c20506080010a18000000030000003000000301020448906244801200480;intro o;apply dj w a b (N + 1) N (N + 3) [] (ae (o 7)) 0 [(r E4.z0)] (c.t 0) 0 0 (ae (o 4)) (by simp [am,m]) (by simp [am,m]) (by simp [am,m]);k_all;intro In dn Un Jn R Jl N1 T1 st
 apply mv b 0x1c20506080010a18000000030000003000000301020448906244801200480;intro o;apply dj w a b (N + 1) N (N + 3) [([(r E4.z0)],(Lv In))] R 1 [(r E4.z1)] (c.t 1) 0 0 (ae (o 4)) (by simp [am,m]) (by simp [am,m]) (by simp [am,m]);k_all;intro v dn1 W Jn1 Jd'1 Jl1 N2 T2 st
 apply mv b 0x1c20506080010a18000000030000003000000301020448906244801200480;intro o;apply dj w a b (N + 1) N (N + 3) [([(r E4.z0)],(Lv In)),([(r E4.z1)],(Lv v))] Jd'1 2 [(r E4.z2)] (c.t 2) 0 0 (ae (o 4)) (by simp [am,m]) (by simp [am,m]) (by simp [am,m]);k_all;intro z dn2 Y Jn2 Jd'2 Jl2 N3 T3 st
 apply mv b 0x4070c143c68b121c205064c00e04500040010201004c48906244801200480;intro o;apply dj w a b (N + 1) N (N + 3) [([(r E4.z0)],(Lv In)),([(r E4.z1)],(Lv v)),([(r E4.z2)],(Lv z))] Jd'2 3 [(r E4.z3)] (c.t 3) 0 0 (ae (o 4)) (by simp [am,m]) (by simp [am,m]) (by simp [am,m]);k_all;intro Q dn3 Z Jn3 Jd'3 Jl3 N4 T4 st
 apply j0 b;intro o;apply SL [(bm F),X.eL] (SrtA.mk (N + 1) N (N + 3) In v z Q dn dn1 dn2 dn3 Un W Y Z) F (N4 + 2) (sv [(r E4.z3)] (c.t 3)) lows (ae (o 4)) Jd'3 Jn Jn1 Jn2 Jn3 (ae (o 0)) Jl.e Jl1.e Jl2.e Jl3.e;k_mem;intro V V N5 T5 h0;refine qT (fun v1 J1 U M B C D E G H I K s h0=>?_) h0;apply jt h0;intro hq;refine ⟨_,_,.refl _,fun Y0=>?_⟩;apply dC b 0x60b14244070c14203043400d04002030000000060000006000000604081;intro st
 apply j0 b;intro o;apply PN F (ae (o 0)) (sv [(r E4.z3)] (c.t 3)) v1 (SrtA.mk (N + 1) N (N + 3) In v z Q dn dn1 dn2 dn3 Un W Y Z) s ‹_› U M B C D E G H I K (MT []) sL lows;k_mem;intro V V N6 T6 h0;refine uR (fun e tp T11 P tb ac vs ea Js'1 sQ' sL' u h0=>?_) h0;apply jt h0;intro hq1;refine ⟨_,_,.refl _,fun Y0=>?_⟩;apply dC b 0;intro st
 apply b4 b [0,1,2,3,17,16,4,5,6,7,8,9,10,11,12,13,14,15];apply fin;intro o τ;refine rU e tp T11 P tb (SrtA.mk (N + 1) N (N + 3) In v z Q dn dn1 dn2 dn3 Un W Y Z) (sv [(r E4.z3)] (c.t 3)) v1 (ae (o 2)) Js'1 M B C (rU D E sQ' sL' G H I K ac ea vs s u ⟨?_, ?_,hq1,‹_›⟩);apply rfl;apply rfl;k_mem
end
def Kj:L4:=ax (ai (ax bd 7)) 7
def ja:L4:=ax (ai Kj) 2
def jx:L4:=ax (ai ja) 4
def cK(F:Nat):Env:=⟨bY Kj,F,3,[],⟨#[84,111,112,111,108,111,103,105,99,97,108,83,111,114,116,101,114,46,100,111,110,101,46,60,108,111,99,97,108,115,62,46]⟩,Ld 137,.ref 136,Ld F,0⟩
noncomputable abbrev tN(S b a:Nat):List (LN × Lc):=[(jo,.ref S),([110,111,100,101,115],.ref b),(lA,.ref a)]
noncomputable abbrev lO(S e d:Nat)(a b c:Lc):List (LN × Lc):=[(jo,.ref S),([110,111,100,101,115],.ref e),(lA,.ref d),(jL,a),([110,111,100,101,105,110,102,111],b),([115,116,97,116],c)]
noncomputable abbrev vP(a b:Lc):List (LN × Lc):=[([115,117,99,99,101,115,115,111,114],a),([115,117,99,99,101,115,115,111,114,95,105,110,102,111],b)]
def Hu(s:E4)(d e:Lc):List (LN × Lc):=match s with
 | .z0=>[] | .z1=>[] | _=>vP d e
noncomputable def nI:E4->Int
 | .z0=>2 | .z2=>2 | _=>3
noncomputable def nJ:E4->Int
 | .z0=>1 | .z2=>1 | _=>2
section
variable(w:Lj)(a b:Bool)(fr:List Env)(s:E4)(A:SrtA)(r:E4->Nat)(v:∀i j,r i=r j->i=j)(n nf:Int)(t k h J:ab)(F p it c i l ac f:Nat)(q x m v1 v2:Lc)(g vs:LV)(hz:vs.length < 1000)(y:E4)(d:Nat)(z:g[i]? = Ld (sv [r y] d))(u:Int)
include w a b fr s A r v n nf t k h J F p it c i l ac f q x m v1 v2 g vs hz y d z u
theorem tO(E:u=1)(lows:Mem)(B:Lm->Mem->Prop)(IH:∀(v1 v2:Lc)(J h:ab)(f:Nat),ak w a b fr 6 (aC jx it (cK F)) ([(ay F (lO A.S p A.Dd q x m++vP v1 v2) J),(it,al c (i + 1)),(c,aa g l),(A.S,cu 154 A.Sd),(A.Sd,fh A.Dd (.ref ac) n nf t),(cg ac vs [sv [r y] d] f),(cH A.Dd w a b A r k),(A.I y,ao (A.Dn y) [r y] 0 (A.U y) h)]++lows) B) :
  ak w a b fr 6 (aC jx it (cK F)) ([(ay F (lO A.S p A.Dd q x m++Hu s v1 v2) J),(it,al c i),(c,aa g l),(A.S,cu 154 A.Sd),(A.Sd,fh A.Dd (.ref ac) n nf t),(ac,aa vs f),(cH A.Dd w a b A r k),(A.I y,ao (A.Dn y) [r y] u (A.U y) h)]++lows) B:=by
 subst E
 have H:=ee v A
 have D:=i5 v A y
 apply eY b s 0x4041020400100;intro V N T K W C st
 apply bo b s 0xc04107001c3870204081;intro o;apply aG w a b it c i g l (sv [(r y)] d) z;k_all;intro L P st
 apply bo b s 0x5020830002183060c14004080000008000000010080002000800000000000400000000000000000000000100000000200880020000000000010000000000000000000800200001000000002000010004000000000002000000000000000000000000800000001004081;intro o;apply aY w a b A.Dd (kY A r) k 4 [(r y)] d (.ref (A.I y)) ‹_› D;k_all;intro M Q st
 apply cP b s 3;intro o;apply aB w a b ac vs (sv [(r y)] d) f (by kd_p);k_all;intro G O R st
 apply gT b s [0,1,2,3,4,5,6,7];apply C;intro o;apply IH (sv [(r y)] d) (.ref (A.I y)) (ae (o 0)) (ae (o 7)) G.e;k_mem
theorem mI(D:u=nI s)(lows:Mem)(e:Lm->Mem->Prop)(IH:∀(v1 v2:Lc)(J h:ab)(f:Nat),ak w a b fr 6 (aC jx it (cK F)) ([(ay F (lO A.S p A.Dd q x m++vP v1 v2) J),(it,al c (i + 1)),(c,aa g l),(A.S,cu 154 A.Sd),(A.Sd,fh A.Dd (.ref ac) n nf t),(ac,aa (vs) f),(cH A.Dd w a b A r k),(A.I y,ao (A.Dn y) [r y] (nJ s) (A.U y) h)]++lows) e) :
  ak w a b fr 6 (aC jx it (cK F)) ([(ay F (lO A.S p A.Dd q x m++Hu s v1 v2) J),(it,al c i),(c,aa g l),(A.S,cu 154 A.Sd),(A.Sd,fh A.Dd (.ref ac) n nf t),(ac,aa vs f),(cH A.Dd w a b A r k),(A.I y,ao (A.Dn y) [r y] u (A.U y) h)]++lows) e:=by
 subst D
 have E:=ee v A
 have C:=i5 v A y
 apply eY b s 0x4041020400100;intro V N T G O B st
 apply bo b s 0xc04107001c3870204081;intro o;apply aG w a b it c i g l (sv [(r y)] d) z;k_all;intro H L st
 apply bo b s 0x180002000800000000000400000000000000000000000100000000200880020000000000010000000000000000000800200001000000002000010004000000000002000000000000000000000000800000001004081;intro o;apply aY w a b A.Dd (kY A r) k 4 [(r y)] d (.ref (A.I y)) ‹_› C;k_all;intro K M st
 apply gT b s [0,1,2,3,4,5,6,7];apply B;intro o;apply IH (sv [(r y)] d) (.ref (A.I y)) (ae (o 0)) (ae (o 7)) f;k_mem
end
theorem Ah(w:Lj)(a b:Bool)(fr:List Env)(F it c i e:Nat)(d:LV)(g:d.length<=i)(lows:Mem) :
  ak w a b fr 6 (aC jx it (cK F)) ([(it,al c i),(c,aa d e)]++lows)
   (d6 .next [(c,aa d e)] lows):=by
 apply cW b 563019211866240;intro V N T h l f st
 apply gF b 3;intro o;apply aP w a b it c i d e g;k_all;intro x m j k st
 apply b4 b [1];apply f;intro o τ;refine ⟨?_, ?_⟩;apply rfl;apply rfl;k_mem
def pz(a:E4->Int)(b:List E4):List E4->Option ((E4->Int) × List E4)
 | []=>Ld (a,b)
 | y::ys=>if a y=1 then pz (bG a y 0) (b++[y]) ys else if a y=2 then pz (bG a y 1) b ys else if a y=3 then pz (bG a y 2) b ys else Lk
noncomputable def KI:E4->LN
 | .z0=>[2,11,12,13] | .z1=>[11,2,12,13] | .z2=>[11,12,2,13] | .z3=>[11,12,13,2]
def ko(a:List (LN × Lc)):Prop:=a=[]∨∃b c,a=vP b c
abbrev pA (x0 x1 x2 x3 x4 x5 x6 x7 x8 x9 x10 x11 x12 x13 x14 x15):=[(ay x0 (lO x1 x2 x3 x4 x5 x6++x7) x8),(x1,cu 154 x9),(x9,fh x3 (.ref x10) x11 x12 x13),(x10,aa x14 x15)]
abbrev f2 (x0 x1 x2 x3 x4 x5 x6 x7 x8 x9 x10 x11 x12 x13 x14 x15 x16):=x0++gL (wd x1 x2 x3) x4 x5 x6 x7 x8 x9 x10 x11++u4 x4 x12 x13 x14 x15 x16
abbrev vQ (x0 x1 x2 x3 x4 x5 x6 x7 x8 x9 x10 x11 x12 x13 x14 x15 x16 x17 x18):=[(ay x0 (lO x1 x2 x3 x4 x5 x6++x7) x8),(x9,al x10 x11),(x1,cu 154 x12),(x12,fh x3 (.ref x13) x14 x15 x16),(x13,aa x17 x18)]
set_option tactic.hygienic true in
theorem tP(w:Lj)(a b:Bool)(fr:List Env)(A:SrtA)(r:E4->Nat)(Z:∀i j,r i=r j->i=j)(B nf:Int)(u t:ab)(d:E4->LV)(h k l m:Nat)(F z it ac:Nat)(D E G:Lc)(x:E4)(lows:Mem)(K:(E4->Int) × List E4)(ys:List E4) :
  ∀(i:Nat)(W:af (ys.map fun y=>[r y]) ((d x).drop i))(n:E4->Int)(X:List E4)(hd:pz n X ys=Ld K)(hsz:X.length + ys.length < 900)(vs:LV)(H:af (X.map fun y=>[r y]) vs)(s:Nat)(c:E4->ab)(J:ab)(v:List (LN × Lc))(N:ko v),
  ak w a b fr 6 (aC jx it (cK F)) ((f2 (vQ F A.S z A.Dd D E G v J it (A.U x) i A.Sd ac B nf u vs s) w a b A r n t (c .z0) (c .z1) (c .z2) (c .z3) d h k l m)++lows)
   (fun rr F'=>∃(v:List (LN × Lc))(J:ab)(g:LV)(L:Nat)(p:E4->ab),rr=.ok .next/\F'=(f2 (pA F A.S z A.Dd D E G v J A.Sd ac B nf u g L) w a b A r K.1 t (p .z0) (p .z1) (p .z2) (p .z3) d h k l m)++lows/\af (K.2.map fun y=>[r y]) g/\ko v):=by
 induction ys with
 | nil=>
  intro i W n X hd hsz vs H s c J v N
  have e:(n,X)=K:=MK hd;subst e
  refine aO.weakP ((Ah w a b fr F it (A.U x) i (b7 h k l m x) (d x) W.drop_nil (((pA F A.S z A.Dd D E G v J A.Sd ac B nf u vs s)++gL (wd w a b) A r n t (c .z0) (c .z1) (c .z2) (c .z3)++nb A d h k l m x)++lows)).pk (Pk.of2 (M:=(vQ F A.S z A.Dd D E G v J it (A.U x) i A.Sd ac B nf u vs s)++gL (wd w a b) A r n t (c .z0) (c .z1) (c .z2) (c .z3)++u4 A d h k l m) ([1,kZ 10 x,0,2,3,4,5,6,7,8,9]++rp 10 x) (by apply pf x;kernel_rfl))) (Lf _) fun rr F' q=>?_
  obtain ⟨rfl,rfl⟩:=q
  refine ⟨_, ?_,(m7 v J vs s c ⟨rfl,rfl,H,N⟩)⟩
  exact Pk.of (M:=[(A.U x,aa (d x) (b7 h k l m x))]++((pA F A.S z A.Dd D E G v J A.Sd ac B nf u vs s)++gL (wd w a b) A r n t (c .z0) (c .z1) (c .z2) (c .z3)++nb A d h k l m x)) ([1,2,3,4,5,6,7,8,9]++(match x with | .z0=>[0,10,11,12] | .z1=>[10,0,11,12] | .z2=>[10,11,0,12] | .z3=>[10,11,12,0])) (by apply pf x;kernel_rfl)
 | cons y ys ih=>
  intro i W n X hd hsz vs H s c J v N
  refine bj (fun Y h0=>?_) W.drop_cons;have hv:=h0.1;have hys':=h0.2
  simp only [Ls] at hsz
  have hz:vs.length < 1000:=by rw [H.length,Ln];kd_p
  have o:∀(m':Int)(g:LV)(P:List E4),af (P.map fun y=>[r y]) g->P.length + ys.length < 900->pz (bG n y m') P ys=Ld K ->
    (∀(O:Mem)(f:Lm->Mem->Prop)(IH:∀(Q R:Lc)(J Ji:ab)(s:Nat),ak w a b fr 6 (aC jx it (cK F)) ([(ay F (lO A.S z A.Dd D E G++vP Q R) J),(it,al (A.U x) (i + 1)),(A.U x,aa (d x) (b7 h k l m x)),(A.S,cu 154 A.Sd),(A.Sd,fh A.Dd (.ref ac) B nf u),(ac,aa g s),(cH A.Dd w a b A r t),(A.I y,ao (A.Dn y) [r y] m' (A.U y) Ji)]++O) f),
     ak w a b fr 6 (aC jx it (cK F)) ([(ay F (lO A.S z A.Dd D E G++v) J),(it,al (A.U x) i),(A.U x,aa (d x) (b7 h k l m x)),(A.S,cu 154 A.Sd),(A.Sd,fh A.Dd (.ref ac) B nf u),(ac,aa vs s),(cH A.Dd w a b A r t),(A.I y,ao (A.Dn y) [r y] (n y) (A.U y) (c y))]++O) f) ->
    ak w a b fr 6 (aC jx it (cK F)) ((f2 (vQ F A.S z A.Dd D E G v J it (A.U x) i A.Sd ac B nf u vs s) w a b A r n t (c .z0) (c .z1) (c .z2) (c .z3) d h k l m)++lows)
     (fun rr F'=>∃(v:List (LN × Lc))(J:ab)(g:LV)(L:Nat)(p:E4->ab),rr=.ok .next/\F'=(f2 (pA F A.S z A.Dd D E G v J A.Sd ac B nf u g L) w a b A r K.1 t (p .z0) (p .z1) (p .z2) (p .z3) d h k l m)++lows/\af (K.2.map fun y=>[r y]) g/\ko v):=by
   intro m' g P hvs' hsz' hd' T
   refine aO.pick2 (M:=(vQ F A.S z A.Dd D E G v J it (A.U x) i A.Sd ac B nf u vs s)++gL (wd w a b) A r n t (c .z0) (c .z1) (c .z2) (c .z3)++u4 A d h k l m) (M3:=kl (wd w a b) A r n (c .z0) (c .z1) (c .z2) (c .z3) y++nb A d h k l m x) (T ((kl (wd w a b) A r n (c .z0) (c .z1) (c .z2) (c .z3) y++nb A d h k l m x)++lows) _ fun Q R J' Ji' L=>?_) ([0,1,kZ 10 x,2,3,4,5,kZ 6 y]++rp 6 y++rp 10 x) (by apply Hk x y;kernel_rfl)
   have C2:=ih (i + 1) hys' (bG n y m') P hd' hsz' g hvs' L (bG c y Ji') J' (vP Q R) (.inr (jm Q R rfl))
   refine aO.pick2 (M:=[(ay F (lO A.S z A.Dd D E G++vP Q R) J'),(it,al (A.U x) (i + 1)),(A.U x,aa (d x) (b7 h k l m x)),(A.S,cu 154 A.Sd),(A.Sd,fh A.Dd (.ref ac) B nf u),(ac,aa g L),(cH A.Dd w a b A r t),(A.I y,ao (A.Dn y) [r y] m' (A.U y) Ji')]++(kl (wd w a b) A r n (c .z0) (c .z1) (c .z2) (c .z3) y++nb A d h k l m x)) (M3:=[]) C2 ([0,1,3,4,5,6]++Fr 7 y++KI x) (by apply Hk x y;kernel_rfl) |>.pk ?_
   exact Pk.refl _
  unfold pz at hd
  split at hd
  .rename_i hm
   refine o 0 (vs++[sv [r y] Y]) (X++[y]) (by rw [LC];exact H.append (.one _ _)) (by simp only [Lq,Ls,LQ];kd_p) hd fun O f IH=>?_
   refine bp fun C kC=>?_;clear o;rcases N with rfl | ⟨Q,R,rfl⟩
   .apply kC;clear kC
    exact tO w a b fr .z0 A r Z B nf u t (c y) J F z it (A.U x) i (b7 h k l m x) ac s D E G .none .none (d x) vs hz y Y hv (n y) hm O f IH
   .apply kC;clear kC
    exact tO w a b fr .z2 A r Z B nf u t (c y) J F z it (A.U x) i (b7 h k l m x) ac s D E G Q R (d x) vs hz y Y hv (n y) hm O f IH
  .split at hd
   .rename_i hm
    refine o 1 vs X H (by kd_p) hd fun O f IH=>?_
    clear o;rcases N with rfl | ⟨Q,R,rfl⟩
    .exact mI w a b fr .z0 A r Z B nf u t (c y) J F z it (A.U x) i (b7 h k l m x) ac s D E G .none .none (d x) vs hz y Y hv (n y) hm O f IH
    .exact mI w a b fr .z2 A r Z B nf u t (c y) J F z it (A.U x) i (b7 h k l m x) ac s D E G Q R (d x) vs hz y Y hv (n y) hm O f IH
   .split at hd
    .rename_i hm
     refine o 2 vs X H (by kd_p) hd fun O f IH=>?_
     clear o;rcases N with rfl | ⟨Q,R,rfl⟩
     .exact mI w a b fr .z1 A r Z B nf u t (c y) J F z it (A.U x) i (b7 h k l m x) ac s D E G .none .none (d x) vs hz y Y hv (n y) hm O f IH
     .exact mI w a b fr .z3 A r Z B nf u t (c y) J F z it (A.U x) i (b7 h k l m x) ac s D E G Q R (d x) vs hz y Y hv (n y) hm O f IH
    .cases hd
def KJ(s:E4)(S g f:Nat)(a b c d e:Lc):List (LN × Lc):=match s with
 | .z0=>tN S g f | _=>lO S g f a b c++Hu s d e
abbrev mJ (x0 x1 x2 x3 x4 x5 x6 x7 x8 x9 x10 x11 x12 x13 x14 x15 x16):=([(x0,aJ x1 x2),(x3,cI x4 x5),(x4,bx x6 x7),(x8,cu 154 x9),(x9,fh x10 (.ref x11) x12 x13 x14),(x11,aa x15 x16)] : Mem)
abbrev tQ (x0 x1 x2 x3 x4 x5 x6 x7 x8 x9 x10 x11 x12 x13 x14 x15 x16 x17 x18 x19 x20 x21):=[(ay x0 x1 x2),(x3,al x4 0),(x5,cu 154 x6),(x6,fh x7 (.ref x8) x9 x10 x11),(x8,aa x12 x13),(cH x7 x14 x15 x16 x17 x18 x19),x20,x21]
theorem tR(w:Lj)(a b:Bool)(fr:List Env)(s:E4)(A:SrtA)(r:E4->Nat)(hr:∀i j,r i=r j->i=j)(M nf:Int)(z v y J:ab)(c:E4->LV)(E G H K F e it i ep ac L:Nat)(k l m v1 v2:Lc)(ns vs:LV)(x:E4)(D:Nat)(hv:ns[i]? = Ld (sv [r x] D))(np:Int)(Y:np = -1)(C:E4->Int)(P:LV->Prop)(Q:List (LN × Lc)->Prop)(lw lows:Mem)(f:Lm->Mem->Prop)(IN:∀(k l m:Lc)(it:Nat)(J y:ab),ak w a b fr 6 (aC jx it (cK F)) ((tQ F (lO A.S e A.Dd k l m++Hu s v1 v2) J it (A.U x) A.S A.Sd A.Dd ac M nf z vs L w a b A r v (A.I x,ao (A.Dn x) [r x] (-2) (A.U x) y) (A.U x,aa (c x) (b7 E G H K x)))++lw)
   (fun rr F'=>∃(h:List (LN × Lc))(J:ab)(d:LV)(g:Nat)(n p q u:ab),rr=.ok .next/\F'=(f2 (pA F A.S e A.Dd k l m h J A.Sd ac M nf z d g) w a b A r C v n p q u c E G H K)++lows/\P d/\Q h))(IH:∀(k l m:Lc)(h:List (LN × Lc))(hes:Q h)(J z:ab)(nf:Int)(vs:LV)(hvs:P vs)(L:Nat)(n p q u:ab),ak w a b fr 7 (aC ja it (cK F)) ((f2 (mJ F (lO A.S e A.Dd k l m++h) J it e (i + 1) ns ep A.S A.Sd A.Dd ac M nf z vs L) w a b A r C v n p q u c E G H K)++lows) f) :
  ak w a b fr 7 (aC ja it (cK F)) ([(ay F (KJ s A.S e A.Dd k l m v1 v2) J),(it,cI e i),(e,bx ns ep),(A.S,cu 154 A.Sd),(A.Sd,fh A.Dd (.ref ac) M nf z),(ac,aa vs L),(cH A.Dd w a b A r v),(A.I x,ao (A.Dn x) [r x] np (A.U x) y),(A.U x,aa (c x) (b7 E G H K x))]++lw) f:=by
 subst Y
 have hkn:=ee hr A
 have X:=i5 hr A x
 apply eY b s 0x4041020400100;intro V N T B0 Y0 R st
 apply bo b s 0x60208380021c3870e04081;intro o;apply mF w a b it e i ns ep (sv [(r x)] D) hv;k_all;intro N1 T1 st
 apply bo b s 0x80e182840624008042800900244880020000000000010000000000000000000000004000000008022000800000000000400000000000000000020008000040000000080200000000408110004000000000002000000000000000000000000800000001004081;intro o;apply pi w a b A.Dd (kY A r) v 4 [(r x)] D (.ref (A.I x)) ‹_› X;k_all;intro N2 T2 st
 apply vj b s;intro o;apply IN (sv [(r x)] D) (.ref (A.I x)) (.int (Ty 0) (y.t 1)) N2 (ae (o 0)) (ae (o 7));k_mem;intro V V N3 T3 W;refine oO (fun h p d g n O q u W=>?_) W;apply jt W;intro B;refine ⟨_,_,.refl _,fun Y0=>?_⟩;apply na b s 0x60c18300080000008002000010000000020000180040800000080000000101;intro st
 have hq:=B.1
 have Z:=B.2
 apply gT b s [0,13,14,1,2,3,4,5,6,7,8,9,10,11,12];apply R;intro o;apply IH (sv [(r x)] D) (.ref (A.I x)) (.int (Ty 0) (y.t 1)) h Z p (ae (o 2)) (nf + 1) d hq g n O q u;k_mem
theorem Ai(w:Lj)(a b:Bool)(fr:List Env)(F it d i ep:Nat)(ns:LV)(e:ns.length<=i)(lows:Mem) :
  ak w a b fr 7 (aC ja it (cK F)) ([(it,cI d i),(d,bx ns ep)]++lows)
   (d6 .next [] lows):=by
 apply cW b 563019211866240;intro V N T f j c st
 apply gF b 3;intro o;apply i6 w a b it d i ns ep e;k_all;intro x k g h st
 apply b4 b [];apply c;intro o τ;refine ⟨?_, ?_⟩;apply rfl;apply rfl;k_mem
def jb(e:E4->List E4)(b:E4->Int)(d:List E4):List E4->Option ((E4->Int) × List E4)
 | []=>Ld (b,d)
 | x::xs=>if b x = -1 then (match pz (bG b x (-2)) d (e x) with
   | some (c,a)=>if 800 < a.length then Lk else jb e c a xs
   | none=>Lk) else Lk
noncomputable def FV:E4->LN
 | .z0=>[6,8,9,10,7,11,12,13] | .z1=>[8,6,9,10,11,7,12,13] | .z2=>[8,9,6,10,11,12,7,13] | .z3=>[8,9,10,6,11,12,13,7]
abbrev tS (x0 x1 x2 x3 x4 x5 x6 x7 x8):=([(x0,cu 154 x1),(x1,fh x2 (.ref x3) x4 x5 x6),(x3,aa x7 x8)] : Mem)
set_option tactic.hygienic true in
theorem FW(w:Lj)(a b:Bool)(fr:List Env)(A:SrtA)(r:E4->Nat)(hr:∀i j,r i=r j->i=j)(N:Int)(L:ab)(su:E4->List E4)(d:E4->LV)(hsu:cA r su d)(hsl:∀x,(su x).length < 50)(n o p s:Nat)(F z it ac ep:Nat)(ns:LV)(lows:Mem)(Z:(E4->Int) × List E4)(xs:List E4) :
  ∀(i:Nat)(Y:af (xs.map fun y=>[r y]) (ns.drop i))(t:E4->Int)(rd:List E4)(hd:jb su t rd xs=Ld Z)(hsz:rd.length < 801)(nf:Int)(B:ab)(vs:LV)(X:af (rd.map fun y=>[r y]) vs)(D:Nat)(c:E4->ab)(J:ab)(g h k:Lc)(v:List (LN × Lc))(E:ko v),
  ak w a b fr 7 (aC ja it (cK F)) ((f2 (mJ F (lO A.S z A.Dd g h k++v) J it z i ns ep A.S A.Sd A.Dd ac N nf B vs D) w a b A r t L (c .z0) (c .z1) (c .z2) (c .z3) d n o p s)++lows)
   (fun rr F'=>∃(W:Int)(P:ab)(f:LV)(l:Nat)(O:E4->ab),rr=.ok .next/\F'=(f2 (tS A.S A.Sd A.Dd ac N W P f l) w a b A r Z.1 L (O .z0) (O .z1) (O .z2) (O .z3) d n o p s)++lows/\af (Z.2.map fun y=>[r y]) f):=by
 induction xs with
 | nil=>
  intro i Y t rd hd hsz nf B vs X D c J g h k v E
  have e:(t,rd)=Z:=MK hd;subst e
  refine aO.weakP ((Ai w a b fr F it z i ep ns Y.drop_nil ((f2 (tS A.S A.Sd A.Dd ac N nf B vs D) w a b A r t L (c .z0) (c .z1) (c .z2) (c .z3) d n o p s)++lows)).pk (Pk.of2 (M:=(mJ F (lO A.S z A.Dd g h k++v) J it z i ns ep A.S A.Sd A.Dd ac N nf B vs D)++gL (wd w a b) A r t L (c .z0) (c .z1) (c .z2) (c .z3)++u4 A d n o p s) [1,2,3,4,5,6,7,8,9,10,11,12,13,14] (by kernel_rfl))) (Lf _) fun rr F' q=>?_
  obtain ⟨rfl,rfl⟩:=q
  exact ⟨_,Pk.refl _,(m7 nf B vs D c ⟨rfl,rfl,X⟩)⟩
 | cons x xs ih=>
  intro i Y t rd hd hsz nf B vs X D c J g h k v E
  refine bj (fun tx h0=>?_) (Y.drop_cons);obtain ⟨hv,hxs'⟩:=h0
  refine bp fun C kC=>?_
  unfold jb at hd
  split at hd
  .rename_i hm
   split at hd
   .rename_i G H hdec
    split at hd
    .cases hd
    rename_i hlen
    apply kC;clear kC
    have inn:∀(g h k:Lc)(m:Nat)(K u:ab)(v:List (LN × Lc))(E:ko v),ak w a b fr 6 (aC jx m (cK F)) ((tQ F (lO A.S z A.Dd g h k++v) K m (A.U x) A.S A.Sd A.Dd ac N nf B vs D w a b A r L (A.I x,ao (A.Dn x) [r x] (-2) (A.U x) u) (A.U x,aa (d x) (b7 n o p s x)))++((kl (wd w a b) A r t (c .z0) (c .z1) (c .z2) (c .z3) x++nb A d n o p s x)++lows))
      (fun rr F'=>∃(v:List (LN × Lc))(J:ab)(f:LV)(l:Nat)(J0 J1 J2 J3:ab),rr=.ok .next/\F'=(f2 (pA F A.S z A.Dd g h k v J A.Sd ac N nf B f l) w a b A r G L J0 J1 J2 J3 d n o p s)++lows/\af (H.map fun y=>[r y]) f/\ko v):=by
     intro g h k m K u v E
     have C:=tP w a b fr A r hr N nf B L d n o p s F z m ac g h k x lows (G,H) (su x) 0 (hsu x) (bG t x (-2)) rd hdec (by have:=hsl x;kd_p) vs X D (bG c x u) K v E
     have C2:=aO.pick2 (M:=(tQ F (lO A.S z A.Dd g h k++v) K m (A.U x) A.S A.Sd A.Dd ac N nf B vs D w a b A r L (A.I x,ao (A.Dn x) [r x] (-2) (A.U x) u) (A.U x,aa (d x) (b7 n o p s x)))++(kl (wd w a b) A r t (c .z0) (c .z1) (c .z2) (c .z3) x++nb A d n o p s x)) (M3:=[]) C ([0,1,2,3,4,5]++FV x) (by apply pf x;kernel_rfl)
     refine aO.weakP (C2.pk ?_) (Lf _) fun rr F' q=>?_
     .simp only [Lr]
      exact Pk.refl _
     .refine jA (fun v J f l O h0=>?_) q;apply gu h0;intro h0;obtain ⟨h1,h2⟩:=h0
      exact ⟨_,Pk.refl _,(oy v J f l _ _ _ _ ⟨rfl,rfl,h1,h2⟩)⟩
    refine bp fun C kC=>?_;rcases E with rfl | ⟨v1,v2,rfl⟩
    .apply kC;clear kC
     refine aO.pick2 (M:=(mJ F (lO A.S z A.Dd g h k++[]) J it z i ns ep A.S A.Sd A.Dd ac N nf B vs D)++gL (wd w a b) A r t L (c .z0) (c .z1) (c .z2) (c .z3)++u4 A d n o p s) (M3:=kl (wd w a b) A r t (c .z0) (c .z1) (c .z2) (c .z3) x++nb A d n o p s x) (tR w a b fr .z1 A r hr N nf B L (c x) J d n o p s F z it i ep ac D g h k .none .none ns vs x tx hv (t x) hm G (fun f=>af (H.map fun y=>[r y]) f) ko ((kl (wd w a b) A r t (c .z0) (c .z1) (c .z2) (c .z3) x++nb A d n o p s x)++lows) lows _
      (fun g h k m K u=>inn g h k m K u [] (.inl rfl)) (fun g h k es' Q K P W f R l J0 J1 J2 J3=>ih (i + 1) hxs' G H hd (by kd_p) W P f R l (b7 J0 J1 J2 J3) K g h k es' Q)) ([0,1,2,3,4,5,6,kZ 7 x,kZ 11 x]++rp 7 x++rp 11 x) (by apply pf x;kernel_rfl)
    .apply kC;clear kC
     refine aO.pick2 (M:=(mJ F (lO A.S z A.Dd g h k++vP v1 v2) J it z i ns ep A.S A.Sd A.Dd ac N nf B vs D)++gL (wd w a b) A r t L (c .z0) (c .z1) (c .z2) (c .z3)++u4 A d n o p s) (M3:=kl (wd w a b) A r t (c .z0) (c .z1) (c .z2) (c .z3) x++nb A d n o p s x) (tR w a b fr .z2 A r hr N nf B L (c x) J d n o p s F z it i ep ac D g h k v1 v2 ns vs x tx hv (t x) hm G (fun f=>af (H.map fun y=>[r y]) f) ko ((kl (wd w a b) A r t (c .z0) (c .z1) (c .z2) (c .z3) x++nb A d n o p s x)++lows) lows _
      (fun g h k m K u=>inn g h k m K u (vP v1 v2) (.inr (jm v1 v2 rfl))) (fun g h k es' Q K P W f R l J0 J1 J2 J3=>ih (i + 1) hxs' G H hd (by kd_p) W P f R l (b7 J0 J1 J2 J3) K g h k es' Q)) ([0,1,2,3,4,5,6,kZ 7 x,kZ 11 x]++rp 7 x++rp 11 x) (by apply pf x;kernel_rfl)
   .cases hd
  .cases hd
set_option tactic.hygienic true in
theorem Aj(w:Lj)(a b:Bool)(fr:List Env)(A:SrtA)(r:E4->Nat)(hr:∀i j,r i=r j->i=j)(z:Int)(t:ab)(su:E4->List E4)(c:E4->LV)(hsu:cA r su c)(hsl:∀x,(su x).length < 50)(h k l m:Nat)(F s it ac ep:Nat)(ns:LV)(lows:Mem)(p:(E4->Int) × List E4)(x:E4)(xs:List E4)(hxs0:af ((x::xs).map fun y=>[r y]) ns)(D:E4->Int)(rd:List E4)(hd:jb su D rd (x::xs)=Ld p)(hsz:rd.length < 801)(nf:Int)(P:ab)(vs:LV)(hvs:af (rd.map fun y=>[r y]) vs)(Q:Nat)(W X Y Z:ab)(J:ab) :
  ak w a b fr 7 (aC ja it (cK F)) ((f2 (mJ F (tN A.S s A.Dd) J it s 0 ns ep A.S A.Sd A.Dd ac z nf P vs Q) w a b A r D t W X Y Z c h k l m)++lows)
   (fun rr R=>∃(v:Int)(u:ab)(d:LV)(g:Nat)(f:E4->ab),rr=.ok .next/\R=(f2 (tS A.S A.Sd A.Dd ac z v u d g) w a b A r p.1 t (f .z0) (f .z1) (f .z2) (f .z3) c h k l m)++lows/\af (p.2.map fun y=>[r y]) d):=by
 have hxs:af ((x::xs).map fun y=>[r y]) (ns.drop 0):=hxs0
 suffices H:∀(e:E4->ab),ak w a b fr 7 (aC ja it (cK F)) ((f2 (mJ F (tN A.S s A.Dd) J it s 0 ns ep A.S A.Sd A.Dd ac z nf P vs Q) w a b A r D t (e .z0) (e .z1) (e .z2) (e .z3) c h k l m)++lows)
   (fun rr R=>∃(v:Int)(u:ab)(d:LV)(g:Nat)(f:E4->ab),rr=.ok .next/\R=(f2 (tS A.S A.Sd A.Dd ac z v u d g) w a b A r p.1 t (f .z0) (f .z1) (f .z2) (f .z3) c h k l m)++lows/\af (p.2.map fun y=>[r y]) d) from H (b7 W X Y Z)
 intro e
 refine bj (fun tx h0=>?_) (hxs.drop_cons);obtain ⟨hv,hxs'⟩:=h0
 refine bp fun C kC=>?_
 unfold jb at hd
 split at hd
 .rename_i hm
  split at hd
  .rename_i E G hdec
   split at hd
   .cases hd
   rename_i hlen
   apply kC;clear kC
   have inn:∀(K L N:Lc)(n:Nat)(O o:ab)(B:List (LN × Lc))(hes:ko B),ak w a b fr 6 (aC jx n (cK F)) ((tQ F (lO A.S s A.Dd K L N++B) O n (A.U x) A.S A.Sd A.Dd ac z nf P vs Q w a b A r t (A.I x,ao (A.Dn x) [r x] (-2) (A.U x) o) (A.U x,aa (c x) (b7 h k l m x)))++((kl (wd w a b) A r D (e .z0) (e .z1) (e .z2) (e .z3) x++nb A c h k l m x)++lows))
     (fun rr R=>∃(B:List (LN × Lc))(J:ab)(d:LV)(g:Nat)(W X Y Z:ab),rr=.ok .next/\R=(f2 (pA F A.S s A.Dd K L N B J A.Sd ac z nf P d g) w a b A r E t W X Y Z c h k l m)++lows/\af (G.map fun y=>[r y]) d/\ko B):=by
    intro K L N n O o B hes
    have C:=tP w a b fr A r hr z nf P t c h k l m F s n ac K L N x lows (E,G) (su x) 0 (hsu x) (bG D x (-2)) rd hdec (by have:=hsl x;kd_p) vs hvs Q (bG e x o) O B hes
    have C2:=aO.pick2 (M:=(tQ F (lO A.S s A.Dd K L N++B) O n (A.U x) A.S A.Sd A.Dd ac z nf P vs Q w a b A r t (A.I x,ao (A.Dn x) [r x] (-2) (A.U x) o) (A.U x,aa (c x) (b7 h k l m x)))++(kl (wd w a b) A r D (e .z0) (e .z1) (e .z2) (e .z3) x++nb A c h k l m x)) (M3:=[]) C ([0,1,2,3,4,5]++FV x) (by apply pf x;kernel_rfl)
    refine aO.weakP (C2.pk ?_) (Lf _) fun rr R q=>?_
    .simp only [Lr]
     exact Pk.refl _
    .refine jA (fun B J d g f h0=>?_) q;apply gu h0;intro h0;obtain ⟨h1,h2⟩:=h0
     exact ⟨_,Pk.refl _,(oy B J d g _ _ _ _ ⟨rfl,rfl,h1,h2⟩)⟩
   refine aO.pick2 (M:=(mJ F (tN A.S s A.Dd) J it s 0 ns ep A.S A.Sd A.Dd ac z nf P vs Q)++gL (wd w a b) A r D t (e .z0) (e .z1) (e .z2) (e .z3)++u4 A c h k l m) (M3:=kl (wd w a b) A r D (e .z0) (e .z1) (e .z2) (e .z3) x++nb A c h k l m x) (tR w a b fr .z0 A r hr z nf P t (e x) J c h k l m F s it 0 ep ac Q .none .none .none .none .none ns vs x tx hv (D x) hm E (fun d=>af (G.map fun y=>[r y]) d) ko ((kl (wd w a b) A r D (e .z0) (e .z1) (e .z2) (e .z3) x++nb A c h k l m x)++lows) lows _
    (fun K L N n O o=>inn K L N n O o [] (.inl rfl)) (fun K L N es' hes' O u v d hvs' g W X Y Z=>FW w a b fr A r hr z t su c hsu hsl h k l m F s it ac ep ns lows p xs 1 hxs' E G hd (by kd_p) v u d hvs' g (b7 W X Y Z) O K L N es' hes')) ([0,1,2,3,4,5,6,kZ 7 x,kZ 11 x]++rp 7 x++rp 11 x) (by apply pf x;kernel_rfl)
  .cases hd
 .cases hd
noncomputable def vT{α:Type} : E4->α->α->α->List α
 | .z0,_,_,_=>[]
 | .z1,x,_,_=>[x]
 | .z2,x,y,_=>[x,y]
 | .z3,x,y,z=>[x,y,z]
abbrev kq (x0 x1 x2 x3 x4 x5 x6 x7 x8):=sv x0 x1::vT x2 (sv x3 x4) (sv x5 x6) (sv x7 x8)
theorem qt(k:E4)(r:E4->Nat)(a b c d:E4)(e f g h:Nat):af ((a::vT k b c d).map fun y=>[r y]) (kq [r a] e k [r b] f [r c] g [r d] h):=by
 cases k<;>repeat constructor
theorem Ak(w:Lj)(a b:Bool)(fr:List Env)(k:E4)(A:SrtA)(r:E4->Nat)(hr:∀i j,r i=r j->i=j)(M:Int)(E:ab)(W:E4->List E4)(h:E4->LV)(hsu:cA r W h)(hsl:∀x,(W x).length < 50)(G H I K ac:Nat)(g:(E4->Int) × List E4)(z B C D:E4)(X Y Z t3:Nat)(P:E4->Int)(R:List E4)(hd:jb W P R (z::vT k B C D)=Ld g)(hsz:R.length < 801)(nf:Int)(Js:ab)(vs:LV)(hvs:af (R.map fun y=>[r y]) vs)(ea:Nat)(s t u v:ab)(lows:Mem) :
  ak w a b fr 9 (.call (.ref 137) ⟨.ref A.S::(kq [r z] X k [r B] Y [r C] Z [r D] t3),[]⟩) ((cT (wd w a b) A r (.ref ac) M nf P h Js E s t u v G H I K++[(ac,aa vs ea)])++lows)
   (fun U O=>∃(f:Int)(d:ab)(c:LV)(e:Nat)(l m n p:ab),U=.ok (.ret .none)/\O=(cT (wd w a b) A r (.ref ac) M f g.1 h d E l m n p G H I K++[(ac,aa c e)])++lows/\af (g.2.map fun y=>[r y]) c):=by
 have hns:=qt k r z B C D X Y Z t3
 have DL:∀(fr:List Env)(F Q it ep:Nat)(lows:Mem)(s t u v J:ab),ak w a b fr 7 (aC ja it (cK F)) ((f2 (mJ F (tN A.S Q A.Dd) J it Q 0 (kq [r z] X k [r B] Y [r C] Z [r D] t3) ep A.S A.Sd A.Dd ac M nf Js vs ea) w a b A r P E s t u v h G H I K)++lows)
   (fun U O=>∃(f:Int)(d:ab)(c:LV)(e:Nat)(l m n p:ab),U=.ok .next/\O=(f2 (tS A.S A.Sd A.Dd ac M f d c e) w a b A r g.1 E l m n p h G H I K)++lows/\af (g.2.map fun y=>[r y]) c):=fun fr F Q it ep lows s t u v J=>
  (Aj w a b fr A r hr M E W h hsu hsl G H I K F Q it ac ep (kq [r z] X k [r B] Y [r C] Z [r D] t3) lows g z (vT k B C D) hns P R hd hsz nf Js vs hvs ea s t u v J).weakP (Lf _) fun U O q=>by
   refine jA (fun f d c e Jf' L=>?_) q;apply gu L;intro h1
   exact ⟨_,Pk.refl _,(oy f d c e _ _ _ _ ⟨rfl,rfl,h1⟩)⟩
 apply eY b k 0x509101c305080c10b020060e1a3c10f003400d1a3870e040008100000010000000023810002040000004000000008e003870e1c00001;intro V N T B0 Y0 fin st
 apply vj b k;intro o;apply DL ([(cK (N + 1))]++fr) (N + 1) N (N + 2) 0 lows s t u v (ae (o 13));k_mem;intro V V N1 T1 L;refine oO (fun f d c e l m n p L=>?_) L;apply jt L;intro hq;refine ⟨_,_,.refl _,fun Y0=>?_⟩;apply na b k 0;intro st
 apply lh b k [0,1,3,4,5,6,7,8,9,10,11,2];apply fin;intro o τ;refine oy f d c e l m n p ⟨?_, ?_,‹_›⟩;apply rfl;apply rfl;k_mem
abbrev FX (x0 x1):=(fun c os a=>∃(R:Nat)(b:LV)(J:ab),c=.ok (.ret (.ref R))/\os=x0/\a=[(R,aa b J.e)]/\af (cX x1) b:bI)
section
variable(w:Lj)(a b:Bool)(t:Nat)(vs:LV)(e:Nat){ss:LLN}(hs:af ss vs)(hz:vs.length < 64)
include w a b t vs e ss hs hz
theorem rx :
  CT w a b 1 (b9 "sorted" [.ref t]) [(t,bx vs e)] (FX [bx vs e] ss):=nN w a b t "tuple" (.inr rfl) vs e hs hz
theorem ry :
  CT w a b 1 (b9 "sorted" [.ref t]) [(t,aa vs e)] (FX [aa vs e] ss):=nN w a b t "list" (.inl rfl) vs e hs hz
end
noncomputable abbrev nT(b c S:Nat)(v e d:Lc)(a t:Nat):List (LN × Lc):=[(fD,.ref b),(dT,.ref c),(qe,.ref S),(jB,v),(ir,e),(gV,d),(gS,.ref a),([103,114,111,117,112],.ref t)]
theorem qu{α:Type}(k:E4)(x a b c:α):(x::vT k a b c).length<=4:=by cases k<;>exact LP rfl
theorem Al(w:Lj)(a b:Bool)(fr:List Env)(k:E4)(A:SrtA)(r:E4->Nat)(hr:∀i j,r i=r j->i=j)(Jd:ab)(su:E4->List E4)(f:E4->LV)(hsu:cA r su f)(hsl:∀x,(su x).length < 50)(e0 e1 e2 e3 F Rw St X ac:Nat)(v0 v1 rg:Lc)(sl:Array (Option Lc))(g l m n:E4)(G H I K:Nat)(np p:E4->Int)(c:List E4)(hd:jb su np [] (g::vT k l m n)=Ld (p,c))(hz':c.length < 900)(t M er D:Nat)(rv:LV)(hrv:rv.length < 900)(q nf:Int)(Jf C u v z B:ab)(lows:Mem)(E:Lm->Mem->Prop)(IH:∀(R:Nat)(s:LV)(e' t:Nat)(Z:LV)(hgs':af (c.map fun y=>[r y]) Z)(hvs':af (cX ((g::vT k l m n).map fun y=>[r y])) s)(M er D:Nat)(q nf:Int)(Jf C u v z B:ab),ak w a b fr 11 (ag Hs (bm F)) (([(F,bk (nT Rw St A.S v0 v1 rg X t) Jf sl),(t,bx Z M),(X,aa (rv++[.ref R]) er)]++cT (wd w a b) A r (.ref ac) q nf (gq (-1) p c) f C Jd u v z B e0 e1 e2 e3++[(ac,aa [] D)]++[(R,aa s e')])++lows) E) :
  ak w a b fr 11 (ag Hs (bm F)) (([(F,bk (nT Rw St A.S v0 v1 rg X t) Jf sl),(t,bx (kq [r g] G k [r l] H [r m] I [r n] K) M),(X,aa rv er)]++cT (wd w a b) A r (.ref ac) q nf np f C Jd u v z B e0 e1 e2 e3++[(ac,aa [] D)])++lows) E:=by
 have hgs:=qt k r g l m n G H I K
 have hg2:((kq [r g] G k [r l] H [r m] I [r n] K):LV).length < 64:=LJ (qu ..) (by decide)
 have hg3:((kq [r g] G k [r l] H [r m] I [r n] K):LV).length < 60000:=LJ (qu ..) (by decide)
 have hrz:rv.length < 60000:=by kd_p
 have h00:([] : List E4).length < 801:=by decide
 have hn:af (([] : List E4).map fun y=>[r y]) []:=.nil
 have hgz2:∀vs:LV,af (c.map fun y=>[r y]) vs->vs.length < 1000:=fun vs h=>by rw [h.length,Ln];kd_p
 have DX:=fun(fr:List Env)(q nf:Int)(C u v z B:ab)(D:Nat)(lows:Mem)=>Ak w a b fr k A r hr q Jd su f hsu hsl e0 e1 e2 e3 ac (p,c) g l m n G H I K np [] hd h00 nf C [] hn D u v z B lows
 have GR:=fun(fr:List Env)(q nf:Int)(C u v z B:ab)(D:Nat)(vs:LV)(hvs:af (c.map fun y=>[r y]) vs)(lows:Mem)=>FQ w a b fr A r hr q nf p C Jd u v z B f e0 e1 e2 e3 ac D vs c hvs (hgz2 vs hvs) lows
 apply eY b k 4432947347584;intro V N T B0 Y0 fin st
 apply cP b k 0x2041000200003060c181;intro o;apply px w a b t (kq [r g] G k [r l] H [r m] I [r n] K) M ‹_›;k_all;intro t1 N1 T1 st
 apply Ix b k;intro o;apply rx w a b t (kq [r g] G k [r l] H [r m] I [r n] K) M hgs hg2;k_mem;intro V V V N2 T2 d V;refine ma (fun R s J d=>?_) d;apply jr d;intro hq;apply na b k 539001216;intro st
 apply cP b k 0x910408002020000000000050010200000000000100000000201;intro o;apply aB w a b X rv (.ref R) er ‹_›;k_all;intro J4 N3 T3 st
 apply cP b k 0x3868c16284880e1828406301110000892;intro o;apply vB w a b (N3 + 1) t (kq [r g] G k [r l] H [r m] I [r n] K) M 0 ‹_›;k_all;intro J5 N4 T4 st
 apply vj b k;intro o;apply DX fr q nf C u v z B D lows;k_mem;intro V V N5 T5 d;refine oO (fun nf' Js' L ea' J0' J1' J2' J3' d=>?_) d;apply jt d;intro hq1;refine ⟨_,_,.refl _,fun Y0=>?_⟩;apply na b k 0x2c509101c305080c1010030100040400000000800000080000008d;intro st
 apply vj b k;intro o;apply GR fr q nf' Js' J0' J1' J2' J3' ea' L ‹_› lows;k_mem;intro V V N6 T6 d;refine Cc (fun t2 et1 Y po' W O P Q U d=>?_) d;apply iq d;refine ⟨_,_,.refl _,fun Y0=>?_⟩;apply na b k 50958;intro st
 apply gT b k [13,12,15,0,1,2,3,4,5,6,7,8,9,10,11,16];apply fin;intro o;apply IH R s J.e t2 L ‹_› hq et1 J4.e Y po' nf' (ae (o 13)) W O P Q U;k_mem
theorem Am(w:Lj)(a b:Bool)(fr:List Env)(F:Nat)(A:SrtA)(f g e:Nat)(k l i:Lc)(d:ab)(j:Array (Option Lc))(t h:Nat)(lows:Mem) :
  ak w a b fr 11 (ag Hs (bm F)) ([(F,bk (nT f g A.S k l i e t) d j),(t,bx [] h)]++lows)
   (d6 .next [(F,bk (nT f g A.S k l i e t) d j)] lows):=by
 apply cW b 4432947347584;intro V N T m q c st
 apply bA b 0;intro o;apply px w a b t [] h (by simp only [Ls,Lq,LQ] at *;kd_p);k_all;intro r n p st
 apply b4 b [0];apply c;intro o τ;refine ⟨?_, ?_⟩;apply rfl;apply rfl;k_mem
def cC(c:E4->List E4):Nat->(E4->Int)->List E4->Option (List (List E4))
 | 0,_,_=>Lk
 | _ + 1,_,[]=>Ld []
 | n + 1,np,x::xs=>match jb c np [] (x::xs) with
  | some (b,a)=>if 4 < a.length then Lk else (match cC c n (gq (-1) b a) a with
   | some l=>Ld ((x::xs)::l)
   | none=>Lk)
  | none=>Lk
inductive dN:List LLN->LV->Mem->Prop
 | nil (M:Mem):dN [] [] M
 | snoc {tot:List LLN} {vals:LV} {lows:Mem} (h:dN tot vals lows) {ss:LLN} {vs:LV} (hs:af ss vs) (R e:Nat):dN (tot++[ss]) (vals++[.ref R]) ((R,aa vs e)::lows)
abbrev f3(r:E4->Nat)(xs:List E4):LLN:=cX (xs.map fun y=>[r y])
section
variable{M:LV->Prop}
include M
theorem af.o0{vs:LV}(h:af [] vs)(k:M []):M vs:=by cases h;exact k
theorem af.o1{x:LN}{vs:LV}(h:af [x] vs)(k:∀u,M [sv x u]):M vs:=by rcases h with _ | ⟨_,u,_ | _⟩;exact k u
theorem af.o2{x y:LN}{vs:LV}(h:af [x,y] vs)(k:∀u v,M [sv x u,sv y v]):M vs:=by rcases h with _ | ⟨_,u,h⟩;exact af.o1 (M:=fun l=>M (sv x u::l)) h (k u)
theorem af.o3{x y z:LN}{vs:LV}(h:af [x,y,z] vs)(k:∀u v w,M [sv x u,sv y v,sv z w]):M vs:=by rcases h with _ | ⟨_,u,h⟩;exact af.o2 (M:=fun l=>M (sv x u::l)) h (k u)
theorem af.o4{x y z a:LN}{vs:LV}(h:af [x,y,z,a] vs)(k:∀u v w b,M [sv x u,sv y v,sv z w,sv a b]):M vs:=by rcases h with _ | ⟨_,u,h⟩;exact af.o3 (M:=fun l=>M (sv x u::l)) h (k u)
end
theorem An{r:E4->Nat}{c:E4}{M:List E4->LV->Prop} : ∀{xs:List E4}{e:LV},xs.length<=3->af ((c::xs).map fun y=>[r y]) e->(∀k a b d f g i j,M (vT k a b d) (kq [r c] f k [r a] g [r b] i [r d] j))->M xs e
 | [],_,_,h,K=>af.o1 h fun u=>K .z0 c c c u u u u
 | [a],_,_,h,K=>af.o2 h fun u v=>K .z1 a a a u v v v
 | [a,b],_,_,h,K=>af.o3 h fun u v w=>K .z2 a b b u v w w
 | [a,b,d],_,_,h,K=>af.o4 h fun u v w z=>K .z3 a b d u v w z
 | _::_::_::_::_,_,l,_,_=>absurd l (by simp)
set_option tactic.hygienic true in
theorem Ao(w:Lj)(a b:Bool)(fr:List Env)(A:SrtA)(r:E4->Nat)(hr:∀i j,r i=r j->i=j)(X:ab)(su:E4->List E4)(c:E4->LV)(hsu:cA r su c)(hsl:∀x,(su x).length < 50)(Y Z e2 e3:Nat)(F L N d ac:Nat)(U W P:Lc)(Q:Array (Option Lc))(tot:List LLN)(n:Nat) :
  ∀(xs:List E4)(D:E4->Int)(l:List (List E4))(h:cC su n D xs=Ld l)(h4:xs.length<=4)(gs:LV)(H:af (xs.map fun y=>[r y]) gs)(o:List LLN)(O:o++l.map (f3 r)=tot)(f:LV)(hz:f.length + n < 900)(lows:Mem)(I:dN o f lows)(t G m B:Nat)(E nf:Int)(g z p s u v:ab),
  ak w a b fr 11 (ag Hs (bm F)) (([(F,bk (nT L N A.S U W P d t) g Q),(t,bx gs G),(d,aa f m)]++cT (wd w a b) A r (.ref ac) E nf D c z X p s u v Y Z e2 e3++[(ac,aa [] B)])++lows)
   (fun rr F'=>∃(t' er':Nat)(Jf':ab)(rv':LV)(e:Mem),rr=.ok .next/\F'=[(F,bk (nT L N A.S U W P d t') Jf' Q),(d,aa rv' er')]++e/\dN tot rv' e):=by
 induction n with
 | zero=>intro xs D l h;cases h
 | succ n ih=>
  intro xs D l h h4 gs H o O f hz lows I t G m B E nf g z p s u v
  refine bp fun C J=>?_;cases xs with
  | nil=>
   apply J;clear J
   cases h
   cases H
   rw [SU,Mp] at O
   subst O
   refine aO.weakP ((Am w a b fr F A L N d U W P g Q t G (((d,aa f m)::(cT (wd w a b) A r (.ref ac) E nf D c z X p s u v Y Z e2 e3++[(ac,aa [] B)]))++lows)).pk (Pk.of2 (M:=[(F,bk (nT L N A.S U W P d t) g Q),(t,bx [] G),(d,aa f m)]++cT (wd w a b) A r (.ref ac) E nf D c z X p s u v Y Z e2 e3++[(ac,aa [] B)]) [0,1,2,3,4,5,6,7,8,9,10,11,12,13,14] (by kernel_rfl))) (Lf _) fun rr F' q=>?_
   obtain ⟨rfl,rfl⟩:=q
   exact ⟨_,Pk.of (M:=[(F,bk (nT L N A.S U W P d t) g Q),(d,aa f m)]++(cT (wd w a b) A r (.ref ac) E nf D c z X p s u v Y Z e2 e3++[(ac,aa [] B)])) [0,1] (by kernel_rfl),(m7 t m g f lows ⟨rfl,rfl,I⟩)⟩
  | cons x0 xs=>
   apply J;clear J
   refine bp fun C J=>?_
   unfold cC at h
   split at h
   rotate_left
   .cases h
   rename_i np' K hd
   split at h
   .cases h
   rename_i hlen
   split at h
   rotate_left
   .cases h
   rename_i l hl
   cases h
   apply J;clear J;revert hd O;apply An (Oo h4) H;intro k x1 x2 x3 u0 u1 u2 u3 hd O
   refine Al w a b fr k A r hr X su c hsu hsl Y Z e2 e3 F L N d ac U W P Q x0 x1 x2 x3 u0 u1 u2 u3 D np' K hd (by kd_p) t G m B f (by kd_p) E nf g z p s u v lows _ fun R vs' e' t gs' hgs' hvs' G m B E nf g z p s u v=>?_
   exact ih K (gq (-1) np' K) l hl (by kd_p) gs' hgs' (o++[f3 r (x0::vT k x1 x2 x3)]) (by rw [<- O];simp) (f++[.ref R]) (by simp;kd_p) ((R,aa vs' e')::lows) (I.snoc hvs' R e') t G m B E nf g z p s u v
section
variable(w:Lj)(a b:Bool)
include w a b
theorem cL(s:LN)(l t u:Nat)(c:s.getLast? = Ld l) :
  CT w a b 0 (b9 "str.__getitem__" [sv s t,.int (-1) u]) [] (sV [l]):=by
 obtain ⟨ys,rfl⟩:=Nk.mp c
 exact bh w a b ys l t u
theorem d7(s:LN)(f t u:Nat)(hf:s.head? = Ld f) :
  CT w a b 0 (b9 "str.__getitem__" [sv s t,.int 0 u]) [] (sV [f]):=by
 obtain ⟨r,rfl⟩:=List.head?_eq_some_iff.mp hf
 refine bM (fun d=>∃k:Nat,d=.ok (.ret (sv [f] k))) (by decide +kernel) PE (SF ⟨⟨f::r⟩⟩ 0 t u f (by decide) ?_) fun s=>⟨by show 1<=_;decide,⟨s.toks,rfl⟩,rfl,rfl,rfl,rfl⟩
 have c:(⟨⟨f::r⟩⟩ : Str).length=r.length + 1:=by show (f::r).length=_;simp
 have : SZ 0 (⟨⟨f::r⟩⟩ : Str).length=Ld 0:=by rw [c];simp [SZ]
 rw [this]
 rfl
section
variable(l:Nat)(vs:LV)(e:Nat)(x:LN)(t:Nat){ss:LLN}(hs:af ss vs)
include l vs e x t ss hs
theorem f4(h:ss.contains x=Lh) :
  CT w a b 0 (eC "list.__contains__" l x t) [(l,aa vs e)] (go (.ret (.bool Lh)) [aa vs e]):=
 (ff w a b l vs e x t hs).weak (Lf _) fun r os c q=>by
  obtain ⟨v,rfl,rfl,rfl,rfl⟩:=q
  exact ⟨by rw [h],rfl,rfl⟩
theorem d8(h:ss.contains x=Li) :
  CT w a b 0 (eC "list.__contains__" l x t) [(l,aa vs e)] (go (.ret (.bool Li)) [aa vs e]):=
 (ff w a b l vs e x t hs).weak (Lf _) fun r os c q=>by
  obtain ⟨v,rfl,rfl,rfl,rfl⟩:=q
  exact ⟨by rw [h],rfl,rfl⟩
end
theorem tT(s:LN)(t:Nat)(hz:s.length < 60000) :
  CT w a b 0 (.builtin "len" ⟨[sv s t],[]⟩) [] (fun f os c=>∃u:Nat,f=.ok (.ret (.int (Ll s.length) u))/\os=[]/\c=[]):=
 oY S1 S2 fun A g h G D O N T R i e d=>
  wpAny_len_body (n:=Ll s.length) (typeIs_str _ _ _) F.slot_str_len F.entry_str_len (F.args_str_len_1 _) (gives_str_len ⟨⟨s⟩⟩ t) (by have : (0:Int)<=Ll s.length:=NI _;kd_p) (by have : (Ll s.length) < 60000:=M5.mpr hz;kd_p)
   (d _ [] [] N _ _ ⟨_,rfl,rfl,rfl⟩ rfl e)
end
theorem vU(w:Lj)(a b:Bool)(fr:List Env)(g m ie:Lg)(d:List Lg)(h:List OD)(sc:Scope)(p:Pos)(ac:Lc)(env:Env)(it l i e:Nat)(vs:LV)(j:vs.length<=i)(lows:Mem) :
  ak w a b fr 3 (.compLoop (.ListComp g (⟨m,ie,d,0⟩::h) sc p) 0 (.ref it) ac env) ([(it,al l i),(l,aa vs e)]++lows) (fun k f=>k=.ok .next/\f=[(l,aa vs e)]++lows):=by
 apply cW b 563019211866240;intro V N T n s c st
 apply gF b 3;intro o;apply aP w a b it l i vs e j;k_all;intro x t q r st
 apply b4 b [1];apply c;intro o τ;refine ⟨?_, ?_⟩;apply rfl;apply rfl;k_mem
noncomputable def Hv:Lg->List OD
 | .ListComp _ a _ _=>a
 | _=>[]
abbrev FY(e:Lg):Lg:=.ListComp (ex e 0) (⟨(Hv e)[0]!.target,(Hv e)[0]!.iter,(Hv e)[0]!.ifs,0⟩::(Hv e).tail) (ym e).c (ym e).p
theorem FZ{e:Lg}(h:e=FY e):∃b d ie a c sc p,e=.ListComp b (⟨d,ie,a,0⟩::c) sc p:=⟨_,_,_,_,_,_,_,h⟩
section
variable(w:Lj)(a b:Bool){fr:List Env}{L:Nat}{e:Lg}{env:Env}{CL it ac l le:Nat}{rest lows:Mem}{vs:LV}{ss:LLN}(d:LN)(G:LN->LLN)(he:e=FY e)(f:af ss vs)
include w a b fr L e env CL it ac l le rest lows vs ss d G he f
theorem nU(hz:vs.length < 900)(T:∀(i:Nat)(s:LN)(t:Nat)(hs:s∈ss)(B:vs[i]? = Ld (sv s t))(c:Bool)(v:Lc)(J:ab)(g:LV)(j:Nat)(hz:g.length < 1000)(k:Lm->Mem->Prop)
   (E:af (G s) []->∀(v:Lc)(J:ab)(j:Nat),ak w a b fr (L + 3) (.compLoop e 0 (.ref it) (.ref ac) env) (([(CL,bR Lh d v J),(it,al l (i + 1)),(ac,aa g j)]++(l,aa vs le)::rest)++lows) k)
   (F:∀y,af (G s) [y]->∀(v:Lc)(J:ab)(j:Nat),ak w a b fr (L + 3) (.compLoop e 0 (.ref it) (.ref ac) env) (([(CL,bR Lh d v J),(it,al l (i + 1)),(ac,aa (g++[y]) j)]++(l,aa vs le)::rest)++lows) k),
   ak w a b fr (L + 3) (.compLoop e 0 (.ref it) (.ref ac) env) (([(CL,bR c d v J),(it,al l i),(ac,aa g j)]++(l,aa vs le)::rest)++lows) k)(J:ab)(j:Nat) :
  ak w a b fr (L + 3) (.compStart e 0 (.ref it) (.ref ac) env) (([(CL,av [] J),(it,al l 0),(ac,aa [] j)]++(l,aa vs le)::rest)++lows)
   (fun C z=>∃(v:Lc)(J:ab)(m:LV)(n:Nat),C=.ok .next/\z=([(CL,bR (!vs.isEmpty) d v J),(ac,aa m n)]++(l,aa vs le)::rest)++lows/\af (ss.flatMap G) m):=by
 obtain ⟨H,D,ie,r,I,sc,p,rfl⟩:=FZ he
 refine bD (l:=l) (i:=0) 1 ⟨D,ie,r,0⟩ rfl rfl rfl rfl rfl rfl ?_
 have u:∀ {s t s' t' o},sv s t=sv s' t'->af (G s) o->af (G s') o:=fun {s t s' t' o} q h=>by
  injection q with e1 e2;injection e1 with e1;injection e1 with e1;exact e1 ▸ h
 refine aO.weak (nO l d ((l,aa vs le)::rest) lows vs (fun x o=>(∀s t,x=sv s t->af (G s) o)/\o.length<=1) (fun x o h=>h.2) hz (fun i x B c v J g j hz k IH=>?_) (fun i K c v J g j=>?_) .none J j) (Lf _) fun C z q=>?_
 .refine d9 (fun s t A=>?_) (f.at B);obtain ⟨hs,rfl⟩:=A
  refine T i s t hs B c v J g j hz k (fun h v J j=>?_) fun y h v J j=>IH v J [y] ⟨fun V V q=>u q h,Lf _⟩ j
  have:=IH v J [] ⟨fun V V q=>u q h,MJ _⟩ j
  rwa [Mp] at this
 .refine ((vU w a b fr H D ie r I sc p (.ref ac) env it l i le vs K ([(CL,bR c d v J),(ac,aa g j)]++(rest++lows))).pk (Pk.of2 (M:=[(CL,bR c d v J),(it,al l i),(ac,aa g j),(l,aa vs le)]) [1,3,0,2] (by kernel_rfl))).weakP (Pd _ _) fun C z q=>?_
  obtain ⟨rfl,rfl⟩:=q
  exact ⟨_,Pk.of (M:=[(l,aa vs le),(CL,bR c d v J),(ac,aa g j)]) (M2:=[(CL,bR c d v J),(ac,aa g j),(l,aa vs le)]) (lows:=rest++lows) [1,2,0] (by kernel_rfl),rfl,rfl⟩
 .refine gz (fun v J m n A=>?_) q;apply gu A;intro h
  exact ⟨_,.refl _,(jJ v J m n ⟨rfl,rfl,gK.strs f (h.mono fun x o h=>h.1)⟩)⟩
theorem eT(n:vs≠[])(hz:vs.length < 900)(T:∀(i:Nat)(s:LN)(t:Nat)(hs:s∈ss)(z:vs[i]? = Ld (sv s t))(c:Bool)(v:Lc)(J:ab)(h:LV)(k:Nat)(hz:h.length < 1000)(g:Lm->Mem->Prop)
   (r:af (G s) []->∀(v:Lc)(J:ab)(k:Nat),ak w a b fr (L + 3) (.compLoop e 0 (.ref it) (.ref ac) env) (([(CL,bR Lh d v J),(it,al l (i + 1)),(ac,aa h k)]++(l,aa vs le)::rest)++lows) g)
   (u:∀y,af (G s) [y]->∀(v:Lc)(J:ab)(k:Nat),ak w a b fr (L + 3) (.compLoop e 0 (.ref it) (.ref ac) env) (([(CL,bR Lh d v J),(it,al l (i + 1)),(ac,aa (h++[y]) k)]++(l,aa vs le)::rest)++lows) g),
   ak w a b fr (L + 3) (.compLoop e 0 (.ref it) (.ref ac) env) (([(CL,bR c d v J),(it,al l i),(ac,aa h k)]++(l,aa vs le)::rest)++lows) g)(J:ab)(k:Nat) :
  ak w a b fr (L + 3) (.compStart e 0 (.ref it) (.ref ac) env) (([(CL,av [] J),(it,al l 0),(ac,aa [] k)]++(l,aa vs le)::rest)++lows)
   (fun p o=>∃(v:Lc)(J:ab)(j:LV)(m:Nat),p=.ok .next/\o=([(CL,av [(d,v)] J),(ac,aa j m)]++(l,aa vs le)::rest)++lows/\af (ss.flatMap G) j):=by
 refine aO.weak (nU w a b d G he f hz T J k) (Lf _) fun p o q=>?_
 cases vs with
 | nil=>exact absurd rfl n
 | cons x xs=>exact ⟨_,.refl _,q⟩
end
noncomputable def bf(s:LN):LLN:=match s.getLast? with
 | some l=>[[l]]
 | none=>[]
theorem hY{s:LN}(h:s≠[]):∃l,s.getLast? = Ld l:=by
 cases q:s.getLast? with
 | none=>exact absurd (List.getLast?_eq_none_iff.mp q) h
 | some l=>exact ⟨l,rfl⟩
theorem qw{s:LN}(h:s≠[]):∃l,s.head? = Ld l:=by
 cases s with
 | nil=>exact absurd rfl h
 | cons x r=>exact ⟨x,rfl⟩
section
variable(w:Lj)(a b:Bool)(fr:List Env)(F:Nat)
include w a b fr F
section
variable(f g:Nat)(d:LV)(CL it ac:Nat)(ss:LLN)(j:af ss d)(hz:d.length < 900)(hne:∀s∈ss,s≠[])(J:ab)(e:Nat)(lows:Mem)
include f g d CL it ac ss j hz hne J e lows
theorem vV :
  ak w a b fr 8 (.compStart nP 0 (.ref it) (.ref ac) (fN nP CL F [])) (f0 (CL,av [] J) it f 0 ac [] e d g lows)
   (fun x p=>∃(v:Lc)(J:ab)(h:LV)(o:Nat),x=.ok .next/\p=([(CL,bR (!d.isEmpty) iu v J),(ac,aa h o)]++[(f,aa d g)])++lows/\af (ss.flatMap bf) h):=by
 refine nU w a b iu bf (by kernel_rfl) j hz (fun i s t hs u c v J n e hz k q m=>?_) J e
 obtain ⟨l,r⟩:=hY (hne s hs)
 obtain ⟨z,rfl⟩:=Nk.mp r
 exact vF w a b fr F f g d CL it ac i z l t u c v J n e hz lows k fun v J y e=>m (sv [l] y) (by simp [bf];exact .one _ _) v J e
theorem yM :
  ak w a b fr 8 (.compStart nP 0 (.ref it) (.ref ac) (fN nP CL F [])) (f0 (CL,av [] J) it f 0 ac [] e d g lows)
   (fun l k=>(∃(v:Lc)(J:ab)(c:LV)(i:Nat),l=.ok .next/\k=([(CL,av [(iu,v)] J),(ac,aa c i)]++[(f,aa d g)])++lows/\af (ss.flatMap bf) c)∨(∃(J:ab)(c:LV)(i:Nat),l=.ok .next/\k=([(CL,av [] J),(ac,aa c i)]++[(f,aa d g)])++lows/\af (ss.flatMap bf) c)):=by
 refine aO.weak (vV w a b fr F f g d CL it ac ss j hz hne J e lows) (Lf _) fun l k q=>?_
 refine gz (fun v J c i m=>?_) q;apply gu m;intro h
 cases d with
 | nil=>exact ⟨_,.refl _,.inr ⟨J,c,i,rfl,rfl,h⟩⟩
 | cons n xs=>exact ⟨_,.refl _,.inl ⟨v,J,c,i,rfl,rfl,h⟩⟩
end
abbrev eg (x0 x1 x2 x3 x4 x5 x6 x7):=([(x0,aa x1 x2),(x3,aa x4 x5),(x6,ad (Ld (.ref x7)))] : Mem)
section
variable(m u d h x:Nat)(j n:LV)(g:LLN)(p:af g n)(r:n.length < 900)(q:∀s∈g,s≠[])(CL it ac:Nat)
include m u d h x j n g p r q CL it ac
theorem vW(i:Nat)(s:LN)(f l t:Nat)(hf:s.head? = Ld f)(H:s.getLast? = Ld l)(G:(g.flatMap bf).contains [f]=Lh)(hx:j[i]? = Ld (sv s t))(c:Bool)(v:Lc)(J:ab)(y:LV)(B:Nat)(hz:y.length < 1000)(lows:Mem)(A:Lm->Mem->Prop)(IH:∀(v:Lc)(J:ab)(t':Nat)(B:Nat),ak w a b fr 9 (.compLoop kj 0 (.ref it) (.ref ac) (fN kj CL F [(⟨⟨fC⟩⟩,d)])) (([(CL,bR Lh bK v J),(it,al m (i + 1)),(cg ac y [sv [l] t'] B)]++(eg m j u h n x d h))++lows) A) :
  ak w a b fr 9 (.compLoop kj 0 (.ref it) (.ref ac) (fN kj CL F [(⟨⟨fC⟩⟩,d)])) (([(CL,bR c bK v J),(it,al m i),(ac,aa y B)]++(eg m j u h n x d h))++lows) A:=by
 have K:=fun(fr:List Env)(CL it ac:Nat)(J:ab)(B:Nat)(lows:Mem)=>yM w a b fr F h x n CL it ac g p r q J B lows
 apply eY b c 0x6041020400100;intro V N T B0 Q E st
 apply bo b c 536887425;intro o;apply aG w a b it m i j u (sv s t) hx;k_all;intro N1 X st
 apply eE b c 0x40e18404041c0050014286;intro o;apply d7 w a b s f t (X + 1) hf;k_all;intro k D T2 st
 apply vj b c;intro o;apply K fr (D + 2) D (D + 1) (ae (o 8)) 0 lows;k_mem
 rintro _ _ N3 T3 (q0|q0)
 .refine gz (fun v1 R z C O=>?_) q0;apply gu O;intro P
  refine ⟨_,_,.refl _,fun Q=>?_⟩;apply na b c 0x8104080020404081;intro st
  apply bo b c 536870916;intro o;apply f4 w a b (D + 1) z C [f] k P G;k_all;intro S M st
  apply eE b c 1344307968;intro o;apply cL w a b s l t (M + 1) H;k_all;intro I U Y st
  apply cP b c 3;intro o;apply aB w a b ac y (sv [l] I) B (by kd_p);k_all;intro L W Z st
  apply gT b c [3,4,5,6,2,7];apply E;intro o;apply IH (sv s t) (ae (o 3)) I L.e;k_mem
 .refine ma (fun R z C O=>?_) q0;apply gu O;intro P
  refine ⟨_,_,.refl _,fun Q=>?_⟩;apply na b c 567417256313089;intro st
  apply bo b c 536870916;intro o;apply f4 w a b (D + 1) z C [f] k P G;k_all;intro S M st
  apply eE b c 1344307968;intro o;apply cL w a b s l t (M + 1) H;k_all;intro I U Y st
  apply cP b c 3;intro o;apply aB w a b ac y (sv [l] I) B (by kd_p);k_all;intro L W Z st
  apply gT b c [3,4,5,6,2,7];apply E;intro o;apply IH (sv s t) (ae (o 3)) I L.e;k_mem
theorem vX(i:Nat)(s:LN)(f t:Nat)(hf:s.head? = Ld f)(D:(g.flatMap bf).contains [f]=Li)(P:j[i]? = Ld (sv s t))(c:Bool)(v:Lc)(J:ab)(y:LV)(z:Nat)(hz:y.length < 1000)(lows:Mem)(l:Lm->Mem->Prop)(IH:∀(v:Lc)(J:ab)(z:Nat),ak w a b fr 9 (.compLoop kj 0 (.ref it) (.ref ac) (fN kj CL F [(⟨⟨fC⟩⟩,d)])) (([(CL,bR Lh bK v J),(it,al m (i + 1)),(ac,aa y z)]++(eg m j u h n x d h))++lows) l) :
  ak w a b fr 9 (.compLoop kj 0 (.ref it) (.ref ac) (fN kj CL F [(⟨⟨fC⟩⟩,d)])) (([(CL,bR c bK v J),(it,al m i),(ac,aa y z)]++(eg m j u h n x d h))++lows) l:=by
 have E:=fun(fr:List Env)(CL it ac:Nat)(J:ab)(z:Nat)(lows:Mem)=>yM w a b fr F h x n CL it ac g p r q J z lows
 apply eY b c 0x6041020400100;intro V N T Q I C st
 apply bo b c 536887425;intro o;apply aG w a b it m i j u (sv s t) P;k_all;intro R M st
 apply eE b c 0x40e18404041c0050014286;intro o;apply d7 w a b s f t (M + 1) hf;k_all;intro k B U st
 apply vj b c;intro o;apply E fr (B + 2) B (B + 1) (ae (o 8)) 0 lows;k_mem
 rintro _ _ S W (q0|q0)
 .refine gz (fun X K e A G=>?_) q0;apply gu G;intro H
  refine ⟨_,_,.refl _,fun I=>?_⟩;apply na b c 0x8104080020404081;intro st
  apply bo b c 3;intro o;apply d8 w a b (B + 1) e A [f] k H D;k_all;intro L O st
  apply gT b c [3,4,5,6,2,7];apply C;intro o;apply IH (sv s t) (ae (o 3)) z;k_mem
 .refine ma (fun K e A G=>?_) q0;apply gu G;intro H
  refine ⟨_,_,.refl _,fun I=>?_⟩;apply na b c 567417256313089;intro st
  apply bo b c 3;intro o;apply d8 w a b (B + 1) e A [f] k H D;k_all;intro L O st
  apply gT b c [3,4,5,6,2,7];apply C;intro o;apply IH (sv s t) (ae (o 3)) z;k_mem
def c3(a:LLN)(s:LN):LLN:=match s.head? with
 | some f=>if a.contains [f]=Lh then bf s else []
 | none=>[]
abbrev tU (x0 x1 x2 x3 x4):=(fun d c=>∃(v:Lc)(J:ab)(a:LV)(b:Nat),d=.ok .next/\c=([(x0,av [(bK,v)] J),(x1,aa a b)]++x2)++x3/\af x4 a:Lm->Mem->Prop)
theorem F5(ss:LLN)(E:af ss j)(D:j≠[])(hz:j.length < 900)(hne:∀s∈ss,s≠[])(J:ab)(e:Nat)(lows:Mem) :
  ak w a b fr 9 (.compStart kj 0 (.ref it) (.ref ac) (fN kj CL F [(⟨⟨fC⟩⟩,d)])) (([(CL,av [] J),(it,al m 0),(ac,aa [] e)]++(eg m j u h n x d h))++lows)
   (tU CL ac (eg m j u h n x d h) lows (ss.flatMap (c3 (g.flatMap bf)))):=by
 refine eT w a b bK (c3 (g.flatMap bf)) (by kernel_rfl) E D hz (fun i s t hs H c v J y e hz o A B=>?_) J e
 obtain ⟨l,G⟩:=hY (hne s hs)
 obtain ⟨f,hf⟩:=qw (hne s hs)
 refine bp fun C z=>?_;cases k:(g.flatMap bf).contains [f] with
 | true=>apply z;clear z;exact vW w a b fr F m u d h x j n g p r q CL it ac i s f l t hf G k H c v J y e hz lows o fun v J I e=>B (sv [l] I) (by simp only [c3,hf,k,if_true,bf,G];exact .one _ _) v J e
 | false=>apply z;clear z;exact vX w a b fr F m u d h x j n g p r q CL it ac i s f t hf k H c v J y e hz lows o fun v J e=>A (by simp only [c3,hf,k];exact .nil) v J e
end
end
inductive f5:LN->LV->Prop
 | nil:f5 [] []
 | cons (n t:Nat) {ns:LN} {vs:LV} (h:f5 ns vs):f5 (n::ns) (.int (Ll n) t::vs)
theorem f5.items{ns:LN}{vs:LV}(h:f5 ns vs):∃xs:List (Int × Tok),vs=xs.map (fun p=>L6 p.1 p.2)/\xs.map (·.1)=ns.map Ll:=by
 induction h with
 | nil=>exact ⟨[],rfl,rfl⟩
 | cons n t _ d=>
  refine bj (fun xs a=>?_) d;obtain ⟨b,c⟩:=a
  exact ⟨(Ll n,t)::xs,by simp [b],by simp [c]⟩
set_option tactic.hygienic true in
theorem jc(val:Nat->Int):∀k,Rp (fun i j=>decide (val i > val j)) k<=k/\∀i≤k,val i<=val (Rp (fun i j=>decide (val i > val j)) k)
 | 0=>⟨Lf _,fun i b=>by rw [Tw.mp b];exact Rg _⟩
 | k + 1=>by
  obtain ⟨d,c⟩:=jc val k
  dsimp only [Rp]
  split
  .rename_i h
   have h:=of_decide_eq_true h
   refine ⟨Lf _,fun i b=>?_⟩
   rcases PO i (k + 1) with a|hge
   .exact QW (Int.lt_of_le_of_lt (c i (Mv a)) h)
   .rw [NM b hge];exact Rg _
  .rename_i h
   have h:¬ (val (k + 1) > val (Rp (fun i j=>decide (val i > val j)) k)):=fun q=>h (decide_eq_true q)
   refine ⟨NS d,fun i b=>?_⟩
   rcases PO i (k + 1) with a|hge
   .exact c i (Mv a)
   .rw [NM b hge];exact TS.mp h
theorem yN(w:Lj)(a b:Bool)(l:Nat)(vs:LV)(e:Nat){ns:LN}(hs:f5 ns vs)(m:Nat)(hm:m∈ns)(hmx:∀n∈ns,n<=m) :
  CT w a b 1 (.builtin "max" ⟨[.ref l],[]⟩) [(l,aa vs e)] (fun rr os u=>∃t:Nat,rr=.ok (.ret (.int (Ll m) t))/\os=[aa vs e]/\u=[]):=
 bH F.plain_max F.entry_max fun A g h G D O N T R Z P hl M y=>by
  refine bj (fun xs z=>?_) (hs.items);obtain ⟨Y,K⟩:=z
  have hh:A.in1.handled=Lk:=Z.1 (by decide)
  have hL:h.IsList l (Pg ⟨xs⟩):=⟨_,M.get (i:=0) rfl,rfl,e,by rw [Y];simp [Pg]⟩
  have c:xs.length=ns.length:=by have:=congrArg Og K;rwa [Ln,Ln] at this
  have hne:0 < xs.length:=by rw [c];exact List.length_pos_of_mem hm
  have J:(toString "max" ++ toString ".loop" : String) = "max.loop" := by decide
  show L7 _ A.in1 (Pm "max" ["key","default"] 0 ⟨[],[]⟩ >>= _) _ _ _
  refine Le (OG (show Pm "max" ["key","default"] 0 ⟨[],[]⟩=Ob [Lk,Lk] from rfl) ?_)
  refine Le (Lx ?_)
  refine Le (iter_intList hL fun Q S st H I=>?_)
  subst S
  refine Le (Mg ?_)
  have W:=Walks.list (prog:=pw) (w:=wd w a b) (A:=A.in1) hh h.objs.size l I (Pg ⟨xs⟩)
  have E:(h.push { cls:=.type "list_iterator",data:=.fields #[.ref l,.int 0 0] }).objs.size∉[h.objs.size,l]:=fun hmm=>NN _ (H _ hmm)
  refine Lx ⟨plainId_quiet F.plain_max_loop _,codeAny_max_loop_first W _ (CmpOf.ints_gt (SE ⟨xs⟩) (fun V V=>intItems_at)) _ E (by simpa [Pg] using hne) (W.frame _ _ _ st fun b V o e=>ML _ e) (OB _ rfl) fun v X tk L P=>?_⟩
  obtain ⟨f,r⟩:=jc (SE ⟨xs⟩) ((Pg ⟨xs⟩).size - 1)
  obtain ⟨t,rfl⟩:=intItems_at L
  generalize Rp (fun i j=>decide (SE ⟨xs⟩ i > SE ⟨xs⟩ j)) ((Pg ⟨xs⟩).size - 1)=p at L f r ⊢
  have hsz:(Pg ⟨xs⟩).size=xs.length:=by simp [Pg]
  have d:∀i (s:i < ns.length),SE ⟨xs⟩ i=Ll (ns[i]):=by
   intro i s
   have x:(xs.map (·.1))[i]? = (ns.map Ll)[i]? := by rw [K]
   rw [MO,MO,Lo s] at x
   show (((⟨xs⟩ : Array (Int × Tok))[i]?).map (·.1)).getD 0=_
   have U:(⟨xs⟩ : Array (Int × Tok))[i]? = xs[i]? := by simp
   rw [U,x];rfl
  have k:p < ns.length:=by rw [hsz] at f;exact c ▸ LJ f (Nat.sub_lt hne Nat.one_pos)
  have hv:SE ⟨xs⟩ p=Ll m:=by
   refine bj (fun i z=>?_) (NZ hm);obtain ⟨s,rfl⟩:=z
   have:=r i (by rw [hsz];exact Nat.le_pred_of_lt (c ▸ s))
   rw [d i s,d p k] at this
   rw [d p k]
   have B:=hmx _ (MX k)
   have C:ns[i]<=ns[p]:=Int.ofNat_le.mp this
   rw [NM B C]
  rw [hv]
  have hx:∀b o,h.get? b=Ld o->X.get? b=Ld o:=fun b o e=>by
   refine P b o (fun hmm=>?_) ?_ (ML _ (ML _ e))
   .rcases LD.mp hmm with x|hmm
    .exact absurd (x ▸ Ol e) (NN _)
    .cases hmm
   .intro q
    have B:=Ol e
    have C:b=h.objs.size + 1:=q.trans (Si ..)
    exact absurd (C ▸ B) (Nat.not_lt.mpr (P4 _))
  exact y _ [_] [] _ _ _ ⟨t,rfl,rfl,rfl⟩ rfl (by have:=M.ext hx;simpa using this)
def tV(s:L4):Lg:=sx s 0
def uP(e:Lg):Lg:=ex e 1
def dy(e:Lg):Lg:=ex e 0
def F6(e:Lg):Lg:=ex e 1
def dw:L4:=ax (ai IM) 2
def mK:L4:=ax (ai dw) 1
def fk:Lg:=F6 (dy (uP (tV (ax (ai mK) 0))))
noncomputable def bZ(x:Nat)(s:LN):LN:=match s.getLast? with
 | some l=>if l=x then [s.length] else []
 | none=>[]
theorem f5.append{ns a:LN}{vs b:LV}(h:f5 ns vs)(c:f5 a b):f5 (ns++a) (vs++b):=by
 induction h with
 | nil=>exact c
 | cons n t _ d=>exact .cons n t d
theorem gK.nats{f:LN->LN}{ss:LLN}{vs:LV}(h:af ss vs):∀{a:LV},gK (fun x o=>∀s t,x=sv s t->f5 (f s) o) vs a->f5 (ss.flatMap f) a:=by
 induction h with
 | nil=>intro a h;cases h;exact .nil
 | cons s t _ d=>
  intro a h
  cases h with
  | cons h hs=>
   have b:=h s t rfl
   have c:=d hs
   rw [Me]
   exact b.append c
abbrev jF (x0 x1 x2 x3 x4 x5 x6 x7 x8 x9 x10 x11 x12):=([x0,(x1,al x2 x3),(x4,aa x5 x6)]++[(x2,aa x7 x8),(x9,ad (Ld (sv [x10] x11)))])++x12
section
variable(w:Lj)(a b:Bool)(fr:List Env)(F g j d x m:Nat)(f:LV)(CL it ac:Nat)
include w a b fr F g j d x m f CL it ac
theorem vY(i:Nat)(s:LN)(l t:Nat)(r:s.getLast? = Ld l)(y:[l]=[x])(hsz:s.length < 60000)(B:f[i]? = Ld (sv s t))(c:Bool)(v:Lc)(J:ab)(h:LV)(p:Nat)(hz:h.length < 1000)(lows:Mem)(n:Lm->Mem->Prop)(IH:∀(v:Lc)(J:ab)(C:Nat)(p:Nat),ak w a b fr 9 (.compLoop fk 0 (.ref it) (.ref ac) (fN fk CL F [(⟨⟨jB⟩⟩,d)])) (jF (CL,bR Lh bK v J) it g (i + 1) ac (h++[.int (Ll s.length) C]) p f j d x m lows) n) :
  ak w a b fr 9 (.compLoop fk 0 (.ref it) (.ref ac) (fN fk CL F [(⟨⟨jB⟩⟩,d)])) (jF (CL,bR c bK v J) it g i ac h p f j d x m lows) n:=by
 apply eY b c 0x6041020400100;intro V N T D Q q st
 apply bo b c 8796093038721;intro o;apply aG w a b it g i f j (sv s t) B;k_all;intro E A st
 apply eE b c 32773;intro o;apply cL w a b s l t (A + 2) r;k_all;intro k G L st
 apply bo b c 536887296;intro o;apply iG w a b [l] [x] k m y;k_all;intro H M st
 apply cP b c 539001216;intro o;apply tT w a b s t hsz;k_all;intro u I O st
 apply cP b c 3;intro o;apply aB w a b ac h (.int (mE Nat s) u) p (by kd_p);k_all;intro z K P st
 apply gT b c [0,1,2,3,4];apply q;intro o;apply IH (sv s t) (ae (o 0)) u z.e;k_mem
theorem vZ(i:Nat)(s:LN)(l t:Nat)(q:s.getLast? = Ld l)(r:[l]≠[x])(y:f[i]? = Ld (sv s t))(c:Bool)(v:Lc)(J:ab)(h:LV)(n:Nat)(hz:h.length < 1000)(lows:Mem)(e:Lm->Mem->Prop)(IH:∀(v:Lc)(J:ab)(n:Nat),ak w a b fr 9 (.compLoop fk 0 (.ref it) (.ref ac) (fN fk CL F [(⟨⟨jB⟩⟩,d)])) (jF (CL,bR Lh bK v J) it g (i + 1) ac h n f j d x m lows) e) :
  ak w a b fr 9 (.compLoop fk 0 (.ref it) (.ref ac) (fN fk CL F [(⟨⟨jB⟩⟩,d)])) (jF (CL,bR c bK v J) it g i ac h n f j d x m lows) e:=by
 apply eY b c 0x6041020400100;intro V N T z G p st
 apply bo b c 8796093038721;intro o;apply aG w a b it g i f j (sv s t) y;k_all;intro A u st
 apply eE b c 32773;intro o;apply cL w a b s l t (u + 2) q;k_all;intro k B D st
 apply bo b c 3;intro o;apply iH w a b [l] [x] k m r;k_all;intro C E st
 apply gT b c [0,1,2,3,4];apply p;intro o;apply IH (sv s t) (ae (o 0)) n;k_mem
abbrev pB (x0 x1 x2 x3 x4 x5):=([(x0,aa x1 x2),(x3,ad (Ld (sv [x4] x5)))] : Mem)
theorem v7(i:Nat)(l:f.length<=i)(c:Bool)(v:Lc)(J:ab)(e:LV)(k:Nat)(lows:Mem) :
  ak w a b fr 9 (.compLoop fk 0 (.ref it) (.ref ac) (fN fk CL F [(⟨⟨jB⟩⟩,d)])) (jF (CL,bR c bK v J) it g i ac e k f j d x m lows)
   (d6 .next ([(CL,bR c bK v J),(ac,aa e k)]++(pB g f j d x m)) lows):=by
 apply eY b c 0x6041020400100;intro V N T n r h st
 apply nA b c 6;intro o;apply aP w a b it g i f j l;k_all;intro t s p q st
 apply lh b c [0,2,3,4];apply h;intro o τ;refine ⟨?_, ?_⟩;apply rfl;apply rfl;k_mem
theorem v8(ss:LLN)(B:af ss f)(hz:f.length < 900)(hne:∀s∈ss,s≠[])(hsz:∀s∈ss,s.length < 60000)(J:ab)(k:Nat)(lows:Mem) :
  ak w a b fr 9 (.compStart fk 0 (.ref it) (.ref ac) (fN fk CL F [(⟨⟨jB⟩⟩,d)])) (jF (CL,av [] J) it g 0 ac [] k f j d x m lows)
   (fun L K=>∃(v:Lc)(J:ab)(n:LV)(A:Nat),L=.ok .next/\K=([(CL,bR (!f.isEmpty) bK v J),(ac,aa n A)]++(pB g f j d x m))++lows/\f5 (ss.flatMap (bZ x)) n):=by
 refine bD (l:=g) (i:=0) 1 ((Nr fk)[0]!) rfl (by kernel_rfl) (by kernel_rfl) (by kernel_rfl) (by kernel_rfl) (by kernel_rfl) ?_
 refine aO.weak (nO g bK (pB g f j d x m) lows f (fun C o=>(∀s t,C=sv s t->f5 ((bZ x) s) o)/\o.length<=1) (fun C o h=>h.2) hz (fun i C H c v J r k hz p IH=>?_) (fun i M c v J r k=>v7 w a b fr F g j d x m f CL it ac i M c v J r k lows) .none J k) (Lf _) fun L K q=>?_
 .refine d9 (fun s t G=>?_) (B.at H);obtain ⟨hs,rfl⟩:=G
  have D:f5 ((bZ x) s) []->∀(v:Lc)(J:ab)(k:Nat),ak w a b fr 9 (.compLoop fk 0 (.ref it) (.ref ac) (fN fk CL F [(⟨⟨jB⟩⟩,d)])) (jF (CL,bR Lh bK v J) it g (i + 1) ac r k f j d x m lows) p:=fun h v J k=>by
   have:=IH v J [] ⟨fun N I e=>by injection e with e1 e2;injection e1 with e1;injection e1 with e1;subst e1;exact h,by simp⟩ k
   rwa [Mp] at this
  have E:∀y,f5 ((bZ x) s) [y]->∀(v:Lc)(J:ab)(k:Nat),ak w a b fr 9 (.compLoop fk 0 (.ref it) (.ref ac) (fN fk CL F [(⟨⟨jB⟩⟩,d)])) (jF (CL,bR Lh bK v J) it g (i + 1) ac (r++[y]) k f j d x m lows) p:=fun y h v J k=>
   IH v J [y] ⟨fun N I e=>by injection e with e1 e2;injection e1 with e1;injection e1 with e1;subst e1;exact h,by simp⟩ k
  obtain ⟨l,u⟩:=hY (hne s hs)
  by_cases z:l=x
  .exact vY w a b fr F g j d x m f CL it ac i s l t u (by rw [z]) (hsz s hs) H c v J r k hz lows p fun v J I k=>E (.int (Ll s.length) I) (by simp only [bZ,u,z,if_true];exact .cons _ _ .nil) v J k
  .exact vZ w a b fr F g j d x m f CL it ac i s l t u (fun q=>z (by injection q)) H c v J r k hz lows p fun v J k=>D (by simp only [bZ,u,if_neg z];exact .nil) v J k
 .refine gz (fun v J n A G=>?_) q;apply gu G;intro h
  exact ⟨_,.refl _,(jJ v J n A ⟨rfl,rfl,gK.nats B (h.mono fun C o h=>h.1)⟩)⟩
theorem tW(ss:LLN)(k:af ss f)(i:f≠[])(hz:f.length < 900)(hne:∀s∈ss,s≠[])(hsz:∀s∈ss,s.length < 60000)(J:ab)(n:Nat)(lows:Mem) :
  ak w a b fr 9 (.compStart fk 0 (.ref it) (.ref ac) (fN fk CL F [(⟨⟨jB⟩⟩,d)])) (jF (CL,av [] J) it g 0 ac [] n f j d x m lows)
   (fun o l=>∃(v:Lc)(J:ab)(c:LV)(e:Nat),o=.ok .next/\l=([(CL,av [(bK,v)] J),(ac,aa c e)]++(pB g f j d x m))++lows/\f5 (ss.flatMap (bZ x)) c):=by
 refine aO.weak (v8 w a b fr F g j d x m f CL it ac ss k hz hne hsz J n lows) (Lf _) fun o l q=>?_
 refine gz (fun v J c e p=>?_) q;apply gu p;intro h
 cases f with
 | nil=>exact absurd rfl i
 | cons r xs=>exact ⟨_,.refl _,v,J,c,e,rfl,rfl,h⟩
end
noncomputable def en:E4->Nat
 | .z0=>1 | .z1=>2 | .z2=>3 | .z3=>4
def F7(is:LN)(st:Bool->E4->E4->an):List (List (List (br × LN))):=aK fun b=>lk fun e=>lk fun f=>nD (aR is (st b e f)) (.stk,[]) e f
def F8(st:Bool->E4->E4->an)(v:Bool->E4->E4->br):List (List (List (br × LN))):=aM fun b=>lk fun e=>lk fun f=>nD (v b e f,aj (st b e f)) (.stk,[]) e f
theorem ia{is:LN}{st:Bool->E4->E4->an}{v:Bool->E4->E4->br}(h:F7 is st=F8 st v):∀(b:Bool)(e f:E4),f≠e->aR is (st b e f)=(v b e f,aj (st b e f)):=by
 intro b e f hne
 have x:=Hk (f:=fun e f=>nD (aR is (st b e f)) (.stk,[]) e f) (g:=fun e f=>nD (v b e f,aj (st b e f)) (.stk,[]) e f) e f (q_B (X:=fun b=>lk fun e=>lk fun f=>nD (aR is (st b e f)) (.stk,[]) e f) (Y:=fun b=>lk fun e=>lk fun f=>nD (v b e f,aj (st b e f)) (.stk,[]) e f) h b)
 cases e<;>cases f<;>first|exact x|exact absurd rfl hne
noncomputable abbrev nc(d e a c:Nat)(f:Lc)(b:Nat):List (LN × Lc):=[(fD,.ref d),(qg,.ref e),([98,101,104,105,110,100],.ref a),(gS,.ref c),([115,105,122,101],f),([103,114,111,117,112],.ref b)]
def ib(F a b:Nat):Env:=⟨bY IM,F,3,[(⟨⟨jB⟩⟩,b),(⟨⟨fC⟩⟩,a)],Kd,Ld 283,.ref 282,Ld F,0⟩
abbrev nV (x0 x1 x2 x3 x4 x5 x6 x7 x8 x9 x10 x11 x12 x13 x14 x15 x16 x17 x18 x19 x20):=([(x0,aJ (nc x1 x2 x3 x4 (.int (Ll (en x5)) x6) x7) x8),(x9,al x1 x10),(x1,aa x11 x12),(x7,aa x13 x14),(x3,aa x15 x16),(x2,aa x17 x18),(x19,ad x20)] : Mem)
abbrev fO (x0 x1 x2 x3 x4):=aC x0 x1 (ib x2 x3 x4)
section
variable(w:Lj)(a b:Bool)(fr:List Env)(F i c it k p u z y q r H G g tz:Nat)(l m j acc:LV)(A:Option Lc)(J:ab)(x h:Nat)(K:l[k]? = Ld (sv [x] h))(I d:LLN)(B:af I m)(E:af d j)(C:j≠[])(D:j.length < 900)(hne:∀s∈d,s≠[])(hsz:∀s∈d,s.length < 60000)(L:acc.length < 1000)(e:E4)
include w a b fr F i c it k p u z y q r H G g tz l m j acc A J x h K I d B E C D hne hsz L e
theorem F9(t:I.contains [x]=Lh)(lows:Mem)(f:Lm->Mem->Prop)(IH:∀(A:Option Lc)(J:ab)(g:Nat)(lows:Mem),ak w a b fr 10 (fO mK it F i c) ((nV F p z q H e tz G J it (k + 1) l u acc g m r j y c A)++lows) f) :
  ak w a b fr 10 (fO mK it F i c) ((nV F p z q H e tz G J it k l u acc g m r j y c A)++lows) f:=by
 have s:=fun(fr:List Env)(CL it ac:Nat)(J:ab)(g:Nat)(lows:Mem)=>tW w a b fr F z y c x h j CL it ac d E C D hne hsz J g lows
 apply eY b e 0x4041020400100;intro V N T v Q n st
 apply bo b e 0x100820a00285021c387;intro o;apply aG w a b it p k l u (sv [x] h) K;k_all;intro L O st
 apply bo b e 3;intro o;apply f4 w a b q m r [x] h B t;k_all;intro M P st
 apply gT b e [0,1,2,3,4,5,6];apply n;intro o;apply IH (Ld (sv [x] h)) J g lows;k_mem
theorem Ga(S:I.contains [x]=Li)(hm:en e∈d.flatMap (bZ x))(hmx:∀n∈d.flatMap (bZ x),n<=en e)(lows:Mem)(f:Lm->Mem->Prop)(IH:∀(A:Option Lc)(J:ab)(g:Nat)(lows:Mem),ak w a b fr 10 (fO mK it F i c) ((nV F p z q H e tz G J it (k + 1) l u (acc++[sv [x] h]) g m r j y c A)++lows) f) :
  ak w a b fr 10 (fO mK it F i c) ((nV F p z q H e tz G J it k l u acc g m r j y c A)++lows) f:=by
 have M:=fun(fr:List Env)(CL it ac:Nat)(J:ab)(g:Nat)(lows:Mem)=>tW w a b fr F z y c x h j CL it ac d E C D hne hsz J g lows
 apply eY b e 0x4041020400100;intro V N T W R P st
 apply bo b e 0x100820a00285021c387;intro o;apply aG w a b it p k l u (sv [x] h) K;k_all;intro Y T1 st
 apply bo b e 0xc14407121410800180060c04000;intro o;apply d8 w a b q m r [x] h B S;k_all;intro L T2 st
 apply qk b e 4432943136897;intro o;apply M fr (L + 2) L (L + 1) (ae (o 9)) 0 lows;k_all;intro v X s O Z T3 U R st
 apply cP b e 0x381042000410204080a00005;intro o;apply yN w a b (L + 1) s O U (en e) hm hmx;k_all;intro t N4 T4 st
 apply cP b e 3;intro o;apply aB w a b G acc (sv [x] h) g (by kd_p);k_all;intro Q N5 T5 st
 apply gT b e [4,5,6,7,8,2,3];apply P;intro o;apply IH (Ld (sv [x] h)) J Q.e lows;k_mem
theorem Gb(f:E4)(P:f≠e)(hb:I.contains [x]=Li)(hm:en f∈d.flatMap (bZ x))(hmx:∀n∈d.flatMap (bZ x),n<=en f)(lows:Mem)(Q:Lm->Mem->Prop)(IH:∀(A:Option Lc)(J:ab)(g:Nat)(lows:Mem),ak w a b fr 10 (fO mK it F i c) ((nV F p z q H e tz G J it (k + 1) l u acc g m r j y c A)++lows) Q) :
  ak w a b fr 10 (fO mK it F i c) ((nV F p z q H e tz G J it k l u acc g m r j y c A)++lows) Q:=by
 have W:=fun(fr:List Env)(CL it ac:Nat)(J:ab)(g:Nat)(lows:Mem)=>tW w a b fr F z y c x h j CL it ac d E C D hne hsz J g lows
 apply lD b e f 0x4041020400100;intro V N T S Z Y st
 apply zu b e f;intro o;apply aG w a b it p k l u (sv [x] h) K;walk_at "lv";have s:=P;revert s;generalize b=L;generalize e=e';generalize f=M;revert L e' M;refine ia ?_;kernel_rfl;intro V V V N1 T1 O V;apply dX O;apply eF b e f 0x100820a00285021c387;intro st
 apply zu b e f;intro o;apply d8 w a b q m r [x] h B hb;walk_at "lv";have s:=P;revert s;generalize b=L;generalize e=e';generalize f=M;revert L e' M;refine ia ?_;kernel_rfl;intro V V V U T2 O V;apply dX O;apply eF b e f 0xc14407121410800180060c04000;intro st
 apply Iy b e f;intro o;apply W fr (U + 2) U (U + 1) (ae (o 9)) 0 lows;walk_at "lv";refine Kv ?_ ?_;have s:=P;revert s;generalize b=L;generalize e=e';generalize f=M;revert L e' M;refine ia ?_;kernel_rfl;generalize b=L;generalize e=e';generalize f=M;cases L<;>cases e'<;>cases M<;>kernel_rfl;intro V V N3 T3 O;refine gz (fun v J1 R X O=>?_) O;apply jt O;intro hq;refine ⟨_,_,.refl _,fun Z=>?_⟩;apply eF b e f 4432943136897;intro st
 apply zu b e f;intro o;apply yN w a b (U + 1) R X hq (en f) hm hmx;walk_at "lv";have s:=P;revert s;generalize b=L;generalize e=e';generalize f=M;revert L e' M;refine ia ?_;kernel_rfl;intro V V V N4 T4 O V;refine bj (fun t O=>?_) O;apply dX O;apply eF b e f 6291461;intro st
 refine gc (is:=[4,5,6,7,8,2,3]) (S.hA.mono (by decide)) S.hf S.hk S.hl Z.hT (fun o=>IH (Ld (my [x] h)) J g lows) (by kernel_rfl) (by have s:=P;revert s;generalize b=L;generalize e=e';generalize f=M;revert L e' M;refine ia ?_;kernel_rfl) (by generalize b=L;generalize e=e';generalize f=M;cases L<;>cases e'<;>cases M<;>kernel_rfl) Y
end
theorem Gc(w:Lj)(a b:Bool)(fr:List Env)(F e f it k c h:Nat)(d:LV)(i:d.length<=k)(lows:Mem) :
  ak w a b fr 10 (fO mK it F e f) ([(it,al c k),(c,aa d h)]++lows) (d6 .next [(c,aa d h)] lows):=by
 apply cW b 563019211866240;intro V N T j n g st
 apply gF b 3;intro o;apply aP w a b it c k d h i;k_all;intro x p l m st
 apply b4 b [1];apply g;intro o τ;refine ⟨?_, ?_⟩;apply rfl;apply rfl;k_mem
noncomputable def eU(l:List L4)(env:Env):Sem Fin:=L5 l env >>= fun f=>Ob (.done f)
noncomputable def gM(e:Lg)(env:Env):Sem Fin:=M6 e env >>= fun v=>Ob (.done (.ret v))
noncomputable def Ap(e:Lg)(env:Env):Sem Fin:=NO e env (M6 e env) >>= fun b=>Ob (.done (.ret (.bool b)))
section
variable{prog:LU}{w:Lj}{A:L9}{c:Mk}{env:Env}{s:Ly}
def SW(prog:LU)(w:Lj)(A:L9)(c:Mk)(env:Env)(l:List L4)(K:Oi->Ly->Prop)(s:Ly):Prop:=NE (Lw prog w) A c (OH l env) K (fun V V=>False) s
def EV(prog:LU)(w:Lj)(A:L9)(c:Mk)(env:Env)(e:Lg)(Q:Lc->Ly->Prop)(s:Ly):Prop:=NE (Lw prog w) A c (RR e env) Q (fun V V=>False) s
def IT(prog:LU)(w:Lj)(A:L9)(c:Mk)(env:Env)(e:Lg)(Q:Bool->Ly->Prop)(s:Ly):Prop:=NE (Lw prog w) A c (isTrue e env (RR e env)) Q (fun V V=>False) s
theorem SW.append{b a:List L4}{K:Oi->Ly->Prop}(h:SW prog w A c env b (fun f g=>match f with | .next=>SW prog w A c env a K g|f=>K f g) s):SW prog w A c env (b++a) K s:=by
 intro Γ p e d
 refine cB a b _ p s (Lt _ Γ _ (fun f i j q=>?_) (fun V V V x=>x) p s (h Γ p e d))
 cases f with
 | next=>exact q Γ i e d
 | _=>exact q
theorem SW.tree{l:List L4}{K:Oi->Ly->Prop}(h:NE (Lw prog w) A c (eU l env) (fun a e=>∀f,a=.done f->K f e) (fun V V=>False) s):SW prog w A c env l K s:=by
 intro Γ p d b
 have H:=h Γ p d b
 unfold eU at H
 rw [<- Mc,Lp] at H
 exact Lt _ Γ _ (fun f g i q=>q f rfl) (fun V V V x=>x) p s H
theorem EV.tree{e:Lg}{Q:Lc->Ly->Prop}(h:NE (Lw prog w) A c (gM e env) (fun a k=>∀f,a=.done f->∃v,f=.ret v/\Q v k) (fun V V=>False) s):EV prog w A c env e Q s:=by
 intro Γ p j b
 have H:=h Γ p j b
 unfold gM at H
 rw [<- M7,Lp] at H
 refine Lt _ Γ _ (fun f l m q=>?_) (fun V V V x=>x) p s H
 refine bj (fun v d=>?_) (q _ rfl);obtain ⟨g,i⟩:=d
 cases g
 exact i
theorem IT.tree{e:Lg}{Q:Bool->Ly->Prop}(h:NE (Lw prog w) A c (Ap e env) (fun a l=>∀f,a=.done f->∃b,f=.ret (.bool b)/\Q b l) (fun V V=>False) s):IT prog w A c env e Q s:=by
 intro Γ p k d
 have H:=h Γ p k d
 unfold Ap at H
 rw [<- NP,<- M7,Lp] at H
 refine Lt _ Γ _ (fun f m n q=>?_) (fun V V V x=>x) p s H
 refine bj (fun v g=>?_) (q _ rfl);obtain ⟨i,j⟩:=g
 cases i
 exact j
theorem SW.if_{e:Lg}{body d:List L4}{j:Pos}{K:Oi->Ly->Prop}(h:IT prog w A c env e (fun b m=>SW prog w A c env (if b then body else d) K m) s):SW prog w A c env [.If e body d j] K s:=by
 intro Γ p o i
 show Mz _ Γ (OH [.If e body d j] env) _ _ p s
 rw [Na,Lp,exec_If,Lp,NF,Lp]
 refine Lt _ Γ _ (fun b k n q=>?_) (fun V V V x=>x) _ s (h Γ _ o i)
 have g:∀l,SW prog w A c env l K n->Mz (Lw prog w) Γ (OH l env) (fun f p s=>Mz (Lw prog w) Γ (match f with | .next=>OH [] env|f=>Ob f) (fun a V m=>K a m) (fun V V V=>False) p s) (fun V V V=>False) k n:=by
  intro l r
  refine Lt _ Γ _ (fun f t u q=>?_) (fun V V V x=>x) k n (r Γ k o i)
  cases f<;>exact q
 cases b with
 | true=>exact g body q
 | false=>exact g d q
theorem SW.ret{e:Lg}{a:Pos}{K:Oi->Ly->Prop}(h:EV prog w A c env e (fun v f=>K (.ret v) f) s):SW prog w A c env [.Return (Ld e) a] K s:=by
 intro Γ p d b
 show Mz _ Γ (OH [.Return (Ld e) a] env) _ _ p s
 rw [Na,Lp,exec_Return_some,Lp,NF,Lp]
 exact Lt _ Γ _ (fun v g i q=>q) (fun V V V x=>x) _ s (h Γ _ d b)
theorem IT.cmp{l r:Lg}{e:SN}{d:Pos}{Q:Bool->Ly->Prop}(hm:Mo e r=Li)(h:EV prog w A c env l (fun x i=>EV prog w A c env r (fun y j=>L7 (Lw prog w) (A.under c) (OA e x y) (fun v m=>∃b,v=.bool b/\Q b m) (fun V V=>False) j) i) s) :
  IT prog w A c env (.Compare l [e] [r] d) Q s:=by
 intro Γ p f a
 have g:Γ.In (A.under c):=by have:=a.in;rwa [f] at this
 show Mz _ Γ (isTrue (.Compare l [e] [r] d) env _) _ _ p s
 simp only [isTrue_Compare1,Rj hm,Lp,Pp,NF,Ss]
 refine Lt _ Γ _ (fun x k i n=>?_) (fun V V V x=>x) p s (h Γ p f a)
 refine Lt _ Γ _ (fun y t j o=>?_) (fun V V V x=>x) k i (n Γ k f a)
 refine Lt _ Γ _ (fun v u m q=>?_) (fun V V V x=>x) _ j (o Γ _ g)
 obtain ⟨b,rfl,h4⟩:=q
 exact h4
theorem EV.cmp{l r:Lg}{f:SN}{d:Pos}{Q:Lc->Ly->Prop}(hm:Mo f r=Li)(h:EV prog w A c env l (fun x j=>EV prog w A c env r (fun y m=>L7 (Lw prog w) (A.under c) (OA f x y) Q (fun V V=>False) m) j) s) :
  EV prog w A c env (.Compare l [f] [r] d) Q s:=by
 intro Γ p g e
 have i:Γ.In (A.under c):=by have:=e.in;rwa [g] at this
 have n:RR (.Compare l [f] [r] d) env=(do let a <- RR l env;let b <- holding [a] (markedBehindIn f r (RR r env));O5 d;operate [a,b] (OA f a b)):=rfl
 show Mz _ Γ (RR (.Compare l [f] [r] d) env) _ _ p s
 rw [n]
 simp only [Rj hm,Lp,Pp,NF,Ss]
 refine Lt _ Γ _ (fun x k j o=>?_) (fun V V V x=>x) p s (h Γ p g e)
 refine Lt _ Γ _ (fun y t m q=>?_) (fun V V V x=>x) k j (o Γ k g e)
 exact q Γ _ i
theorem kr(x:Lg)(r:List Lg)(env:Env):PG .Or (x::r) env=(isTrue x env (RR x env) >>= fun b=>match BoolOp.Or,b with | .And,Li=>Ob Li | .Or,Lh=>Ob Lh | _,_=>PG .Or r env):=rfl
theorem IT.or1{x:Lg}{d:Pos}{Q:Bool->Ly->Prop}(h:IT prog w A c env x Q s):IT prog w A c env (.BoolOp .Or [x] d) Q s:=by
 intro Γ p e a
 show Mz _ Γ (PG .Or [x] env) _ _ p s
 rw [kr,Lp]
 refine Lt _ Γ _ (fun b f g q=>?_) (fun V V V x=>x) p s (h Γ p e a)
 cases b<;>exact q
theorem IT.or{x y:Lg}{l:List Lg}{d pos':Pos}{Q:Bool->Ly->Prop}(h:IT prog w A c env x (fun b f=>match b with|true=>Q Lh f|false=>IT prog w A c env (.BoolOp .Or (y::l) pos') Q f) s):IT prog w A c env (.BoolOp .Or (x::y::l) d) Q s:=by
 intro Γ p e a
 show Mz _ Γ (PG .Or (x::y::l) env) _ _ p s
 rw [kr,Lp]
 refine Lt _ Γ _ (fun b g i q=>?_) (fun V V V x=>x) p s (h Γ p e a)
 cases b with
 | true=>exact q
 | false=>exact q Γ g e a
theorem v9{body:List L4}{R:Lm->Ly->Prop}(a:c=.func body env)(h:SW prog w A c env body (fun f d=>R (.ok (.ret (match f with | .ret v=>v | _=>.none))) d) s):Mm (Lw prog w) A c R s:=by
 subst a
 refine PD (prog:=prog) (w:=w) A R s _ ?_
 intro Γ p a b
 show Mz (Lw prog w) Γ ((OH body env).onRaise (Po env) >>= fun f=>match f with
  | .ret v=>ret v
  | _=>ret .none) _ _ p s
 rw [Lp,Ny]
 refine Lt _ Γ _ (fun f e g q=>?_) (fun V V V x=>x.elim) p s (h Γ p a b)
 cases f<;>exact q
noncomputable def qx(a:Lg)(it:Lc)(b:List L4)(env:Env):Sem Fin:=
 O5 a.pos >>= fun V=>(pyNext it).onRaise (fun V=>O5 { a.pos with line:=0 }) >>= fun r=>match r with
  | none=>Ob (.done .brk)
  | some v=>Th a it v >>= fun V=>assign a env v >>= fun V=>L5 b env >>= fun f=>match f with
   | .next=>Ob (.done .next)
   | _=>Ob (.done .cont)
theorem Aq{a:Lg}{it:Lc}{e d b:List L4}{R:Lm->Ly->Prop}(m:c=.forLoop a it (e++d) b env)(h:NE (Lw prog w) A c (qx a it e env) (fun n E=>∀f,n=.done f->f=.next/\SW prog w A c env d (fun f g=>match f with | .next=>Mm (Lw prog w) A c R g | .cont=>Mm (Lw prog w) A c R g | .brk=>R (.ok .next) g | .ret v=>R (.ok (.ret v)) g) E) (fun V V=>False) s) :
  Mm (Lw prog w) A c R s:=by
 subst m
 refine PD (prog:=prog) (w:=w) A R s _ ?_
 intro Γ p m i
 have H:=h Γ p m i
 show Mz (Lw prog w) Γ ((forTurn a it (e++d) b env).onRaise (fun x=>do Nc x env;OP x)) _ _ p s
 rw [Ny]
 unfold forTurn
 unfold qx at H
 rw [<- Mc] at H
 rw [Lp] at H ⊢
 refine Lt _ Γ _ (fun V B F q=>?_) (fun V V V x=>x.elim) p s H
 rw [Lp] at q ⊢
 refine Lt _ Γ _ (fun r C g j=>?_) (fun V V V x=>x.elim) B F q
 cases r with
 | none=>
  obtain ⟨k,_⟩:=j _ rfl
  cases k
 | some v=>
  dsimp only at j ⊢
  rw [Lp] at j ⊢
  refine Lt _ Γ _ (fun V D G k=>?_) (fun V V V x=>x.elim) C g j
  rw [Lp] at k ⊢
  refine Lt _ Γ _ (fun V u z h4=>?_) (fun V V V x=>x.elim) D G k
  rw [Lp] at h4 ⊢
  refine cB d e _ u z ?_
  refine Lt _ Γ _ (fun f y I t=>?_) (fun V V V x=>x.elim) u z h4
  cases f with
  | next=>
   obtain ⟨_,o⟩:=t _ rfl
   refine Lt _ Γ _ (fun f J K l=>?_) (fun V V V x=>x.elim) y I (o Γ y m i)
   cases f with
   | next=>exact ⟨rfl,l⟩
   | cont=>exact ⟨rfl,l⟩
   | brk=>exact l
   | ret v=>exact l
  | _=>
   obtain ⟨o,_⟩:=t _ rfl
   cases o
end
section
open PySem.SeqAt PySem.MeetsSeq
def bt(prog:LU)(w:Lj)(kt:KT)(fr:List Env)(L:Nat)(c:Mk)(env:Env)(l:List L4)(F:Mem)(a:Oi->Mem->Prop):Prop:=
 ∀(A:L9)(g h:ME)(G:Array Mi)(D:Nn)(O:Mq)(N T:Nat)(K:Oi->Ly->Prop),bX A L->A.frames=Ld fr->kt.Holds g 1 0->g.NoLimit->Rep g h N F ->
  (∀f b e i d,a f b->Rep g d e b->K f ⟨d,G,D,i,O⟩)->SW prog w A c env l K ⟨h,G,D,T,O⟩
def dW(prog:LU)(w:Lj)(kt:KT)(fr:List Env)(L:Nat)(c:Mk)(env:Env)(e:Lg)(F:Mem)(a:Lc->Mem->Prop):Prop:=
 ∀(A:L9)(g h:ME)(G:Array Mi)(D:Nn)(O:Mq)(N T:Nat)(K:Lc->Ly->Prop),bX A L->A.frames=Ld fr->kt.Holds g 1 0->g.NoLimit->Rep g h N F ->
  (∀f b i j d,a f b->Rep g d i b->K f ⟨d,G,D,j,O⟩)->EV prog w A c env e K ⟨h,G,D,T,O⟩
def dO(prog:LU)(w:Lj)(kt:KT)(fr:List Env)(L:Nat)(c:Mk)(env:Env)(e:Lg)(F:Mem)(a:Bool->Mem->Prop):Prop:=
 ∀(A:L9)(g h:ME)(G:Array Mi)(D:Nn)(O:Mq)(N T:Nat)(K:Bool->Ly->Prop),bX A L->A.frames=Ld fr->kt.Holds g 1 0->g.NoLimit->Rep g h N F ->
  (∀f b i j d,a f b->Rep g d i b->K f ⟨d,G,D,j,O⟩)->IT prog w A c env e K ⟨h,G,D,T,O⟩
section
variable{prog:LU}{w:Lj}{kt:KT}{fr:List Env}{L:Nat}{c:Mk}{env:Env}{F a:Mem}
theorem dP{A:L9}{t:Sem Fin}{R:Lm->Ly->Prop}{K:Fin->Ly->Prop}{s:Ly}(h:NE (Lw prog w) A c t (PR prog w A R) (Qw R) s)(d:∀b a,PR prog w A R b a->K b a)(he:∀e a,¬R (.error e) a):NE (Lw prog w) A c t K (fun V V=>False) s:=OW h d fun e a x=>he e a x
theorem bt.mono{l:List L4}{b post':Oi->Mem->Prop}(h:bt prog w kt fr L c env l F b)(hp:∀f a,b f a->∃d,a.Perm d/\post' f d):bt prog w kt fr L c env l F post':=
 fun A g i G D O N T K q hf s t r e=>h A g i G D O N T K q hf s t r fun f a m n i p j=>by
  refine bj (fun d o=>?_) (hp _ _ p);obtain ⟨k,u⟩:=o
  exact e f d m n i u (j.perm k)
theorem bt.append{e d:List L4}{post1 b:Oi->Mem->Prop}(h:bt prog w kt fr L c env e F post1)(t:∀f a,post1 f a->f=.next/\bt prog w kt fr L c env d a b):bt prog w kt fr L c env (e++d) F b:=
 fun A g j G D O N T K l hf m n s i=>SW.append (h A g j G D O N T _ l hf m n s fun f a o q j p k=>by
  obtain ⟨rfl,r⟩:=t f a p
  exact r A g j G D O o q K l hf m n k i)
theorem bt.if_{i:Lg}{body d:List L4}{m:Pos}{post1:Bool->Mem->Prop}{e:Oi->Mem->Prop}(h:dO prog w kt fr L c env i F post1)(u:∀b a,post1 b a->bt prog w kt fr L c env (if b then body else d) a e):bt prog w kt fr L c env [.If i body d m] F e:=
 fun A g k G D O N T K n hf o q t j=>SW.if_ (h A g k G D O N T _ n hf o q t fun f a r s k p l=>u f a p A g k G D O r s K n hf o q l j)
theorem bt.nil:bt prog w kt fr L c env [] F (fun f a=>f=.next/\a=F):=
 fun A g d G D O N T K i hf k l e b Γ p j h=>b .next F N T d ⟨rfl,rfl⟩ e
theorem bt.tree{l:List L4}{b:Oi->Mem->Prop}(h:bW prog w kt fr L c (eU l env) F (fun d a=>∃f,d=.ok f/\b f a)):bt prog w kt fr L c env l F b:=
 fun A g j G D O N T K o hf t u r i=>SW.tree (dP (h A g j G D O N T (fun d s=>∃f,d=.ok f/\K f s) o hf t u r fun d a m n j p k=>by
  obtain ⟨f,rfl,q⟩:=p
  exact ⟨f,rfl,i f a m n j q k⟩) (fun z v q f e=>by
   subst e
   obtain ⟨y,e,q⟩:=q
   cases e
   exact q) (fun e v x=>by obtain ⟨_,h,_⟩:=x;cases h))
theorem dW.tree{e:Lg}{b:Lc->Mem->Prop}(h:bW prog w kt fr L c (gM e env) F (fun d a=>∃v,d=.ok (.ret v)/\b v a)):dW prog w kt fr L c env e F b:=
 fun A g j G D O N T K n hf r t o i=>EV.tree (dP (h A g j G D O N T (fun d s=>∃v,d=.ok (.ret v)/\K v s) n hf r t o fun d a l m j p k=>by
  obtain ⟨f,rfl,q⟩:=p
  exact ⟨f,rfl,i f a l m j q k⟩) (fun y u q f e=>by
   subst e
   obtain ⟨v,e,q⟩:=q
   cases e
   exact ⟨v,rfl,q⟩) (fun e u x=>by obtain ⟨_,h,_⟩:=x;cases h))
theorem dO.tree{e:Lg}{b:Bool->Mem->Prop}(h:bW prog w kt fr L c (Ap e env) F (fun d a=>∃v,d=.ok (.ret (.bool v))/\b v a)):dO prog w kt fr L c env e F b:=
 fun A g j G D O N T K n hf r t o i=>IT.tree (dP (h A g j G D O N T (fun d s=>∃v,d=.ok (.ret (.bool v))/\K v s) n hf r t o fun d a l m j p k=>by
  obtain ⟨f,rfl,q⟩:=p
  exact ⟨f,rfl,i f a l m j q k⟩) (fun y u q f e=>by
   subst e
   obtain ⟨v,e,q⟩:=q
   cases e
   exact ⟨v,rfl,q⟩) (fun e u x=>by obtain ⟨_,h,_⟩:=x;cases h))
def qy(a:SN)(x y:Lc)(F:Mem)(b:Bool):Prop:=∀(prog:LU)(w:Lj)(A:L9)(g h:ME)(G:Array Mi)(D:Nn)(O:Mq)(N T:Nat)(E Q:Lc->Ly->Prop),A.units < P9->Rep g h N F->Q (.bool b) ⟨h,G,D,T,O⟩->L7 (Lw prog w) A (OA a x y) Q E ⟨h,G,D,T,O⟩
theorem dO.cmp{l r:Lg}{m:SN}{n:Pos}{post1:Lc->Mem->Prop}{a:Bool->Mem->Prop}(hm:Mo m r=Li)(I:NU c.cUnits 100=Lh)(h:dW prog w kt fr L c env l F post1)(E:∀x f,post1 x f->∃post2:Lc->Mem->Prop,dW prog w kt fr L c env r f post2/\∀y d,post2 y d->∃b,qy m x y d b/\a b d):dO prog w kt fr L c env (.Compare l [m] [r] n) F a:=
 fun A g B G D O N T K j hf t u H i=>IT.cmp hm (h A g B G D O N T _ j hf t u H fun x f v z C p k=>by
  obtain ⟨post2,Q,R⟩:=E x f p
  refine Q A g C G D O v z _ j hf t u k fun y d o q s P e=>?_
  obtain ⟨b,J,M⟩:=R y d P
  refine J prog w _ g s G D O o q _ _ ?_ e ⟨b,rfl,i b d o q s M e⟩
  exact LJ (LS (LP I) _) (oK (MJ L) j.2.2))
theorem dO.or1{x:Lg}{d:Pos}{a:Bool->Mem->Prop}(h:dO prog w kt fr L c env x F a):dO prog w kt fr L c env (.BoolOp .Or [x] d) F a:=
 fun A g e G D O N T K f hf j k i b=>IT.or1 (h A g e G D O N T K f hf j k i b)
theorem dO.or{x y:Lg}{l:List Lg}{k pos':Pos}{post1 d:Bool->Mem->Prop}(h:dO prog w kt fr L c env x F post1)(t:∀a,post1 Lh a->d Lh a)(j:∀a,post1 Li a->dO prog w kt fr L c env (.BoolOp .Or (y::l) pos') a d):dO prog w kt fr L c env (.BoolOp .Or (x::y::l) k) F d:=
 fun A g i G D O N T K m hf n o s e=>IT.or (pos':=pos') (h A g i G D O N T _ m hf n o s fun b a q r i p f=>by
  cases b with
  | true=>exact e _ _ _ _ _ (t _ p) f
  | false=>exact j _ p A g i G D O q r K m hf n o f e)
theorem bt.ret{e:Lg}{i:Pos}{post1:Lc->Mem->Prop}{b:Oi->Mem->Prop}(h:dW prog w kt fr L c env e F post1)(hp:∀v a,post1 v a->b (.ret v) a):bt prog w kt fr L c env [.Return (Ld e) i] F b:=
 fun A g j G D O N T K k hf m n l d=>SW.ret (h A g j G D O N T _ k hf m n l fun v a o q j p f=>d _ _ _ _ _ (hp _ _ p) f)
theorem Ge{body:List L4}{post1:Oi->Mem->Prop}{b:Lm->Mem->Prop}(n:c=.func body env)(h:bt prog w kt fr L c env body F post1)(hp:∀f a,post1 f a->b (.ok (.ret (match f with | .ret v=>v | _=>.none))) a):aO prog w kt fr L c F b:=
 fun A g e G D O N T R l hf o q m d=>v9 n (h A g e G D O N T _ l hf o q m fun f a j k e p i=>d _ a j k e (hp f a p) i)
theorem wa{d:Lg}{it:Lc}{m i l:List L4}{post1:Mem->Prop}{post2:Oi->Mem->Prop}{b:Lm->Mem->Prop}(Q:c=.forLoop d it (m++i) l env)(h:bW prog w kt fr L c (qx d it m env) F (fun u a=>u=.ok .next/\post1 a))(K:∀a,post1 a->bt prog w kt fr L c env i a post2)(M:∀f a,post2 f a->match f with | .next=>aO prog w kt fr L c a b | .cont=>aO prog w kt fr L c a b | .brk=>b (.ok .next) a | .ret v=>b (.ok (.ret v)) a):aO prog w kt fr L c F b:=
 fun A g z G D O N T R o hf r t P j=>Aq Q (dP (h A g z G D O N T (fun u s=>u=.ok .next/\SW prog w A c env i (fun f y=>match f with | .next=>Mm (Lw prog w) A c R y | .cont=>Mm (Lw prog w) A c R y | .brk=>R (.ok .next) y | .ret v=>R (.ok (.ret v)) y) s) o hf r t P fun u a I J z p B=>by
  obtain ⟨rfl,S⟩:=p
  refine ⟨rfl,K a S A g z G D O I J _ o hf r t B fun f H C E h4 q k=>?_⟩
  have n:=M f H q
  cases f with
  | next=>exact n A g h4 G D O C E R o hf r t k j
  | cont=>exact n A g h4 G D O C E R o hf r t k j
  | brk=>exact j _ _ _ _ _ n k
  | ret v=>exact j _ _ _ _ _ n k) (fun W U q f e=>by
   subst e
   obtain ⟨e,q⟩:=q
   cases e
   exact ⟨rfl,q⟩) (fun e U x=>by obtain ⟨h,_⟩:=x;cases h))
end
theorem tX:∀{ss a:LLN},ss.length=a.length->((Np ss.length).all fun j=>decide (ss[j]? = a[j]?))=decide (ss=a)
 | ss,a,h=>by
  rw [P6,Ms,decide_eq_true_iff]
  constructor
  .intro q
   apply PJ
   intro j
   by_cases b:j < ss.length
   .exact of_decide_eq_true (q j (Sm.mpr b))
   .rw [MV (by kd_p),MV (by kd_p)]
  .rintro rfl j _
   exact decide_eq_true rfl
theorem af.eqAt{A:L9}{s:Ly}{ss a:LLN}{vs b:LV}(h:af ss vs)(f:af a b)(j:Nat)(g:j < vs.toArray.size)(k:j < b.toArray.size):EqAt A s vs.toArray[j] b.toArray[j] (decide (ss[j]? = a[j]?)):=by
 have l:j < ss.length:=by rw [<- h.length];simpa using g
 have l2:j < a.length:=by rw [<- f.length];simpa using k
 obtain ⟨t,c⟩:=h.get (i:=j) (s:=ss[j]) (Lo l)
 obtain ⟨u,d⟩:=f.get (i:=j) (s:=a[j]) (Lo l2)
 have m:vs.toArray[j]=sv ss[j] t:=by
  have : vs[j]? = Ld vs.toArray[j]:=by rw [Lo (by simpa using g)];simp
  rw [this] at c;exact MK c
 have n:b.toArray[j]=sv a[j] u:=by
  have : b[j]? = Ld b.toArray[j]:=by rw [Lo (by simpa using k)];simp
  rw [this] at d;exact MK d
 rw [m,n]
 have:=(df ss[j] a[j] t u).at A s
 have e:decide (ss[j]=a[j])=decide (ss[j]? = a[j]?):=by
  rw [Lo l,Lo l2]
  simp
 rw [<- e]
 exact this
theorem bc{g h:ME}{N:Nat}{F:Mem}(R:Rep g h N F){a e:Nat}{vs:LV}(hm:(a,aa vs e)∈F):h.IsList a vs.toArray:=⟨_,(R.own _ hm).1,rfl,_,rfl⟩
theorem jd{F:Mem}{a b e e':Nat}{ss c:LLN}{vs k:LV}(h:af ss vs)(i:af c k)(l:(a,aa vs e)∈F)(m:(b,aa k e')∈F):qy .NotEq (.ref a) (.ref b) F (!decide (ss=c)):=by
 intro prog w A g hp G D O N T E Q o d n
 by_cases f:ss.length=c.length
 .have hsz:vs.toArray.size=k.toArray.size:=by simp [h.length,i.length,f]
  have:=Sh (A:=A) (s:=⟨hp,G,D,T,O⟩) (bc d l) (bc d m) hsz o (e:=fun j=>decide (ss[j]? = c[j]?)) (fun j q r=>h.eqAt i j q r)
  refine this prog w E Q ?_
  have p:vs.toArray.size=ss.length:=by simp [h.length]
  rw [p,tX f]
  exact n
 .have:=RcNeAt.lists_lengths (A:=A) (s:=⟨hp,G,D,T,O⟩) (bc d l) (bc d m) (by simp [h.length,i.length,f]) o
  refine this prog w E Q ?_
  have : ss≠c:=fun e=>f (by rw [e])
  simpa [this] using n
end
noncomputable def dl(a:LLN)(mx:Nat->E4)(e:E4):LN->LN
 | []=>[]
 | x::xs=>if a.contains [x]=Lh then dl a mx e xs else if iF (mx x) e=Lh then x::dl a mx e xs else dl a mx e xs
theorem Gg(w:Lj)(a b:Bool)(fr:List Env)(F p f it m H o I j E C l tz:Nat)(B z v:LV)(K g:LLN)(L:af K z)(O:af g v)(N:v≠[])(P:v.length < 900)(hne:∀s∈g,s≠[])(hsz:∀s∈g,s.length < 60000)(mx:Nat->E4)(e:E4)(S xs:LN):∀(k:Nat)(A:af (xs.map fun x=>[x]) (B.drop k))(hmx:∀x∈xs,K.contains [x]=Li->en (mx x)∈g.flatMap (bZ x)/\∀n∈g.flatMap (bZ x),n<=en (mx x))(G:LN)(t:G++dl K mx e xs=S)(c:LV)(d:af (G.map fun x=>[x]) c)(Z:G.length + xs.length < 900)(h:Nat)(i:Option Lc)(J:ab)(lows:Mem),
  ak w a b fr 10 (fO mK it F p f) ((nV F m o j C e tz l J it k B H c h z E v I f i)++lows)
   (fun rr F'=>∃(D:LV)(W:Nat)(ov':Option Lc)(J':ab)(Q:Mem),rr=.ok .next/\F'=[(ay F (nc m o j C (.int (Ll (en e)) tz) l) J'),(m,aa B H),(l,aa D W),(j,aa z E),(o,aa v I),(f,ad ov')]++Q/\af (S.map fun x=>[x]) D):=by
 induction xs with
 | nil=>
  intro k A hmx G t c d Z h i J lows
  rw [dl,Mp] at t
  subst t
  refine aO.weakP ((Gc w a b fr F p f it k m H B A.drop_nil ([(ay F (nc m o j C (.int (Ll (en e)) tz) l) J),(l,aa c h),(j,aa z E),(o,aa v I),(f,ad i)]++lows)).pk (Pk.of2 (M:=(nV F m o j C e tz l J it k B H c h z E v I f i)) [1,2,0,3,4,5,6] (by kernel_rfl))) (Lf _) fun rr F' q=>?_
  obtain ⟨rfl,rfl⟩:=q
  exact ⟨_,Pk.of (M:=[(m,aa B H),(ay F (nc m o j C (.int (Ll (en e)) tz) l) J),(l,aa c h),(j,aa z E),(o,aa v I),(f,ad i)]) [1,0,2,3,4,5] (by kernel_rfl),(m7 c h i J lows ⟨rfl,rfl,d⟩)⟩
 | cons x xs ih=>
  intro k A hmx G t c d Z h i J lows
  refine bj (fun U h0=>?_) (A.drop_cons);obtain ⟨hv,u⟩:=h0
  simp only [Ls] at Z
  have r:=fun y (hy:y∈xs)=>hmx y (.tail _ hy)
  cases R:K.contains [x] with
  | true=>
   rw [dl,if_pos R] at t
   exact F9 w a b fr F p f it k m H o I j E C l h tz B z v c i J x U hv K g L O N P hne hsz (by rw [d.length];simp only [Ln];kd_p) e R lows _ fun i J h lows=>ih (k + 1) u r G t c d (by kd_p) h i J lows
  | false=>
   rw [dl,if_neg (by rw [R];exact Oe)] at t
   obtain ⟨X,Y⟩:=hmx x (.head _) R
   by_cases he:iF (mx x) e=Lh
   .rw [if_pos he] at t
    rw [gf.mp he] at X Y
    refine Ga w a b fr F p f it k m H o I j E C l h tz B z v c i J x U hv K g L O N P hne hsz (by rw [d.length];simp only [Ln];kd_p) e R X Y lows _ fun i J h lows=>ih (k + 1) u r (G++[x]) (by rw [<- t];simp) (c++[sv [x] U]) (by rw [LC];exact d.append (.one _ _)) (by simp only [Lq,Ls,LQ];kd_p) h i J lows
   .rw [if_neg he] at t
    exact Gb w a b fr F p f it k m H o I j E C l h tz B z v c i J x U hv K g L O N P hne hsz (by rw [d.length];simp only [Ln];kd_p) e (mx x) (fun q=>he (gf.mpr q)) R X Y lows _ fun i J h lows=>ih (k + 1) u r G t c d (by kd_p) h i J lows
noncomputable def yO:E4->Int
 | .z0=>4 | .z1=>3 | .z2=>2 | .z3=>1
theorem wc(e:E4):0 < yO e:=by cases e<;>decide
noncomputable abbrev Gh(c d a b:Nat):List (LN × Lc):=[(fD,.ref c),(qg,.ref d),([98,101,104,105,110,100],.ref a),(gS,.ref b)]
noncomputable abbrev KK(c:Bool)(u v:Lc):List (LN × Lc):=match c with
 | true=>[([115,105,122,101],u),([103,114,111,117,112],v)]
 | false=>[]
abbrev wf(d e a b:Nat)(c:Bool)(u v:Lc)(J:ab):Obj:=aJ (Gh d e a b++KK c u v) J
theorem Hw{is:LN}{st:Bool->Bool->E4->an}{v:Bool->Bool->E4->br}(h:(aK fun a=>aK fun b=>iZ fun c=>aR is (st a b c))=aM fun a=>aM fun b=>i4 fun c=>(v a b c,aj (st a b c))):∀(a:Bool)(b:Bool)(c:E4),aR is (st a b c)=(v a b c,aj (st a b c)):=fun a b c=>j7 (aS (aS h a) b) c
abbrev mL (x0 x1 x2):=[ax (ai x0) x1,ax (ai x0) x2]
section
variable(w:Lj)(a b:Bool)(fr:List Env)(F f d it:Nat)
include w a b fr F f d it
theorem Ar(q X r Y m K p Z:Nat)(C E l:LV)(z h:LLN)(P:af z E)(S:af h l)(R:l≠[])(U:l.length < 900)(hne:∀s∈h,s≠[])(hsz:∀s∈h,s.length < 60000)(mx:Nat->E4)(e:E4)(xs:LN)(W:af (xs.map fun x=>[x]) C)(hxz:xs.length < 60)(hmx:∀x∈xs,z.contains [x]=Li->en (mx x)∈h.flatMap (bZ x)/\∀n∈h.flatMap (bZ x),n<=en (mx x))(rn:LV)(c:Bool)(u v:Lc)(G:Option Lc)(J:ab)(lows:Mem) :
  dh w a b fr 12 (fO dw it F f d) (qx (zv dw) (.ref it) (mL dw 0 1) (ib F f d)) ([(F,wf q r m p c u v J),(it,dg (Ll (en e)) (yO e)),(p,aa rn Z),(q,aa C X),(m,aa E K),(r,aa l Y),(d,ad G)]++lows)
   (fun rr F'=>∃(D tz L:Nat)(t:LV)(j:Option Lc)(H:ab)(g:Mem),rr=.ok .next/\F'=[(ay F (nc q r m p (.int (Ll (en e)) tz) D) H),(D,aa t L),(it,dg (Ll (en e) + 1) (yO e - 1)),(p,aa rn Z),(q,aa C X),(m,aa E K),(r,aa l Y),(d,ad j)]++g/\af ((dl z mx e xs).map fun x=>[x]) t):=by
 have B:af (xs.map fun x=>[x]) (C.drop 0):=W
 have Q:af (([] : LN).map fun x=>[x]) []:=.nil
 have A:([] : LN).length + xs.length < 900:=by simp only [LQ];kd_p
 have hlf:=wc e
 have DL:=fun(fr:List Env)(it D tz L:Nat)(G:Option Lc)(J:ab)(lows:Mem)=>Gg w a b fr F f d it q X r Y m K p D tz C E l z h P S R U hne hsz mx e (dl z mx e xs) xs 0 B hmx [] (Oc _) [] Q A L G J lows
 apply yq b e c 34632400898;intro V N T B0 Y0 O st
 apply jD b e c;intro o;apply cQ w a b it (Ll (en e)) (yO e) ‹_›;k_mem;intro V V V I T1 i V;refine bj (fun k i=>?_) i;apply dX i;apply eF b e c 0xc142070620007042400400102010204081;intro st
 apply q8 b e c;intro o;apply DL fr (I + 1) I k 0 G (ae (o 0)) lows;k_mem;intro V V N2 T2 i;refine jA (fun y M j H g i=>?_) i;apply jt i;intro hq;refine ⟨_,_,.refl _,fun Y0=>?_⟩;apply eF b e c 0;intro st
 apply rQ b e c [0,2,6,7,1,3,4,5];apply O;intro o τ;refine uM I k M y j H g ⟨?_, ?_,hq⟩;apply rfl;apply rfl;k_mem
def fI:L4:=ax (ai dw) 2
def bP(e:Lg):Lg:=ex e 1
theorem Gi(i j g h c:Nat)(k:Lc)(J:ab)(lows:Mem) :
  dh w a b fr 5 (fO dw it F f d) (gM (dy (tV fI)) (ib F f d)) ([(ay F (nc i j g h k c) J)]++lows) (d6 (.ret (.ref c)) [(ay F (nc i j g h k c) J)] lows):=by
 apply fU b 1;intro V N T l m e st
 apply b4 b [0];apply e;intro o τ;refine ⟨?_, ?_⟩;apply rfl;apply rfl;k_mem
theorem Gj(lows:Mem) :
  dh w a b fr 5 (fO dw it F f d) (gM (bP (tV fI)) (ib F f d)) ([]++lows) (fun h g=>∃(m:Nat)(e:Nat),h=.ok (.ret (.ref m))/\g=[(m,aa [] e)]++lows):=by
 apply fU b 0;intro V N T i j c st
 apply b4 b [0];apply c;intro o τ;refine jm N 0 ⟨?_, ?_⟩;apply rfl;apply rfl;k_mem
theorem Gk(r s q i h l t:Nat)(v:Lc)(J:ab)(c k:LV)(u:LN)(j:af (u.map fun x=>[x]) c)(p:c.length < 64)(hrz:k.length < 900)(lows:Mem) :
  dh w a b fr 8 (fO dw it F f d) (eU (ai fI) (ib F f d)) ([(ay F (nc r s q i v h) J),(h,aa c l),(i,aa k t)]++lows) (fun C y=>∃(R e' m:Nat)(g:LV),C=.ok .next/\y=[(ay F (nc r s q i v h) J),(h,aa c l),(cg i k [.ref R] m),(R,aa g e')]++lows/\af (cX (u.map fun x=>[x])) g):=by
 apply fU b 0x2041000200003060c181;intro V N T D K n st
 apply jZ b 539001216;intro o;apply ry w a b h c l j p;k_all;intro R g z E H B st
 apply bA b 0;intro o;apply aB w a b i k (.ref R) t (by kd_p);k_all;intro A G I st
 apply b4 b [0,1,2,3];apply n;intro o τ;refine jJ R z.e A.e g ⟨?_, ?_,B⟩;apply rfl;apply rfl;k_mem
end
theorem Pk.dropMid(M X Y:Mem):Pk (M++(X++Y)) (M++Y):=fun g h N R=>by
 have a:=R.nd
 refine R.sub (fun p hp=>?_) ?_
 .rcases MA.mp hp with hp|hp
  .exact Lu _ hp
  .exact LB _ (LB _ hp)
 .exact List.Nodup.sublist (Tx _ (Qh (Qt M) (List.sublist_append_right X Y))) a
section
variable{prog:LU}{w:Lj}{kt:KT}{fr:List Env}{L L':Nat}{c:Mk}{env:Env}{M M2:Mem}
theorem bW.frame{t:Sem Fin}{X:Mem}{a:Lm->Mem->Prop}(C:bW prog w kt fr L c t M a):bW prog w kt fr L c t (M++X) (fun r b=>∃e,a r e/\b=e++X):=by
 intro A g h G D O N T R m hf o p n d
 obtain ⟨j,t⟩:=n.tail
 exact C A _ h G D O N T R m hf (Ml t.keep o) (p.keeps t.keep) j fun r b f k l hp i=>d r _ f k l ⟨b,hp,rfl⟩ (t.rep i)
theorem bW.pk{t:Sem Fin}{a:Lm->Mem->Prop}(C:bW prog w kt fr L c t M2 a)(e:Pk M M2):bW prog w kt fr L c t M a:=
 fun A g h G D O N T R d hf i j f b=>C A g h G D O N T R d hf i j (e _ _ _ f) b
theorem bW.weakP{t:Sem Fin}{a post':Lm->Mem->Prop}(C:bW prog w kt fr L c t M a)(l:L<=L')(hp:∀r d,a r d->∃b,Pk d b/\post' r b):bW prog w kt fr L' c t M post':=
 fun A g h G D O N T R o hf s u q e=>C A g h G D O N T R (o.mono l) hf s u q fun r d j k m p f=>by
  refine bj (fun b n=>?_) (hp _ _ p);obtain ⟨i,v⟩:=n
  exact e r b j k m v (i _ _ _ f)
theorem bt.pk{l:List L4}{a:Oi->Mem->Prop}(C:bt prog w kt fr L c env l M2 a)(e:Pk M M2):bt prog w kt fr L c env l M a:=
 fun A g h G D O N T R d hf i j f b=>C A g h G D O N T R d hf i j (e _ _ _ f) b
theorem bt.weakP{l:List L4}{a post':Oi->Mem->Prop}(C:bt prog w kt fr L c env l M a)(le:L<=L')(hp:∀r d,a r d->∃b,Pk d b/\post' r b):bt prog w kt fr L' c env l M post':=
 fun A g h G D O N T R o hf s t q e=>C A g h G D O N T R (o.mono le) hf s t q fun r d j k m p f=>by
  refine bj (fun b n=>?_) (hp _ _ p);obtain ⟨i,u⟩:=n
  exact e r b j k m u (i _ _ _ f)
end
noncomputable def tY(s:L4):Pos:=(uN s).p
noncomputable def dQ(e:Lg):Pos:=(ym e).p
theorem wg:fI=.If (.Compare (dy (tV fI)) [.NotEq] [bP (tV fI)] (dQ (tV fI))) (ai fI) [] (tY fI):=by kernel_rfl
theorem tZ(it F a b:Nat):(fO dw it F a b)=.forLoop (zv dw) (.ref it) ((mL dw 0 1)++[fI]) [] (ib F a b):=by kernel_rfl
theorem As:Mo .NotEq (bP (tV fI))=Li:=by kernel_rfl
def lq(a:LLN)(mx:Nat->E4)(xs:LN)(e:E4):List LLN:=match dl a mx e xs with
 | []=>[]
 | gs=>[cX (gs.map fun x=>[x])]
theorem qz(a:LLN)(mx:Nat->E4)(e:E4):∀xs,(dl a mx e xs).length<=xs.length
 | []=>Lf _
 | x::xs=>by
  have:=qz a mx e xs
  dsimp only [dl]
  split
  .simp only [Ls];kd_p
  .split<;>simp only [Ls]<;>kd_p
abbrev wh (x0 x1 x2 x3 x4 x5 x6 x7 x8 x9 x10 x11 x12 x13 x14 x15 x16 x17 x18 x19 x20 x21 x22 x23):=([(x0,aa [] x1),(ay x2 (nc x3 x4 x5 x6 x7 x8) x9),(x8,aa x10 x11),(x12,x13),(x6,aa x14 x15),(x3,aa x16 x17),(x5,aa x18 x19),(x4,aa x20 x21),(x22,ad x23)] : Mem)
section
variable(w:Lj)(a b:Bool)(fr:List Env)(F i d it g:Nat)
include w a b fr F i d it g
theorem t4(u j C h p k I l H:Nat)(z r D o c:LV)(A Z:Lc)(s:Obj)(J:ab)(t:Option Lc)(K:LN)(L:af (K.map fun x=>[x]) c)(Q:c.length < 64)(hrz:o.length < 900)(X lows:Mem) :
  bt pw (wd w a b) (kt (wd w a b).params) fr 12 (fO dw it F i d) (ib F i d) [fI] ([(ay F (nc g j h k A l) J),(l,aa c H),(it,s),(k,aa o I),(g,aa z u),(h,aa r p),(j,aa D C),(d,ad t)]++(X++lows))
   (fun f n=>f=.next/\((K=[]/\n=[(ay F (nc g j h k A l) J),(it,s),(k,aa o I),(g,aa z u),(h,aa r p),(j,aa D C),(d,ad t)]++lows) ∨
    (K≠[]/\∃(R e' G:Nat)(B:LV),n=[(ay F (nc g j h k A l) J),(it,s),(cg k o [.ref R] G),(g,aa z u),(h,aa r p),(j,aa D C),(d,ad t)]++((R,aa B e')::lows)/\af (cX (K.map fun x=>[x])) B))):=by
 rw [wg]
 refine bt.if_ (post1:=fun b n=>∃(m E:Nat),b = !decide ((K.map fun x=>[x])=[])/\n=(wh m E F g j h k A l J c H it s o I z u r p D C d t)++(X++lows)) (dO.cmp As (by kernel_rfl) (dW.tree (bW.weakP (Gi w a b fr F i d it g j h k l A J ([(l,aa c H),(it,s),(k,aa o I),(g,aa z u),(h,aa r p),(j,aa D C),(d,ad t)]++(X++lows))) (L':=12) (by decide) (post':=fun P n=>∃v,P=.ok (.ret v)/\v=.ref l/\n=[(ay F (nc g j h k A l) J),(l,aa c H),(it,s),(k,aa o I),(g,aa z u),(h,aa r p),(j,aa D C),(d,ad t)]++(X++lows)) fun P n q=>⟨n,.refl _,_,q.1,rfl,q.2⟩)) ?_) ?_
 .rintro x W ⟨rfl,rfl⟩
  refine ⟨fun y U=>∃(m E:Nat),y=.ref m/\U=(wh m E F g j h k A l J c H it s o I z u r p D C d t)++(X++lows),dW.tree (bW.weakP (Gj w a b fr F i d it _) (L':=12) (by decide) (post':=fun P n=>∃v,P=.ok (.ret v)/\∃(m E:Nat),v=.ref m/\n=(wh m E F g j h k A l J c H it s o I z u r p D C d t)++(X++lows)) ?_), ?_⟩
  .intro P n O;refine d9 (fun m E N=>?_) O;apply kW N
   exact ⟨_,.refl _,_,rfl,m,E,rfl,rfl⟩
  .intro y U O;refine d9 (fun m E N=>?_) O;apply kW N
   exact ⟨_,jd L .nil (e:=H) (e':=E) (Lu _ (.tail _ (.tail _ (.head _)))) (Lu _ (.head _)),m,E,rfl,rfl⟩
 .intro Y n O;refine d9 (fun m E N=>?_) O;apply kW N
  cases K with
  | nil=>
   refine bt.pk (bt.weakP bt.nil (Lf _) ?_) (Pk.trans (Pk.of (M2:=[(ay F (nc g j h k A l) J),(it,s),(k,aa o I),(g,aa z u),(h,aa r p),(j,aa D C),(d,ad t)]) [1,3,4,5,6,7,8] (by kernel_rfl)) (Pk.dropMid _ X lows))
   rintro f n ⟨rfl,rfl⟩
   exact ⟨_,.refl _,rfl,.inl ⟨rfl,rfl⟩⟩
  | cons x K=>
   refine bt.pk (bt.tree (bW.weakP (Gk w a b fr F i d it g j h k l H I A J c o (x::K) L Q hrz ([(it,s),(g,aa z u),(h,aa r p),(j,aa D C),(d,ad t)]++(X++lows))) (L':=12) (by decide) ?_)) (Pk.of2 (M:=(wh m E F g j h k A l J c H it s o I z u r p D C d t)) [1,2,4,3,5,6,7,8] (by kernel_rfl))
   intro P n O;refine gz (fun R e' G B N=>?_) O;apply gu N;intro S
   refine ⟨_,Pk.trans (Pk.of2 (M:=[(ay F (nc g j h k A l) J),(l,aa c H),(cg k o [.ref R] G),(R,aa B e'),(it,s),(g,aa z u),(h,aa r p),(j,aa D C),(d,ad t)]) (M2:=[(ay F (nc g j h k A l) J),(it,s),(cg k o [.ref R] G),(g,aa z u),(h,aa r p),(j,aa D C),(d,ad t)]++[(R,aa B e')]) (M3:=[]) (lows:=X++lows) [0,4,2,5,6,7,8,3] (by kernel_rfl)) (Pk.dropMid _ X lows),.next,rfl,rfl,.inr ⟨List.cons_ne_nil _ _,R,e',G,B,rfl,S⟩⟩
theorem ic(O t P q N r S:Nat)(L K B:LV)(A p:LLN)(hbl:af A K)(hws:af p B)(hwn:B≠[])(hwz:B.length < 900)(hne:∀s∈p,s≠[])(hsz:∀s∈p,s.length < 60000)(mx:Nat->E4)(e:E4)(xs:LN)(hxs:af (xs.map fun x=>[x]) L)(hxz:xs.length < 60)(hmx:∀x∈xs,A.contains [x]=Li->en (mx x)∈p.flatMap (bZ x)/\∀n∈p.flatMap (bZ x),n<=en (mx x))(z:LV)(hrz:z.length < 900)(c:Bool)(u v:Lc)(E:Option Lc)(J:ab)(M:List LLN)(lows:Mem)(U:dN M z lows)(G:Lm->Mem->Prop)(IH:∀(u v:Lc)(E:Option Lc)(J:ab)(k:LV)(m:Nat)(j:Mem),k.length<=z.length + 1->dN (M++lq A mx xs e) k j->ak w a b fr 12 (fO dw it F i d) ([(F,wf g t q r Lh u v J),(it,dg (Ll (en e) + 1) (yO e - 1)),(r,aa k m),(g,aa L O),(q,aa K N),(t,aa B P),(d,ad E)]++j) G) :
  ak w a b fr 12 (fO dw it F i d) ([(F,wf g t q r c u v J),(it,dg (Ll (en e)) (yO e)),(r,aa z S),(g,aa L O),(q,aa K N),(t,aa B P),(d,ad E)]++lows) G:=by
 have t1:=bW.frame (X:=lows) (Ar w a b fr F i d it g O t P q N r S L K B A p hbl hws hwn hwz hne hsz mx e xs hxs hxz hmx z c u v E J [])
 rw [Mp] at t1
 refine wa (post1:=fun H=>∃(D tz Q:Nat)(l:LV)(o:Option Lc)(I:ab)(X:Mem),H=[(ay F (nc g t q r (.int (Ll (en e)) tz) D) I),(D,aa l Q),(it,dg (Ll (en e) + 1) (yO e - 1)),(r,aa z S),(g,aa L O),(q,aa K N),(t,aa B P),(d,ad o)]++(X++lows)/\af ((dl A mx e xs).map fun x=>[x]) l)
  (post2:=fun f H=>f=.next/\∃(u v:Lc)(E:Option Lc)(J:ab)(k:LV)(m:Nat)(j:Mem),k.length<=z.length + 1/\dN (M++lq A mx xs e) k j/\H=[(F,wf g t q r Lh u v J),(it,dg (Ll (en e) + 1) (yO e - 1)),(r,aa k m),(g,aa L O),(q,aa K N),(t,aa B P),(d,ad E)]++j)
  (tZ it F i d) (bW.weakP t1 (Lf _) ?_) ?_ ?_
 .intro rr H Y;refine bj (fun F2 Z=>?_) Y;obtain ⟨⟨D,tz,Q,l,o,I,X,rfl,rfl,h⟩,rfl⟩:=Z
  exact ⟨_,.refl _,rfl,D,tz,Q,l,o,I,X,by rw [Lr],h⟩
 .intro H Y;refine uL (fun D tz Q l o I X Z=>?_) Y;obtain ⟨rfl,h⟩:=Z
  have hz:l.length < 64:=by
   have:=qz A mx e xs
   rw [h.length,Ln];kd_p
  refine bt.weakP (t4 w a b fr F i d it g O t P q N r S D Q L K B z l _ (.ref it) _ I o (dl A mx e xs) h hz hrz X lows) (Lf _) ?_
  rintro f H ⟨rfl,⟨hg,rfl⟩ | ⟨hg,R,e',m,vs',rfl,W⟩⟩
  .refine ⟨_,.refl _,rfl,.int (Ll (en e)) tz,.ref D,o,I,z,S,lows,P4 _, ?_,rfl⟩
   unfold lq
   rw [hg]
   simpa using U
  .refine ⟨_,.refl _,rfl,.int (Ll (en e)) tz,.ref D,o,I,z++[.ref R],m,(R,aa vs' e')::lows,by simp, ?_,rfl⟩
   unfold lq
   cases hq:dl A mx e xs with
   | nil=>exact absurd hq hg
   | cons y gs=>
    rw [hq] at W
    exact dN.snoc U W R e'
 .intro f H Y;refine bp fun C kC=>?_;obtain ⟨rfl,u,v,E,J,k,m,j,h1,h2,rfl⟩:=Y;apply kC;clear kC
  exact IH u v E J k m j h1 h2
theorem At(k h j:Nat)(u v:Lc)(J:ab)(x left:Int)(f:left<=0)(lows:Mem) :
  ak w a b fr 12 (fO dw it F i d) ([(F,wf g k h j Lh u v J),(it,dg x left)]++lows) (d6 .next [(F,wf g k h j Lh u v J)] lows):=by
 apply cW b 4432947314944;intro V N T l p c st
 apply gF b 3;intro o;apply fV w a b it x left f;k_all;intro e q m n st
 apply b4 b [0];apply c;intro o τ;refine ⟨?_, ?_⟩;apply rfl;apply rfl;k_mem
end
theorem ku(w:Lj)(a b:Bool)(r:Nat)(J:ab) :
  CT w a b 0 (b9 "range.__iter__" [.ref r]) [(r,az "range" [.int 1 (J.t 0),.int 5 (J.t 1),.int 1 (J.t 2)])] (fun k os d=>∃x:Nat,k=.ok (.ret (.ref x))/\os=[az "range" [.int 1 (J.t 0),.int 5 (J.t 1),.int 1 (J.t 2)]]/\d=[(x,dg 1 4)]):=by
 have hs:Ni 1 5 1=4:=by decide +kernel
 have c:MY 1 5 1=Lh:=by decide +kernel
 refine bg (by decide +kernel) RS (Pr r 1 5 1 (J.t 0) (J.t 1) (J.t 2) (by show ¬ (!MY 1 5 1)=Lh;rw [c];decide)) fun A g h G D O N T R l j f=>?_
 refine ⟨j.get (i:=0) rfl, ?_⟩
 show R _ { heap:=h.push { cls:=S4 (if MY 1 5 1=Lh then "range_iterator" else "longrange_iterator"),data:=S6 #[MQ 1,MQ (Ni 1 5 1),MQ 1] },gens:=G,drawn:=D,toks:=T,os:=O }
 rw [if_pos c,hs]
 have z:=j.alloc (o:=dg 1 4) rfl
 have e:=j.size
 subst e
 exact f _ [_] [_] _ _ _ ⟨_,rfl,rfl,rfl⟩ rfl z
def fp(a:LLN)(mx:Nat->E4)(xs:LN):List LLN:=lq a mx xs .z0++lq a mx xs .z1++lq a mx xs .z2++lq a mx xs .z3
theorem t5(w:Lj)(a b:Bool)(fr:List Env)(F i c it g B h D j G f:Nat)(o E k:LV)(H d:LLN)(p:af H E)(t:af d k)(r:k≠[])(y:k.length < 900)(hne:∀s∈d,s≠[])(hsz:∀s∈d,s.length < 60000)(mx:Nat->E4)(xs:LN)(z:af (xs.map fun x=>[x]) o)(A:xs.length < 60)(hmx:∀x∈xs,H.contains [x]=Li->en (mx x)∈d.flatMap (bZ x)/\∀n∈d.flatMap (bZ x),n<=en (mx x))(e:Nat)(m:Option Lc)(J:ab)(lows:Mem) :
  ak w a b fr 12 (fO dw it F i c) ([(ay F (Gh g h j f) J),(it,dg 1 4),(f,aa [] e),(g,aa o B),(j,aa E G),(h,aa k D),(c,ad m)]++lows)
   (fun Q P=>∃(u v:Lc)(J:ab)(e:Nat)(L:LV)(l:Mem),Q=.ok .next/\P=[(F,wf g h j f Lh u v J),(f,aa L e),(g,aa o B),(h,aa k D)]++l/\dN (fp H mx xs) L l):=by
 refine ic w a b fr F i c it g B h D j G f e o E k H d p t r y hne hsz mx .z0 xs z A hmx [] (by decide) Li .none .none m J [] lows (.nil _) _ fun u v m J L e lows K I=>?_
 refine ic w a b fr F i c it g B h D j G f e o E k H d p t r y hne hsz mx .z1 xs z A hmx L (by simp only [LQ] at K;kd_p) Lh u v m J _ lows I _ fun u v m J N e lows R I=>?_
 refine ic w a b fr F i c it g B h D j G f e o E k H d p t r y hne hsz mx .z2 xs z A hmx N (by simp only [LQ] at K;kd_p) Lh u v m J _ lows I _ fun u v m J O e lows S I=>?_
 refine ic w a b fr F i c it g B h D j G f e o E k H d p t r y hne hsz mx .z3 xs z A hmx O (by simp only [LQ] at K;kd_p) Lh u v m J _ lows I _ fun u v m J C e lows U I=>?_
 refine aO.weakP (At w a b fr F i c it g h j f u v J _ _ (by decide) ([(f,aa C e),(g,aa o B),(j,aa E G),(h,aa k D),(c,ad m)]++lows)) (Lf _) fun Q P q=>?_
 obtain ⟨rfl,rfl⟩:=q
 exact ⟨_,Pk.of (M:=[(F,wf g h j f Lh u v J),(f,aa C e),(g,aa o B),(j,aa E G),(h,aa k D),(c,ad m)]) (M2:=[(F,wf g h j f Lh u v J),(f,aa C e),(g,aa o B),(h,aa k D)]) [0,1,2,4] (by kernel_rfl),(ox u v J e C lows ⟨rfl,rfl,I⟩)⟩
theorem Gl(w:Lj)(a b:Bool)(fr:List Env)(q Q h z A U:Nat)(r y g:LV)(e c:LLN)(K:af e r)(L:r.length < 900)(I:∀s∈e,s≠[])(l:af c g)(k:g≠[])(m:g.length < 900)(hne:∀s∈c,s≠[])(hsz:∀s∈c,s.length < 60000)(mx:Nat->E4)(xs:LN)(O:af (xs.map fun x=>[x]) y)(P:xs.length < 60)(hmx:∀x∈xs,(c.flatMap (c3 (e.flatMap bf))).contains [x]=Li->en (mx x)∈c.flatMap (bZ x)/\∀n∈c.flatMap (bZ x),n<=en (mx x))(lows:Mem) :
  ak w a b fr 14 (bw 283 [.ref q,.ref h,.ref A]) ([(q,aa y Q),(h,aa g z),(A,aa r U)]++lows)
   (fun rr Z=>∃(p j:Nat)(t:LV)(d:Mem),rr=.ok (.ret (.ref p))/\Z=[(p,aa t j),(q,aa y Q),(h,aa g z)]++d/\dN (fp (c.flatMap (c3 (e.flatMap bf))) mx xs) t d):=by
 have X:=fun(fr:List Env)(F f CL it ac:Nat)(J:ab)(ea:Nat)(lows:Mem)=>F5 w a b fr F h z f A U g r e K L I CL it ac c l k m hne J ea lows
 have Y:=fun(fr:List Env)(F f C it W be p:Nat)(S:LV)(H:af (c.flatMap (c3 (e.flatMap bf))) S)(j:Nat)(ov:Option Lc)(J:ab)(lows:Mem)=>t5 w a b fr F f C it q Q h z W be p y S g (c.flatMap (c3 (e.flatMap bf))) c H l k m hne hsz mx xs O P hmx j ov J lows
 apply cW b 0x404043861018107000800204100050a102040800001;intro V N T B0 R E st
 apply iW b 0x481042800a142800a00285000000000001c3810204387;intro o;apply X ([(ib N (N + 1) (N + 2))]++fr) N (N + 1) (N + 5) (N + 3) (N + 4) (ae (o 8)) 0 lows;k_all;intro v J i D B T1 hq R st
 apply bA b 0x382021440a0c1c10b;intro o;apply ku w a b (B + 1) (ae (o 9));k_all;intro x N2 T2 st
 apply j0 b;intro o;apply Y ([(ib N (N + 1) (N + 2))]++fr) N (N + 1) (N + 2) x (N + 4) D B i hq 0 Lk (ae (o 6)) lows;k_mem;intro V V N3 T3 G;refine qc (fun u v1 J1 j t d G=>?_) G;apply jt G;intro M;refine ⟨_,_,.refl _,fun R=>?_⟩;apply dC b 1;intro st
 apply b4 b [1,2,3];apply E;intro o τ;refine jJ B j t d ⟨?_, ?_,M⟩;apply rfl;apply rfl;k_mem
theorem yP{a b c d:Lc} : (NK (fun x:LN × Lc=>x.fst) [([34],a),([92],b),([42],c),([91],d)]).Nodup:=by
 show [[34],[92],[42],[91]].Nodup
 decide
noncomputable def je:E4->Nat
 | .z0=>34
 | .z1=>92
 | .z2=>42
 | .z3=>91
noncomputable def IO:E4->Bool->LN
 | .z0,Li=>[34]
 | .z0,Lh=>[91,34,93]
 | .z1,Li=>[92]
 | .z1,Lh=>[91,92,93]
 | .z2,Li=>jN
 | .z2,Lh=>jN
 | .z3,Li=>[91]
 | .z3,Lh=>[91,91,93]
noncomputable abbrev nW (x0):=([([34],(Lv (x0 + 2))),([92],(Lv (x0 + 3))),([42],(Lv (x0 + 4))),([91],(Lv (x0 + 5)))] : List (LN × Lc))
abbrev wj (x0 x1 x2 x3):=(fun b a=>∃(L e c d f:Nat),b=.ok (.ret (.ref L))/\a=[(L,aa [sv x0 c,sv x1 d,sv x2 f] e)]++x3:Lm->Mem->Prop)
section
variable(w:Lj)(a b:Bool)(fr:List Env)(t u:Nat)(lows:Mem)
include w a b fr t u lows
theorem wk :
  ak w a b fr 3 (bw 290 [sv [34] t,.int 0 u]) ([]++lows) (wj [34,42] [42,34] [42,34,42] lows):=by
 apply cW b 0x10208100040810104081020000102040800004081020000102040800000040810200001;intro V N T f g d st
 apply aE b 0x400002000010204003000c003060c080;intro o;apply aY w a b (N + 1) (nW N) (ae (o 1)) 4 [34] t (.ref (N + 2)) (by exact yP) rfl;k_all;intro e c st
 apply b4 b [6];apply d;intro o τ;refine m7 e 0 (c + 2) (c + 4) (c + 8) ⟨?_, ?_⟩;apply rfl;apply rfl;k_mem
abbrev t6 (x0 x1):=wj [91,x0,93,42] [42,91,x0,93] [42,91,x0,93,42] x1
theorem wl :
  ak w a b fr 3 (bw 290 [sv [34] t,.int 1 u]) ([]++lows) (t6 34 lows):=by
 apply cW b 0x10208100040810104081020000102040800004081020000102040800000040810200001;intro V N T f g d st
 apply aE b 0x400002000010204003000c003060c080;intro o;apply aY w a b (N + 1) (nW N) (ae (o 1)) 4 [34] t (.ref (N + 2)) (by exact yP) rfl;k_all;intro e c st
 apply b4 b [6];apply d;intro o τ;refine m7 e 0 (c + 2) (c + 4) (c + 8) ⟨?_, ?_⟩;apply rfl;apply rfl;k_mem
theorem wm :
  ak w a b fr 3 (bw 290 [sv [92] t,.int 0 u]) ([]++lows) (wj [92,42] [42,92] [42,92,42] lows):=by
 apply cW b 0x10208100040810104081020000102040800004081020000102040800000040810200001;intro V N T f g d st
 apply aE b 0x40000200001020400400100040810080;intro o;apply aY w a b (N + 1) (nW N) (ae (o 1)) 4 [92] t (.ref (N + 3)) (by exact yP) rfl;k_all;intro e c st
 apply b4 b [6];apply d;intro o τ;refine m7 e 0 (c + 2) (c + 4) (c + 8) ⟨?_, ?_⟩;apply rfl;apply rfl;k_mem
theorem wn :
  ak w a b fr 3 (bw 290 [sv [92] t,.int 1 u]) ([]++lows) (t6 92 lows):=by
 apply cW b 0x10208100040810104081020000102040800004081020000102040800000040810200001;intro V N T f g d st
 apply aE b 0x40000200001020400400100040810080;intro o;apply aY w a b (N + 1) (nW N) (ae (o 1)) 4 [92] t (.ref (N + 3)) (by exact yP) rfl;k_all;intro e c st
 apply b4 b [6];apply d;intro o τ;refine m7 e 0 (c + 2) (c + 4) (c + 8) ⟨?_, ?_⟩;apply rfl;apply rfl;k_mem
theorem wq :
  ak w a b fr 3 (bw 290 [sv [42] t,.int 0 u]) ([]++lows) (t6 42 lows):=by
 apply cW b 0x10208100040810104081020000102040800004081020000102040800000040810200001;intro V N T f g d st
 apply aE b 0x40000200001020400500140050a14080;intro o;apply aY w a b (N + 1) (nW N) (ae (o 1)) 4 [42] t (.ref (N + 4)) (by exact yP) rfl;k_all;intro e c st
 apply b4 b [6];apply d;intro o τ;refine m7 e 0 (c + 2) (c + 4) (c + 8) ⟨?_, ?_⟩;apply rfl;apply rfl;k_mem
theorem wu :
  ak w a b fr 3 (bw 290 [sv [42] t,.int 1 u]) ([]++lows) (t6 42 lows):=by
 apply cW b 0x10208100040810104081020000102040800004081020000102040800000040810200001;intro V N T f g d st
 apply aE b 0x40000200001020400500140050a14080;intro o;apply aY w a b (N + 1) (nW N) (ae (o 1)) 4 [42] t (.ref (N + 4)) (by exact yP) rfl;k_all;intro e c st
 apply b4 b [6];apply d;intro o τ;refine m7 e 0 (c + 2) (c + 4) (c + 8) ⟨?_, ?_⟩;apply rfl;apply rfl;k_mem
theorem ww :
  ak w a b fr 3 (bw 290 [sv [91] t,.int 0 u]) ([]++lows) (wj [91,42] [42,91] [42,91,42] lows):=by
 apply cW b 0x10208100040810104081020000102040800004081020000102040800000040810200001;intro V N T f g d st
 apply aE b 0x40000200001020400600180060c18080;intro o;apply aY w a b (N + 1) (nW N) (ae (o 1)) 4 [91] t (.ref (N + 5)) (by exact yP) rfl;k_all;intro e c st
 apply b4 b [6];apply d;intro o τ;refine m7 e 0 (c + 2) (c + 4) (c + 8) ⟨?_, ?_⟩;apply rfl;apply rfl;k_mem
theorem wx :
  ak w a b fr 3 (bw 290 [sv [91] t,.int 1 u]) ([]++lows) (t6 91 lows):=by
 apply cW b 0x10208100040810104081020000102040800004081020000102040800000040810200001;intro V N T f g d st
 apply aE b 0x40000200001020400600180060c18080;intro o;apply aY w a b (N + 1) (nW N) (ae (o 1)) 4 [91] t (.ref (N + 5)) (by exact yP) rfl;k_all;intro e c st
 apply b4 b [6];apply d;intro o τ;refine m7 e 0 (c + 2) (c + 4) (c + 8) ⟨?_, ?_⟩;apply rfl;apply rfl;k_mem
end
theorem Gm(w:Lj)(a b:Bool)(fr:List Env)(i:E4)(d:Bool)(t u:Nat)(lows:Mem) :
  ak w a b fr 3 (.call (.ref 290) ⟨[sv [je i] t,.int (if d then 1 else 0) u],[]⟩) ([]++lows) (fun k j=>∃(L e:Nat)(vs:LV),k=.ok (.ret (.ref L))/\j=[(L,aa vs e)]++lows/\af [IO i d++[42],[42]++IO i d,[42]++IO i d++[42]] vs):=by
 cases i<;>cases d
 .refine aO.weak (wk w a b fr t u lows) (Lf _) fun k j q=>?_
  refine jA (fun L e f g h c=>?_) q;apply kW c
  exact ⟨_,.refl _,(gB L e _ ⟨rfl,rfl,.cons _ f (.cons _ g (.one _ h))⟩)⟩
 .refine aO.weak (wl w a b fr t u lows) (Lf _) fun k j q=>?_
  refine jA (fun L e f g h c=>?_) q;apply kW c
  exact ⟨_,.refl _,(gB L e _ ⟨rfl,rfl,.cons _ f (.cons _ g (.one _ h))⟩)⟩
 .refine aO.weak (wm w a b fr t u lows) (Lf _) fun k j q=>?_
  refine jA (fun L e f g h c=>?_) q;apply kW c
  exact ⟨_,.refl _,(gB L e _ ⟨rfl,rfl,.cons _ f (.cons _ g (.one _ h))⟩)⟩
 .refine aO.weak (wn w a b fr t u lows) (Lf _) fun k j q=>?_
  refine jA (fun L e f g h c=>?_) q;apply kW c
  exact ⟨_,.refl _,(gB L e _ ⟨rfl,rfl,.cons _ f (.cons _ g (.one _ h))⟩)⟩
 .refine aO.weak (wq w a b fr t u lows) (Lf _) fun k j q=>?_
  refine jA (fun L e f g h c=>?_) q;apply kW c
  exact ⟨_,.refl _,(gB L e _ ⟨rfl,rfl,.cons _ f (.cons _ g (.one _ h))⟩)⟩
 .refine aO.weak (wu w a b fr t u lows) (Lf _) fun k j q=>?_
  refine jA (fun L e f g h c=>?_) q;apply kW c
  exact ⟨_,.refl _,(gB L e _ ⟨rfl,rfl,.cons _ f (.cons _ g (.one _ h))⟩)⟩
 .refine aO.weak (ww w a b fr t u lows) (Lf _) fun k j q=>?_
  refine jA (fun L e f g h c=>?_) q;apply kW c
  exact ⟨_,.refl _,(gB L e _ ⟨rfl,rfl,.cons _ f (.cons _ g (.one _ h))⟩)⟩
 .refine aO.weak (wx w a b fr t u lows) (Lf _) fun k j q=>?_
  refine jA (fun L e f g h c=>?_) q;apply kW c
  exact ⟨_,.refl _,(gB L e _ ⟨rfl,rfl,.cons _ f (.cons _ g (.one _ h))⟩)⟩
noncomputable def Kk:L4:=ax bd 15
def eV:L4:=ax (ai Kk) 3
def IP:L4:=ax (ai eV) 2
def IQ:L4:=ax (eB (ax (eB IP) 0)) 0
def Ck:L4:=ax (ai IQ) 3
def aH(F:Nat):Env:=⟨bY Kk,F,3,[],⟨#[95,116,114,97,110,115,108,97,116,101,46,60,108,111,99,97,108,115,62,46]⟩,Ld 189,.ref 188,Ld F,0⟩
inductive Fm where
 | a|b|c
noncomputable abbrev wT(w:Lj)(c:Bool):Lj:=w.withFollow "fstring-hands-on-the-str" c
noncomputable def Lb:E7->LN
 | .z0=>[34]
 | .z1=>[92]
 | .z2=>[91]
 | .z3=>[91,34,93]
 | .z4=>[91,92,93]
 | .z5=>jN
 | .z6=>[91,91,93]
noncomputable def fR:E7->LN
 | .z0=>[34]
 | .z1=>[92,92]
 | .z2=>[92,91]
 | .z3=>[91,34,93]
 | .z4=>[91,92,92,93]
 | .z5=>jN
 | .z6=>[91,92,91,93]
noncomputable def iJ:E7->Fm->LN
 | .z0,.a=>[34,42]
 | .z0,.b=>[42,34]
 | .z0,.c=>[42,34,42]
 | .z1,.a=>[92,42]
 | .z1,.b=>[42,92]
 | .z1,.c=>[42,92,42]
 | .z2,.a=>[91,42]
 | .z2,.b=>[42,91]
 | .z2,.c=>[42,91,42]
 | .z3,.a=>[91,34,93,42]
 | .z3,.b=>[42,91,34,93]
 | .z3,.c=>[42,91,34,93,42]
 | .z4,.a=>[91,92,93,42]
 | .z4,.b=>[42,91,92,93]
 | .z4,.c=>[42,91,92,93,42]
 | .z5,.a=>[91,42,93,42]
 | .z5,.b=>[42,91,42,93]
 | .z5,.c=>[42,91,42,93,42]
 | .z6,.a=>[91,91,93,42]
 | .z6,.b=>[42,91,91,93]
 | .z6,.c=>[42,91,91,93,42]
noncomputable def nK:E7->Fm->Int
 | .z0,.a=>2
 | .z0,.b=>2
 | .z0,.c=>3
 | .z1,.a=>2
 | .z1,.b=>2
 | .z1,.c=>3
 | .z2,.a=>2
 | .z2,.b=>2
 | .z2,.c=>3
 | .z3,.a=>4
 | .z3,.b=>4
 | .z3,.c=>5
 | .z4,.a=>4
 | .z4,.b=>4
 | .z4,.c=>5
 | .z5,.a=>4
 | .z5,.b=>4
 | .z5,.c=>5
 | .z6,.a=>4
 | .z6,.b=>4
 | .z6,.c=>5
noncomputable def iK:E7->Fm->Int
 | .z0,.a=>1
 | .z0,.b=>2
 | .z0,.c=>2
 | .z1,.a=>1
 | .z1,.b=>2
 | .z1,.c=>2
 | .z2,.a=>1
 | .z2,.b=>2
 | .z2,.c=>2
 | .z3,.a=>3
 | .z3,.b=>4
 | .z3,.c=>4
 | .z4,.a=>3
 | .z4,.b=>4
 | .z4,.c=>4
 | .z5,.a=>3
 | .z5,.b=>4
 | .z5,.c=>4
 | .z6,.a=>3
 | .z6,.b=>4
 | .z6,.c=>4
noncomputable def pC:Fm->Int
 | .a=>0 | .b=>1 | .c=>1
abbrev iL(a:Nat):Obj:=az "builtin_function_or_method" [(.builtin "list.append"),.ref a]
abbrev Gn(p:LN)(c b a:Nat)(n i:Int)(J:ab):List (LN × Lc):=[([112,97,116],sv p (J.t 0)),([83,84,65,82],.ref c),([81,85,69,83,84,73,79,78,95,77,65,82,75],sv [46] (J.t 2)),([114,101,115],.ref b),(lz,.ref a),([110],.int n (J.t 5)),([105],.int i (J.t 6))]
def IR(J:ab):Fm->List (LN × Lc)
 | .a=>[]
 | .b=>[([99],sv [42] (J.t 7))]
 | .c=>[([99],sv [42] (J.t 7))]
def Kl(d:E7->Nat)(J:ab):E7->Fm->List (LN × Lc)
 | .z0,.a=>[([99],sv [d .z0] (J.t 7))]
 | .z0,.b=>[([99],sv [d .z0] (J.t 7))]
 | .z0,.c=>[([99],sv [d .z0] (J.t 7))]
 | .z1,.a=>[([99],sv [d .z1] (J.t 7))]
 | .z1,.b=>[([99],sv [d .z1] (J.t 7))]
 | .z1,.c=>[([99],sv [d .z1] (J.t 7))]
 | .z2,.a=>[([99],sv [d .z2] (J.t 7)),([106],.int 2 (J.t 8))]
 | .z2,.b=>[([99],sv [d .z2] (J.t 7)),([106],.int 2 (J.t 8))]
 | .z2,.c=>[([99],sv [d .z2] (J.t 7)),([106],.int 3 (J.t 8))]
 | .z3,.a=>[([99],sv [d .z3] (J.t 7)),([106],.int 2 (J.t 8)),(jn,sv [34] (J.t 9))]
 | .z3,.b=>[([99],sv [d .z3] (J.t 7)),([106],.int 3 (J.t 8)),(jn,sv [34] (J.t 9))]
 | .z3,.c=>[([99],sv [d .z3] (J.t 7)),([106],.int 3 (J.t 8)),(jn,sv [34] (J.t 9))]
 | .z4,.a=>[([99],sv [d .z4] (J.t 7)),([106],.int 2 (J.t 8)),(jn,sv [92,92] (J.t 9))]
 | .z4,.b=>[([99],sv [d .z4] (J.t 7)),([106],.int 3 (J.t 8)),(jn,sv [92,92] (J.t 9))]
 | .z4,.c=>[([99],sv [d .z4] (J.t 7)),([106],.int 3 (J.t 8)),(jn,sv [92,92] (J.t 9))]
 | .z5,.a=>[([99],sv [d .z5] (J.t 7)),([106],.int 2 (J.t 8)),(jn,sv [42] (J.t 9))]
 | .z5,.b=>[([99],sv [d .z5] (J.t 7)),([106],.int 3 (J.t 8)),(jn,sv [42] (J.t 9))]
 | .z5,.c=>[([99],sv [d .z5] (J.t 7)),([106],.int 3 (J.t 8)),(jn,sv [42] (J.t 9))]
 | .z6,.a=>[([99],sv [d .z6] (J.t 7)),([106],.int 2 (J.t 8)),(jn,sv [92,91] (J.t 9))]
 | .z6,.b=>[([99],sv [d .z6] (J.t 7)),([106],.int 3 (J.t 8)),(jn,sv [92,91] (J.t 9))]
 | .z6,.c=>[([99],sv [d .z6] (J.t 7)),([106],.int 3 (J.t 8)),(jn,sv [92,91] (J.t 9))]
noncomputable def KL:E7->Nat
 | .z0=>34
 | .z1=>92
 | .z2=>91
 | .z3=>91
 | .z4=>91
 | .z5=>91
 | .z6=>91
noncomputable def KM:E7->Nat
 | .z0=>42
 | .z1=>42
 | .z2=>42
 | .z3=>42
 | .z4=>42
 | .z5=>42
 | .z6=>42
def wy(c b a:Nat)(J:ab)(k:E7)(f:Fm):Obj:=aJ (Gn (iJ k f) c b a (nK k f) 0 J) J
def wz(c b a:Nat)(J:ab)(k:E7)(f:Fm):Obj:=aJ (Gn (iJ k f) c b a (nK k f) (pC f) J++IR J f) J
def wA(c b a:Nat)(J:ab)(k:E7)(f:Fm):Obj:=aJ (Gn (iJ k f) c b a (nK k f) (iK k f) J++Kl KL J k f) J
def pD(d c a:Nat)(J:ab)(k:E7)(f:Fm):Obj:=match f with
 | .b=>wA d c a J k f
 | f=>aJ (Gn (iJ k f) d c a (nK k f) (nK k f) J++Kl KM J k f) J
noncomputable def Hx(b:Nat):Fm->LV
 | .a=>[]
 | _=>[.ref b]
def IS(b:Nat)(t:Nat)(k:E7):Fm->LV
 | .a=>[sv (fR k) t]
 | _=>[.ref b,sv (fR k) t]
def ft(d:Nat)(t:Nat)(k:E7):Fm->LV
 | .a=>[sv (fR k) t,.ref d]
 | .b=>[.ref d,sv (fR k) t]
 | .c=>[.ref d,sv (fR k) t,.ref d]
noncomputable def f6{β:Type}(F:Fm->β):List β:=[F .a,F .b,F .c]
noncomputable def f7{β:Type}(F:Fm->β):List β:=[F .a,F .b,F .c]
theorem gx{β:Type}{F G:Fm->β}(h:f6 F=f7 G)(x:Fm):F x=G x:=by
 injection h with h0 h
 injection h with h1 h
 injection h with h2 h
 cases x<;>assumption
theorem q_BKF{α:Type}{X Y:Bool->E7->Fm->α}(h:(aK fun a=>fF fun b=>f6 fun c=>X a b c)=aM fun a=>fG fun b=>f7 fun c=>Y a b c):∀a b c,X a b c=Y a b c:=fun a b c=>gx (fW (aS h a) b) c
theorem q_BF{α:Type}{X Y:Bool->Fm->α}(h:(aK fun a=>f6 fun b=>X a b)=aM fun a=>f7 fun b=>Y a b):∀a b,X a b=Y a b:=fun a b=>gx (aS h a) b
theorem q_BEF{α:Type}{X Y:Bool->E4->Fm->α}(h:(aK fun a=>iZ fun b=>f6 fun c=>X a b c)=aM fun a=>i4 fun b=>f7 fun c=>Y a b c):∀a b c,X a b c=Y a b c:=fun a b c=>gx (j7 (aS h a) b) c
theorem q_BBF{α:Type}{X Y:Bool->Bool->Fm->α}(h:(aK fun a=>aK fun b=>f6 fun c=>X a b c)=aM fun a=>aM fun b=>f7 fun c=>Y a b c):∀a b c,X a b c=Y a b c:=fun a b c=>gx (aS (aS h a) b) c
theorem q_BBKF{α:Type}{X Y:Bool->Bool->E7->Fm->α}(h:(aK fun a=>aK fun b=>fF fun c=>f6 fun d=>X a b c d)=aM fun a=>aM fun b=>fG fun c=>f7 fun d=>Y a b c d):∀a b c d,X a b c d=Y a b c d:=fun a b c d=>gx (fW (aS (aS h a) b) c) d
local macro_rules | `(tactic| kcj_m)=>`(tactic| first|refine Mine.q_B ?_|refine Mine.q_BKF ?_|refine Mine.q_BBF ?_|refine Mine.q_BF ?_|refine Mine.q_BEF ?_|refine Mine.q_BBKF ?_)
theorem Hy{is:LN}{st:Bool->E7->Fm->an}{v:Bool->E7->Fm->br}(h:(aK fun a=>fF fun b=>f6 fun c=>aR is (st a b c))=aM fun a=>fG fun b=>f7 fun c=>(v a b c,aj (st a b c))):∀(a:Bool)(b:E7)(c:Fm),aR is (st a b c)=(v a b c,aj (st a b c)):=fun a b c=>gx (fW (aS h a) b) c
theorem Hz{is:LN}{st:Bool->E7->an}{v:Bool->E7->br}(h:(aK fun a=>fF fun b=>aR is (st a b))=aM fun a=>fG fun b=>(v a b,aj (st a b))):∀(a:Bool)(b:E7),aR is (st a b)=(v a b,aj (st a b)):=fun a b=>fW (aS h a) b
section
variable(w:Lj)(a b:Bool)(fr:List Env)(F h d g e:Nat)(k:E7)
include w a b fr F h d g e k
theorem Go(f:Fm)(J:ab)(lows:Mem) :
  ak w a b fr 6 (ag eV (aH F)) ([(F,pD h d g J k f)]++lows) (d6 .next [(F,pD h d g J k f)] lows):=by
 apply lD b k f 16512;intro V N T e i c st
 apply rQ b k f [0];apply c;intro o τ;refine ⟨?_, ?_⟩;apply rfl;apply rfl;k_mem
abbrev pE (x0 x1 x2 x3 x4 x5 x6 x7 x8 x9):=([(x0,wA x1 x2 x3 x4 x5 x6),(x2,aa (IS x1 x7 x5 x6) x8),(x3,iL x2)]++x9:Mem)
theorem wB(t:Nat)(J:ab)(lows:Mem)(c:Lm->Mem->Prop)(IH:∀(J:ab)(e:Nat),ak w a b fr 6 (ag eV (aH F)) ([(F,pD h d g J k .a),(d,aa (ft h t k .a) e),(g,iL d)]++lows) c) :
  ak w a b fr 6 (ag eV (aH F)) (pE F h d g J k .a t e lows) c:=by
 apply eY b k 0x608102000810206001810204100040010204000010400100040010202000010204000020408000040800004080;intro V N T i j f st
 apply gT b k [0,1,2];apply f;intro o;apply IH (ae (o 0)) (e + 1);k_mem
theorem wC(t:Nat)(J:ab)(lows:Mem)(f:Lm->Mem->Prop)(IH:∀(J:ab)(e:Nat),ak w a b fr 6 (ag eV (aH F)) ([(F,pD h d g J k .c),(d,aa (ft h t k .c) e),(g,iL d)]++lows) f) :
  ak w a b fr 6 (ag eV (aH F)) (pE F h d g J k .c t e lows) f:=by
 apply eY b k 0x608102000810206001810204100040010204000010400100040010202000010204000020408000040800004080;intro V N T j l i st
 apply gT b k [0,1,2];apply i;intro o;apply IH (ae (o 0)) (e + 1);k_mem
abbrev pF (x0 x1 x2 x3 x4 x5 x6 x7 x8):=([(x0,wz x1 x2 x3 x4 x5 x6),(x2,aa (Hx x1 x6) x7),(x3,iL x2)]++x8:Mem)
theorem wD(J:ab)(lows:Mem)(c:Lm->Mem->Prop)(IH:∀(J:ab)(e:Nat),ak w a b fr 6 (ag eV (aH F)) (pF F h d g J k .b e lows) c) :
  ak w a b fr 6 (ag eV (aH F)) ([(F,wy h d g J k .b),(d,aa [] e),(g,iL d)]++lows) c:=by
 apply eY b k 0x304081000408103000c0810400100040010202000010204000020408000040800004080;intro V N T i j f st
 apply gT b k [0,1,2];apply f;intro o;apply IH (ae (o 0)) (e + 1);k_mem
theorem wE(J:ab)(lows:Mem)(f:Lm->Mem->Prop)(IH:∀(J:ab)(e:Nat),ak w a b fr 6 (ag eV (aH F)) (pF F h d g J k .c e lows) f) :
  ak w a b fr 6 (ag eV (aH F)) ([(F,wy h d g J k .c),(d,aa [] e),(g,iL d)]++lows) f:=by
 apply eY b k 0x304081000408103000c0810400100040010202000010204000020408000040800004080;intro V N T j l i st
 apply gT b k [0,1,2];apply i;intro o;apply IH (ae (o 0)) (e + 1);k_mem
end
noncomputable def cY:L4:=ax bd 30
noncomputable def IU:Str:=⟨#[108,97,119,46,60,108,111,99,97,108,115,62,46]⟩
def ig(e:Lg)(CL F:Nat)(a:List (Str × Nat)):Env:=⟨vE (ki e),CL,3,a,IU,Lk,.ref 306,Ld F,0⟩
def KN(e:Lg):Lg:=ex e 0
def iM:Lg:=KN (ed (ax (ai cY) 0))
section
variable(w:Lj)(a b:Bool)(fr:List Env)(F f g:Nat)(d:LV)(CL it ac i:Nat)
include w a b fr F f g d CL it ac i
theorem wG(n:Int)(t:Nat)(r:d[i]? = Ld (.int n t))(c:Bool)(v:Lc)(J:ab)(h:LV)(l:Nat)(hz:h.length < 1000)(lows:Mem)(j:Lm->Mem->Prop)(IH:∀(v:Lc)(J:ab)(k:Nat)(l:Nat),ak w a b fr 7 (.compLoop iM 0 (.ref it) (.ref ac) (ig iM CL F [])) (f0 (CL,bR Lh oS v J) it f (i + 1) ac (h++[.int (n.fmod 9973) k]) l d g lows) j) :
  ak w a b fr 7 (.compLoop iM 0 (.ref it) (.ref ac) (ig iM CL F [])) (f0 (CL,bR c oS v J) it f i ac h l d g lows) j:=by
 apply eY b c 0x6041020400100;intro V N T s B m st
 apply bo b c 536887425;intro o;apply aG w a b it f i d g (.int n t) r;k_all;intro u q st
 apply eE b c 539001216;intro o;apply gH w a b n 9973 t (q + 1) (by kd_p);k_all;intro k x z st
 apply cP b c 3;intro o;apply aB w a b ac h (.int (Pt n 9973) k) l (by kd_p);k_all;intro p y A st
 apply gT b c [0,1,2,3];apply m;intro o;apply IH (.int n t) (ae (o 0)) k p.e;k_mem
theorem wH(k:d.length<=i)(c:Bool)(v:Lc)(J:ab)(e:LV)(j:Nat)(lows:Mem) :
  ak w a b fr 7 (.compLoop iM 0 (.ref it) (.ref ac) (ig iM CL F [])) (f0 (CL,bR c oS v J) it f i ac e j d g lows)
   (d6 .next ([(CL,bR c oS v J),(ac,aa e j)]++[(f,aa d g)]) lows):=by
 apply eY b c 0x6041020400100;intro V N T l p h st
 apply nA b c 5;intro o;apply aP w a b it f i d g k;k_all;intro x q m n st
 apply lh b c [0,2,3];apply h;intro o τ;refine ⟨?_, ?_⟩;apply rfl;apply rfl;k_mem
end
section
variable{prog:LU}{w:Lj}{A:L9}{c:Mk}{env:Env}{s:Ly}
theorem SW.assert{a:Lg}{d:Option Lg}{e:Pos}{K:Oi->Ly->Prop}(h:IT prog w A c env a (fun b i=>b=Lh/\K .next i) s):SW prog w A c env [.Assert a d e] K s:=by
 intro Γ p g f
 show Mz _ Γ (OH [.Assert a d e] env) _ _ p s
 rw [Na,Lp,arm_exec_Assert,Lp,NF,Lp]
 refine Lt _ Γ _ (fun b j k q=>?_) (fun V V V x=>x) _ s (h Γ _ g f)
 obtain ⟨rfl,q⟩:=q
 exact q
theorem jf(x:Lg)(r:List Lg)(env:Env):PG .And (x::r) env=(isTrue x env (RR x env) >>= fun b=>match BoolOp.And,b with | .And,Li=>Ob Li | .Or,Lh=>Ob Lh | _,_=>PG .And r env):=rfl
theorem IT.and1{x:Lg}{d:Pos}{Q:Bool->Ly->Prop}(h:IT prog w A c env x Q s):IT prog w A c env (.BoolOp .And [x] d) Q s:=by
 intro Γ p e a
 show Mz _ Γ (PG .And [x] env) _ _ p s
 rw [jf,Lp]
 refine Lt _ Γ _ (fun b f g q=>?_) (fun V V V x=>x) p s (h Γ p e a)
 cases b<;>exact q
theorem IT.and{x y:Lg}{l:List Lg}{d pos':Pos}{Q:Bool->Ly->Prop}(h:IT prog w A c env x (fun b f=>match b with|false=>Q Li f|true=>IT prog w A c env (.BoolOp .And (y::l) pos') Q f) s):IT prog w A c env (.BoolOp .And (x::y::l) d) Q s:=by
 intro Γ p e a
 show Mz _ Γ (PG .And (x::y::l) env) _ _ p s
 rw [jf,Lp]
 refine Lt _ Γ _ (fun b g i q=>?_) (fun V V V x=>x) p s (h Γ p e a)
 cases b with
 | false=>exact q
 | true=>exact q Γ g e a
theorem t7{d:Lg}{body a:List L4}{R:Lm->Ly->Prop}(j:c=.whileLoop d body a env)(h:IT prog w A c env d (fun b k=>match b with
   | true=>SW prog w A c env body (fun f e=>match f with | .next=>Mm (Lw prog w) A c R e | .cont=>Mm (Lw prog w) A c R e | .brk=>R (.ok .next) e | .ret v=>R (.ok (.ret v)) e) k
   | false=>SW prog w A c env a (fun f e=>R (.ok f) e) k) s) :
  Mm (Lw prog w) A c R s:=by
 subst j
 refine PD (prog:=prog) (w:=w) A R s _ ?_
 intro Γ p j g
 show Mz (Lw prog w) Γ ((PF d body a env).onRaise (fun x=>do Nc x env;OP x)) _ _ p s
 rw [Ny]
 unfold PF
 rw [Lp]
 refine Lt _ Γ _ (fun b m k l=>?_) (fun V V V x=>x.elim) p s (h Γ p j g)
 cases b with
 | false=>
  dsimp only at l ⊢
  rw [if_neg (by decide),Lp]
  exact Lt _ Γ _ (fun f n e i=>i) (fun V V V x=>x.elim) m k (l Γ m j g)
 | true=>
  dsimp only at l ⊢
  rw [if_pos rfl,Lp]
  refine Lt _ Γ _ (fun f n e i=>?_) (fun V V V x=>x.elim) m k (l Γ m j g)
  cases f with
  | next=>exact ⟨rfl,i⟩
  | cont=>exact ⟨rfl,i⟩
  | brk=>exact i
  | ret v=>exact i
end
section
variable{prog:LU}{w:Lj}{kt:KT}{fr:List Env}{L:Nat}{c:Mk}{env:Env}{F a:Mem}
theorem bt.assert{d:Lg}{j:Option Lg}{k:Pos}{post1:Bool->Mem->Prop}(h:dO prog w kt fr L c env d F post1)(r:∀a,¬post1 Li a):bt prog w kt fr L c env [.Assert d j k] F (fun f a=>f=.next/\post1 Lh a):=
 fun A g l G D O N T K m hf o q n e=>SW.assert (h A g l G D O N T _ m hf o q n fun b a s t l p i=>by
  cases b with
  | false=>exact (r _ p).elim
  | true=>exact ⟨rfl,e _ _ _ _ _ ⟨rfl,p⟩ i⟩)
theorem dO.and1{x:Lg}{d:Pos}{a:Bool->Mem->Prop}(h:dO prog w kt fr L c env x F a):dO prog w kt fr L c env (.BoolOp .And [x] d) F a:=
 fun A g e G D O N T K f hf j k i b=>IT.and1 (h A g e G D O N T K f hf j k i b)
theorem dO.and{x y:Lg}{l:List Lg}{k pos':Pos}{post1 d:Bool->Mem->Prop}(h:dO prog w kt fr L c env x F post1)(t:∀a,post1 Li a->d Li a)(j:∀a,post1 Lh a->dO prog w kt fr L c env (.BoolOp .And (y::l) pos') a d):dO prog w kt fr L c env (.BoolOp .And (x::y::l) k) F d:=
 fun A g i G D O N T K m hf n o s e=>IT.and (pos':=pos') (h A g i G D O N T _ m hf n o s fun b a q r i p f=>by
  cases b with
  | false=>exact e _ _ _ _ _ (t _ p) f
  | true=>exact j _ p A g i G D O q r K m hf n o f e)
theorem gi{k:Lg}{body e:List L4}{post1:Bool->Mem->Prop}{post2 post3:Oi->Mem->Prop}{d:Lm->Mem->Prop}(I:c=.whileLoop k body e env)(h:dO prog w kt fr L c env k F post1)(C:∀a,post1 Lh a->bt prog w kt fr L c env body a post2)(E:∀f a,post2 f a->match f with | .next=>aO prog w kt fr L c a d | .cont=>aO prog w kt fr L c a d | .brk=>d (.ok .next) a | .ret v=>d (.ok (.ret v)) a)(h4:∀a,post1 Li a->bt prog w kt fr L c env e a post3)(l:∀f a,post3 f a->d (.ok f) a):aO prog w kt fr L c F d:=
 fun A g B G D O N T R m hf o r H j=>t7 I (h A g B G D O N T _ m hf o r H fun b a x y z p n=>by
  cases b with
  | true=>
   refine C a p A g z G D O x y _ m hf o r n fun f s t u h4 q i=>?_
   have l:=E f s q
   cases f with
   | next=>exact l A g h4 G D O t u R m hf o r i j
   | cont=>exact l A g h4 G D O t u R m hf o r i j
   | brk=>exact j _ _ _ _ _ l i
   | ret v=>exact j _ _ _ _ _ l i
  | false=>exact h4 a p A g z G D O x y _ m hf o r n fun f s t u J q i=>j _ _ _ _ _ (l f s q) i)
end
theorem jg(a:O7):isSame (.ref a) (.ref a)=Ob Lh:=by
 dsimp only [isSame]
 simp
theorem jh(a:Nat)(F:Mem):qy .Is (.ref a) (.ref a) F Lh:=by
 intro prog w A g h G D O N T E Q d c b
 have e:OA .Is (.ref a) (.ref a)=Ob (.bool Lh):=by
  unfold OA
  dsimp only
  rw [jg]
  rfl
 rw [e]
 exact fun V V V=>b
theorem f8(a:Nat)(F:Mem):qy .IsNot (.ref a) (.ref a) F Li:=by
 intro prog w A g h G D O N T E Q d c b
 have e:OA .IsNot (.ref a) (.ref a)=Ob (.bool Li):=by
  unfold OA
  dsimp only
  rw [jg]
  rfl
 rw [e]
 exact fun V V V=>b
noncomputable def Tg(tag:Ow->Nat)(xs:Array Ow)(i:Nat):Nat:=match xs[i]? with
 | some p=>tag p
 | none=>0
theorem ii{tag:Ow->Nat}{xs ys:Array Ow}{i j:Nat}(h:xs[i]? = ys[j]?):Tg tag xs i=Tg tag ys j:=by unfold Tg;rw [h]
theorem iN{tag:Ow->Nat}{xs:Array Ow}{a d:Nat}(hs:a < xs.size)(hd:d<=a)(k:Nat) :
  Tg tag (Qq xs a d) k=if k=a - d then Tg tag xs a else if a - d < k/\k<=a then Tg tag xs (k - 1) else Tg tag xs k:=by
 have e:=Ts hs d hd k
 by_cases b:k=a - d
 .rw [if_pos b] at e ⊢;exact ii e
 .rw [if_neg b] at e ⊢
  by_cases c:a - d < k/\k<=a
  .rw [if_pos c] at e ⊢;exact ii e
  .rw [if_neg c] at e ⊢;exact ii e
structure ng(tag:Ow->Nat)(a₀ xs:Array Ow)(k:Nat):Prop where
 lex:∀i j,i < j->j < k->K xs i<=K xs j/\(K xs i=K xs j->Tg tag xs i < Tg tag xs j)
 low:∀i,i < k->Tg tag xs i < k
 rest:∀i,k<=i->xs[i]? = a₀[i]?
theorem ng.sorted{tag:Ow->Nat}{a₀ xs:Array Ow}{k:Nat}(h:ng tag a₀ xs k):TN xs k:=by
 intro i j a b
 by_cases e:i=j
 .subst e;exact Rg _
 .exact (h.lex i j (by kd_p) b).1
section
variable{prog:LU}{w:Lj}{A:L9}{E:Lc->Ly->Prop}{s:Ly}{a₀:Array Ow}{tag:Ow->Nat}
theorem ng.insert{xs:Array Ow}{k l:Nat}(v:∀i,i < a₀.size->Tg tag a₀ i=i)(g:k < xs.size)(hsz:xs.size=a₀.size)(hs:ng tag a₀ xs k)(d:l<=k)(t:∀i,i < l->K xs i<=K xs k)(s:∀i,l<=i->i < k->K xs k < K xs i) :
  ng tag a₀ (Qq xs k (k - l)) (k + 1):=by
 have r:Tg tag xs k=k:=by
  rw [ii (hs.rest k (Lf _))]
  exact v k (hsz ▸ g)
 have q:k - (k - l)=l:=Nat.sub_sub_self d
 have m:k - l<=k:=Rv _ _
 have pr {i:Nat} (h:l < i):i - 1 + 1=i:=Nat.succ_pred_eq_of_pos (Nat.zero_lt_of_lt h)
 have o:∀i,i < l->K (Qq xs k (k - l)) i=K xs i/\Tg tag (Qq xs k (k - l)) i=Tg tag xs i:=fun i a=>by
  rw [TO g m,iN g m,q,if_neg (PK a),if_neg fun h=>S7 a h.1,if_neg (PK a),if_neg fun h=>S7 a h.1]
  exact ⟨rfl,rfl⟩
 have p:K (Qq xs k (k - l)) l=K xs k/\Tg tag (Qq xs k (k - l)) l=Tg tag xs k:=by
  rw [TO g m,iN g m,q,if_pos rfl,if_pos rfl]
  exact ⟨rfl,rfl⟩
 have f:∀i,l < i->i<=k->K (Qq xs k (k - l)) i=K xs (i - 1)/\Tg tag (Qq xs k (k - l)) i=Tg tag xs (i - 1):=fun i h1 h2=>by
  rw [TO g m,iN g m,q,if_neg (QO h1),if_pos ⟨h1,h2⟩,if_neg (QO h1),if_pos ⟨h1,h2⟩]
  exact ⟨rfl,rfl⟩
 refine ⟨fun i j c b=>?_,fun i a=>?_,fun i a=>?_⟩
 .replace b:=Mv b
  clear q;rcases NQ i l with h1|h1|h1
  .rw [(o i h1).1,(o i h1).2]
   rcases NQ j l with h2|h2|h2
   .rw [(o j h2).1,(o j h2).2]
    exact hs.lex i j c (LG h2 d)
   .rw [h2,p.1,p.2,r]
    exact ⟨t i h1,fun V=>hs.low i (LG h1 d)⟩
   .rw [(f j h2 b).1,(f j h2 b).2]
    exact hs.lex i (j - 1) (LG h1 (Mv ((pr h2).symm ▸ h2))) (NR ((pr h2).symm ▸ b))
  .have h2:l < j:=h1 ▸ c
   rw [h1,p.1,p.2,(f j h2 b).1,(f j h2 b).2]
   have:=s (j - 1) (Mv ((pr h2).symm ▸ h2)) (NR ((pr h2).symm ▸ b))
   exact ⟨QW this,fun e=>absurd (e ▸ this) (Int.lt_irrefl _)⟩
  .have h2:=MC h1 c
   have u:=LL (Mh c) b
   rw [(f i h1 u).1,(f i h1 u).2,(f j h2 b).1,(f j h2 b).2]
   exact hs.lex (i - 1) (j - 1) (Q9 (Nat.one_le_of_lt h1) c) (NR ((pr h2).symm ▸ b))
 .replace a:=Mv a
  refine bp fun C n=>?_;rcases NQ i l with h1|h1|h1
  .apply n;clear n
   rw [(o i h1).2]
   exact PM (hs.low i (LG h1 d))
  .apply n;clear n
   rw [h1,p.2,r]
   exact PZ k
  .apply n;clear n
   rw [(f i h1 a).2]
   exact PM (hs.low (i - 1) (NR ((pr h1).symm ▸ a)))
 .replace a:=NR a
  rw [Ts g _ m,q,if_neg (QO (LJ d a)),if_neg fun h=>absurd h.2 (RZ a)]
  exact hs.rest i (Mh a)
theorem KO{l r:Nat}(h:l<r):l<=(l+r)/2:=(Nat.le_div_iff_mul_le (by decide)).2 (by rw [Tv];exact LS (Mh h) l)
theorem KP{l r:Nat}(h:l<r):(l+r)/2<r:=(Nat.div_lt_iff_lt_mul (by decide)).2 (by rw [Tv];exact NT h r)
theorem KQ{l m r k x:Nat}(a:l<=m)(hm:m<r)(h:r-l<=k-x):m-l<=k-(x+1):=by
 refine LL (Ra (LG (Q9 a hm) h)) (Op (Tu k x 1))
theorem KR{l m r k x:Nat}(a:l<=m)(hm:m<r)(h:r-l<=k-x):r-(m+1)<=k-(x+1):=by
 refine LL (Ra (LG (Nat.sub_lt_sub_left (LJ a hm) (RC a)) h)) (Op (Tu k x 1))
theorem iO{st:PX}{n z:Nat}{Q:Bool->PX->Prop}(O:∀i,i < a₀.size->Tg tag a₀ i=i)(M:IntKeys a₀)(U:n<=a₀.size)(J:z<=n)(H:1<=z)(N:QA a₀ st)(hs:ng tag a₀ (M8 st) z)
  (h:∀a,QA a₀ a->ng tag a₀ (M8 a) n->Q Lh a):wpS (Lw prog w) A E s (binarySort' 0 n z) Q st:=by
 rw [binarySort'_eq]
 simp only [M4]
 refine No (RW (Qf (I:=fun k c a=>c=(Lk,())/\QA a₀ a/\ng tag a₀ (M8 a) (min k n))
  (Q:=fun c a=>c=(Lk,())/\QA a₀ a/\ng tag a₀ (M8 a) n) ?step ?fin ?init) ?post)
 case post=>
  intro c a p;refine qd (fun B e f=>?_) p;subst B
  exact Oj (h a e f)
 case init=>
  refine ⟨rfl,N, ?_⟩
  rwa [Nat.max_eq_left H,Pc J]
 case fin=>
  intro c a p;refine qd (fun R e f=>?_) p
  refine ⟨R,e, ?_⟩
  rwa [Nat.min_eq_right (Nat.le_max_right _ _)] at f
 case step=>
  intro k c a P t p;refine qd (fun B e f=>?_) p;subst B
  rw [Pc (Mh t)] at f
  have F:k < a₀.size:=LG t U
  refine No (RW (Qf (I:=fun x c b=>b=a/\∃l r,c=(Lk,l,r)/\l<=r/\r<=k/\r - l<=k - x /\
    (∀i,i < l->K (M8 a) i<=K (M8 a) k)/\(∀i,r<=i->i < k->K (M8 a) k < K (M8 a) i))
   (Q:=fun c b=>b=a/\∃l r,c=(Lk,l,r)/\l<=k /\
    (∀i,i < l->K (M8 a) i<=K (M8 a) k)/\(∀i,l<=i->i < k->K (M8 a) k < K (M8 a) i)) ?istep ?ifin ?iinit) ?ipost)
  case iinit=>exact ⟨rfl,0,k,rfl,MJ _,Lf _,Lf _,fun i S=>absurd S (Qg _),fun i u D=>absurd D (Nat.not_lt_of_le u)⟩
  case ifin=>
   intro c b p;refine bp fun C q=>?_;obtain ⟨rfl,l,r,rfl,v,o,hm,j,g⟩:=p;apply q;clear q
   have : l=r:=by kd_p
   subst this
   exact ⟨rfl,l,l,rfl,o,j,g⟩
  case istep=>
   intro x c b V W p;refine bp fun C q=>?_;obtain ⟨rfl,l,r,rfl,v,o,hm,j,g⟩:=p;apply q;clear q
   dsimp only
   by_cases m:l ≥ r
   .rw [if_pos m]
    have : l=r:=NM v m
    subst this
    exact Oj ⟨rfl,l,l,rfl,o,j,g⟩
   .rw [if_neg m]
    have L:=KO (R8 m)
    have y:=KP (R8 m)
    have m3:=LG y o
    refine No (wpS_ltK e M F (MC m3 F) ?_)
    by_cases d:K (M8 b) k < K (M8 b) ((l + r) / 2)
    .simp only [d,decide_true,if_true]
     refine Oj ⟨rfl,l,(l + r) / 2,rfl,L,Mh m3,KQ L y hm,j,fun i u D=>?_⟩
     exact Int.lt_of_lt_of_le d (f.sorted _ _ u D)
    .simp only [d,decide_false,Nf,if_false]
     refine Oj ⟨rfl,(l + r) / 2 + 1,r,rfl,y,o,KR L y hm,fun i u=>?_,g⟩
     exact Td (f.sorted i ((l + r) / 2) (Mv u) m3) (TS.mp d)
  case ipost=>
   intro c b p;refine bp fun C q=>?_;obtain ⟨rfl,l,r,rfl,G,j,g⟩:=p;apply q;clear q
   show wpS _ _ _ _ (do moveDown' k l;Ob (ForInStep.yield (Lk,()))) _ _
   rw [moveDown'_eq]
   refine No (Sx (Oj ⟨rfl,e.setArr (bubble_perm _ _ _), ?_⟩))
   rw [Pc t]
   exact f.insert O (by rw [e.size];exact F) e.size G j g
theorem it{α:Type}{P:α->Prop}{c:Prop} [Decidable c] {a b:α} (h:c) (H:P a):P (if c then a else b):=by rw [if_pos h];exact H
theorem ie{α:Type}{P:α->Prop}{c:Prop} [Decidable c] {a b:α} (h:¬c) (H:P b):P (if c then a else b):=by rw [if_neg h];exact H
theorem kw{st:PX}{Q:Option Nat->PX->Prop}(q:∀i,i < a₀.size->Tg tag a₀ i=i)(v:IntKeys a₀)(x:1<=a₀.size)(y:QA a₀ st)(he:M8 st=a₀)(d:∀i,0 < i->i < a₀.size->K a₀ 0 < K a₀ i)
  (h:∀m,1<=m->m<=a₀.size->ng tag a₀ (M8 st) m->Q (Ld m) st) :
  wpS (Lw prog w) A E s (countRun' 0 a₀.size) Q st:=by
 have mk:∀n,n<=a₀.size->TN (M8 st) n->ng tag a₀ (M8 st) n:=fun n r hs=>by
  rw [he] at hs ⊢
  refine ⟨fun i j a k=>⟨hs i j (Mh a) k,fun V=>?_⟩,fun i z=>?_,fun i V=>rfl⟩
  .rw [q i (LG (MC a k) r),q j (LG k r)];exact a
  .rw [q i (LG z r)];exact z
 have u:TN (M8 st) 1:=fun i j a k=>QX (congrArg _ (NM a (LL (Mv k) (MJ _))))
 rw [countRun0_eq]
 refine No (wpS_ascLoop v (Lf _) (Lf 1) x y u fun n f b p t=>?_)
 dsimp only
 by_cases c:n=a₀.size
 .rw [if_pos (by simpa using c)]
  exact Oj (h n f b (mk n b p))
 .rw [if_neg (by simpa using c)]
  have hns:=Nat.lt_of_le_of_ne b c
  have l:K (M8 st) n < K (M8 st) (n - 1):=t.resolve_left c
  by_cases e:n > 1
  .rw [if_pos e]
   refine No (wpS_ltK y v x (LJ (Rv n 1) hns) ?_)
   have g:K (M8 st) 0 < K (M8 st) (n - 1):=by rw [he];exact d _ (Nat.sub_pos_of_lt e) (LJ (Rv n 1) hns)
   simp only [g,decide_true,if_true]
   exact Oj (h n f b (mk n b p))
  .exfalso
   have o:n=1:=NM (Nz e) f
   subst o
   rw [he] at l
   exact absurd (d 1 (by decide) hns) (Int.lt_asymm l)
def mM(tag:Ow->Nat)(a₀:Array Ow)(st:PX):Prop:=
 (M8 st).Perm a₀/\RX st=Lk/\Qp st = #[(0,a₀.size,0)]/\ng tag a₀ (M8 st) a₀.size
theorem QA.done_s{st:PX}(a:QA a₀ st)(hs:ng tag a₀ (M8 st) a₀.size):mM tag a₀ (setPending st ((Qp st).push (0,a₀.size,0))):=
 ⟨a.perm,a.failed,by show (Qp st).push _=_;rw [a.pend];rfl,hs⟩
theorem ky{st:PX}{Q:Unit->PX->Prop}(y:∀i,i < a₀.size->Tg tag a₀ i=i)(u:IntKeys a₀)(g:QA a₀ st)(he:M8 st=a₀)(l:∀i,0 < i->i < a₀.size->K a₀ 0 < K a₀ i)(v:2<=a₀.size)(o:a₀.size < 64)
  (h:∀a,(M8 a).Perm a₀->RX a=Lk->ng tag a₀ (M8 a) a₀.size->Q () a):wpS (Lw prog w) A E s sortRuns' Q st:=by
 rw [sortRuns'_eq]
 refine No (SR ?_)
 dsimp only
 have e:minRun' a₀.size a₀.size 0=a₀.size:=by
  obtain ⟨f,hf⟩ : ∃f,a₀.size=f + 1:=⟨a₀.size - 1,(Nat.sub_add_cancel (RD v)).symm⟩
  have : minRun' (f + 1) a₀.size 0=a₀.size:=by rw [minRun'_succ,if_pos o];rfl
  rwa [<- hf] at this
 simp only [g.size,e]
 refine No (RW (Qf
  (I:=fun x c a=>(x=0/\c=(Lk,0)/\a=st)∨(1<=x/\c=(Lk,a₀.size)/\mM tag a₀ a))
  (Q:=fun c a=>c=(Lk,a₀.size)/\mM tag a₀ a) ?step ?fin (.inl ⟨rfl,rfl,rfl⟩)) ?post)
 case fin=>
  clear e;rintro c a (⟨C,_,_⟩ | ⟨_,z,hD⟩)
  .kd_p
  .exact ⟨z,hD⟩
 case step=>
  clear e;rintro x c a _ C (⟨rfl,rfl,rfl⟩ | ⟨D,rfl,hD⟩)
  .dsimp only
   rw [if_neg (by kd_p)]
   simp only [Nat.sub_zero,QQ,M4]
   refine No (kw y u (RD v) g he l fun m q k n=>?_)
   dsimp only
   by_cases d:m < a₀.size
   .refine it (P:=fun x=>wpS _ _ _ _ x _ _) d ?_
    refine No (wpS_lift (Oa ⟨rfl, ?_⟩))
    refine No (iO y u (Lf _) k q g n fun t j r=>?_)
    simp only [Bool.not_true,Nf,if_false]
    refine No (SR ?_)
    have p:(Qp t).back? = Lk:=by rw [j.pend];rfl
    rw [p]
    dsimp only
    exact No (Sx (Oj (.inr ⟨by kd_p,rfl,QA.done_s j r⟩)))
   .refine ie (P:=fun x=>wpS _ _ _ _ x _ _) d ?_
    have hm:m=a₀.size:=NM k (Nz d)
    subst hm
    refine No (SR ?_)
    have p:(Qp a).back? = Lk:=by rw [g.pend];rfl
    rw [p]
    dsimp only
    exact No (Sx (Oj (.inr ⟨by kd_p,rfl,QA.done_s g n⟩)))
  .dsimp only
   rw [if_pos (Lf _)]
   exact Oj ⟨rfl,hD⟩
 case post=>
  rintro c a ⟨rfl,hD⟩
  dsimp only
  refine No (RW (Qf (I:=fun V c b=>b=a/\c=(Lk,())) (Q:=fun c b=>b=a/\c=(Lk,())) ?_ (fun V V B=>B) ⟨rfl,rfl⟩) ?_)
  .rintro x c b _ _ ⟨rfl,rfl⟩
   refine No (SR ?_)
   rw [if_pos (by rw [hD.2.2.1];exact Lf 1)]
   exact Oj ⟨rfl,rfl⟩
  .rintro c b ⟨rfl,rfl⟩
   exact Oj (h _ hD.1 hD.2.1 hD.2.2.2)
end
noncomputable def f9(x:LN):LLN->LLN
 | []=>[x]
 | y::r=>if x.length < y.length then x::y::r else y::f9 x r
def aT(ss:LLN):LLN:=ss.foldl (fun a x=>f9 x a) []
def ji(ss:LLN)(x y:LN):Prop:=x.length < y.length∨(x.length=y.length/\ss.idxOf x < ss.idxOf y)
theorem eW(x:LN):∀a,(f9 x a).Perm (x::a)
 | []=>.refl _
 | y::r=>by
  dsimp only [f9]
  split
  .exact .refl _
  .exact ((eW x r).cons y).trans (.swap x y r)
set_option tactic.hygienic true in
theorem qA(ss:LLN)(x:LN):∀a,a.Pairwise (ji ss)->(∀y∈a,ss.idxOf y < ss.idxOf x)->(f9 x a).Pairwise (ji ss)
 | [],_,_=>List.pairwise_singleton _ _
 | y::r,hp,hi=>by
  obtain ⟨c,d⟩:=NC.mp hp
  unfold f9
  split
  .rename_i b
   refine NC.mpr ⟨fun z hz=>?_,hp⟩
   rcases LD.mp hz with rfl|hz
   .exact .inl b
   .rcases c z hz with q | ⟨q,_⟩
    .exact .inl (MC b q)
    .exact .inl (q ▸ b)
  .rename_i e
   refine NC.mpr ⟨fun z hz=>?_,qA ss x r d fun z hz=>hi z (.tail _ hz)⟩
   rcases LD.mp ((eW x r).mem_iff.mp hz) with rfl|hz
   .have:=hi y (.head _)
    rcases PO y.length z.length with q|q
    .exact .inl q
    .exact .inr ⟨by kd_p,this⟩
   .exact c z hz
theorem lP(ss:LLN):∀(b a:LLN),(∀y∈a,∀x∈b,ss.idxOf y < ss.idxOf x)->b.Pairwise (fun x y=>ss.idxOf x < ss.idxOf y)->a.Pairwise (ji ss) ->
  (b.foldl (fun a x=>f9 x a) a).Pairwise (ji ss)/\(b.foldl (fun a x=>f9 x a) a).Perm (a++b)
 | [],a,_,_,hp=>⟨hp,by rw [Mp];exact .refl _⟩
 | x::b,a,hlt,hr,hp=>by
  obtain ⟨e,f⟩:=NC.mp hr
  obtain ⟨c,d⟩:=lP ss b (f9 x a) (fun y hy z hz=>by
   rcases LD.mp ((eW x a).mem_iff.mp hy) with rfl|hy
   .exact e z hz
   .exact hlt y hy z (.tail _ hz)) f (qA ss x a hp fun y hy=>hlt y hy x (.head _))
  refine ⟨c,d.trans ?_⟩
  exact ((eW x a).append_right b).trans MH.symm
section
variable{ss:LLN}
include ss
theorem Au(b:ss.Nodup):ss.Pairwise (fun x y=>ss.idxOf x < ss.idxOf y):=by
 rw [Nj]
 intro i j c d a
 rw [b.idxOf_getElem i c,b.idxOf_getElem j d]
 exact a
theorem wI{os:LLN}(f:ss.Nodup)(hp:os.Perm ss)(e:os.Pairwise (ji ss)):os=aT ss:=by
 obtain ⟨d,c⟩:=lP ss ss [] (fun V h=>nomatch h) (Au f) .nil
 rw [Oc] at c
 refine P0 (le:=ji ss) (fun x y V V a b=>?_) e d (hp.trans c.symm)
 exfalso
 rcases a with a | ⟨a,g⟩<;>rcases b with b | ⟨b,h4⟩<;>kd_p
theorem nX{keys:Array Lc}{vs:LV}(hs:af ss vs)(d:Ps keys.toList (ss.map fun s=>Ll s.length)) :
  keys.size=ss.length/\∀i (a:i < ss.length),∃t u,(keys.zip vs.toArray)[i]? = Ld (.int (Ll ss[i].length) t,sv ss[i] u):=by
 have e:keys.size=ss.length:=by
  have:=d.length
  rw [NX,Ln] at this
  exact this
 refine ⟨e,fun i a=>?_⟩
 obtain ⟨u,g⟩:=hs.get (i:=i) (s:=ss[i]) (Lo a)
 obtain ⟨t,f⟩ : ∃t,keys.toList[i]? = Ld (.int (Ll ss[i].length) t):=by
  have b:∀{c:LV}{ns:List Int},Ps c ns->∀{i:Nat}{n:Int},ns[i]? = Ld n->∃t,c[i]? = Ld (.int n t):=by
   intro c ns h
   induction h with
   | nil=>intro i n h;simp at h
   | cons n t _ j=>
    intro i m h
    cases i with
    | zero=>simp at h;subst h;exact ⟨t,rfl⟩
    | succ i=>simpa using j (by simpa using h)
  exact b d (by rw [MO,Lo a];rfl)
 refine (jm t u ?_)
 rw [<- Oq,ksk_zip,Qs]
 exact ⟨f,g⟩
noncomputable def pG(ss:LLN)(p:Ow):Nat:=ss.idxOf (Mine.txt p.2)
theorem wJ(Q:ss.Nodup){keys:Array Lc}{vs:LV}(hs:af ss vs)(O:Ps keys.toList (ss.map fun s=>Ll s.length)){xs:Array Ow}(hp:xs.Perm (keys.zip vs.toArray))(P:ng (pG ss) (keys.zip vs.toArray) xs (keys.zip vs.toArray).size) :
  af (aT ss) ((xs.map (·.2)).toList):=by
 obtain ⟨hsz,w⟩:=nX hs O
 have m:=hs.length
 have o:(keys.zip vs.toArray).size=ss.length:=by rw [Sa,hsz,OR,m,QQ]
 have g:xs.toList.Perm (keys.toList.zip vs):=by rw [<- ksk_zip];exact Array.perm_iff_toList_perm.mp hp
 have a:∀p∈xs.toList,∃s t u,s∈ss/\p=(.int (Ll s.length) t,sv s u):=fun p hm=>by
  have z:p∈(keys.zip vs.toArray).toList:=by rw [ksk_zip];exact g.mem_iff.mp hm
  refine bj (fun i r=>?_) (NZ z);obtain ⟨f,he⟩:=r
  have x:i < ss.length:=by rw [NX,o] at f;exact f
  refine d9 (fun t u r=>?_) (w i x);have v:=r
  have : (keys.zip vs.toArray).toList[i]? = Ld p:=by rw [Lo f,he]
  rw [Oq,v] at this
  exact ⟨ss[i],t,u,MX _,(MK this).symm⟩
 have k:af (xs.toList.map fun p=>Mine.txt p.2) (xs.toList.map (·.2)):=by
  have B:∀l:List Ow,(∀p∈l,∃s t u,s∈ss/\p=(.int (Ll s.length) t,sv s u))->af (l.map fun p=>Mine.txt p.2) (l.map (·.2)):=by
   intro l
   induction l with
   | nil=>intro V;exact .nil
   | cons p l U=>
    intro h
    refine bp fun C b=>?_;obtain ⟨s,t,u,_,rfl⟩:=h p (.head _);apply b;clear b
    exact .cons s u (U fun q R=>h q (.tail _ R))
  exact B _ a
 have c:(xs.toList.map fun p=>Mine.txt p.2).Perm ss:=by
  have v:=g.map (fun p:Ow=>Mine.txt p.2)
  have N:(keys.toList.zip vs).map (fun p:Ow=>Mine.txt p.2)=ss:=by
   have : (keys.toList.zip vs).map (fun p:Ow=>Mine.txt p.2)=((keys.toList.zip vs).map (·.2)).map Mine.txt:=by rw [Mu];rfl
   rw [this,List.map_snd_zip (by
    have : keys.toList.length=vs.length:=by rw [NX,hsz,m]
    exact Op this.symm),hs.txt]
  rwa [N] at v
 have A:(xs.toList.map fun p=>Mine.txt p.2).Pairwise (ji ss):=by
  rw [MM,Nj]
  intro i j f H y
  have S:xs.size=ss.length:=by rw [hp.size_eq,o]
  obtain ⟨L,M⟩:=P.lex i j y (by kd_p)
  refine bp fun C b=>?_;obtain ⟨d,Y,u1,_,D⟩:=a _ (MX (l:=xs.toList) (n:=i) (by simpa using f));apply b;clear b
  refine bp fun C b=>?_;obtain ⟨e,Z,u2,_,E⟩:=a _ (MX (l:=xs.toList) (n:=j) (by simpa using H));apply b;clear b
  have F:xs[i]? = Ld (.int (Ll d.length) Y,sv d u1):=by rw [<- Oq,Lo (by simpa using f),D]
  have G:xs[j]? = Ld (.int (Ll e.length) Z,sv e u2):=by rw [<- Oq,Lo (by simpa using H),E]
  have I:K xs i=Ll d.length:=by unfold K;rw [F];rfl
  have J:K xs j=Ll e.length:=by unfold K;rw [G];rfl
  have W:Tg (pG ss) xs i=ss.idxOf d:=by unfold Tg;rw [F];rfl
  have X:Tg (pG ss) xs j=ss.idxOf e:=by unfold Tg;rw [G];rfl
  rw [I,J,W,X] at M
  rw [I,J] at L
  rw [D,E]
  show ji ss d e
  by_cases h:d.length=e.length
  .exact .inr ⟨h,M (by rw [h])⟩
  .have : (d.length:Int)<=e.length:=L
   exact .inl (by kd_p)
 rw [wI Q c A] at k
 rw [Array.toList_map]
 exact k
end
theorem Rep.subl{g h:ME}{N:Nat}{M M':Mem}(R:Rep g h N M)(s:M'.Sublist M):Rep g h N M':=R.sub (fun V h=>s.subset h) (R.nd.sublist (s.map _))
section
variable{g h:ME}{N:Nat}{F l:Mem}(R:Rep g h N (F++l))(k:Nat){a:O7}{o:Obj}
include g h N F l R k a o
theorem gA(e:l[k]? = Ld (a,o)):h.get? a=Ld o:=
 R.get (i:=F.length + k) (by rw [Mf (Mj _ _),O3];exact e)
theorem uA{f:Obj->Obj}(e:l[k]? = Ld (a,o))(hf:(f o).isFreed=Li):Rep g (h.update a f) N (F++l.set k (a,f o)):=by
 have z:=R.update (i:=F.length + k) (f:=f) (by rw [Mf (Mj _ _),O3];exact e) hf
 rwa [Ot _ _ (Mj _ _),O3] at z
end
theorem HA{n:Nat}(h:n < 64):n<=M9:=LL (Mh h) (by decide)
section
variable{prog:LU}{w:Lj}{A:L9}{g:ME}{G:Array Mi}{D:Nn}{O:Mq}{T:Nat}
theorem Av{P:PySem.Fin->Ly->Prop}{E:Lc->Ly->Prop}{h:ME}{N:Nat}{F:Mem}{ss:LLN}{keys:Array Lc}{vs:LV}{a U e y:Nat}(hs:af ss vs)(S:ss.Nodup)(x:Ps keys.toList (ss.map fun s=>Ll s.length))(p:ss.length < 64)(r:∀i (d:i < ss.length) (v:0 < i),(ss[0]'(MC v d)).length < ss[i].length)(R:Rep g h N (F++[(a,Nq "list" #[] y),(U,Nq "list" keys e)]))(z:∀X out c,af (aT ss) out->Rep g X N (F++[(a,Nq "list" ⟨out⟩ c)])->P (.done (.ret .none)) ⟨X,G,D,T,O⟩) :
  L7 (Lw prog w) A (ksk_end a Li vs.toArray y (.ref U) keys) P E ⟨h,G,D,T,O⟩:=by
 obtain ⟨hsz,m⟩:=nX hs x
 have n:=hs.length
 have b:(keys.zip vs.toArray).size=ss.length:=by rw [Sa,hsz,OR,n,QQ]
 have tail:∀(st:PX),(M8 st).Perm (keys.zip vs.toArray)->RX st=Lk->ng (pG ss) (keys.zip vs.toArray) (M8 st) (keys.zip vs.toArray).size ->
   L7 (Lw prog w) A (ksk_tail a Li y (.ref U) st) P E ⟨h,G,D,T,O⟩:=by
  intro st hp C M
  have hout:=wJ S hs x hp M
  have W:=uA R 1 (f:=Nb fun V=>(#[] : Array Lc)) rfl rfl
  have Y:=(uA W 0 (f:=Nb fun V=>((M8 st).map (·.2))) rfl rfl).subl (.append_left (.cons₂ _ (.cons _ .slnil)) _)
  have L:=gA R 1 rfl
  have q:=gA W 0 rfl
  have hL:ss.length<=M9:=HA p
  unfold ksk_tail
  dsimp only
  refine Le (PS L rfl ?_ (by rw [hsz];exact hL) (MJ _))
  refine Le (wpAny_letGo ?_)
  refine Le (seqEpoch_at q rfl ?_)
  refine Le (PS q rfl ?_ (MJ _) (by simp only [Nf,if_false,Array.size_map];rw [hp.size_eq,b];exact NS hL))
  rw [C]
  simp only [bne_self_eq_false,Nf,if_false]
  exact Lx (z _ _ _ hout Y)
 have I:ng (pG ss) (keys.zip vs.toArray) (keys.zip vs.toArray) (min (keys.zip vs.toArray).size 1):=by
  refine ⟨fun i j J hj=>absurd (LG J (Mv (LG hj (PY _ _)))) (Qg _),fun i d=>?_,fun V V=>rfl⟩
  have H:i=0:=Nat.lt_one_iff.mp (LG d (PY _ _))
  subst H
  obtain ⟨t,u,o⟩:=m 0 (b ▸ LG d (Nat.min_le_left _ _))
  unfold Tg
  rw [o]
  show ss.idxOf ss[0] < _
  rw [S.idxOf_getElem]
  exact d
 unfold ksk_end
 dsimp only
 rw [if_neg (by decide)]
 by_cases l:vs.toArray.size < 2
 .rw [if_pos l,if_pos l]
  refine Le (Lx ?_)
  refine Le (Lx ?_)
  dsimp only
  refine tail (SS general' (keys.zip vs.toArray) #[] 7 Lk) (QZ _) rfl ?_
  rw [OR] at l
  rwa [show min (keys.zip vs.toArray).size 1=(keys.zip vs.toArray).size from Pc (b ▸ n ▸ Mv l)] at I
 .rw [if_neg l,if_neg l]
  rw [OR] at l
  rw [ksk_kind x (by rw [hsz,<- n];exact Nz l)]
  refine Le (Lx ?_)
  refine Le (QI (ky (tag:=pG ss) (a₀:=keys.zip vs.toArray) (st:=SS oneType' (keys.zip vs.toArray) #[] 7 Lk)
   (Q:=fun V k=>(M8 k).Perm (keys.zip vs.toArray)/\RX k=Lk/\ng (pG ss) (keys.zip vs.toArray) (M8 k) (keys.zip vs.toArray).size)
   (fun i d=>?_) (ksk_intKeys x) ⟨QZ _,rfl,rfl,rfl⟩ rfl (fun i v d=>?_) (by rw [b,<- n];exact Nz l) (by rw [b];exact p) fun k Z a2 a3=>⟨Z,a2,a3⟩) ?_ fun V V e=>e)
  .rw [b] at d
   obtain ⟨t,u,o⟩:=m i d
   unfold Tg
   rw [o]
   exact S.idxOf_getElem i d
  .rw [b] at d
   obtain ⟨t,u,o⟩:=m i d
   obtain ⟨t',u',B⟩:=m 0 (MC v d)
   unfold K
   rw [o,B]
   exact M5.mpr (r i d v)
  .rintro ⟨⟨⟩,k⟩ s' ⟨rfl,hp,hf,M⟩
   dsimp only
   exact tail k hp hf M
end
theorem lQ(w:Lj)(a b:Bool)(L l q:Nat)(vs:LV)(e:Nat){ss:LLN}(hs:af ss vs)(hn:ss.Nodup)(y:ss.length < 64)(S:∀i (hi:i < ss.length) (Q:0 < i),(ss[0]'(MC Q hi)).length < ss[i].length)(d:Mem)(HL:∀s t,s∈ss->CT w a b L (.call (.ref q) ⟨[sv s t],[]⟩) d (fun rr os p=>(∃u,rr=.ok (.ret (.int (Ll s.length) u)))/\os=d.map (·.2))) :
  CT w a b (L + 1) (.builtin "sorted" ⟨[.ref l],[(QK "key",.ref q)]⟩) (d++[(l,aa vs e)])
   (fun rr os p=>∃(R:Nat)(X:LV)(J:ab),rr=.ok (.ret (.ref R))/\os=d.map (·.2)++[aa vs e]/\p=[(R,aa X J.e)]/\af (aT ss) X):=
 bH plain_sorted entry_sorted fun A g h G D O N T1 R hA hk hl hR fin=>by
  have C:=hs.length
  have hL:vs.length<=M9:=HA (C ▸ y)
  have ho:=gA hR 0 rfl
  unfold Qo
  refine Le (m:=checkCount "sorted" 1 1 _) (Lx ?_)
  refine Le (SA (hsz:=hL) (items:=⟨vs⟩) l (.inl rfl) ho rfl rfl fun v hx=>?_)
  refine Le (Q8 ?_ hL)
  have n:(v.push (Nq "list" vs.toArray 0)).get? v.objs.size=Ld (Nq "list" vs.toArray 0):=OB _ rfl
  have U:∀b o,h.get? b=Ld o->(v.push (Nq "list" vs.toArray 0)).get? b=Ld o:=fun b o q=>ML _ (hx _ _ q)
  have B:h.get? v.objs.size=Lk:=by
   cases q:h.get? v.objs.size with
   | none=>rfl
   | some o=>exact absurd (Ol (hx _ _ q)) (NN _)
  have R1:=hR.grow U B n
  generalize hh:v.push (Nq "list" vs.toArray 0)=h2 at R1 n
  dsimp only
  generalize hq:v.objs.size=z at R1 n ⊢
  refine Le (Nh (wpAny_call_entry_kw TM ⟨_,n,rfl⟩ Tt ?body (ksk_l1 _ _)))
  case body=>
   show L7 (Lw pw (wd w a b)) A.in1.in1 (Os.«list.sort» ⟨[.ref z],[(QK "key",.ref q)]⟩) _ _ _
   rw [ksk_t1]
   obtain ⟨M,he1⟩ : ∃M,Nb (fun V=>(#[] : Array Lc)) (Nq "list" vs.toArray 0)=Nq "list" #[] M:=⟨_,rfl⟩
   have R2:Rep g _ _ ((d++[(l,aa vs e)])++[(z,Nb (fun V=>(#[] : Array Lc)) (Nq "list" vs.toArray 0))]):=uA R1 0 rfl rfl
   rw [he1] at R2
   have ha2:=gA R2 0 rfl
   unfold ksk_tree
   refine Le (listItems_at n rfl ?_)
   refine Le (PS n rfl ?_ hL (MJ _))
   refine Le (seqEpoch_at ha2 rfl ?_)
   refine Le (wpAny_newTuple ?_ hL)
   have R3:=(R2.alloc (o:=Nq "tuple" vs.toArray 0) rfl).subl (QB _ _)
   refine Le (Q8 ?_ (MJ _))
   have Y:=R3.alloc (o:=Nq "list" #[] 0) rfl
   refine Nh ?_
   rw [R3.size]
   generalize (((h2.update z (Nb fun V=>(#[] : Array Lc))).push (Nq "tuple" vs.toArray 0)).push (Nq "list" #[] 0))=h4 at Y ⊢
   generalize h2.objs.size + 1=Z at Y ⊢
   have R5:Rep g h4 (Z + 1) (d++([(l,aa vs e)]++[(z,Nq "list" #[] M),(Z,Nq "list" #[] 0)])):=by
    rw [Lr,Lr] at Y
    exact Y
   dsimp only [ksk_rest]
   refine Le (Oa ?_)
   rw [<- Array.forIn_toList]
   refine Le (ksk_fold (fun i s'=>∃P F I E c,s'=⟨P,G,D,I,O⟩/\Rep g P F (d++([(l,aa vs e)]++[(z,Nq "list" #[] M),(Z,Nq "list" E c)]))/\Ps E.toList ((ss.map fun s=>Ll s.length).take i)) vs 0 _
    (m7 h4 _ T1 (#[]) 0 ⟨rfl,R5,by simpa using Ps.nil⟩) ?step ?done)
   case step=>
    intro j x s' W q0;refine jA (fun P F I E c Q=>?_) q0;refine qd (fun K H k=>?_) Q;subst K
    simp only [M4] at k ⊢
    have hj:j < ss.length:=by rw [<- C];exact (Mn.mp W).1
    obtain ⟨t,ht⟩:=hs.get (i:=j) (s:=ss[j]) (Lo hj)
    rw [W] at ht
    obtain rfl:=MK ht
    have hz:E.size<=ss.length:=by
     have v:=k.length
     rw [NX,O1,Ln] at v
     rw [v]
     exact PY _ _
    obtain ⟨Q1,tt⟩:=H.tail
    have FA:bX A.in1.in1 L:=⟨fun V=>hA.1 (NH _),oL (Mj _ _) hA.2.1,oL (LS (by decide:2<=100) _) hA.2.2⟩
    refine Le (wpAny_attempt (wpAny_call (HL ss[j] t (MX hj) A.in1.in1 _ P G D O F I _ FA (Ml tt.keep hk) (hl.keeps tt.keep) Q1 fun r os p N2 T2 h3 hp hos Q2=>?_)))
    obtain ⟨⟨u,rfl⟩,rfl⟩:=hp
    have Q3:=tt.rep Q2
    rw [gY] at Q3
    have Q4:=Q3.subl (M':=d++([(l,aa vs e)]++[(z,Nq "list" #[] M),(Z,Nq "list" E c)])) (Qh (QB _ _) (Qt _))
    have Q5:=uA Q4 2 (f:=Nb (·.push (.int (Ll ss[j].length) u))) rfl rfl
    refine Le (PS (gA Q4 2 rfl) rfl ?_ (LL hz (HA y)) (LL (Op (P2 ..)) (MZ (LL hz (HA y)))))
    have ek:(ss.map fun s=>Ll s.length).take (j + 1)=(ss.map fun s=>Ll s.length).take j++[Ll ss[j].length]:=by
     rw [List.take_add_one,MO,Lo hj];rfl
    refine Lx ⟨rfl,(m7 _ _ _ _ _ ⟨rfl,Q5, ?_⟩)⟩
    rw [ek,Array.toList_push]
    exact ksk_snoc k
   case done=>
    intro s' q0;refine jA (fun P F I E c Q=>?_) q0;refine qd (fun K H k=>?_) Q;subst K
    have hk2:Ps E.toList (ss.map fun s=>Ll s.length):=by
     rw [List.take_of_length_le (by rw [Ln,M4,C];exact Lf _)] at k
     exact k
    refine Le (listItems_at (gA H 2 rfl) rfl ?_)
    rw [<- Lr] at H
    refine Av hs hn hk2 y S H fun h5 out c5 hout R6=>⟨_,rfl, ?_⟩
    refine Lx ?_
    refine fin _ (d.map (·.2)++[aa vs e]) [(z,aa out c5)] F I h5 (gB z out ⟨fun V=>0,fun V=>0,fun V=>0,c5⟩ ⟨rfl,rfl,rfl,hout⟩) (by simp) ?_
    have ez:((d++[(l,aa vs e)]).map (·.1)).zip (d.map (·.2)++[aa vs e])=d++[(l,aa vs e)]:=by
     have K:d.map (·.2)++[aa vs e]=(d++[(l,aa vs e)]).map (·.2):=by rw [LC];rfl
     rw [K]
     exact gY _
    rw [ez]
    exact R6
def dR:Lg:=ed (ax (ai cY) 7)
def Aw(e:Lg):Lg:=ex e 2
def KS(e:Lg):Lg:=ex e 2
def Ax:Lg:=KS (Aw dR)
def wK(a:Nat):Obj:={ cls:=.type "function",data:=.func { name:=⟨⟨sn⟩⟩,qualname:=⟨⟨za⟩⟩,params:=yr Ax,body:=.expr (yt Ax),scope:=sO Ax,globals:=3,closure:=[],defaults:=.none,kwdefaults:=.none,doc:=.none,pyModule:=.str ⟨⟨oR⟩⟩ 769,annotations:=Lk,code:=.ref a,closureTuple:=.none,builtins:=0 } }
noncomputable abbrev pH(a:Lc)(b:Str)(d:Nat)(c:LV):Obj:={ cls:=.type "code",data:=.fields ⟨a :: .str b d::c⟩ }
noncomputable def lr(x:Nat):Obj:={ cls:=.none,data:=.fields #[.int 371 0,.int 78 0,.ref x] }
theorem t8(w:Lj)(a b:Bool)(q d:Nat)(f:Lc)(g:Str)(i:Nat)(h:LV)(s:LN)(t:Nat)(hs:s.length < 60000) :
  CT w a b 2 (.call (.ref q) ⟨[sv s t],[]⟩) [(q,wK d),(d,pH f g i h)] (fun j os c=>(∃u:Nat,j=.ok (.ret (.int (Ll s.length) u)))/\os=[wK d,pH f g i h]/\c=[]):=by
 apply fE b 0x800300000030608081;intro V N T V k n e st
 apply bA b 0;intro o;apply tT w a b s t hs;k_all;intro u l m st
 apply fT b [0,1];apply e;intro o τ;refine ⟨⟨τ, ?_⟩, ?_, ?_⟩;apply rfl;apply rfl;apply rfl;rfl;k_mem
section
variable{prog:LU}{w:Lj}{kt:KT}{fr:List Env}{L:Nat}{e:Lg}{d it:Nat}
include prog w kt fr L e d it
theorem ls{x left:Int}{a:Lc}{env:Env}{b:Mem}{c:Lm->Mem->Prop}(k:Nat)(g:OD)(hf:b[k]? = Ld (it,dg x left))(j:(My e d (.ref it) a env).isFrame=Li)(l:(My e d (.ref it) a env).weight=0)(u:(My e d (.ref it) a env).cUnits=0)(q:(Nr e)[d]? = Ld g)(r:(g.is_async != 0)=Li)(C:aO prog w kt fr L (.compLoop e d (.ref it) a env) b c):aO prog w kt fr L (.compStart e d (.ref it) a env) b c:=by
 intro A o h G D O N T R p f s t n i
 have m:=C A o h G D O N T R p f s t n i
 refine dM j l u q r m (wpAny_pyIter_rangeiter (x:=x) (left:=left) (step:=1) ?_ m)
 exact n.get hf
theorem gj{ac CL:Nat}{env:Env}(k:Bool->Lc->ab->Obj)(s:Nat->Obj)(z:Nat->Mem->Prop)(lows:Mem)(n:Nat)(t:Nat->Lc->Prop)(g:LV)(hz:g.length + n < 1000)(S:∀(i:Nat),i < n->∀(c:Bool)(v:Lc)(J:ab)(o:LV)(p:Nat),o.length < 1000->∀(a:Mem),z i a->∀(u:Lm->Mem->Prop)
   (V:∀(v:Lc)(J:ab)(x:Lc),t i x->∀(p:Nat)(a:Mem),z (i + 1) a->aO prog w kt fr L (.compLoop e d (.ref it) (.ref ac) env) (([(CL,k Lh v J),(it,s (i + 1)),(ac,aa (o++[x]) p)]++a)++lows) u),
   aO prog w kt fr L (.compLoop e d (.ref it) (.ref ac) env) (([(CL,k c v J),(it,s i),(ac,aa o p)]++a)++lows) u)(E:∀(c:Bool)(v:Lc)(J:ab)(o:LV)(p:Nat)(a:Mem),z n a->aO prog w kt fr L (.compLoop e d (.ref it) (.ref ac) env) (([(CL,k c v J),(it,s n),(ac,aa o p)]++a)++lows)
   (fun C A=>C=.ok .next/\A=([(CL,k c v J),(ac,aa o p)]++a)++lows))(D:Bool)(Q:Lc)(O:ab)(F:Nat)(l:Mem)(N:z 0 l) :
  aO prog w kt fr L (.compLoop e d (.ref it) (.ref ac) env) (([(CL,k D Q O),(it,s 0),(ac,aa g F)]++l)++lows)
   (fun C A=>∃(c:Bool)(v:Lc)(J:ab)(b:LV)(r:Nat)(f:Mem),C=.ok .next/\A=([(CL,k c v J),(ac,aa (g++b) r)]++f)++lows/\c=(D || n != 0)/\z n f/\b.length=n/\∀i x,b[i]? = Ld x->t i x):=by
 suffices H:∀(m i:Nat)(V:i + m=n)(c:Bool)(V:c=(D || i != 0))(v:Lc)(J:ab)(b:LV)(p:Nat)(V:b.length=i)(V:∀j x,b[j]? = Ld x->t j x)(a:Mem)(V:z i a),
   aO prog w kt fr L (.compLoop e d (.ref it) (.ref ac) env) (([(CL,k c v J),(it,s i),(ac,aa (g++b) p)]++a)++lows)
    (fun C A=>∃(c:Bool)(v:Lc)(J:ab)(b:LV)(r:Nat)(f:Mem),C=.ok .next/\A=([(CL,k c v J),(ac,aa (g++b) r)]++f)++lows/\c=(D || n != 0)/\z n f/\b.length=n/\∀i x,b[i]? = Ld x->t i x) by
  have:=H n 0 (M4 n) D (by simp) Q O [] F rfl (fun V V h=>by simp at h) l N
  rwa [Mp] at this
 intro m
 induction m with
 | zero=>
  intro i hm c P v J b p G K a I
  have U:i=n:=hm
  subst U
  refine aO.weak (E c v J _ p a I) (Lf _) fun C A q=>?_
  obtain ⟨rfl,rfl⟩:=q
  exact ⟨_,.refl _,(ox c v J b p a ⟨rfl,rfl,P,I,G,K⟩)⟩
 | succ m X=>
  intro i hm c P v J b p G K a I
  refine S i (hm ▸ Nat.lt_add_of_pos_right (NH m)) c v J (g++b) p (by rw [Lq,G];exact LJ (LS (hm ▸ Mj i _) _) hz) a I _ fun Y R x W r f M=>?_
  rw [Lr g b [x]]
  refine X (i + 1) ((Ng i 1 m).trans hm) Lh (by simp) Y R (b++[x]) r (by simp [G]) (fun j y B=>?_) f M
  rcases NQ j b.length with h|h|h
  .rw [NW h] at B
   exact K j y B
  .subst h
   rw [Mf (Lf _),QN] at B
   cases B
   rw [G]
   exact W
  .rw [MV (by rw [Lq];exact h)] at B
   cases B
end
abbrev qB(a:Lc)(c:Bool)(v:Lc)(J:ab):Obj:=av ((jB,a)::(match c with|true=>[(bK,v)]|false=>[])) J
abbrev fw (x0 x1 x2 x3 x4):=ig x0 x1 x2 [(⟨⟨x3⟩⟩,x4)]
section
variable(w:Lj)(a b:Bool)(fr:List Env)(F cs:Nat)(v0:Lc)(d e2:Nat)(vs:LV)(CL it ac:Nat)
include w a b fr F cs v0 d e2 vs CL it ac
theorem t9(i:Nat)(s:LN)(t:Nat)(l:vs[i]? = Ld (sv s t))(c:Bool)(v:Lc)(J:ab)(f:LV)(h:Nat)(hz:f.length < 1000)(lows:Mem)(g:Lm->Mem->Prop)(IH:∀(v:Lc)(J:ab)(h:Nat),ak w a b fr 8 (.compLoop dR 1 (.ref it) (.ref ac) (fw dR CL F dT cs)) (f0 (CL,qB v0 Lh v J) it d (i + 1) ac (f++[sv s t]) h vs e2 lows) g) :
  ak w a b fr 8 (.compLoop dR 1 (.ref it) (.ref ac) (fw dR CL F dT cs)) (f0 (CL,qB v0 c v J) it d i ac f h vs e2 lows) g:=by
 apply eY b c 0x6041020400100;intro V N T m u j st
 apply bo b c 0x4041030004081;intro o;apply aG w a b it d i vs e2 (sv s t) l;k_all;intro n q st
 apply cP b c 3;intro o;apply aB w a b ac f (sv s t) h (by kd_p);k_all;intro k p r st
 apply gT b c [0,1,2,3];apply j;intro o;apply IH (sv s t) (ae (o 0)) k.e;k_mem
theorem ua(i:Nat)(h:vs.length<=i)(c:Bool)(v:Lc)(J:ab)(e:LV)(g:Nat)(lows:Mem) :
  ak w a b fr 8 (.compLoop dR 1 (.ref it) (.ref ac) (fw dR CL F dT cs)) (f0 (CL,qB v0 c v J) it d i ac e g vs e2 lows) (d6 .next ([(CL,qB v0 c v J),(ac,aa e g)]++[(d,aa vs e2)]) lows):=by
 apply eY b c 0x6041020400100;intro V N T j m f st
 apply nA b c 5;intro o;apply aP w a b it d i vs e2 h;k_all;intro x n k l st
 apply lh b c [0,2,3];apply f;intro o τ;refine ⟨?_, ?_⟩;apply rfl;apply rfl;k_mem
theorem ub(ss:LLN)(hs:af ss vs)(r:vs≠[])(c:Bool)(v:Lc)(J:ab)(e:LV)(hz:e.length + vs.length < 1000)(g:Nat)(lows:Mem) :
  ak w a b fr 8 (.compStart dR 1 (.ref it) (.ref ac) (fw dR CL F dT cs)) (f0 (CL,qB v0 c v J) it d 0 ac e g vs e2 lows) (fun A y=>∃(v:Lc)(J:ab)(g:Nat),A=.ok .next/\y=[(CL,qB v0 Lh v J),(ac,aa (e++vs) g),(d,aa vs e2)]++lows):=by
 refine bD (l:=d) (i:=0) 1 ((Nr dR)[1]!) rfl (by kernel_rfl) (by kernel_rfl) (by kernel_rfl) (by kernel_rfl) (by kernel_rfl) ?_
 refine aO.weak (gj (qB v0) (al d) (fun V f=>f=[(d,aa vs e2)]) lows vs.length (fun i x=>vs[i]? = Ld x) e hz (fun i z c v J e g hz f u n IH=>?_) (fun c v J e g f u=>?_) c v J g _ rfl) (Lf _) fun A y q=>?_
 .subst u
  obtain ⟨s,t,_,D⟩:=hs.at (Lo z)
  have m:vs[i]? = Ld (sv s t):=by rw [Lo z,D]
  exact t9 w a b fr F cs v0 d e2 vs CL it ac i s t m c v J e g hz lows n fun v J g=>IH v J _ m g _ rfl
 .subst u
  exact ua w a b fr F cs v0 d e2 vs CL it ac _ (Lf _) c v J e g lows
 .obtain ⟨c',v,J,j,o,f,rfl,rfl,B,rfl,E,C⟩:=q
  have k:j=vs:=PJ fun i=>by
   rcases PO i j.length with h|h
   .rw [Lo h]
    exact (C i _ (Lo h)).symm
   .rw [MV h,MV (by kd_p)]
  subst k
  have p:c'=Lh:=by
   rw [B]
   have : j.length≠0:=fun h=>r (Mw.mp h)
   simp [this]
  subst p
  exact ⟨_,.refl _,v,J,o,rfl,rfl⟩
end
theorem c4(ss:LLN):(aT ss).length=ss.length:=by
 have b:∀x a,(f9 x a).length=a.length + 1:=fun x a=>(eW x a).length_eq
 have c:∀(r a:LLN),(r.foldl (fun a x=>f9 x a) a).length=a.length + r.length:=by
  intro r
  induction r with
  | nil=>intro a;rfl
  | cons x r d=>intro a;rw [Oz,d,b,Ls];kd_p
 rw [aT,c];simp
structure uQ(out:LLN):Prop where
 nd:out.Nodup
 n64:out.length < 64
 pos:out≠[]
 min:∀i (hi:i < out.length) (h0:0 < i),(out[0]'(MC h0 hi)).length < out[i].length
 size:∀s∈out,s.length < 60000
abbrev Gq (x0 x1):=[(sv cO (x0 + 2)),(L6 371 0),(L6 1 0),(L6 0 0),(L6 0 0),(L6 19 0),(Lv x1),(Ov Lh),(L6 276 0),(Lv (x1 + 1)),L3,(Lv (x1 + 2)),(Lv (x1 + 3)),(Lv (x1 + 4)),(L6 (Ll (x0 + 4)) 0),(L6 371 0),(sv cO (x0 + 5))]
section
variable(w:Lj)(a b:Bool)(fr:List Env)(F c g f j cs:Nat)(d stv:LV)(CL it ac:Nat)
include w a b fr F c g f j cs d stv CL it ac
theorem uc(p B:Nat)(hx:d[0]? = Ld (sv [p] B))(n:Nat)(A:List (Nat × Nat))(X:CW w a b n A f stv j)(hnL:2 * n + 6<=18)(out:LLN)(O:bU A n [p]=Ld out)(u:uQ out)(J:ab)(m:Nat)(lows:Mem)(i:Lm->Mem->Prop)(IH:∀(Q v:Lc)(J:ab)(m x:Nat)(D:Lc)(E:Str)(H:Nat)(G:LV)(U:LV),af (aT out) U->ak w a b fr 20 (.compLoop dR 0 (.ref it) (.ref ac) (fw dR CL F dT cs)) (([(CL,qB Q Lh v J),(it,al c (0 + 1)),(ac,aa (U) m),(304,lr x),(x,pH D E H G)]++(eg c d g f stv j cs f))++lows) i) :
  ak w a b fr 20 (.compLoop dR 0 (.ref it) (.ref ac) (fw dR CL F dT cs)) (([(CL,av [] J),(it,al c 0),(ac,aa [] m),(304,au)]++(eg c d g f stv j cs f))++lows) i:=by
 have W1:=fun t=>(X [p] t out O).weak hnL (fun V V V h=>h)
 have SK:=fun(q I:Nat)(D:Lc)(E:Str)(H:Nat)(G:LV)(l e:Nat)(vs:LV)(hs:af out vs)=>lQ w a b 2 l q vs e hs u.nd u.n64 u.min [(q,wK I),(I,pH D E H G)] fun s t hm=>(t8 w a b q I D E H G s t (u.size s hm)).weak (Lf _) fun r os S h=>⟨h.1,h.2.1⟩
 have W:=fun(fr:List Env)(Q:Lc)(R2 e2:Nat)(vs:LV)(hs:af (aT out) vs)(P:Nat)(J:ab)(m:Nat)(lows:Mem)=>ub w a b fr F cs Q R2 e2 vs CL P ac (aT out) hs (fun hh=>u.pos (Mw.mp (by rw [<- c4,<- hs.length,hh];rfl))) Li .none J [] (by have h1:=hs.length;have h2:=c4 out;have h3:=u.n64;(try simp only [LQ]);kd_p) m lows
 apply cW b 0x8041020400100;intro V N T B0 Y0 L st
 apply aE b 0x14082001c0800000081;intro o;apply aG w a b it c 0 d g (sv [p] B) hx;k_all;intro N1 T1 st
 apply jZ b 0x38d1c0c10000000040810200;intro o;apply W1 B;k_all;intro R Y vs y k hq st
 apply jZ b 0x1e0880008088802000810;intro o;apply SK (y + 6) (y + 5) (sv sn k) (O0 (MT za)) (k + 1) (Gq k y) R Y.e vs hq;k_all;intro R1 C Z N3 T3 z st
 apply j0 b;intro o;apply W fr (sv [p] B) R1 Z.e C z N3 (ae (o 0)) m lows;k_mem;intro V V N4 T4 M;refine ma (fun v J3 K M=>?_) M;apply iq M;refine ⟨_,_,.refl _,fun Y0=>?_⟩;apply dC b 3;intro st
 apply lB b [0,3,1,4,14,5,6,7];apply L;intro o;apply IH (sv [p] B) v J3 K (y + 5) (sv sn k) (O0 (MT za)) (k + 1) (Gq k y) C z;k_mem
theorem kz(i x:Nat)(m:Lc)(u:Str)(z:Nat)(y:LV)(H v:Lc)(k:LV)(hz:k.length < 900)(p G:Nat)(hx:d[i]? = Ld (sv [p] G))(n:Nat)(E:List (Nat × Nat))(X:CW w a b n E f stv j)(hnL:2 * n + 6<=18)(out:LLN)(P:bU E n [p]=Ld out)(C:uQ out)(J:ab)(B:Nat)(lows:Mem)(A:Lm->Mem->Prop)(IH:∀(H v:Lc)(J:ab)(B x:Nat)(m:Lc)(u:Str)(z:Nat)(y:LV)(U:LV),af (aT out) U->ak w a b fr 20 (.compLoop dR 0 (.ref it) (.ref ac) (fw dR CL F dT cs)) (([(CL,qB H Lh v J),(it,al c (i + 1)),(ac,aa (k++U) B),(304,lr x),(x,pH m u z y)]++(eg c d g f stv j cs f))++lows) A) :
  ak w a b fr 20 (.compLoop dR 0 (.ref it) (.ref ac) (fw dR CL F dT cs)) (([(CL,qB H Lh v J),(it,al c i),(ac,aa k B),(304,lr x),(x,pH m u z y)]++(eg c d g f stv j cs f))++lows) A:=by
 have W1:=fun t=>(X [p] t out P).weak hnL (fun V V V h=>h)
 have SK:=fun(q K:Nat)(m:Lc)(u:Str)(z:Nat)(y:LV)(l e:Nat)(vs:LV)(hs:af out vs)=>lQ w a b 2 l q vs e hs C.nd C.n64 C.min [(q,wK K),(K,pH m u z y)] fun s t hm=>(t8 w a b q K m u z y s t (C.size s hm)).weak (Lf _) fun r os S h=>⟨h.1,h.2.1⟩
 have W:=fun(fr:List Env)(H:Lc)(R2 e2:Nat)(vs:LV)(hs:af (aT out) vs)(Q:Nat)(v:Lc)(J:ab)(B:Nat)(lows:Mem)=>ub w a b fr F cs H R2 e2 vs CL Q ac (aT out) hs (fun hh=>C.pos (Mw.mp (by rw [<- c4,<- hs.length,hh];rfl))) Lh v J k (by have h1:=hs.length;have h2:=c4 out;have h3:=C.n64;(try simp only [LQ]);kd_p) B lows
 apply cW b 0xa041020400100;intro V N T B0 Y0 M st
 apply aE b 0x1808200200800000081;intro o;apply aG w a b it c i d g (sv [p] G) hx;k_all;intro N1 T1 st
 apply jZ b 0x2020906080000000200;intro o;apply W1 G;k_all;intro R Y vs N2 T2 hq st
 apply jZ b 0x14085800808600160058b;intro o;apply SK N2 x m u z y R Y.e vs hq;k_all;intro R1 I Z N3 T3 D st
 apply j0 b;intro o;apply W fr (sv [p] G) R1 Z.e I D N3 v (ae (o 0)) B lows;k_mem;intro V V N4 T4 O;refine ma (fun v1 J3 L O=>?_) O;apply iq O;refine ⟨_,_,.refl _,fun Y0=>?_⟩;apply dC b 3;intro st
 apply lB b [0,3,1,4,5,6,7,8];apply M;intro o;apply IH (sv [p] G) v1 J3 L x m u z y I D;k_mem
theorem wL(i:Nat)(l:d.length<=i)(k v:Lc)(J:ab)(e:LV)(h:Nat)(lows:Mem) :
  ak w a b fr 20 (.compLoop dR 0 (.ref it) (.ref ac) (fw dR CL F dT cs)) (f0 (CL,qB k Lh v J) it c i ac e h d g lows) (d6 .next ([(CL,qB k Lh v J),(ac,aa e h)]++[(c,aa d g)]) lows):=by
 apply cW b 0x6041020400100;intro V N T m q f st
 apply gF b 5;intro o;apply aP w a b it c i d g l;k_all;intro x r n p st
 apply b4 b [0,2,3];apply f;intro o τ;refine ⟨?_, ?_⟩;apply rfl;apply rfl;k_mem
end
section
variable(w:Lj)(a b:Bool)(x:LN)
include w a b x
theorem eX(y:LN)(t u:Nat)(v:Bool)(h:(x == y)=v) :
  CT w a b 0 (b9 "str.__eq__" [sv x t,sv y u]) [] (go (.ret (.bool v)) []):=
 (fX w a b x y t u).weak (Lf _) fun r os c d=>by
  obtain ⟨e,rfl,rfl,rfl,rfl⟩:=d
  rw [h]
  exact ⟨rfl,rfl,rfl⟩
theorem aI(t u:Nat) :
  CT w a b 0 (b9 "str.__eq__" [sv x t,sv x u]) [] (go (.ret (.bool Lh)) []):=
 eX w a b x x t u Lh (by simp)
theorem gk(c t u:Nat)(v:Bool)(h:x.contains c=v) :
  CT w a b 0 (b9 "str.__contains__" [sv x t,sv [c] u]) [] (go (.ret (.bool v)) []):=
 (g8 w a b x c t u).weak (Lf _) fun r os d e=>by
  obtain ⟨f,rfl,rfl,rfl,rfl⟩:=e
  rw [h]
  exact ⟨rfl,rfl,rfl⟩
end
def lu:Lg:=ed (ax (ai cY) 9)
noncomputable def cN(s:LN):LLN:=match s.getLast? with
 | some l=>if s.dropLast.contains l=Lh then [s] else []
 | none=>[]
section
variable(w:Lj)(a b:Bool)(fr:List Env)(F g f:Nat)(d:LV)(CL it ac:Nat)
include w a b fr F g f d CL it ac
theorem wN(i:Nat)(j:LN)(l t:Nat)(r:j.length < 60000)(h:j.contains l=Lh)(z:d[i]? = Ld (sv (j++[l]) t))(c:Bool)(v:Lc)(J:ab)(m:LV)(p:Nat)(hz:m.length < 1000)(lows:Mem)(n:Lm->Mem->Prop)(IH:∀(v:Lc)(J:ab)(p:Nat),ak w a b fr 7 (.compLoop lu 0 (.ref it) (.ref ac) (ig lu CL F [])) (f0 (CL,bR Lh bK v J) it g (i + 1) ac (m++[sv (j++[l]) t]) p d f lows) n) :
  ak w a b fr 7 (.compLoop lu 0 (.ref it) (.ref ac) (ig lu CL F [])) (f0 (CL,bR c bK v J) it g i ac m p d f lows) n:=by
 apply eY b c 0x6041020400100;intro V N T B L q st
 apply bo b c 8796093038721;intro o;apply aG w a b it g i d f (sv (j++[l]) t) z;k_all;intro C x st
 apply eE b c 17627082653697;intro o;apply bh w a b j l t (x + 2);k_all;intro k u y st
 apply eE b c 256;intro o;apply cZ w a b j l t u (y + 1) r;k_all;intro A D H st
 apply bo b c 68992155649;intro o;apply gk w a b j l A k Lh h;k_all;intro E I st
 apply cP b c 3;intro o;apply aB w a b ac m (sv (j++[l]) t) p (by kd_p);k_all;intro s G K st
 apply gT b c [0,1,2,3];apply q;intro o;apply IH (sv (j++[l]) t) (ae (o 0)) s.e;k_mem
theorem wO(i:Nat)(j:LN)(l t:Nat)(q:j.length < 60000)(h:j.contains l=Li)(x:d[i]? = Ld (sv (j++[l]) t))(c:Bool)(v:Lc)(J:ab)(m:LV)(n:Nat)(hz:m.length < 1000)(lows:Mem)(e:Lm->Mem->Prop)(IH:∀(v:Lc)(J:ab)(n:Nat),ak w a b fr 7 (.compLoop lu 0 (.ref it) (.ref ac) (ig lu CL F [])) (f0 (CL,bR Lh bK v J) it g (i + 1) ac m n d f lows) e) :
  ak w a b fr 7 (.compLoop lu 0 (.ref it) (.ref ac) (ig lu CL F [])) (f0 (CL,bR c bK v J) it g i ac m n d f lows) e:=by
 apply eY b c 0x6041020400100;intro V N T z G p st
 apply bo b c 8796093038721;intro o;apply aG w a b it g i d f (sv (j++[l]) t) x;k_all;intro A s st
 apply eE b c 17627082653697;intro o;apply bh w a b j l t (s + 2);k_all;intro k r u st
 apply eE b c 256;intro o;apply cZ w a b j l t r (u + 1) q;k_all;intro y B D st
 apply bo b c 3;intro o;apply gk w a b j l y k Li h;k_all;intro C E st
 apply gT b c [0,1,2,3];apply p;intro o;apply IH (sv (j++[l]) t) (ae (o 0)) n;k_mem
theorem Gr(ss:LLN)(u:af ss d)(r:d≠[])(hz:d.length < 900)(hne:∀s∈ss,s≠[])(hsz:∀s∈ss,s.length < 60000)(J:ab)(e:Nat)(lows:Mem) :
  ak w a b fr 7 (.compStart lu 0 (.ref it) (.ref ac) (ig lu CL F [])) (f0 (CL,av [] J) it g 0 ac [] e d f lows)
   (tU CL ac [(g,aa d f)] lows (ss.flatMap cN)):=by
 refine eT w a b bK cN (by kernel_rfl) u r hz (fun i s t hs x c v J k e hz j o p=>?_) J e
 obtain ⟨l,q⟩:=hY (hne s hs)
 obtain ⟨n,rfl⟩:=Nk.mp q
 have m:n.length < 60000:=by have:=hsz _ hs;simp only [Lq,Pe] at this;kd_p
 cases h:n.contains l with
 | true=>exact wN w a b fr F g f d CL it ac i n l t m h x c v J k e hz lows j fun v J e=>p (sv (n++[l]) t) (by simp only [cN,Q7,QE,RB,Oy,h,if_true];exact .one _ _) v J e
 | false=>exact wO w a b fr F g f d CL it ac i n l t m h x c v J k e hz lows j fun v J e=>o (by simp only [cN,Q7,QE,RB,Oy,h];exact .nil) v J e
end
structure eZ where
 F:Nat
 cy:Nat
 cc:Nat
 cx:Nat
 cw:Nat
 cs:Nat
 cr:Nat
 cn:Nat
def bu(X:eZ):Env:=⟨bY cY,X.F,3,[(⟨⟨qg⟩⟩,X.cy),(⟨⟨jM⟩⟩,X.cc),(⟨⟨oU⟩⟩,X.cx),(⟨⟨CE⟩⟩,X.cw),(⟨⟨dT⟩⟩,X.cs),(⟨⟨fD⟩⟩,X.cr),(⟨⟨uV⟩⟩,X.cn)],IU,Ld 307,.ref 306,Ld X.F,0⟩
def jj(X:eZ):Mk:=.func (ai cY) (bu X)
def dz(e:Lg)(CL:Nat)(X:eZ)(a:List (Str × Nat)):Env:=⟨vE (ki e),CL,3,a,IU,Lk,.ref 306,Ld X.F,0⟩
noncomputable abbrev rR(sc:Nat)(X:eZ):List (Str × Nat):=[(⟨⟨jB⟩⟩,sc),(⟨⟨qg⟩⟩,X.cy)]
def Km(s:L4):Lg:=sx s 0
noncomputable def KU:L4:=ax bd 29
def KV(i:Nat):Lg:=Km (ax (ai (ax (ai KU) i)) 1)
noncomputable def KW:Str:=⟨⟨CN⟩⟩
def IV(e:Lg)(CL F:Nat)(a:List (Str × Nat)):Env:=⟨vE (ki e),CL,3,a,KW,Lk,.ref 301,Ld F,0⟩
noncomputable def ud(g:Nat)(s:LN):LLN:=if s.contains g=Lh then [s] else []
noncomputable def kB(g:Nat)(s:LN):LLN:=match s.getLast? with
 | some l=>if ([l] == [g])=Lh then [s] else []
 | none=>[]
noncomputable def kD(g:Nat)(s:LN):LLN:=match s.head? with
 | some l=>if ([l] == [g])=Lh then [s] else []
 | none=>[]
def jk(e:Lg):Lg:=ex e 1
def KY(e:Lg)(i:Nat):Lg:=ex e i
def aZ:Lg:=ed (ax (ai cY) 13)
def KZ(i:Nat):Lg:=KY (jk aZ) i
def qE(d:Bool)(i:Nat):Lg:=match d with|false=>KV i|true=>KZ (2 - i)
def K0(d:Bool)(e:Lg)(CL F:Nat)(a:List (Str × Nat)):Env:=match d with|false=>IV e CL F a|true=>ig e CL F a
abbrev gO (x0 x1 x2 x3 x4):=K0 x0 (qE x0 x1) x2 x3 [(⟨⟨jB⟩⟩,x4)]
section
variable(w:Lj)(a b:Bool)(fr:List Env)(d:Bool)(F p n f:Nat)(g:LV)(j m CL it ac:Nat)
include w a b fr d F p n f g j m CL it ac
theorem wP(i:Nat)(s:LN)(t:Nat)(h:s.contains j=Lh)(y:g[i]? = Ld (sv s t))(c:Bool)(v:Lc)(J:ab)(k:LV)(r:Nat)(hz:k.length < 1000)(lows:Mem)(l:Lm->Mem->Prop)(IH:∀(v:Lc)(J:ab)(r:Nat),ak w a b fr 7 (.compLoop (qE d 0) 0 (.ref it) (.ref ac) (gO d 0 CL F f)) (jF (CL,bR Lh bK v J) it p (i + 1) ac (k++[sv s t]) r g n f j m lows) l) :
  ak w a b fr 7 (.compLoop (qE d 0) 0 (.ref it) (.ref ac) (gO d 0 CL F f)) (jF (CL,bR c bK v J) it p i ac k r g n f j m lows) l:=by
 apply lD b d c 0x6041020400100;intro V N T z H u st
 apply jD b d c;intro o;apply aG w a b it p i g n (sv s t) y;k_mem;intro V V V A D q V;apply dX q;apply eF b d c 68721655937;intro st
 apply jD b d c;intro o;apply gk w a b s j t m Lh h;k_mem;intro V V V B E q V;apply dX q;apply eF b d c 68992155649;intro st
 apply jD b d c;intro o;apply aB w a b ac k (sv s t) r (by kd_p);k_mem;intro V V V C G q V;refine bj (fun x q=>?_) q;apply dX q;apply eF b d c 3;intro st
 apply o8 b d c [0,1,2,3,4];apply u;intro o;apply IH (sv s t) (ae (o 0)) x.e;k_mem
theorem wQ(i:Nat)(s:LN)(t:Nat)(h:s.contains j=Li)(u:g[i]? = Ld (sv s t))(c:Bool)(v:Lc)(J:ab)(k:LV)(l:Nat)(hz:k.length < 1000)(lows:Mem)(e:Lm->Mem->Prop)(IH:∀(v:Lc)(J:ab)(l:Nat),ak w a b fr 7 (.compLoop (qE d 0) 0 (.ref it) (.ref ac) (gO d 0 CL F f)) (jF (CL,bR Lh bK v J) it p (i + 1) ac k l g n f j m lows) e) :
  ak w a b fr 7 (.compLoop (qE d 0) 0 (.ref it) (.ref ac) (gO d 0 CL F f)) (jF (CL,bR c bK v J) it p i ac k l g n f j m lows) e:=by
 apply lD b d c 0x6041020400100;intro V N T x C q st
 apply jD b d c;intro o;apply aG w a b it p i g n (sv s t) u;k_mem;intro V V V y A r V;apply dX r;apply eF b d c 68721655937;intro st
 apply jD b d c;intro o;apply gk w a b s j t m Li h;k_mem;intro V V V z B r V;apply dX r;apply eF b d c 3;intro st
 apply o8 b d c [0,1,2,3,4];apply q;intro o;apply IH (sv s t) (ae (o 0)) l;k_mem
theorem yQ(ss:LLN)(u:af ss g)(r:g≠[])(hz:g.length < 900)(J:ab)(e:Nat)(lows:Mem) :
  ak w a b fr 7 (.compStart (qE d 0) 0 (.ref it) (.ref ac) (gO d 0 CL F f)) (jF (CL,av [] J) it p 0 ac [] e g n f j m lows)
   (tU CL ac (pB p g n f j m) lows (ss.flatMap (ud j))):=by
 refine eT w a b bK (ud j) (by cases d<;>kernel_rfl) u r hz (fun i s t hs x c v J l e hz k o q=>?_) J e
 cases h:s.contains j with
 | true=>exact wP w a b fr d F p n f g j m CL it ac i s t h x c v J l e hz lows k fun v J e=>q (sv s t) (by simp only [ud,h,if_true];exact .one _ _) v J e
 | false=>exact wQ w a b fr d F p n f g j m CL it ac i s t h x c v J l e hz lows k fun v J e=>o (by simp only [ud,h];exact .nil) v J e
theorem wR(i:Nat)(s:LN)(l t:Nat)(z:s.getLast? = Ld l)(h:([l] == [j])=Lh)(C:g[i]? = Ld (sv s t))(c:Bool)(v:Lc)(J:ab)(q:LV)(x:Nat)(hz:q.length < 1000)(lows:Mem)(r:Lm->Mem->Prop)(IH:∀(v:Lc)(J:ab)(x:Nat),ak w a b fr 7 (.compLoop (qE d 1) 0 (.ref it) (.ref ac) (gO d 1 CL F f)) (jF (CL,bR Lh bK v J) it p (i + 1) ac (q++[sv s t]) x g n f j m lows) r) :
  ak w a b fr 7 (.compLoop (qE d 1) 0 (.ref it) (.ref ac) (gO d 1 CL F f)) (jF (CL,bR c bK v J) it p i ac q x g n f j m lows) r:=by
 apply lD b d c 0x6041020400100;intro V N T D O y st
 apply jD b d c;intro o;apply aG w a b it p i g n (sv s t) C;k_mem;intro V V V E B u V;apply dX u;apply eF b d c 8796093038721;intro st
 apply j3 b d c 32773;intro o;apply cL w a b s l t (B + 2) z;k_all;intro k G K st
 apply jD b d c;intro o;apply eX w a b [l] [j] k m Lh h;k_mem;intro V V V H L u V;apply dX u;apply eF b d c 68992155649;intro st
 apply jD b d c;intro o;apply aB w a b ac q (sv s t) x (by kd_p);k_mem;intro V V V I M u V;refine bj (fun A u=>?_) u;apply dX u;apply eF b d c 3;intro st
 apply o8 b d c [0,1,2,3,4];apply y;intro o;apply IH (sv s t) (ae (o 0)) A.e;k_mem
theorem wS(i:Nat)(s:LN)(l t:Nat)(y:s.getLast? = Ld l)(h:([l] == [j])=Li)(A:g[i]? = Ld (sv s t))(c:Bool)(v:Lc)(J:ab)(q:LV)(r:Nat)(hz:q.length < 1000)(lows:Mem)(e:Lm->Mem->Prop)(IH:∀(v:Lc)(J:ab)(r:Nat),ak w a b fr 7 (.compLoop (qE d 1) 0 (.ref it) (.ref ac) (gO d 1 CL F f)) (jF (CL,bR Lh bK v J) it p (i + 1) ac q r g n f j m lows) e) :
  ak w a b fr 7 (.compLoop (qE d 1) 0 (.ref it) (.ref ac) (gO d 1 CL F f)) (jF (CL,bR c bK v J) it p i ac q r g n f j m lows) e:=by
 apply lD b d c 0x6041020400100;intro V N T B I u st
 apply jD b d c;intro o;apply aG w a b it p i g n (sv s t) A;k_mem;intro V V V C z x V;apply dX x;apply eF b d c 8796093038721;intro st
 apply j3 b d c 32773;intro o;apply cL w a b s l t (z + 2) y;k_all;intro k D G st
 apply jD b d c;intro o;apply eX w a b [l] [j] k m Li h;k_mem;intro V V V E H x V;apply dX x;apply eF b d c 3;intro st
 apply o8 b d c [0,1,2,3,4];apply u;intro o;apply IH (sv s t) (ae (o 0)) r;k_mem
theorem yR(ss:LLN)(y:af ss g)(x:g≠[])(hz:g.length < 900)(hne:∀s∈ss,s≠[])(J:ab)(e:Nat)(lows:Mem) :
  ak w a b fr 7 (.compStart (qE d 1) 0 (.ref it) (.ref ac) (gO d 1 CL F f)) (jF (CL,av [] J) it p 0 ac [] e g n f j m lows)
   (tU CL ac (pB p g n f j m) lows (ss.flatMap (kB j))):=by
 refine eT w a b bK (kB j) (by cases d<;>kernel_rfl) y x hz (fun i s t hs z c v J o e hz k r u=>?_) J e
 obtain ⟨l,q⟩:=hY (hne s hs)
 cases h:([l] == [j]) with
 | true=>exact wR w a b fr d F p n f g j m CL it ac i s l t q h z c v J o e hz lows k fun v J e=>u (sv s t) (by simp only [kB,q,h,if_true];exact .one _ _) v J e
 | false=>exact wS w a b fr d F p n f g j m CL it ac i s l t q h z c v J o e hz lows k fun v J e=>r (by simp only [kB,q,h];exact .nil) v J e
theorem wU(i:Nat)(s:LN)(l t:Nat)(z:s.head? = Ld l)(h:([l] == [j])=Lh)(C:g[i]? = Ld (sv s t))(c:Bool)(v:Lc)(J:ab)(q:LV)(x:Nat)(hz:q.length < 1000)(lows:Mem)(r:Lm->Mem->Prop)(IH:∀(v:Lc)(J:ab)(x:Nat),ak w a b fr 7 (.compLoop (qE d 2) 0 (.ref it) (.ref ac) (gO d 2 CL F f)) (jF (CL,bR Lh bK v J) it p (i + 1) ac (q++[sv s t]) x g n f j m lows) r) :
  ak w a b fr 7 (.compLoop (qE d 2) 0 (.ref it) (.ref ac) (gO d 2 CL F f)) (jF (CL,bR c bK v J) it p i ac q x g n f j m lows) r:=by
 apply lD b d c 0x6041020400100;intro V N T D O y st
 apply jD b d c;intro o;apply aG w a b it p i g n (sv s t) C;k_mem;intro V V V E B u V;apply dX u;apply eF b d c 536887425;intro st
 apply j3 b d c 32773;intro o;apply d7 w a b s l t (B + 1) z;k_all;intro k G K st
 apply jD b d c;intro o;apply eX w a b [l] [j] k m Lh h;k_mem;intro V V V H L u V;apply dX u;apply eF b d c 68992155649;intro st
 apply jD b d c;intro o;apply aB w a b ac q (sv s t) x (by kd_p);k_mem;intro V V V I M u V;refine bj (fun A u=>?_) u;apply dX u;apply eF b d c 3;intro st
 apply o8 b d c [0,1,2,3,4];apply y;intro o;apply IH (sv s t) (ae (o 0)) A.e;k_mem
theorem wV(i:Nat)(s:LN)(l t:Nat)(y:s.head? = Ld l)(h:([l] == [j])=Li)(A:g[i]? = Ld (sv s t))(c:Bool)(v:Lc)(J:ab)(q:LV)(r:Nat)(hz:q.length < 1000)(lows:Mem)(e:Lm->Mem->Prop)(IH:∀(v:Lc)(J:ab)(r:Nat),ak w a b fr 7 (.compLoop (qE d 2) 0 (.ref it) (.ref ac) (gO d 2 CL F f)) (jF (CL,bR Lh bK v J) it p (i + 1) ac q r g n f j m lows) e) :
  ak w a b fr 7 (.compLoop (qE d 2) 0 (.ref it) (.ref ac) (gO d 2 CL F f)) (jF (CL,bR c bK v J) it p i ac q r g n f j m lows) e:=by
 apply lD b d c 0x6041020400100;intro V N T B I u st
 apply jD b d c;intro o;apply aG w a b it p i g n (sv s t) A;k_mem;intro V V V C z x V;apply dX x;apply eF b d c 536887425;intro st
 apply j3 b d c 32773;intro o;apply d7 w a b s l t (z + 1) y;k_all;intro k D G st
 apply jD b d c;intro o;apply eX w a b [l] [j] k m Li h;k_mem;intro V V V E H x V;apply dX x;apply eF b d c 3;intro st
 apply o8 b d c [0,1,2,3,4];apply u;intro o;apply IH (sv s t) (ae (o 0)) r;k_mem
theorem yS(ss:LLN)(y:af ss g)(x:g≠[])(hz:g.length < 900)(hne:∀s∈ss,s≠[])(J:ab)(e:Nat)(lows:Mem) :
  ak w a b fr 7 (.compStart (qE d 2) 0 (.ref it) (.ref ac) (gO d 2 CL F f)) (jF (CL,av [] J) it p 0 ac [] e g n f j m lows)
   (tU CL ac (pB p g n f j m) lows (ss.flatMap (kD j))):=by
 refine eT w a b bK (kD j) (by cases d<;>kernel_rfl) y x hz (fun i s t hs z c v J o e hz k r u=>?_) J e
 obtain ⟨l,q⟩:=qw (hne s hs)
 cases h:([l] == [j]) with
 | true=>exact wU w a b fr d F p n f g j m CL it ac i s l t q h z c v J o e hz lows k fun v J e=>u (sv s t) (by simp only [kD,q,h,if_true];exact .one _ _) v J e
 | false=>exact wV w a b fr d F p n f g j m CL it ac i s l t q h z c v J o e hz lows k fun v J e=>r (by simp only [kD,q,h];exact .nil) v J e
end
noncomputable def Ay(x:Nat):Obj:={ cls:=.none,data:=.fields #[.int 184 0,.int 39 0,.ref x] }
noncomputable def HB:E4->E7
 | .z0=>.z3 | .z1=>.z4 | .z2=>.z5 | .z3=>.z6
noncomputable def Gt:Fm->Int
 | .a=>2 | .b=>2 | .c=>3
def Az(c b a:Nat)(J:ab)(k:E7)(f:Fm)(i j:Int):Obj:=aJ (Gn (iJ k f) c b a (nK k f) i J++[([99],sv [91] (J.t 7)),([106],.int j (J.t 8))]) J
theorem Gu{is:LN}{st:Bool->E4->Fm->an}{v:Bool->E4->Fm->br}(h:(aK fun a=>iZ fun b=>f6 fun c=>aR is (st a b c))=aM fun a=>i4 fun b=>f7 fun c=>(v a b c,aj (st a b c))):∀(a:Bool)(b:E4)(c:Fm),aR is (st a b c)=(v a b c,aj (st a b c)):=fun a b c=>gx (j7 (aS h a) b) c
theorem IW{is:LN}{st:Bool->Fm->an}{v:Bool->Fm->br}(h:(aK fun a=>f6 fun b=>aR is (st a b))=aM fun a=>f7 fun b=>(v a b,aj (st a b))):∀(a:Bool)(b:Fm),aR is (st a b)=(v a b,aj (st a b)):=fun a b=>gx (aS h a) b
abbrev rz (x0 x1 x2 x3 x4 x5 x6 x7):=(fun b a=>∃J:ab,b=.ok .next/\a=[(x0,Az x1 x2 x3 J x4 x5 (pC x5 + 1) x6)]++x7:Lm->Mem->Prop)
section
variable(w:Lj)(a b:Bool)(fr:List Env)(F d g e:Nat)
include w a b fr F d g e
theorem AB(k:E4)(f:Fm)(J:ab)(lows:Mem) :
  ak w a b fr 4 (ag Ck (aH F)) ([(F,Az d g e J (HB k) f (pC f + 1) (pC f + 2))]++lows) (rz F d g e (HB k) f (pC f + 2) lows):=by
 apply lD b k f 4432406265984;intro V N T h i c st
 apply rQ b k f [0];apply c;intro o τ;refine ⟨J,⟨?_, ?_⟩⟩;apply rfl;apply rfl;k_mem
theorem ga(k:E4)(f:Fm)(J:ab)(lows:Mem) :
  ak w a b fr 4 (ag Ck (aH F)) ([(F,Az d g e J (HB k) f (pC f + 1) (pC f + 1))]++lows) (rz F d g e (HB k) f (pC f + 2) lows):=by
 have h:=fun(J:ab)(lows:Mem)=>AB w a b fr F d g e k f J lows
 apply lD b k f 0x30204000020000000040800004080;intro V N T i j c st
 apply o8 b k f [0];apply c;intro o;apply h (ae (o 0)) lows;k_mem
theorem pI(f:Fm)(J:ab)(lows:Mem) :
  ak w a b fr 4 (ag Ck (aH F)) ([(F,Az d g e J .z2 f (pC f + 1) (Gt f))]++lows) (rz F d g e .z2 f (Gt f) lows):=by
 apply eY b f 16512;intro V N T h i c st
 apply lh b f [0];apply c;intro o τ;refine ⟨J,⟨?_, ?_⟩⟩;apply rfl;apply rfl;k_mem
theorem wW(J:ab)(lows:Mem) :
  ak w a b fr 4 (ag Ck (aH F)) ([(F,Az d g e J .z2 .a (pC .a + 1) (pC .a + 1))]++lows) (rz F d g e .z2 .a (Gt .a) lows):=by
 have f:=fun(J:ab)(lows:Mem)=>pI w a b fr F d g e .a J lows
 apply cW b 0x30204000020000000040800004080;intro V N T h i c st
 apply lB b [0];apply c;intro o;apply f (ae (o 0)) lows;k_mem
theorem wX(J:ab)(lows:Mem) :
  ak w a b fr 4 (ag Ck (aH F)) ([(F,Az d g e J .z2 .c (pC .c + 1) (pC .c + 1))]++lows) (rz F d g e .z2 .c (Gt .c) lows):=by
 have h:=fun(J:ab)(lows:Mem)=>pI w a b fr F d g e .c J lows
 apply cW b 0x30204000020000000040800004080;intro V N T i j f st
 apply lB b [0];apply f;intro o;apply h (ae (o 0)) lows;k_mem
end
set_option tactic.hygienic true in
theorem ue{prog:LU}{w:Lj}{a:Array NG}(h:a.toList.all (fun e=>match e.key with | .int k _=>e.hash == hashInt k | _=>Li)=Lh):KeysOf (intKind prog w) a:=by
 intro e he
 have:=Ms.mp h e (by simpa using he)
 split at this
 .rename_i k t b
  refine ⟨k,by rw [b];show SI k (.int k t)=Lh;simp [SI], ?_⟩
  exact Ta this
 .cases this
theorem qC(w:Lj)(a b:Bool)(t:Nat) :
  CT w a b 0 (b9 "dict.__getitem__" [.ref 172,.int 92 t]) [] (go (.ret (sv [92,92] 605)) []):=by
 refine bH (by decide +kernel) Rt fun A g h G D O N T R f e i d c=>?_
 have z:=Ox e (show (kt (wd w a b).params).get 172=Ld (zk (wd w a b).params) from by kernel_rfl)
 rw [P3,O8] at z
 refine Sq (intKind pw (wd w a b)) (k:=92) 172 (by rfl) A R _ ⟨_,_,⟨_,_,_,d.keep _ _ z,⟨rfl,rfl,rfl⟩,rfl,ue (by decide +kernel),fun k=>rfl⟩,(show _=Ld (sv [92,92] 605) from rfl), ?_⟩
 exact c _ [] [] N _ _ ⟨rfl,rfl,rfl⟩ rfl d
theorem nY(w:Lj)(a b:Bool)(l e c d t:Nat) :
  CT w a b 0 (eC "tuple.__contains__" l [91] t) [(l,bx [sv [94] c,sv [91] d] e)] (go (.ret (.bool Lh)) [bx [sv [94] c,sv [91] d] e]):=by
 refine bg (by decide +kernel) F.entry_tuple_contains (TH l #[sv [94] c,sv [91] d] e Lk #[] (sv [91] t) (fun y=>decide (txt y=[91]))) fun A g h G D O N T R n j f=>?_
 refine ⟨j.get (i:=0) rfl,fun y m=>?_, ?_⟩
 .have : y=sv [94] c∨y=sv [91] d:=by simpa using m
  rcases this with rfl|rfl
  .exact (df [94] [91] c t).at _ _
  .exact (df [91] [91] d t).at _ _
 .have k:(#[sv [94] c,sv [91] d].any fun y=>decide (txt y=[91]))=Lh:=by simp [Mine.txt]
  rw [k]
  exact f _ [_] [] N _ _ ⟨rfl,rfl,rfl⟩ rfl j
section
variable(w:Lj)(a b:Bool)(fr:List Env)(F d g e:Nat)
include w a b fr F d g e
theorem uf(f:Fm)(J:ab)(lows:Mem) :
  ak w a b fr 4 (ag Ck (aH F)) ([(F,Az d g e J .z2 f (pC f + 1) (pC f + 1))]++lows) (rz F d g e .z2 f (Gt f) lows):=by
 cases f
 .exact wW w a b fr F d g e J lows
 .exact pI w a b fr F d g e .b J lows
 .exact wX w a b fr F d g e J lows
section
variable(h:Nat)(f:Fm)(J:ab)(lows:Mem)(c:Lm->Mem->Prop)
include h f J lows c
theorem AC(IH:∀(J:ab)(t h:Nat),ak w a b fr 6 (ag eV (aH F)) (pE F d g e J .z0 f t h lows) c) :
  ak w a b fr 6 (ag eV (aH F)) (pF F d g e J .z0 f h lows) c:=by
 apply eY b f 0x6081020008102060018600000000000000000000008000000000200000020400000800200080000400002000010204000020408000040800004080;intro V N T j k i st
 apply gT b f [0,1,2];apply i;intro o;apply IH (ae (o 0)) (T + 11) (h + 1);k_mem
theorem AD(IH:∀(J:ab)(t h:Nat),ak w a b fr 6 (ag eV (aH F)) (pE F d g e J .z1 f t h lows) c) :
  ak w a b fr 6 (ag eV (aH F)) (pF F d g e J .z1 f h lows) c:=by
 apply eY b f 0x400000000000008000000000200000020400000800200080000400002000010204000020408000040800004080;intro V N T l p i st
 apply bo b f 536870912;intro o;apply qC w a b (T + 9);k_all;intro m j st
 apply bo b f 0xc1020400102040c003;intro o;apply qC w a b j;k_all;intro n k st
 apply gT b f [0,1,2];apply i;intro o;apply IH (ae (o 0)) k (h + 1);k_mem
end
section
variable(h:Nat)(J:ab)(lows:Mem)(f:Lm->Mem->Prop)
include h J lows f
theorem wY(IH:∀(J:ab)(t h:Nat),ak w a b fr 6 (ag eV (aH F)) (pE F d g e J .z2 .a t h lows) f) :
  ak w a b fr 6 (ag eV (aH F)) (pF F d g e J .z2 .a h lows) f:=by
 have i:=fun(J:ab)(lows:Mem)=>uf w a b fr F d g e .a J lows
 apply cW b 0x82000000002040000204000000008100000810204080000400002000010204000020408000040800004080;intro V N T m l c st
 apply zq b 0x608102000810206001810000081;intro o;apply i (ae (o 0)) lows;k_all;intro j n k l st
 apply lB b [0,1,2];apply c;intro o;apply IH j k (h + 1);k_mem
theorem wZ(IH:∀(J:ab)(t h:Nat),ak w a b fr 6 (ag eV (aH F)) (pE F d g e J .z2 .b t h lows) f) :
  ak w a b fr 6 (ag eV (aH F)) (pF F d g e J .z2 .b h lows) f:=by
 have i:=fun(J:ab)(lows:Mem)=>uf w a b fr F d g e .b J lows
 apply cW b 0x82000008100000810204080000400002000010204000020408000040800004080;intro V N T m l c st
 apply zq b 0x608102000810206001810000081;intro o;apply i (ae (o 0)) lows;k_all;intro j n k l st
 apply lB b [0,1,2];apply c;intro o;apply IH j k (h + 1);k_mem
theorem w4(IH:∀(J:ab)(t h:Nat),ak w a b fr 6 (ag eV (aH F)) (pE F d g e J .z2 .c t h lows) f) :
  ak w a b fr 6 (ag eV (aH F)) (pF F d g e J .z2 .c h lows) f:=by
 have j:=fun(J:ab)(lows:Mem)=>uf w a b fr F d g e .c J lows
 apply cW b 0x82000000002040000204000000008100000810204080000400002000010204000020408000040800004080;intro V N T n m i st
 apply zq b 0x608102000810206001810000081;intro o;apply j (ae (o 0)) lows;k_all;intro k p l m st
 apply lB b [0,1,2];apply i;intro o;apply IH k l (h + 1);k_mem
end
end
abbrev nZ (x0 x1 x2 x3 x4 x5 x6 x7 x8 x9 x10):=([(x0,wA x1 x2 x3 x4 x5 x6),(x2,aa (IS x1 x7 x5 x6) x8),(x3,iL x2),(184,Ay x9)]++x10:Mem)
abbrev w5 (x0 x1 x2 x3 x4 x5 x6 x7 x8):=([(x0,wz x1 x2 x3 x4 x5 x6),(x2,aa (Hx x1 x6) x7),(x3,iL x2),(184,au)]++x8:Mem)
section
variable(w:Lj)(c a b:Bool)(fr:List Env)(F h g e d:Nat)(f:Fm)(J:ab)
include w c a b fr F h g e d f J
theorem w6(lows:Mem)(i:Lm->Mem->Prop)(IH:∀(J:ab)(t d:Nat)(x:Nat),ak (wT w c) a b fr 6 (ag eV (aH F)) (nZ F h g e J .z3 f t d x lows) i) :
  ak (wT w c) a b fr 6 (ag eV (aH F)) (w5 F h g e J .z3 f d lows) i:=by
 have l:=fun(J:ab)(lows:Mem)=>ga (wT w c) a b fr F h g e .z0 f J lows
 apply lD c b f 0x82000000002040000204000000008100000810204080000400002000010204000020408000040800004080;intro V N T q p j st
 apply q8 c b f;intro o;apply l (ae (o 0)) lows;k_mem;intro V V m n k;refine bj (fun r k=>?_) k;apply iq k;refine ⟨_,_,.refl _,fun p=>?_⟩;apply eF c b f 0xc1020400102040c003020400000007001c0070e00000800000001000008000000810200001020468d000068d1a34000000000c00000010000004081020000000000004080000400002040850a1428000040810000081;intro st
 apply o8 c b f [0,1,2,3];apply j;intro o;apply IH (ae (o 0)) (n + (c.toNat + 30)) (d + 1) (m + 6);k_mem
abbrev w7 (x0 x1 x2 x3 x4 x5 x6 x7 x8 x9):=([(x0,wz x1 x2 x3 x4 x5 x6),(x2,aa (Hx x1 x6) x7),(x3,iL x2),(184,Ay x8)]++x9:Mem)
theorem w8(x:Nat)(lows:Mem)(i:Lm->Mem->Prop)(IH:∀(J:ab)(t d:Nat),ak (wT w c) a b fr 6 (ag eV (aH F)) (nZ F h g e J .z3 f t d x lows) i) :
  ak (wT w c) a b fr 6 (ag eV (aH F)) (w7 F h g e J .z3 f d x lows) i:=by
 have l:=fun(J:ab)(lows:Mem)=>ga (wT w c) a b fr F h g e .z0 f J lows
 apply lD c b f 0x82000000002040000204000000008100000810204080000400002000010204000020408000040800004080;intro V N T p n j st
 apply q8 c b f;intro o;apply l (ae (o 0)) lows;k_mem;intro V V r m k;refine bj (fun q k=>?_) k;apply iq k;refine ⟨_,_,.refl _,fun n=>?_⟩;apply eF c b f 0x6081020008102060018102000000020008002040000040000000080000400000040810000081021c380001c3870e0000000003000000080000020000000000004080000400002040850a1428000040810000081;intro st
 apply o8 c b f [0,1,2,3];apply j;intro o;apply IH (ae (o 0)) (m + (c.toNat + 24)) (d + 1);k_mem
theorem w9(lows:Mem)(i:Lm->Mem->Prop)(IH:∀(J:ab)(t d:Nat)(x:Nat),ak (wT w c) a b fr 6 (ag eV (aH F)) (nZ F h g e J .z4 f t d x lows) i) :
  ak (wT w c) a b fr 6 (ag eV (aH F)) (w5 F h g e J .z4 f d lows) i:=by
 have n:=fun(J:ab)(lows:Mem)=>ga (wT w c) a b fr F h g e .z1 f J lows
 apply lD c b f 0x82000000002040000204000000008100000810204080000400002000010204000020408000040800004080;intro V N T s r j st
 apply q8 c b f;intro o;apply n (ae (o 0)) lows;k_mem;intro V V v m l;refine bj (fun u l=>?_) l;apply iq l;refine ⟨_,_,.refl _,fun r=>?_⟩;apply eF c b f 0x2000400002040850a1428000040810000081;intro st
 apply j3 c b f 0x182040800204081800604080000000e003800e1c000010000000020000100000010204000020408d1a0000d1a34680000000018000000200000081020400000000000081;intro o;apply iY (wT w c) a b [92] [92] [92,92] m m (by kernel_rfl);k_all;intro k p q st
 apply o8 c b f [0,1,2,3];apply j;intro o;apply IH (ae (o 0)) (q + (c.toNat + 25)) (d + 1) (p + 5);k_mem
theorem xa(x:Nat)(lows:Mem)(i:Lm->Mem->Prop)(IH:∀(J:ab)(t d:Nat),ak (wT w c) a b fr 6 (ag eV (aH F)) (nZ F h g e J .z4 f t d x lows) i) :
  ak (wT w c) a b fr 6 (ag eV (aH F)) (w7 F h g e J .z4 f d x lows) i:=by
 have n:=fun(J:ab)(lows:Mem)=>ga (wT w c) a b fr F h g e .z1 f J lows
 apply lD c b f 0x82000000002040000204000000008100000810204080000400002000010204000020408000040800004080;intro V N T r q j st
 apply q8 c b f;intro o;apply n (ae (o 0)) lows;k_mem;intro V V u m l;refine bj (fun s l=>?_) l;apply iq l;refine ⟨_,_,.refl _,fun q=>?_⟩;apply eF c b f 0x2000400002040850a1428000040810000081;intro st
 apply j3 c b f 0xc1020400102040c00302040000000400100040800000800000001000008000000810200001020438700003870e1c00000000060000001000000400000000000081;intro o;apply iY (wT w c) a b [92] [92] [92,92] m m (by kernel_rfl);k_all;intro k v p st
 apply o8 c b f [0,1,2,3];apply j;intro o;apply IH (ae (o 0)) (p + (c.toNat + 19)) (d + 1);k_mem
theorem xb(lows:Mem)(i:Lm->Mem->Prop)(IH:∀(J:ab)(t d:Nat)(x:Nat),ak (wT w c) a b fr 6 (ag eV (aH F)) (nZ F h g e J .z5 f t d x lows) i) :
  ak (wT w c) a b fr 6 (ag eV (aH F)) (w5 F h g e J .z5 f d lows) i:=by
 have l:=fun(J:ab)(lows:Mem)=>ga (wT w c) a b fr F h g e .z2 f J lows
 apply lD c b f 0x82000000002040000204000000008100000810204080000400002000010204000020408000040800004080;intro V N T q p j st
 apply q8 c b f;intro o;apply l (ae (o 0)) lows;k_mem;intro V V m n k;refine bj (fun r k=>?_) k;apply iq k;refine ⟨_,_,.refl _,fun p=>?_⟩;apply eF c b f 0xc1020400102040c003020400000007001c0070e00000800000001000008000000810200001020468d000068d1a34000000000c00000010000004081020000000000004080000400002040850a1428000040810000081;intro st
 apply o8 c b f [0,1,2,3];apply j;intro o;apply IH (ae (o 0)) (n + (c.toNat + 30)) (d + 1) (m + 6);k_mem
theorem xc(x:Nat)(lows:Mem)(i:Lm->Mem->Prop)(IH:∀(J:ab)(t d:Nat),ak (wT w c) a b fr 6 (ag eV (aH F)) (nZ F h g e J .z5 f t d x lows) i) :
  ak (wT w c) a b fr 6 (ag eV (aH F)) (w7 F h g e J .z5 f d x lows) i:=by
 have l:=fun(J:ab)(lows:Mem)=>ga (wT w c) a b fr F h g e .z2 f J lows
 apply lD c b f 0x82000000002040000204000000008100000810204080000400002000010204000020408000040800004080;intro V N T p n j st
 apply q8 c b f;intro o;apply l (ae (o 0)) lows;k_mem;intro V V r m k;refine bj (fun q k=>?_) k;apply iq k;refine ⟨_,_,.refl _,fun n=>?_⟩;apply eF c b f 0x6081020008102060018102000000020008002040000040000000080000400000040810000081021c380001c3870e0000000003000000080000020000000000004080000400002040850a1428000040810000081;intro st
 apply o8 c b f [0,1,2,3];apply j;intro o;apply IH (ae (o 0)) (m + (c.toNat + 24)) (d + 1);k_mem
theorem xd(lows:Mem)(i:Lm->Mem->Prop)(IH:∀(J:ab)(t d:Nat)(x:Nat),ak (wT w c) a b fr 6 (ag eV (aH F)) (nZ F h g e J .z6 f t d x lows) i) :
  ak (wT w c) a b fr 6 (ag eV (aH F)) (w5 F h g e J .z6 f d lows) i:=by
 have n:=fun(J:ab)(lows:Mem)=>ga (wT w c) a b fr F h g e .z3 f J lows
 apply lD c b f 0x82000000002040000204000000008100000810204080000400002000010204000020408000040800004080;intro V N T r q l st
 apply q8 c b f;intro o;apply n (ae (o 0)) lows;k_mem;intro V V m k j;refine bj (fun s j=>?_) j;apply iq j;refine ⟨_,_,.refl _,fun q=>?_⟩;apply eF c b f 0x340821c0070e00000800000001000008000000810200001020468d000068d1a34000000000c00000010000004081020000000000004080000400002040850a1428000040810000081;intro st
 apply jD c b f;intro o;apply nY (wT w c) a b (m + 9) 0 (k + 26) (k + 27) (k + 25);k_mem;intro V V V u p j V;apply dX j;apply eF c b f 0x1820408002040818006040810200001;intro st
 apply o8 c b f [0,1,2,3];apply l;intro o;apply IH (ae (o 0)) (p + (c.toNat + 5)) (d + 1) (m + 6);k_mem
theorem xe(x:Nat)(lows:Mem)(i:Lm->Mem->Prop)(IH:∀(J:ab)(t d:Nat),ak (wT w c) a b fr 6 (ag eV (aH F)) (nZ F h g e J .z6 f t d x lows) i) :
  ak (wT w c) a b fr 6 (ag eV (aH F)) (w7 F h g e J .z6 f d x lows) i:=by
 have m:=fun(J:ab)(lows:Mem)=>ga (wT w c) a b fr F h g e .z3 f J lows
 apply lD c b f 0x82000000002040000204000000008100000810204080000400002000010204000020408000040800004080;intro V N T r q l st
 apply q8 c b f;intro o;apply m (ae (o 0)) lows;k_mem;intro V V n k j;refine bj (fun s j=>?_) j;apply iq j;refine ⟨_,_,.refl _,fun q=>?_⟩;apply eF c b f 0xe04108002040000040000000080000400000040810000081021c380001c3870e0000000003000000080000020000000000004080000400002040850a1428000040810000081;intro st
 apply jD c b f;intro o;apply nY (wT w c) a b (n + 3) 0 (k + 20) (k + 21) (k + 19);k_mem;intro V V V u p j V;apply dX j;apply eF c b f 0x1820408002040818006040810200001;intro st
 apply o8 c b f [0,1,2,3];apply l;intro o;apply IH (ae (o 0)) (p + (c.toNat + 5)) (d + 1);k_mem
end
def b6:Option Nat->Obj
 | none=>au
 | some x=>Ay x
def mN(F d a c:Nat)(k:E7)(f:Fm)(lows:Mem):Lm->Mem->Prop:=fun h e=>∃(J:ab)(t g:Nat)(b:Option Nat),h=.ok .next/\e=[(F,pD d a c J k f),(a,aa (ft d t k f) g),(c,iL a),(184,b6 b)]++lows
theorem mO(w:Lj)(a b:Bool)(fr:List Env)(F g c e:Nat)(k:E7)(f:Fm)(J:ab)(t h:Nat)(d:Option Nat)(lows:Mem) :
  ak w a b fr 6 (ag eV (aH F)) ([(F,pD g c e J k f),(c,aa (ft g t k f) h),(e,iL c),(184,b6 d)]++lows) (mN F g c e k f lows):=
 aO.weak (Go w a b fr F g c e h k f J ((c,aa (ft g t k f) h)::(e,iL c)::(184,b6 d)::lows)) (Lf _) fun j i q=>by
  obtain ⟨rfl,rfl⟩:=q
  exact ⟨_,.refl _,(jJ J t h d ⟨rfl,rfl⟩)⟩
theorem c6(w:Lj)(a b:Bool)(fr:List Env)(F h e g i:Nat)(k:E7)(f:Fm)(J:ab)(t:Nat)(d:Option Nat)(lows:Mem) :
  ak w a b fr 6 (ag eV (aH F)) ([(F,wA h e g J k f),(e,aa (IS h t k f) i),(g,iL e),(184,b6 d)]++lows) (mN F h e g k f lows):=
 match f with
 | .a=>wB w a b fr F h e g i k t J ((184,b6 d)::lows) _ fun J i=>mO w a b fr F h e g k .a J t i d lows
 | .b=>mO w a b fr F h e g k .b J t i d lows
 | .c=>wC w a b fr F h e g i k t J ((184,b6 d)::lows) _ fun J i=>mO w a b fr F h e g k .c J t i d lows
theorem pJ(w:Lj)(c a b:Bool)(fr:List Env)(F h e g d:Nat)(k:E7)(f:Fm)(J:ab)(i:Option Nat)(lows:Mem) :
  ak (wT w c) a b fr 6 (ag eV (aH F)) ([(F,wz h e g J k f),(e,aa (Hx h f) d),(g,iL e),(184,b6 i)]++lows) (mN F h e g k f lows):=
 match k,i with
 | .z0,_=>AC (wT w c) a b fr F h e g d f J (_::lows) _ fun J t d=>c6 (wT w c) a b fr F h e g d .z0 f J t _ lows
 | .z1,_=>AD (wT w c) a b fr F h e g d f J (_::lows) _ fun J t d=>c6 (wT w c) a b fr F h e g d .z1 f J t _ lows
 | .z2,_=>match f with
  | .a=>wY (wT w c) a b fr F h e g d J (_::lows) _ fun J t d=>c6 (wT w c) a b fr F h e g d .z2 .a J t _ lows
  | .b=>wZ (wT w c) a b fr F h e g d J (_::lows) _ fun J t d=>c6 (wT w c) a b fr F h e g d .z2 .b J t _ lows
  | .c=>w4 (wT w c) a b fr F h e g d J (_::lows) _ fun J t d=>c6 (wT w c) a b fr F h e g d .z2 .c J t _ lows
 | .z3,Lk=>w6 w c a b fr F h e g d f J lows _ fun J t d x=>c6 (wT w c) a b fr F h e g d .z3 f J t (Ld x) lows
 | .z3,Ld x=>w8 w c a b fr F h e g d f J x lows _ fun J t d=>c6 (wT w c) a b fr F h e g d .z3 f J t (Ld x) lows
 | .z4,Lk=>w9 w c a b fr F h e g d f J lows _ fun J t d x=>c6 (wT w c) a b fr F h e g d .z4 f J t (Ld x) lows
 | .z4,Ld x=>xa w c a b fr F h e g d f J x lows _ fun J t d=>c6 (wT w c) a b fr F h e g d .z4 f J t (Ld x) lows
 | .z5,Lk=>xb w c a b fr F h e g d f J lows _ fun J t d x=>c6 (wT w c) a b fr F h e g d .z5 f J t (Ld x) lows
 | .z5,Ld x=>xc w c a b fr F h e g d f J x lows _ fun J t d=>c6 (wT w c) a b fr F h e g d .z5 f J t (Ld x) lows
 | .z6,Lk=>xd w c a b fr F h e g d f J lows _ fun J t d x=>c6 (wT w c) a b fr F h e g d .z6 f J t (Ld x) lows
 | .z6,Ld x=>xe w c a b fr F h e g d f J x lows _ fun J t d=>c6 (wT w c) a b fr F h e g d .z6 f J t (Ld x) lows
theorem Gv(w:Lj)(c a b:Bool)(fr:List Env)(F i e g h:Nat)(J:ab)(d:Option Nat)(lows:Mem)(k:E7)(f:Fm) :
  ak (wT w c) a b fr 6 (ag eV (aH F)) ([(F,wy i e g J k f),(e,aa [] h),(g,iL e),(184,b6 d)]++lows) (mN F i e g k f lows):=
 match f with
 | .a=>pJ w c a b fr F i e g h k .a J d lows
 | .b=>wD (wT w c) a b fr F i e g h k J ((184,b6 d)::lows) _ fun J h=>pJ w c a b fr F i e g h k .b J d lows
 | .c=>wE (wT w c) a b fr F i e g h k J ((184,b6 d)::lows) _ fun J h=>pJ w c a b fr F i e g h k .c J d lows
noncomputable def oM:E7->Nat
 | .z0=>34
 | .z1=>92
 | .z2=>91
 | .z3=>34
 | .z4=>92
 | .z5=>42
 | .z6=>91
abbrev n3 (x0 x1 x2 x3):=(fun b a=>∃t:Nat,b=.ok (.ret (sv x0 t))/\a=[(x1,x2)]++x3:Lm->Mem->Prop)
section
variable(w:Lj)(a b:Bool)(fr:List Env)(t:Nat)(lows:Mem)(A:Nat)(oA:Obj)
include w a b fr t lows A oA
theorem xf :
  ak w a b fr 3 (bw 297 [sv [34] t]) ([(A,oA)]++lows) (n3 [34] A oA lows):=by
 apply cW b 0x8002000020408100000400003060c18000080020400001;intro V N T d g c st
 apply aE b 2;intro o;apply aI w a b [34] t (T + 5);k_all;intro e f st
 apply b4 b [0];apply c;intro o τ;refine ⟨τ,⟨?_, ?_⟩⟩;apply rfl;apply rfl;k_mem
theorem xg :
  ak w a b fr 3 (bw 297 [sv [92,92] t]) ([(A,oA)]++lows) (n3 [92] A oA lows):=by
 apply cW b 0x40020408100000400003060c18000080020400001;intro V N T d g c st
 apply aE b 22163383910402;intro o;apply aI w a b [92] (T + 5) (T + 6);k_all;intro e f st
 apply b4 b [0];apply c;intro o τ;refine ⟨τ,⟨?_, ?_⟩⟩;apply rfl;apply rfl;k_mem
theorem xh :
  ak w a b fr 3 (bw 297 [sv [92,91] t]) ([(A,oA)]++lows) (n3 [91] A oA lows):=by
 apply cW b 0x40020408100000400003060c18000080020400001;intro V N T d g c st
 apply aE b 22163383910402;intro o;apply aI w a b [92] (T + 5) (T + 6);k_all;intro e f st
 apply b4 b [0];apply c;intro o τ;refine ⟨τ,⟨?_, ?_⟩⟩;apply rfl;apply rfl;k_mem
theorem xi :
  ak w a b fr 3 (bw 297 [sv [91,34,93] t]) ([(A,oA)]++lows) (n3 [34] A oA lows):=by
 apply cW b 0x8003060c18000080020400001;intro V N T e i c st
 apply aE b 0x800408102000000002;intro o;apply aI w a b [91] (T + 2) (T + 3);k_all;intro f d st
 apply aE b 0x200003060c1800004081050a142800000002;intro o;apply aI w a b [93] (d + 2) (d + 3);k_all;intro g h st
 apply b4 b [0];apply c;intro o τ;refine ⟨τ,⟨?_, ?_⟩⟩;apply rfl;apply rfl;k_mem
theorem xj :
  ak w a b fr 3 (bw 297 [sv [91,92,92,93] t]) ([(A,oA)]++lows) (n3 [92] A oA lows):=by
 apply cW b 0x8003060c18000080020400001;intro V N T f k c st
 apply aE b 0x800408102000000002;intro o;apply aI w a b [91] (T + 2) (T + 3);k_all;intro g d st
 apply aE b 0x4003060c1800004081050a142800000002;intro o;apply aI w a b [93] (d + 2) (d + 3);k_all;intro h e st
 apply aE b 31028737474562;intro o;apply aI w a b [92] (e + 6) (e + 7);k_all;intro i j st
 apply b4 b [0];apply c;intro o τ;refine ⟨τ,⟨?_, ?_⟩⟩;apply rfl;apply rfl;k_mem
theorem xk :
  ak w a b fr 3 (bw 297 [sv jN t]) ([(A,oA)]++lows) (n3 [42] A oA lows):=by
 apply cW b 0x8003060c18000080020400001;intro V N T e i c st
 apply aE b 0x800408102000000002;intro o;apply aI w a b [91] (T + 2) (T + 3);k_all;intro f d st
 apply aE b 0x200003060c1800004081050a142800000002;intro o;apply aI w a b [93] (d + 2) (d + 3);k_all;intro g h st
 apply b4 b [0];apply c;intro o τ;refine ⟨τ,⟨?_, ?_⟩⟩;apply rfl;apply rfl;k_mem
theorem xl :
  ak w a b fr 3 (bw 297 [sv [91,92,91,93] t]) ([(A,oA)]++lows) (n3 [91] A oA lows):=by
 apply cW b 0x8003060c18000080020400001;intro V N T f k c st
 apply aE b 0x800408102000000002;intro o;apply aI w a b [91] (T + 2) (T + 3);k_all;intro g d st
 apply aE b 0x4003060c1800004081050a142800000002;intro o;apply aI w a b [93] (d + 2) (d + 3);k_all;intro h e st
 apply aE b 31028737474562;intro o;apply aI w a b [92] (e + 6) (e + 7);k_all;intro i j st
 apply b4 b [0];apply c;intro o τ;refine ⟨τ,⟨?_, ?_⟩⟩;apply rfl;apply rfl;k_mem
end
theorem pK(w:Lj)(a b:Bool)(fr:List Env)(A:Nat)(oA:Obj)(k:E7)(t:Nat)(lows:Mem) :
  ak w a b fr 3 (bw 297 [sv (fR k) t]) ([(A,oA)]++lows) (n3 [oM k] A oA lows):=
 match k with
 | .z0=>xf w a b fr t lows A oA
 | .z1=>xg w a b fr t lows A oA
 | .z2=>xh w a b fr t lows A oA
 | .z3=>xi w a b fr t lows A oA
 | .z4=>xj w a b fr t lows A oA
 | .z5=>xk w a b fr t lows A oA
 | .z6=>xl w a b fr t lows A oA
noncomputable def n4(a b:Lg)(it:Lc)(env:Env):Sem Fin:=
 O5 b.pos >>= fun V=>pyNext it >>= fun r=>match r with
  | none=>Ob (.done .brk)
  | some v=>Th a it v >>= fun V=>assign a env v >>= fun V=>Ob (.done .next)
theorem rA{prog:LU}{w:Lj}{A:L9}{R:Lm->Ly->Prop}{s:Ly}{g e a b:Lg}{scope:Scope}{pos:Pos}{it:Lc}{i:O7}{env:Env}{c:Mk}(j:c=.compLoop (.DictComp g e [⟨a,b,[],0⟩] scope pos) 0 it (.ref i) env)(h:NE (Lw prog w) A c (n4 a b it env) (fun q y=>∀f,q=.done f->f=.next/\EV prog w A c env g (fun k z=>EV prog w A c env e (fun l B=>
   L7 (Lw prog w) (A.under c) (P8 i k l) (fun V o=>Mm (Lw prog w) A c R o) (fun V V=>False) B) z) y) (fun V V=>False) s) :
  Mm (Lw prog w) A c R s:=by
 subst j
 refine PD (prog:=prog) (w:=w) A R s _ ?_
 intro Γ p j d
 have t:Γ.In (A.under (.compLoop (.DictComp g e [⟨a,b,[],0⟩] scope pos) 0 it (.ref i) env)):=by have:=d.in;rwa [j] at this
 have H:=h Γ p j d
 show Mz (Lw prog w) Γ ((compTurn (.DictComp g e [⟨a,b,[],0⟩] scope pos) 0 it (.ref i) env).onRaise (fun x=>do Nc x env;OP x)) _ _ p s
 rw [Ny,compTurn_dict]
 unfold n4 at H
 rw [Lp] at H ⊢
 refine Lt _ Γ _ (fun V J y C=>?_) (fun V V V x=>x.elim) p s H
 rw [Lp] at C ⊢
 refine Lt _ Γ _ (fun r K z m=>?_) (fun V V V x=>x.elim) J y C
 cases r with
 | none=>
  obtain ⟨n,_⟩:=m _ rfl
  cases n
 | some v=>
  dsimp only at m ⊢
  rw [Lp] at m ⊢
  refine Lt _ Γ _ (fun V L B n=>?_) (fun V V V x=>x.elim) K z m
  rw [Lp] at n ⊢
  refine Lt _ Γ _ (fun V u o h4=>?_) (fun V V V x=>x.elim) L B n
  obtain ⟨_,E⟩:=h4 _ rfl
  show Mz (Lw prog w) Γ ((RR g env >>= fun k=>holding [k] (RR e env) >>= fun l=>O5 { g.pos with endLine:=e.pos.endLine,endCol:=e.pos.endCol } >>= fun V=>holding [k,l] (P8 i k l)) >>= fun V=>SH (.compLoop (.DictComp g e [⟨a,b,[],0⟩] scope pos) 0 it (.ref i) env)) _ _ u o
  rw [Lp,Lp]
  refine Lt _ Γ _ (fun k D M F=>?_) (fun V V V x=>x.elim) u o (E Γ u j d)
  rw [Lp,Pp]
  refine Lt _ Γ _ (fun l O N G=>?_) (fun V V V x=>x.elim) D M (F Γ D j d)
  rw [Lp,NF,Pp]
  refine Lt _ Γ _ (fun V P Q I=>?_) (fun V V V x=>x.elim) _ N (G Γ _ t)
  exact ⟨rfl,I⟩
theorem xm(w:Lj)(a b:Bool){A:L9}{g h:ME}{G:Array Mi}{D:Nn}{O:Mq}{N T d:Nat}{kvs:List (LN × Lc)}{J:ab}{ep:Nat}{k:LN}{t:Nat}{v:Lc}{F:Mem}{Q:Unit->Ly->Prop}{E:Lc->Ly->Prop}(hz:kvs.length < 1000)(r:am kvs k=Lk)(n:Rep g h N ((d,bO (wd w a b) kvs J ep)::F))(l:∀p m q,Rep g m N ((d,bO (wd w a b) (kvs++[(k,v)]) p (ep + 1))::F)->Q () ⟨m,G,D,q,O⟩) :
  L7 (Lw pw (wd w a b)) A (P8 d (sv k t) v) Q E ⟨h,G,D,T,O⟩:=by
 have o:=n.get (i:=0) rfl
 unfold P8
 refine Nh ?_
 refine Le ((strKind pw (wd w a b)).pyHash (cR k t) ?_)
 unfold dictSetHashed
 refine Nh ?_
 refine Le (Sz (knd:=strKind pw (wd w a b)) (s:=⟨h,G,D,T + 1,O⟩) (cR k t) o rfl (fun e he=>g9 J.k kvs 0 e (by simpa using he)) ?_)
 have hf:(⟨iA (wd w a b) J.k 0 kvs⟩ : Array NG).findIdx? (fun e=>(strKind pw (wd w a b)).is (⟨⟨k⟩⟩ : Str) e.key)=Lk:=by
  rw [Qi]
  intro e he
  exact iC J.k k kvs 0 r e (by simpa using he)
 rw [hf]
 have hsz:(⟨iA (wd w a b) J.k 0 kvs⟩ : Array NG).size=kvs.length:=by
  have:=(eH (prog:=pw) (w:=wd w a b) J.k kvs 0).length
  simpa using this
 refine Le (Oa (RL (hz:=by rw [hsz];have:=aX;kd_p) (s:=⟨h,G,D,T + 1,O⟩) o rfl ?_))
 have z:=n.update (i:=0) (f:=O9 (fun c=>c.push ⟨QG (wd w a b) ⟨⟨k⟩⟩,sv k t,v⟩)) rfl rfl
 have e:O9 (fun c=>c.push ⟨QG (wd w a b) ⟨⟨k⟩⟩,sv k t,v⟩) (bO (wd w a b) kvs J ep)=bO (wd w a b) (kvs++[(k,v)]) ⟨J.h,fun j=>if j=0 + kvs.length then t else J.k j,J.t,J.e⟩ (ep + 1):=by
  show QL _ _ (.dict (Te ⟨iA (wd w a b) J.k 0 kvs⟩ _) _) _=QL _ _ (.dict ⟨iA (wd w a b) _ 0 (kvs++[(k,v)])⟩ _) _
  rw [<- ke J.k k t v kvs 0]
  simp
 rw [e] at z
 exact l _ _ _ z
theorem kE(w:Lj)(a b:Bool){fr:List Env}{L:Nat}{M S d j:Lg}{scope:Scope}{P:Pos}{it:Lc}{o:O7}{env:Env}{c:Mk}{F:Mem}{k:LN}{kvs:List (LN × Lc)}{post1:Mem->Prop}{post2:Nat->Mem->Prop}{post3:Lc->ab->Nat->Mem->Prop}{l:Lm->Mem->Prop}(hc:c=.compLoop (.DictComp M S [⟨d,j,[],0⟩] scope P) 0 it (.ref o) env)(hz:kvs.length < 1000)(hv:am kvs k=Lk)(h1:bW pw (wd w a b) (kt (wd w a b).params) fr L c (n4 d j it env) F (fun z i=>z=.ok .next/\post1 i))(h2:∀i,post1 i->dW pw (wd w a b) (kt (wd w a b).params) fr L c env M i (fun v n=>∃t,v=sv k t/\post2 t n))(h3:∀t i,post2 t i->dW pw (wd w a b) (kt (wd w a b).params) fr L c env S i (fun v n=>∃J ep m,n=(o,bO (wd w a b) kvs J ep)::m/\post3 v J ep m))(h4:∀v J ep B m,post3 v J ep m->aO pw (wd w a b) (kt (wd w a b).params) fr L c ((o,bO (wd w a b) (kvs++[(k,v)]) B (ep + 1))::m) l):aO pw (wd w a b) (kt (wd w a b).params) fr L c F l:=
 fun A g h G D O N T R r hf u y hR C=>rA hc (dP (h1 A g h G D O N T (fun z s=>z=.ok .next/\EV pw (wd w a b) A c env M (fun U s2=>EV pw (wd w a b) A c env S (fun Q s3=>
   L7 (Lw pw (wd w a b)) (A.under c) (P8 o U Q) (fun V s4=>Mm (Lw pw (wd w a b)) A c R s4) (fun V V=>False) s3) s2) s) r hf u y hR fun z i X T' h' p E=>by
  obtain ⟨rfl,p1⟩:=p
  refine ⟨rfl,h2 i p1 A g h' G D O X T' _ r hf u y E fun U n Y T2 h5 q H=>?_⟩
  obtain ⟨t,rfl,q⟩:=q
  refine h3 t n q A g h5 G D O Y T2 _ r hf u y H fun Q m Z T3 h6 q3 I=>?_
  obtain ⟨J,ep,W,rfl,q4⟩:=q3
  exact xm w a b hz hv I fun B h7 T7 K=>h4 Q J ep B W q4 A g h7 G D O Z T7 R r hf u y K C) (fun fi s' q f e=>by
   subst e
   obtain ⟨e,q⟩:=q
   cases e
   exact ⟨rfl,q⟩) (fun e s' x=>by obtain ⟨h,_⟩:=x;cases h))
def lR(e:Lg):Lg:=ex e 0
noncomputable def lS:Lg->Lg
 | .DictComp _ _ (⟨t,_,_,_⟩::_) _ _=>t
 | _=>default
noncomputable def iP:Lg->Lg
 | .DictComp _ _ (⟨_,i,_,_⟩::_) _ _=>i
 | _=>default
noncomputable def jG:Lg->Scope
 | .DictComp _ _ _ s _=>s
 | _=>⟨.module,[],Li,Li,[]⟩
noncomputable def qD:Lg->Pos
 | .DictComp _ _ _ _ p=>p
 | _=>default
theorem ug:aZ=.DictComp (lR aZ) (jk aZ) [⟨lS aZ,iP aZ,[],0⟩] (jG aZ) (qD aZ):=by kernel_rfl
abbrev rB (x0 x1 x2 x3 x4 x5 x6 x7 x8 x9 x10 x11 x12):=([(x0,av [] x1),(x2,al x3 x4),(x5,ad x6),(x3,aa x7 x8),(x9,aa x10 x11),(x12,ad (Ld (.ref x9)))] : Mem)
section
variable(w:Lj)(a b:Bool)(fr:List Env)(X:eZ)(h j d g sc:Nat)(f c:LV)(CL it k i:Nat)
include w a b fr X h j d g sc f c CL it k i
theorem AE(p l:Nat)(m:f[i]? = Ld (sv [p] l))(n:Option Lc)(J:ab)(lows:Mem) :
  dh w a b fr 20 (.compLoop aZ 0 (.ref it) (.ref k) (dz aZ CL X (rR sc X))) (n4 (lS aZ) (iP aZ) (.ref it) (dz aZ CL X (rR sc X))) ((rB CL J it h i sc n f j d c g X.cy)++lows) (d6 .next (rB CL J it h (i + 1) sc (Ld (sv [p] l)) f j d c g X.cy) lows):=by
 apply fU b 0xc0820408002;intro V N T q t e st
 apply aE b 387;intro o;apply aG w a b it h i f j (sv [p] l) m;k_all;intro r s st
 apply b4 b [0,1,2,3,4,5];apply e;intro o τ;refine ⟨?_, ?_⟩;apply rfl;apply rfl;k_mem
theorem AF(p l:Nat)(J:ab)(lows:Mem) :
  dh w a b fr 20 (.compLoop aZ 0 (.ref it) (.ref k) (dz aZ CL X (rR sc X))) (gM (lR aZ) (dz aZ CL X (rR sc X))) ((rB CL J it h i sc (Ld (sv [p] l)) f j d c g X.cy)++lows) (d6 (.ret (sv [p] l)) (rB CL J it h i sc (Ld (sv [p] l)) f j d c g X.cy) lows):=by
 apply fU b 3;intro V N T m n e st
 apply b4 b [0,1,2,3,4,5];apply e;intro o τ;refine ⟨?_, ?_⟩;apply rfl;apply rfl;k_mem
theorem AG(ss:LLN)(q:af ss c)(n:c≠[])(r:c.length < 900)(hne:∀s∈ss,s≠[])(p A:Nat)(J:ab)(lows:Mem) :
  dh w a b fr 20 (.compLoop aZ 0 (.ref it) (.ref k) (dz aZ CL X (rR sc X))) (gM (jk aZ) (dz aZ CL X (rR sc X))) ((rB CL J it h i sc (Ld (sv [p] A)) f j d c g X.cy)++lows) (fun rr Y=>∃(L O P Q e e0 e1 e2:Nat)(R K M:LV),rr=.ok (.ret (.ref L))/\Y=[(CL,av [] J),(it,al h i),(sc,ad (Ld (sv [p] A))),(h,aa f j),(d,aa c g),(X.cy,ad (Ld (.ref d))),(L,aa [.ref O,.ref P,.ref Q] e),(O,aa R e0),(P,aa K e1),(Q,aa M e2)]++lows/\af (ss.flatMap (kD p)) R/\af (ss.flatMap (kB p)) K/\af (ss.flatMap (ud p)) M):=by
 have S:=fun(fr:List Env)(z CL it ac:Nat)(J:ab)(u:Nat)(lows:Mem)=>yS w a b fr Lh X.F d g sc c p z CL it ac ss q n r hne J u lows
 have U:=fun(fr:List Env)(z CL it ac:Nat)(J:ab)(u:Nat)(lows:Mem)=>yR w a b fr Lh X.F d g sc c p z CL it ac ss q n r hne J u lows
 have W:=fun(fr:List Env)(z CL it ac:Nat)(J:ab)(u:Nat)(lows:Mem)=>yQ w a b fr Lh X.F d g sc c p z CL it ac ss q n r J u lows
 apply fU b 0x1040e18405041c0050014286;intro V N T B0 D G st
 apply iW b 0x3042440a0a0848006001831004081;intro o;apply S fr A (N + 2) N (N + 1) (ae (o 8)) 0 lows;k_all;intro v J1 t E B T1 hq D st
 apply iW b 0x3042c50c0a0858006001831404081;intro o;apply U fr A (B + 2) B (B + 1) (ae (o 10)) 0 lows;k_all;intro K J2 l x C T2 H D st
 apply iW b 16513;intro o;apply W fr A (C + 2) C (C + 1) (ae (o 12)) 0 lows;k_all;intro M J3 m y Z T3 I D st
 apply b4 b [8,9,3,10,2,11,12,7,5,1];apply G;intro o τ;refine qU Z (N + 1) (B + 1) (C + 1) 0 E x y t l m ⟨?_, ?_,hq,H,I⟩;apply rfl;apply rfl;k_mem
theorem AH(m:f.length<=i)(l:Option Lc)(J:ab)(lows:Mem) :
  ak w a b fr 20 (.compLoop aZ 0 (.ref it) (.ref k) (dz aZ CL X (rR sc X))) ((rB CL J it h i sc l f j d c g X.cy)++lows) (d6 .next [(CL,av [] J),(sc,ad l),(h,aa f j),(d,aa c g),(X.cy,ad (Ld (.ref d)))] lows):=by
 apply cW b 0x6041020400100;intro V N T n r e st
 apply gF b 7;intro o;apply aP w a b it h i f j m;k_all;intro x s p q st
 apply b4 b [0,2,3,4,5];apply e;intro o τ;refine ⟨?_, ?_⟩;apply rfl;apply rfl;k_mem
end
theorem uh(w:Lj)(a b:Bool)(l:Nat)(vs:LV)(e:Nat)(x:LN)(t:Nat){ss:LLN}(hs:af ss vs)(j:Nat)(r:ss[j]? = Ld x)(s:∀m,m < j->ss[m]? ≠ Ld x)(hz:ss.length < 1000) :
  CT w a b 0 (eC "list.index" l x t) [(l,aa vs e)] (fun E os o=>∃k:Nat,E=.ok (.ret (.int (Ll j) k))/\os=[aa vs e]/\o=[]):=by
 have c:j < ss.length:=(Mn.mp r).1
 have d:=hs.length
 have f:∀m (hm:m < vs.length),Mine.txt vs[m]=ss[m]'(d ▸ hm):=fun m hm=>by
  have z:=hs.txt
  have : (vs.map Mine.txt)[m]'(by simpa using hm)=ss[m]'(d ▸ hm):=by simp only [z]
  simpa using this
 refine bg (by decide +kernel) F.entry_list_index (MeetsSeq.list_index l ⟨vs⟩ e (sv x t) (fun y=>decide (Mine.txt y=x)) (fun y C=>by
   obtain ⟨u,B⟩:=hs.mem y (by simpa using C)
   rw [B]
   exact df _ _ _ _) j (show j < vs.length from d.symm ▸ c) (QV (M5.mpr (MC c hz)) (by decide)) ?_ ?_) fun A g h G D O N T R H v p=>?_
 .rw [decide_eq_true_iff]
  show Mine.txt (vs[j]'(d.symm ▸ c))=x
  rw [f j (d.symm ▸ c)]
  rw [Lo c] at r
  exact MK r
 .intro m hm n
  rw [decide_eq_false_iff_not]
  show ¬Mine.txt (vs[m]'hm)=x
  rw [f m hm]
  intro q
  exact s m n (by rw [Lo (MC n c),q])
 .refine ⟨v.get (i:=0) rfl, ?_⟩
  exact p _ [_] [] N (T + 1) _ ⟨T,rfl,rfl,rfl⟩ rfl (da v)
theorem xn(w:Lj)(a b:Bool)(x:Int)(t u:Nat)(d:Bool)(h:x.fmod 2=if d then 1 else 0) :
  CT w a b 0 (b9 "int.__mod__" [.int x t,.int 2 u]) [] (fun e os c=>∃k:Nat,e=.ok (.ret (.int (if d then 1 else 0) k))/\os=[]/\c=[]):=
 (gH w a b x 2 t u (by decide)).weak (Lf _) fun r os c q=>by
  obtain ⟨⟨k,rfl⟩,rfl,rfl⟩:=q
  exact ⟨k,by rw [h],rfl,rfl⟩
theorem AJ(w:Lj)(c a b:Bool)(fr:List Env)(F h e g i:Nat)(J:ab)(d:Option Nat)(lows:Mem)(k:E7)(f:Fm) :
  ak (wT w c) a b fr 6 (ag eV (aH F)) ([(F,wy h e g J k f),(e,aa [] i),(g,iL e),(184,b6 d)]++lows) (fun l j=>∃(J:ab)(t i:Nat)(d:Option Nat),l=.ok .next/\j=[(F,pD h e g J k f),(e,aa (ft h t k f) i),(g,iL e),(184,b6 d)]++lows):=Gv w c a b fr F h e g i J d lows k f
theorem Gw(w:Lj)(c a b:Bool)(fr:List Env)(i t s:Nat)(d:Option Nat)(lows:Mem)(k:E7)(f:Fm) :
  ak (wT w c) a b fr 8 (bw 189 [sv (iJ k f) t,.ref i,sv [46] s]) ([(184,b6 d)]++lows) (fun q n=>∃(h e t:Nat)(d:Option Nat),q=.ok (.ret (.ref h))/\n=[(h,aa (ft i t k f) e),(184,b6 d)]++lows):=by
 have L:=fun(fr:List Env)(F h m e:Nat)(J:ab)(d:Option Nat)(lows:Mem)=>AJ w c a b fr F i h m e J d lows k f
 apply lD b k f 0x608084040810204203060a183000c003060c1430600180060c182860c003000c18005001428500000000400002040c000060c1800600182040800204081020400001;intro V N T u p j st
 apply q8 b k f;intro o;apply L ([(aH N)]++fr) N (N + 1) (N + 2) 0 (ae (o 1)) d lows;k_mem;intro V V v x l;refine gz (fun J r e g l=>?_) l;apply iq l;refine ⟨_,_,.refl _,fun p=>?_⟩;apply eF b k f 268435585;intro st
 apply rQ b k f [1,3];apply j;intro o τ;refine jJ (N + 1) e r g ⟨?_, ?_⟩;apply rfl;apply rfl;k_mem
noncomputable def IX:L4:=ax bd 16
def gP:L4:=ax (ai IX) 3
def bS:L4:=ax (ai IX) 4
def fx:L4:=ax (ai bS) 5
def aq(F:Nat):Env:=⟨bY IX,F,3,[],⟨#[95,106,111,105,110,95,116,114,97,110,115,108,97,116,101,100,95,112,97,114,116,115,46,60,108,111,99,97,108,115,62,46]⟩,Ld 196,.ref 195,Ld F,0⟩
def dm(s:L4):Lg:=sx s 0
def IY(e:Lg):Lg:=ex e 0
def yT(s:L4):Lg:=sx s 0
def pL:List L4:=match ai bS with
 | _::r=>r
 | []=>[]
noncomputable abbrev ui(b d c a:Nat)(n i:Int)(J:ab):List (LN × Lc):=[([105,110,112],.ref b),([83,84,65,82],.ref d),([114,101,115],.ref c),(lz,.ref a),([110],.int n (J.t 4)),([105],.int i (J.t 5))]
noncomputable abbrev fy(b d c a:Nat)(n i:Int)(v:Lc)(J:ab):List (LN × Lc):=[([105,110,112],.ref b),([83,84,65,82],.ref d),([114,101,115],.ref c),(lz,.ref a),([110],.int n (J.t 4)),([105],.int i (J.t 5)),([102,105,120,101,100],v)]
noncomputable def nF:Fm->Int
 | .a=>2 | .b=>2 | .c=>3
noncomputable def rC:Fm->Int
 | .a=>1 | .b=>0 | .c=>0
def AK(k:E7)(t:Nat):Fm->LV
 | .a=>[sv (fR k) t]
 | _=>[]
def IZ(e g f d:Nat)(v:Lc)(J:ab):Fm->Obj
 | .a=>aJ (ui e g f d 2 2 J) J
 | .b=>aJ (fy e g f d 2 2 v J) J
 | .c=>aJ (fy e g f d 3 3 v J) J
noncomputable def Cn:E7->Fm->LN
 | .z0,.a=>[34]
 | .z0,.b=>[46,42]
 | .z0,.c=>[40,63,62,46,42,63,34,41]
 | .z1,.a=>[92,92]
 | .z1,.b=>[46,42]
 | .z1,.c=>[40,63,62,46,42,63,92,92,41]
 | .z2,.a=>[92,91]
 | .z2,.b=>[46,42]
 | .z2,.c=>[40,63,62,46,42,63,92,91,41]
 | .z3,.a=>[91,34,93]
 | .z3,.b=>[46,42]
 | .z3,.c=>[40,63,62,46,42,63,91,34,93,41]
 | .z4,.a=>[91,92,92,93]
 | .z4,.b=>[46,42]
 | .z4,.c=>[40,63,62,46,42,63,91,92,92,93,41]
 | .z5,.a=>jN
 | .z5,.b=>[46,42]
 | .z5,.c=>[40,63,62,46,42,63,91,42,93,41]
 | .z6,.a=>[91,92,91,93]
 | .z6,.b=>[46,42]
 | .z6,.c=>[40,63,62,46,42,63,91,92,91,93,41]
noncomputable def K1:E7->Fm->LN
 | .z0,.a=>[46,42]
 | .z0,.b=>[34]
 | .z0,.c=>[46,42]
 | .z1,.a=>[46,42]
 | .z1,.b=>[92,92]
 | .z1,.c=>[46,42]
 | .z2,.a=>[46,42]
 | .z2,.b=>[92,91]
 | .z2,.c=>[46,42]
 | .z3,.a=>[46,42]
 | .z3,.b=>[91,34,93]
 | .z3,.c=>[46,42]
 | .z4,.a=>[46,42]
 | .z4,.b=>[91,92,92,93]
 | .z4,.c=>[46,42]
 | .z5,.a=>[46,42]
 | .z5,.b=>jN
 | .z5,.c=>[46,42]
 | .z6,.a=>[46,42]
 | .z6,.b=>[91,92,91,93]
 | .z6,.c=>[46,42]
noncomputable def Co:E7->Fm->LN
 | .z0,.a=>[40,63,115,58,34,46,42,41,92,90]
 | .z0,.b=>[40,63,115,58,46,42,34,41,92,90]
 | .z0,.c=>[40,63,115,58,40,63,62,46,42,63,34,41,46,42,41,92,90]
 | .z1,.a=>[40,63,115,58,92,92,46,42,41,92,90]
 | .z1,.b=>[40,63,115,58,46,42,92,92,41,92,90]
 | .z1,.c=>[40,63,115,58,40,63,62,46,42,63,92,92,41,46,42,41,92,90]
 | .z2,.a=>[40,63,115,58,92,91,46,42,41,92,90]
 | .z2,.b=>[40,63,115,58,46,42,92,91,41,92,90]
 | .z2,.c=>[40,63,115,58,40,63,62,46,42,63,92,91,41,46,42,41,92,90]
 | .z3,.a=>[40,63,115,58,91,34,93,46,42,41,92,90]
 | .z3,.b=>[40,63,115,58,46,42,91,34,93,41,92,90]
 | .z3,.c=>[40,63,115,58,40,63,62,46,42,63,91,34,93,41,46,42,41,92,90]
 | .z4,.a=>[40,63,115,58,91,92,92,93,46,42,41,92,90]
 | .z4,.b=>[40,63,115,58,46,42,91,92,92,93,41,92,90]
 | .z4,.c=>[40,63,115,58,40,63,62,46,42,63,91,92,92,93,41,46,42,41,92,90]
 | .z5,.a=>[40,63,115,58,91,42,93,46,42,41,92,90]
 | .z5,.b=>[40,63,115,58,46,42,91,42,93,41,92,90]
 | .z5,.c=>[40,63,115,58,40,63,62,46,42,63,91,42,93,41,46,42,41,92,90]
 | .z6,.a=>[40,63,115,58,91,92,91,93,46,42,41,92,90]
 | .z6,.b=>[40,63,115,58,46,42,91,92,91,93,41,92,90]
 | .z6,.c=>[40,63,115,58,40,63,62,46,42,63,91,92,91,93,41,46,42,41,92,90]
theorem yU(f:Fm):0<=rC f:=by cases f<;>decide
theorem yV(f:Fm):rC f < 100000:=by cases f<;>decide
theorem yW(a t:Nat)(k:E7)(f:Fm):(ft a t k f)[(rC f).toNat]? = Ld (.ref a):=by cases k<;>cases f<;>rfl
theorem HC{is:LN}{st:Bool->E7->Fm->an}{v:Bool->E7->Fm->br}(h:(aK fun a=>fF fun b=>f6 fun c=>aR is (st a b c))=aM fun a=>fG fun b=>f7 fun c=>(v a b c,aj (st a b c))):∀(a:Bool)(b:E7)(c:Fm),aR is (st a b c)=(v a b c,aj (st a b c)):=fun a b c=>gx (fW (aS h a) b) c
theorem HD{is:LN}{st:Bool->E7->an}{v:Bool->E7->br}(h:(aK fun a=>fF fun b=>aR is (st a b))=aM fun a=>fG fun b=>(v a b,aj (st a b))):∀(a:Bool)(b:E7),aR is (st a b)=(v a b,aj (st a b)):=fun a b=>fW (aS h a) b
theorem HE{is:LN}{st:Bool->Bool->E7->an}{v:Bool->Bool->E7->br}(h:(aK fun a=>aK fun b=>fF fun c=>aR is (st a b c))=aM fun a=>aM fun b=>fG fun c=>(v a b c,aj (st a b c))):∀(a:Bool)(b:Bool)(c:E7),aR is (st a b c)=(v a b c,aj (st a b c)):=fun a b c=>fW (aS (aS h a) b) c
theorem Gx{is:LN}{st:Bool->Bool->E7->Fm->an}{v:Bool->Bool->E7->Fm->br}(h:(aK fun a=>aK fun b=>fF fun c=>f6 fun d=>aR is (st a b c d))=aM fun a=>aM fun b=>fG fun c=>f7 fun d=>(v a b c d,aj (st a b c d))):∀(a:Bool)(b:Bool)(c:E7)(d:Fm),aR is (st a b c d)=(v a b c d,aj (st a b c d)):=fun a b c d=>gx (fW (aS (aS h a) b) c) d
abbrev jy (x0 x1 x2 x3 x4 x5 x6 x7 x8 x9):=([(x0,aJ (ui x1 x2 x3 x4 (nF x5) (rC x5)  x6) x6),(x1,aa (ft x2 x7 x8 x5) x9)] : Mem)
section
variable(w:Lj)(a b:Bool)(fr:List Env)(F g d h i:Nat)
include w a b fr F g d h i
section
variable(k:E7)(f:Fm)(t e:Nat)(J:ab)(lows:Mem)
include k f t e J lows
theorem AL :
  dh w a b fr 5 (ag gP (aq F)) (Ap (IY (dm gP)) (aq F)) ((jy F g d h i f J t k e)++lows) (d6 (.ret (.bool Lh)) (jy F g d h i f J t k e) lows):=by
 apply yq b k f 129;intro V N T j l c st
 apply rQ b k f [0,1];apply c;intro o τ;refine ⟨?_, ?_⟩;apply rfl;apply rfl;k_mem
theorem AM :
  dh w a b fr 5 (ag gP (aq F)) (gM (dy (uP (dm gP))) (aq F)) ((jy F g d h i f J t k e)++lows) (d6 (.ret (.ref d)) (jy F g d h i f J t k e) lows):=by
 have j:0<=rC f:=yU f
 have r:rC f < 100000:=yV f
 have l:(ft d t k f)[(rC f).toNat]? = Ld (.ref d):=yW d t k f
 apply yq b k f 0x8104080020408081;intro V N T m q c st
 apply jD b k f;intro o;apply aF w a b g (ft d t k f) e (rC f) (J.t 5) (.ref d) ‹_› ‹_› l;k_mem;intro V V V n p j V;apply dX j;apply eF b k f 0;intro st
 apply rQ b k f [0,1];apply c;intro o τ;refine ⟨?_, ?_⟩;apply rfl;apply rfl;k_mem
theorem AN :
  dh w a b fr 5 (ag gP (aq F)) (gM (bP (uP (dm gP))) (aq F)) ((jy F g d h i f J t k e)++lows) (d6 (.ret (.ref d)) (jy F g d h i f J t k e) lows):=by
 apply yq b k f 1;intro V N T j l c st
 apply rQ b k f [0,1];apply c;intro o τ;refine ⟨?_, ?_⟩;apply rfl;apply rfl;k_mem
theorem AO :
  dh w a b fr 5 (ag bS (aq F)) (Ap (dm bS) (aq F)) ((jy F g d h i f J t k e)++lows) (d6 (.ret (.bool Lh)) (jy F g d h i f J t k e) lows):=by
 apply yq b k f 129;intro V N T j l c st
 apply rQ b k f [0,1];apply c;intro o τ;refine ⟨?_, ?_⟩;apply rfl;apply rfl;k_mem
theorem AP :
  dh w a b fr 5 (ag bS (aq F)) (gM (dy (yT (ax (ai bS) 0))) (aq F)) ((jy F g d h i f J t k e)++lows) (d6 (.ret (.ref d)) (jy F g d h i f J t k e) lows):=by
 have j:0<=rC f:=yU f
 have r:rC f < 100000:=yV f
 have l:(ft d t k f)[(rC f).toNat]? = Ld (.ref d):=yW d t k f
 apply yq b k f 0x8104080020408081;intro V N T m q c st
 apply jD b k f;intro o;apply aF w a b g (ft d t k f) e (rC f) (J.t 5) (.ref d) ‹_› ‹_› l;k_mem;intro V V V n p j V;apply dX j;apply eF b k f 0;intro st
 apply rQ b k f [0,1];apply c;intro o τ;refine ⟨?_, ?_⟩;apply rfl;apply rfl;k_mem
theorem AQ :
  dh w a b fr 5 (ag bS (aq F)) (gM (bP (yT (ax (ai bS) 0))) (aq F)) ((jy F g d h i f J t k e)++lows) (d6 (.ret (.ref d)) (jy F g d h i f J t k e) lows):=by
 apply yq b k f 1;intro V N T j l c st
 apply rQ b k f [0,1];apply c;intro o τ;refine ⟨?_, ?_⟩;apply rfl;apply rfl;k_mem
end
abbrev jz (x0 x1 x2 x3 x4 x5 x6 x7 x8 x9):=([(x0,aJ (fy x1 x2 x3 x4 3 2 x5 x6) x6),(x1,aa (ft x2 x7 x8 .c) x9)] : Mem)
section
variable(k:E7)(t e:Nat)(v:Lc)(J:ab)(lows:Mem)
include k t e v J lows
theorem AR :
  dh w a b fr 5 (ag fx (aq F)) (Ap (IY (dm fx)) (aq F)) ((jz F g d h i v J t k e)++lows) (d6 (.ret (.bool Lh)) (jz F g d h i v J t k e) lows):=by
 apply vl b k 129;intro V N T f j c st
 apply lh b k [0,1];apply c;intro o τ;refine ⟨?_, ?_⟩;apply rfl;apply rfl;k_mem
theorem AS :
  dh w a b fr 5 (ag fx (aq F)) (gM (dy (uP (dm fx))) (aq F)) ((jz F g d h i v J t k e)++lows) (d6 (.ret (.ref d)) (jz F g d h i v J t k e) lows):=by
 have j:(ft d t k .c)[(2:Int).toNat]? = Ld (.ref d):=rfl
 apply vl b k 0x8104080020408081;intro V N T l p f st
 apply bo b k 0;intro o;apply aF w a b g (ft d t k Fm.c) e 2 (J.t 5) (.ref d) (by kd_p) (by kd_p) j;k_all;intro m n st
 apply lh b k [0,1];apply f;intro o τ;refine ⟨?_, ?_⟩;apply rfl;apply rfl;k_mem
theorem AT :
  dh w a b fr 5 (ag fx (aq F)) (gM (bP (uP (dm fx))) (aq F)) ((jz F g d h i v J t k e)++lows) (d6 (.ret (.ref d)) (jz F g d h i v J t k e) lows):=by
 apply vl b k 1;intro V N T f j c st
 apply lh b k [0,1];apply c;intro o τ;refine ⟨?_, ?_⟩;apply rfl;apply rfl;k_mem
theorem AU :
  dh w a b fr 5 (ag bS (aq F)) (Ap (dm bS) (aq F)) ((jz F g d h i v J t k e)++lows) (d6 (.ret (.bool Lh)) (jz F g d h i v J t k e) lows):=by
 apply vl b k 129;intro V N T f j c st
 apply lh b k [0,1];apply c;intro o τ;refine ⟨?_, ?_⟩;apply rfl;apply rfl;k_mem
theorem AW :
  dh w a b fr 5 (ag bS (aq F)) (gM (dy (yT (ax (ai bS) 0))) (aq F)) ((jz F g d h i v J t k e)++lows) (d6 (.ret (.ref d)) (jz F g d h i v J t k e) lows):=by
 have j:(ft d t k .c)[(2:Int).toNat]? = Ld (.ref d):=rfl
 apply vl b k 0x8104080020408081;intro V N T l p f st
 apply bo b k 0;intro o;apply aF w a b g (ft d t k Fm.c) e 2 (J.t 5) (.ref d) (by kd_p) (by kd_p) j;k_all;intro m n st
 apply lh b k [0,1];apply f;intro o τ;refine ⟨?_, ?_⟩;apply rfl;apply rfl;k_mem
theorem AX :
  dh w a b fr 5 (ag bS (aq F)) (gM (bP (yT (ax (ai bS) 0))) (aq F)) ((jz F g d h i v J t k e)++lows) (d6 (.ret (.ref d)) (jz F g d h i v J t k e) lows):=by
 apply vl b k 1;intro V N T f j c st
 apply lh b k [0,1];apply c;intro o τ;refine ⟨?_, ?_⟩;apply rfl;apply rfl;k_mem
end
abbrev gt (x0 x1 x2 x3 x4 x5 x6 x7 x8 x9 x10 x11 x12):=([(x0,aJ x1 x2),(x3,aa (ft x4 x5 x6 x7) x8),(x9,aa x10 x11),(x12,iL x9)] : Mem)
theorem AY(k:E7)(t e f:Nat)(J:ab)(lows:Mem)(c:Lm->Mem->Prop)(IH:∀(J:ab)(f:Nat),ak w a b fr 6 (ag gP (aq F)) ((gt F (ui g d h i 2 1  J) J g d t k .a e h ([sv (fR k) t]) f i)++lows) c) :
  ak w a b fr 6 (ag gP (aq F)) ((gt F (ui g d h i 2 0  J) J g d t k .a e h ([]) f i)++lows) c:=by
 apply eY b k 0x4082040010204040800004080;intro V N T l r j st
 apply bo b k 0x20410200081020204081;intro o;apply aF w a b g (ft d t k Fm.a) e 0 (J.t 5) (sv (fR k) t) (by kd_p) (by kd_p) rfl;k_all;intro m p st
 apply bo b k 0x604080000418306001830610004;intro o;apply aF w a b g (ft d t k Fm.a) e 0 (J.t 5) (sv (fR k) t) (by kd_p) (by kd_p) rfl;k_all;intro n q st
 apply gT b k [0,1,2,3];apply j;intro o;apply IH (ae (o 0)) (f + 1);k_mem
abbrev rD (x0 x1 x2 x3 x4 x5 x6 x7 x8 x9 x10 x11 x12):=[(ay x0 (fy x1 x2 x3 x4 x5 2 (.ref x6) x7) x7),(x1,aa (ft x2 x8 x9 x10) x11),(x6,aa [sv (fR x9) x8] x12)]
section
variable(l:Nat)(k:E7)(t e j:Nat)(J:ab)(lows:Mem)(f:Lm->Mem->Prop)
include l k t e j J lows f
theorem xo(IH:∀(J:ab)(j:Nat),ak w a b fr 6 (ag fx (aq F)) ((rD F g d h i 2 l J t k .b e j)++lows) f) :
  ak w a b fr 6 (ag fx (aq F)) ([(ay F (fy g d h i 2 1 (.ref l) J) J),(g,aa (ft d t k .b) e),(l,aa [] j)]++lows) f:=by
 apply eY b k 0x4082040010204040800004080;intro V N T m s c st
 apply bo b k 0x20410200081020204183060c081;intro o;apply aF w a b g (ft d t k Fm.b) e 1 (J.t 5) (sv (fR k) t) (by kd_p) (by kd_p) rfl;k_all;intro n q st
 apply bo b k 0x60408000041830600180;intro o;apply aF w a b g (ft d t k Fm.b) e 1 (J.t 5) (sv (fR k) t) (by kd_p) (by kd_p) rfl;k_all;intro p r st
 apply gT b k [0,1,2];apply c;intro o;apply IH (ae (o 0)) (j + 1);k_mem
theorem xp(IH:∀(J:ab)(j:Nat),ak w a b fr 6 (ag fx (aq F)) ((rD F g d h i 3 l J t k .c e j)++lows) f) :
  ak w a b fr 6 (ag fx (aq F)) ([(ay F (fy g d h i 3 1 (.ref l) J) J),(g,aa (ft d t k .c) e),(l,aa [] j)]++lows) f:=by
 apply eY b k 0x4082040010204040800004080;intro V N T n u m st
 apply bo b k 0x20410200081020204183060c081;intro o;apply aF w a b g (ft d t k Fm.c) e 1 (J.t 5) (sv (fR k) t) (by kd_p) (by kd_p) rfl;k_all;intro p r st
 apply bo b k 0x60408000041830600180;intro o;apply aF w a b g (ft d t k Fm.c) e 1 (J.t 5) (sv (fR k) t) (by kd_p) (by kd_p) rfl;k_all;intro q s st
 apply gT b k [0,1,2];apply m;intro o;apply IH (ae (o 0)) (j + 1);k_mem
end
theorem xq(v:Lc)(J:ab)(lows:Mem) :
  ak w a b fr 6 (ag fx (aq F)) ([(ay F (fy g d h i 2 2 v J) J)]++lows) (d6 .next [(ay F (fy g d h i 2 2 v J) J)] lows):=by
 apply cW b 16512;intro V N T e f c st
 apply b4 b [0];apply c;intro o τ;refine ⟨?_, ?_⟩;apply rfl;apply rfl;k_mem
theorem xr(v:Lc)(J:ab)(lows:Mem) :
  ak w a b fr 9 (ag bS (aq F)) ([(ay F (fy g d h i 2 2 v J) J)]++lows) (d6 .next [(ay F (fy g d h i 2 2 v J) J)] lows):=by
 apply cW b 16512;intro V N T e f c st
 apply b4 b [0];apply c;intro o τ;refine ⟨?_, ?_⟩;apply rfl;apply rfl;k_mem
end
noncomputable def qF(e:Lg):Pos:=(ym e).p
noncomputable def Gy(s:L4):Option Lg:=(uN s).es[1]?
noncomputable def Gz:L4->Pos
 | .Assert _ _ p=>p
 | _=>default
abbrev GA (x0):=[IY (dm x0),.Compare (dy (uP (dm x0))) [.IsNot] [bP (uP (dm x0))] (dQ (uP (dm x0)))]
theorem xu(F:Nat):ag gP (aq F)=.whileLoop (.BoolOp .And (GA gP) (qF (dm gP))) (ai gP) [] (aq F):=by kernel_rfl
theorem AZ:Mo .IsNot (bP (uP (dm gP)))=Li:=by kernel_rfl
theorem xw(F:Nat):ag fx (aq F)=.whileLoop (.BoolOp .And (GA fx) (qF (dm fx))) (ai fx) [] (aq F):=by kernel_rfl
theorem A1:Mo .IsNot (bP (uP (dm fx)))=Li:=by kernel_rfl
theorem qG(F:Nat):ag bS (aq F)=.whileLoop (dm bS) ([.Assert (.Compare (dy (yT (ax (ai bS) 0))) [.Is] [bP (yT (ax (ai bS) 0))] (dQ (yT (ax (ai bS) 0)))) (Gy (ax (ai bS) 0)) (Gz (ax (ai bS) 0))]++pL) [] (aq F):=by kernel_rfl
theorem uj:Mo .Is (bP (yT (ax (ai bS) 0)))=Li:=by kernel_rfl
section
variable(w:Lj)(a b:Bool)(fr:List Env)(F g d i j:Nat)
include w a b fr F g d i j
theorem pM(k:E7)(f:Fm)(t e:Nat)(J:ab)(lows:Mem) :
  ak w a b fr 6 (ag gP (aq F)) ((jy F g d i j f J t k e)++lows) (fun l c=>l=.ok .next/\c=((jy F g d i j f J t k e)++lows)):=by
 refine gi (post1:=fun b c=>b=Li/\c=((jy F g d i j f J t k e)++lows)) (post2:=fun V V=>False) (post3:=fun n c=>n=.next/\c=((jy F g d i j f J t k e)++lows)) (xu F) ?_ ?_ (fun V V h=>h.elim) ?_ ?_
 .refine dO.and (post1:=fun b c=>b=Lh/\c=((jy F g d i j f J t k e)++lows)) (pos':=default) (dO.tree (bW.weakP (AL w a b fr F g d i j k f t e J lows) (L':=6) (by decide) ?_)) ?_ ?_
  .rintro l c ⟨rfl,rfl⟩
   exact ⟨_,.refl _,_,rfl,rfl,rfl⟩
  .rintro c ⟨h,_⟩
   cases h
  .rintro c ⟨_,rfl⟩
   refine dO.and1 (dO.cmp (post1:=fun x c=>x=.ref d/\c=((jy F g d i j f J t k e)++lows)) AZ (by kernel_rfl) (dW.tree (bW.weakP (AM w a b fr F g d i j k f t e J lows) (L':=6) (by decide) ?_)) ?_)
   .rintro l c ⟨rfl,rfl⟩
    exact ⟨_,.refl _,_,rfl,rfl,rfl⟩
   .rintro x o ⟨rfl,rfl⟩
    refine ⟨fun y m=>y=.ref d/\m=((jy F g d i j f J t k e)++lows),dW.tree (bW.weakP (AN w a b fr F g d i j k f t e J lows) (L':=6) (by decide) ?_), ?_⟩
    .rintro l c ⟨rfl,rfl⟩
     exact ⟨_,.refl _,_,rfl,rfl,rfl⟩
    .rintro y m ⟨rfl,rfl⟩
     exact ⟨Li,f8 d _,rfl,rfl⟩
 .rintro c ⟨h,_⟩
  cases h
 .rintro c ⟨_,rfl⟩
  exact bt.nil
 .rintro f c ⟨rfl,rfl⟩
  exact ⟨rfl,rfl⟩
theorem xx(k:E7)(t e:Nat)(v:Lc)(J:ab)(lows:Mem) :
  ak w a b fr 6 (ag fx (aq F)) ((jz F g d i j v J t k e)++lows) (fun l c=>l=.ok .next/\c=((jz F g d i j v J t k e)++lows)):=by
 refine gi (post1:=fun b c=>b=Li/\c=((jz F g d i j v J t k e)++lows)) (post2:=fun V V=>False) (post3:=fun n c=>n=.next/\c=((jz F g d i j v J t k e)++lows)) (xw F) ?_ ?_ (fun V V h=>h.elim) ?_ ?_
 .refine dO.and (post1:=fun b c=>b=Lh/\c=((jz F g d i j v J t k e)++lows)) (pos':=default) (dO.tree (bW.weakP (AR w a b fr F g d i j k t e v J lows) (L':=6) (by decide) ?_)) ?_ ?_
  .rintro l c ⟨rfl,rfl⟩
   exact ⟨_,.refl _,_,rfl,rfl,rfl⟩
  .rintro c ⟨h,_⟩
   cases h
  .rintro c ⟨_,rfl⟩
   refine dO.and1 (dO.cmp (post1:=fun x c=>x=.ref d/\c=((jz F g d i j v J t k e)++lows)) A1 (by kernel_rfl) (dW.tree (bW.weakP (AS w a b fr F g d i j k t e v J lows) (L':=6) (by decide) ?_)) ?_)
   .rintro l c ⟨rfl,rfl⟩
    exact ⟨_,.refl _,_,rfl,rfl,rfl⟩
   .rintro x o ⟨rfl,rfl⟩
    refine ⟨fun y m=>y=.ref d/\m=((jz F g d i j v J t k e)++lows),dW.tree (bW.weakP (AT w a b fr F g d i j k t e v J lows) (L':=6) (by decide) ?_), ?_⟩
    .rintro l c ⟨rfl,rfl⟩
     exact ⟨_,.refl _,_,rfl,rfl,rfl⟩
    .rintro y m ⟨rfl,rfl⟩
     exact ⟨Li,f8 d _,rfl,rfl⟩
 .rintro c ⟨h,_⟩
  cases h
 .rintro c ⟨_,rfl⟩
  exact bt.nil
 .rintro f c ⟨rfl,rfl⟩
  exact ⟨rfl,rfl⟩
theorem pN(k:E7)(f:Fm)(t e:Nat)(J:ab)(lows:Mem)(post2:Oi->Mem->Prop)(l:Lm->Mem->Prop)(p:bt pw (wd w a b) (kt (wd w a b).params) fr 9 (ag bS (aq F)) (aq F) pL ((jy F g d i j f J t k e)++lows) post2)(o:∀f c,post2 f c->match f with | .next=>ak w a b fr 9 (ag bS (aq F)) c l | .cont=>ak w a b fr 9 (ag bS (aq F)) c l | .brk=>l (.ok .next) c | .ret v=>l (.ok (.ret v)) c) :
  ak w a b fr 9 (ag bS (aq F)) ((jy F g d i j f J t k e)++lows) l:=by
 refine gi (post1:=fun b c=>b=Lh/\c=((jy F g d i j f J t k e)++lows)) (post2:=post2) (post3:=fun V V=>False) (qG F) (dO.tree (bW.weakP (AO w a b fr F g d i j k f t e J lows) (L':=9) (by decide) ?_)) ?_ o ?_ (fun V V h=>h.elim)
 .rintro n c ⟨rfl,rfl⟩
  exact ⟨_,.refl _,_,rfl,rfl,rfl⟩
 .rintro c ⟨_,rfl⟩
  refine bt.append (bt.assert (post1:=fun b c=>b=Lh/\c=((jy F g d i j f J t k e)++lows)) (dO.cmp (post1:=fun x c=>x=.ref d/\c=((jy F g d i j f J t k e)++lows)) uj (by kernel_rfl) (dW.tree (bW.weakP (AP w a b fr F g d i j k f t e J lows) (L':=9) (by decide) ?_)) ?_) ?_) ?_
  .rintro n c ⟨rfl,rfl⟩
   exact ⟨_,.refl _,_,rfl,rfl,rfl⟩
  .rintro x q ⟨rfl,rfl⟩
   refine ⟨fun y m=>y=.ref d/\m=((jy F g d i j f J t k e)++lows),dW.tree (bW.weakP (AQ w a b fr F g d i j k f t e J lows) (L':=9) (by decide) ?_), ?_⟩
   .rintro n c ⟨rfl,rfl⟩
    exact ⟨_,.refl _,_,rfl,rfl,rfl⟩
   .rintro y m ⟨rfl,rfl⟩
    exact ⟨Lh,jh d _,rfl,rfl⟩
  .rintro c ⟨h,_⟩
   cases h
  .rintro f c ⟨rfl,_,rfl⟩
   exact ⟨rfl,p⟩
 .rintro c ⟨h,_⟩
  cases h
theorem A2(k:E7)(t e:Nat)(v:Lc)(J:ab)(lows:Mem)(post2:Oi->Mem->Prop)(l:Lm->Mem->Prop)(p:bt pw (wd w a b) (kt (wd w a b).params) fr 9 (ag bS (aq F)) (aq F) pL ((jz F g d i j v J t k e)++lows) post2)(o:∀f c,post2 f c->match f with | .next=>ak w a b fr 9 (ag bS (aq F)) c l | .cont=>ak w a b fr 9 (ag bS (aq F)) c l | .brk=>l (.ok .next) c | .ret v=>l (.ok (.ret v)) c) :
  ak w a b fr 9 (ag bS (aq F)) ((jz F g d i j v J t k e)++lows) l:=by
 refine gi (post1:=fun b c=>b=Lh/\c=((jz F g d i j v J t k e)++lows)) (post2:=post2) (post3:=fun V V=>False) (qG F) (dO.tree (bW.weakP (AU w a b fr F g d i j k t e v J lows) (L':=9) (by decide) ?_)) ?_ o ?_ (fun V V h=>h.elim)
 .rintro n c ⟨rfl,rfl⟩
  exact ⟨_,.refl _,_,rfl,rfl,rfl⟩
 .rintro c ⟨_,rfl⟩
  refine bt.append (bt.assert (post1:=fun b c=>b=Lh/\c=((jz F g d i j v J t k e)++lows)) (dO.cmp (post1:=fun x c=>x=.ref d/\c=((jz F g d i j v J t k e)++lows)) uj (by kernel_rfl) (dW.tree (bW.weakP (AW w a b fr F g d i j k t e v J lows) (L':=9) (by decide) ?_)) ?_) ?_) ?_
  .rintro n c ⟨rfl,rfl⟩
   exact ⟨_,.refl _,_,rfl,rfl,rfl⟩
  .rintro x q ⟨rfl,rfl⟩
   refine ⟨fun y m=>y=.ref d/\m=((jz F g d i j v J t k e)++lows),dW.tree (bW.weakP (AX w a b fr F g d i j k t e v J lows) (L':=9) (by decide) ?_), ?_⟩
   .rintro n c ⟨rfl,rfl⟩
    exact ⟨_,.refl _,_,rfl,rfl,rfl⟩
   .rintro y m ⟨rfl,rfl⟩
    exact ⟨Lh,jh d _,rfl,rfl⟩
  .rintro c ⟨h,_⟩
   cases h
  .rintro f c ⟨rfl,_,rfl⟩
   exact ⟨rfl,p⟩
 .rintro c ⟨h,_⟩
  cases h
theorem A3(f:Nat)(k:E7)(t e c:Nat)(J:ab)(lows:Mem) :
  ak w a b fr 6 (ag fx (aq F)) ([(ay F (fy g d i j 2 1 (.ref f) J) J),(g,aa (ft d t k .b) e),(f,aa [] c)]++lows) (fun m l=>∃(J:ab)(c:Nat),m=.ok .next/\l=(rD F g d i j 2 f J t k .b e c)++lows):=by
 refine aO.weak (L:=6) (xo w a b fr F g d i j f k t e c J lows _ fun J c=>aO.weak (xq w a b fr F g d i j (.ref f) J ((g,aa (ft d t k .b) e)::(f,aa [sv (fR k) t] c)::lows)) (Lf _) (post':=fun m l=>∃(J:ab)(c:Nat),m=.ok .next/\l=(rD F g d i j 2 f J t k .b e c)++lows) ?_) (by decide) fun r l h=>⟨_,.refl _,h⟩
 rintro m l ⟨rfl,rfl⟩
 exact ⟨_,.refl _,J,c,rfl,rfl⟩
theorem A4(l:Nat)(k:E7)(t e f:Nat)(J:ab)(lows:Mem) :
  ak w a b fr 6 (ag fx (aq F)) ([(ay F (fy g d i j 3 1 (.ref l) J) J),(g,aa (ft d t k .c) e),(l,aa [] f)]++lows) (fun n m=>∃(J:ab)(f:Nat),n=.ok .next/\m=(rD F g d i j 3 l J t k .c e f)++lows):=by
 refine aO.weak (L:=6) (xp w a b fr F g d i j l k t e f J lows _ fun J f=>aO.weak (xx w a b fr F g d i j k t e (.ref l) J ((l,aa [sv (fR k) t] f)::lows)) (by decide) (post':=fun n m=>∃(J:ab)(f:Nat),n=.ok .next/\m=(rD F g d i j 3 l J t k .c e f)++lows) ?_) (by decide) fun r m h=>⟨_,.refl _,h⟩
 rintro n m ⟨rfl,rfl⟩
 exact ⟨_,.refl _,J,f,rfl,rfl⟩
end
theorem A5(w:Lj)(a b:Bool)(fr:List Env)(F d c g f:Nat)(k:E7)(t e r:Nat)(J:ab)(lows:Mem) :
  dh w a b fr 8 (ag bS (aq F)) (eU pL (aq F)) ((gt F (ui d c g f 2 0  J) J d c t k .b e g ([]) r f)++lows) (fun u m=>∃(J h:ab),u=.ok .next/\m=(gt F (fy d c g f 2 2 (sv (fR k) (J.t 6)) J) J d c t k .b e g [sv [46,42] (h.t 0),sv (fR k) (h.t 1)] h.e f)++lows):=by
 have I:=fun(fr:List Env)(n l:Nat)(J:ab)(lows:Mem)=>A3 w a b fr F d c g f n k t e l J lows
 have s:(ft c t k .b)[(1:Int).toNat]? = Ld (sv (fR k) t):=rfl
 apply vl b k 0x40820400102040408000040810200001;intro V N T v q i st
 apply bo b k 0x8040030404081;intro o;apply aF w a b d (ft c t k Fm.b) e 1 (T + 1) (sv (fR k) t) (by kd_p) (by kd_p) s;k_all;intro p z st
 apply vj b k;intro o;apply I fr p 0 (ae (o 0)) lows;k_mem;intro V V y A j;refine d9 (fun x l j=>?_) j;apply iq j;refine ⟨_,_,.refl _,fun q=>?_⟩;apply na b k 0x20408002040814005020420408002040814005020000102040830600001;intro st
 apply lh b k [0,1,3,4];apply i;intro o τ;refine jm (ae (o 0)) (ae (o 3)) ⟨?_, ?_⟩;apply rfl;apply rfl;k_mem
theorem A6(w:Lj)(c a b:Bool)(fr:List Env)(F f d h g:Nat)(k:E7)(t e s:Nat)(J:ab)(lows:Mem) :
  dh (wT w c) a b fr 8 (ag bS (aq F)) (eU pL (aq F)) ((gt F (ui f d h g 3 0  J) J f d t k .c e h ([]) s g)++lows) (fun v n=>∃(J l:ab),v=.ok .next/\n=(gt F (fy f d h g 3 2 (sv (fR k) (J.t 6)) J) J f d t k .c e h [sv (Cn k .c) (l.t 0)] l.e g)++lows):=by
 have I:=fun(fr:List Env)(p m:Nat)(J:ab)(lows:Mem)=>A4 (wT w c) a b fr F f d h g p k t e m J lows
 have u:(ft d t k .c)[(1:Int).toNat]? = Ld (sv (fR k) t):=rfl
 apply yq c b k 0x40820400102040408000040810200001;intro V N T x r j st
 apply jD c b k;intro o;apply aF (wT w c) a b f (ft d t k Fm.c) e 1 (T + 1) (sv (fR k) t) (by kd_p) (by kd_p) u;k_mem;intro V V V q A i V;apply dX i;apply eF c b k 0x8040030404081;intro st
 apply q8 c b k;intro o;apply I fr q 0 (ae (o 0)) lows;k_mem;intro V V z B i;refine d9 (fun y m i=>?_) i;apply iq i;refine ⟨_,_,.refl _,fun r=>?_⟩;apply eF c b k 0x1020400102040a00281020000102040830600001;intro st
 apply rQ c b k [0,1,3,4];apply j;intro o τ;refine jm (ae (o 0)) (ae (o 3)) ⟨?_, ?_⟩;apply rfl;apply rfl;k_mem
section
variable(w:Lj)(a b:Bool)(fr:List Env)(F h f d g:Nat)(k:E7)(t e:Nat)
include w a b fr F h f d g k t e
theorem A7(l:Nat)(J:ab)(lows:Mem) :
  dh w a b fr 8 (ag bS (aq F)) (eU pL (aq F)) ((gt F (ui h f d g 2 1  J) J h f t k .a e d ([sv (fR k) t]) l g)++lows) (fun m j=>∃(J c:ab),m=.ok .brk/\j=(gt F (ui h f d g 2 2  J) J h f t k .a e d [sv (fR k) (c.t 0),sv [46,42] (c.t 1)] c.e g)++lows):=by
 apply vl b k 0x60c180060c184001008000040810200001;intro V N T n p i st
 apply lh b k [0,1,2,3];apply i;intro o τ;refine jm (ae (o 0)) (ae (o 2)) ⟨?_, ?_⟩;apply rfl;apply rfl;k_mem
theorem A8(v:Lc)(x:LN)(l J:ab)(lows:Mem) :
  dh w a b fr 8 (ag bS (aq F)) (eU pL (aq F)) ((gt F (fy h f d g 3 2 v J) J h f t k .c e d [sv x (l.t 0)] l.e g)++lows) (fun n m=>∃(J i:ab),n=.ok .brk/\m=(gt F (fy h f d g 3 3 v J) J h f t k .c e d [sv x (i.t 0),sv [46,42] (i.t 1)] i.e g)++lows):=by
 apply fU b 0x60c180060c184001008000040810200001;intro V N T p q j st
 apply b4 b [0,1,2,3];apply j;intro o τ;refine jm (ae (o 0)) (ae (o 2)) ⟨?_, ?_⟩;apply rfl;apply rfl;k_mem
end
abbrev uk (x0 x1 x2 x3 x4 x5 x6 x7 x8 x9 x10):=gt x0 (ui x1 x2 x3 x4 (nF x5) (rC x5) x6) x6 x1 x2 x7 x8 x5 x9 x3 (AK x8 x7 x5) x10 x4
section
variable(w:Lj)(a b:Bool)(fr:List Env)(F i h d g:Nat)(k:E7)
include w a b fr F i h d g k
theorem GB(f:Fm)(t e j:Nat)(J:ab)(lows:Mem) :
  ak w a b fr 6 (ag gP (aq F)) ((gt F (ui i h d g (nF f) 0 J) J i h t k f e d [] j g)++lows) (fun m l=>∃(J:ab)(j:Nat),m=.ok .next/\l=(uk F i h d g f J t k e j)++lows):=
 match f with
 | .a=>AY w a b fr F i h d g k t e j J lows _ fun J j=>aO.weak (pM w a b fr F i h d g k .a t e J ((d,aa (AK k t .a) j)::(g,iL d)::lows)) (Lf _) fun m l q=>by
   obtain ⟨rfl,rfl⟩:=q
   exact ⟨_,.refl _,J,j,rfl,rfl⟩
 | .b=>aO.weak (pM w a b fr F i h d g k .b t e J ((d,aa (AK k t .b) j)::(g,iL d)::lows)) (Lf _) fun m l q=>by
   obtain ⟨rfl,rfl⟩:=q
   exact ⟨_,.refl _,J,j,rfl,rfl⟩
 | .c=>aO.weak (pM w a b fr F i h d g k .c t e J ((d,aa (AK k t .c) j)::(g,iL d)::lows)) (Lf _) fun m l q=>by
   obtain ⟨rfl,rfl⟩:=q
   exact ⟨_,.refl _,J,j,rfl,rfl⟩
abbrev xy (x0 x1 x2 x3 x4 x5 x6 x7 x8 x9):=(fun c b=>∃(v:Lc)(J a:ab),c=.ok .next/\b=[(x0,IZ x1 x2 x3 x4 v J x5),(x1,aa (ft x2 x6 x7 x5) x8),(x3,aa [sv (Cn x7 x5) (a.t 0),sv (K1 x7 x5) (a.t 1)] a.e),(x4,iL x3)]++x9:Lm->Mem->Prop)
theorem A9(t e j:Nat)(J:ab)(lows:Mem) :
  ak w a b fr 9 (ag bS (aq F)) ((uk F i h d g .a J t k e j)++lows) (xy F i h d g .a t k e lows):=by
 refine pN w a b fr F i h d g k .a t e J ((d,aa (AK k t .a) j)::(g,iL d)::lows) (fun n f=>∃(J c:ab),n=.brk/\f=(gt F (ui i h d g 2 2  J) J i h t k .a e d [sv (fR k) (c.t 0),sv [46,42] (c.t 1)] c.e g)++lows) _ (bt.tree (bW.weakP (A7 w a b fr F i h d g k t e j J lows) (by decide) ?_)) ?_
 .intro o f m;refine d9 (fun J c l=>?_) m;apply kW l
  exact ⟨_,.refl _,_,rfl,J,c,rfl,rfl⟩
 .intro n f m;refine d9 (fun J c l=>?_) m;apply kW l
  refine (gB .none J c ⟨rfl, ?_⟩)
  cases k<;>rfl
theorem Ba(t e j:Nat)(J:ab)(lows:Mem) :
  ak w a b fr 9 (ag bS (aq F)) ((uk F i h d g .b J t k e j)++lows) (xy F i h d g .b t k e lows):=by
 refine pN w a b fr F i h d g k .b t e J ((d,aa (AK k t .b) j)::(g,iL d)::lows) (fun l f=>∃(J c:ab),l=.next/\f=(gt F (fy i h d g 2 2 (sv (fR k) (J.t 6)) J) J i h t k .b e d [sv [46,42] (c.t 0),sv (fR k) (c.t 1)] c.e g)++lows) _ (bt.tree (bW.weakP (A5 w a b fr F i h d g k t e j J lows) (by decide) ?_)) ?_
 .rintro m f ⟨J,c,rfl,rfl⟩
  exact ⟨_,.refl _,_,rfl,J,c,rfl,rfl⟩
 .rintro l f ⟨J,c,rfl,rfl⟩
  refine aO.weak (xr w a b fr F i h d g (sv (fR k) (J.t 6)) J ((i,aa (ft h t k .b) e)::(d,aa [sv [46,42] (c.t 0),sv (fR k) (c.t 1)] c.e)::(g,iL d)::lows)) (Lf _) fun m f q=>?_
  obtain ⟨rfl,rfl⟩:=q
  refine ⟨_,.refl _,sv (fR k) (J.t 6),J,c,rfl, ?_⟩
  cases k<;>rfl
end
theorem Bb(w:Lj)(c a b:Bool)(fr:List Env)(F h i f g:Nat)(k:E7)(t e n:Nat)(J:ab)(lows:Mem) :
  ak (wT w c) a b fr 9 (ag bS (aq F)) ((uk F h i f g .c J t k e n)++lows) (xy F h i f g .c t k e lows):=by
 refine pN (wT w c) a b fr F h i f g k .c t e J ((f,aa (AK k t .c) n)::(g,iL f)::lows) (fun l j=>∃(J d:ab),l=.next/\j=(gt F (fy h i f g 3 2 (sv (fR k) (J.t 6)) J) J h i t k .c e f [sv (Cn k .c) (d.t 0)] d.e g)++lows) _ (bt.tree (bW.weakP (A6 w c a b fr F h i f g k t e n J lows) (by decide) ?_)) ?_
 .rintro o j ⟨J,d,rfl,rfl⟩
  exact ⟨_,.refl _,_,rfl,J,d,rfl,rfl⟩
 .rintro l j ⟨J,d,rfl,rfl⟩
  refine A2 (wT w c) a b fr F h i f g k t e (sv (fR k) (J.t 6)) J ((f,aa [sv (Cn k .c) (d.t 0)] d.e)::(g,iL f)::lows) (fun l j=>∃(m d:ab),l=.brk/\j=(gt F (fy h i f g 3 3 (sv (fR k) (J.t 6)) m) m h i t k .c e f [sv (Cn k .c) (d.t 0),sv [46,42] (d.t 1)] d.e g)++lows) _ (bt.tree (bW.weakP (A8 (wT w c) a b fr F h i f g k t e (sv (fR k) (J.t 6)) (Cn k .c) d J lows) (by decide) ?_)) ?_
  .rintro o j ⟨J,d,rfl,rfl⟩
   exact ⟨_,.refl _,_,rfl,J,d,rfl,rfl⟩
  .rintro l j ⟨m,d,rfl,rfl⟩
   refine ⟨sv (fR k) (J.t 6),m,d,rfl, ?_⟩
   cases k<;>rfl
theorem GC(w:Lj)(c a b:Bool)(fr:List Env)(F g i h d:Nat)(k:E7)(f:Fm)(t e j:Nat)(J:ab)(lows:Mem) :
  ak (wT w c) a b fr 9 (ag bS (aq F)) ((uk F g i h d f J t k e j)++lows) (xy F g i h d f t k e lows):=
 match f with
 | .a=>A9 (wT w c) a b fr F g i h d k t e j J lows
 | .b=>Ba (wT w c) a b fr F g i h d k t e j J lows
 | .c=>Bb w c a b fr F g i h d k t e j J lows
theorem Bc(w:Lj)(c a b:Bool)(fr:List Env)(g h:Nat)(k:E7)(f:Fm)(j e:Nat)(lows:Mem) :
  ak (wT w c) a b fr 11 (bw 196 [.ref g,.ref h]) ([(g,aa (ft h j k f) e)]++lows) (fun s q=>∃t:Nat,s=.ok (.ret (sv (Co k f) t))/\q=[(g,aa (ft h j k f) e)]++lows):=by
 have I:=fun(fr:List Env)(F m l i:Nat)(J:ab)(lows:Mem)=>GB (wT w c) a b fr F g h m l k f j e i J lows
 have r:=fun(fr:List Env)(F m l i:Nat)(J:ab)(lows:Mem)=>GC w c a b fr F g h m l k f j e i J lows
 apply KD c b k f 0x1820004202040810210183050c1800600183060a183000c003060c1430600180060c002800a1428100040010000100000810300001830600180060810200081020400001;intro V N T u p n st
 apply JS c b k f;intro o;apply I ([(aq N)]++fr) N (N + 1) (N + 2) 0 (ae (o 1)) lows;k_mem;intro V V z B d;refine d9 (fun J i d=>?_) d;apply iq d;refine ⟨_,_,.refl _,fun p=>?_⟩;apply JQ c b k f 103618183682;intro st
 apply JS c b k f;intro o;apply r ([(aq N)]++fr) N (N + 1) (N + 2) i J lows;k_mem;intro V V A C d;refine ma (fun v x y d=>?_) d;apply iq d;refine ⟨_,_,.refl _,fun p=>?_⟩;apply JQ c b k f 0x20408306000010000081;intro st
 apply KC c b k f [1];apply n;intro o τ;refine ⟨τ,⟨?_, ?_⟩⟩;apply rfl;apply rfl;k_mem
abbrev GD (x0 x1 x2 x3 x4):=Qe.scope (Qe.mk (O0 (MT x0)) (O0 (MT x0)) (sF (ax bd x1)) (FuncBody.stmts (ai (ax bd x1))) (bY (ax bd x1)) 3 [] L3 L3 L3 (sv x2 x3) Lk (Lv x4) L3 0)
def yX(N:Nat):Env:=Env.mk (GD qX 10 uW 471 169) N 3 [] (O0 (MT [116,114,97,110,115,108,97,116,101,46,60,108,111,99,97,108,115,62,46])) (Ld 170) (Lv 169) (Ld N) 0
theorem n5(w:Lj)(c a b:Bool)(fr:List Env)(k:E7)(f:Fm)(t:Nat)(d:Option Nat)(lows:Mem) :
  ak (wT w c) a b fr 13 (bw 170 [sv (iJ k f) t]) ([(184,b6 d)]++lows) (fun u n=>∃(t:Nat)(d:Option Nat),u=.ok (.ret (sv (Co k f) t))/\n=[(184,b6 d)]++lows):=by
 have I:=fun(fr:List Env)(i:Nat)(t m:Nat)(d:Option Nat)(lows:Mem)=>Gw w c a b fr i t m d lows k f
 have p:=fun(fr:List Env)(q i t e:Nat)(lows:Mem)=>Bc w c a b fr q i k f t e lows
 apply lD b k f 0x1040010200081000600183000000000000020400001;intro V N T x l j st
 apply q8 b k f;intro o;apply I ([(yX N)]++fr) (N + 1) t (T + 2) d lows;k_mem;intro V V y A g;refine gz (fun r s v h g=>?_) g;apply iq g;refine ⟨_,_,.refl _,fun l=>?_⟩;apply eF b k f 571746858041731;intro st
 apply q8 b k f;intro o;apply p ([(yX N)]++fr) r (N + 1) v s lows;k_mem;intro V V z B g;refine bj (fun m g=>?_) g;apply iq g;refine ⟨_,_,.refl _,fun l=>?_⟩;apply eF b k f 0;intro st
 apply rQ b k f [1];apply j;intro o τ;refine jm τ h ⟨?_, ?_⟩;apply rfl;apply rfl;k_mem
def GE:Fm->Nat->LN->LLN
 | .a=>kD | .b=>kB | .c=>ud
def lT(N:Nat):Env:=Env.mk (GD qV 29 oR 769 301) N 3 [((O0 (MT jB)),(N + 1))] (O0 (MT CN)) (Ld 302) (Lv 301) (Ld N) 0
noncomputable def tz:E7->Nat
 | .z0=>0 | _=>1
abbrev xz (x0 x1 x2 x3 x4):=(fun d c=>∃(ac:Nat)(a:LV)(b:Nat),d=.ok (.ret (.ref ac))/\c=[(ac,aa a b),(x0,aa x1 x2)]++x3/\af x4 a:Lm->Mem->Prop)
section
variable(w:Lj)(a b:Bool)(fr:List Env)(k:E7)(t e f:Nat)(d:LV)(ss:LLN)(h:af ss d)(g:d≠[])(hz:d.length < 900)
include w a b fr k t e f d ss h g hz
theorem Bd(hne:∀s∈ss,s≠[])(lows:Mem) :
  ak w a b fr 9 (bw 302 [sv (Co k .a) t,.ref e]) ([(e,aa d f)]++lows) (xz e d f lows (ss.flatMap (GE .a (oM k)))):=by
 have r:=fun(fr:List Env)(t:Nat)(lows:Mem)=>pK w a b fr e (aa d f) k t lows
 have q:=fun(fr:List Env)(F j A CL it ac:Nat)(J:ab)(x:Nat)(lows:Mem)=>yS w a b fr Li F e f j d (oM k) A CL it ac ss h g hz hne J x lows
 apply eY b k 0x80060c1830000080000a1428500001000010204080000200081020400001;intro V N T B p m st
 apply bo b k 0x80070e1c3800000002;intro o;apply aI w a b [40,63,115,58] (T + (tz k + 8)) (T + (tz k + 9));k_all;intro C n st
 apply bo b k 0x1040040810200000000100;intro o;apply aI w a b [46,42,41,92,90] (n + 2) (n + 3);k_all;intro D u st
 apply zt b k 0x400488141410900040010208183;intro o;apply r ([(lT N)]++fr) (u + 3) lows;k_all;intro z i G p st
 apply qk b k 16513;intro o;apply q ([(lT N)]++fr) N (N + 1) z (i + 2) i (i + 1) (ae (o 10)) 0 lows;k_all;intro v J c l E H y p st
 apply lh b k [1,2];apply m;intro o τ;refine gB (i + 1) c l ⟨?_, ?_,y⟩;apply rfl;apply rfl;k_mem
theorem Be(hne:∀s∈ss,s≠[])(lows:Mem) :
  ak w a b fr 9 (bw 302 [sv (Co k .b) t,.ref e]) ([(e,aa d f)]++lows) (xz e d f lows (ss.flatMap (GE .b (oM k)))):=by
 have r:=fun(fr:List Env)(t:Nat)(lows:Mem)=>pK w a b fr e (aa d f) k t lows
 have q:=fun(fr:List Env)(F j A CL it ac:Nat)(J:ab)(x:Nat)(lows:Mem)=>yR w a b fr Li F e f j d (oM k) A CL it ac ss h g hz hne J x lows
 apply eY b k 0x1000a1428500001000010204080000200081020400001;intro V N T B p m st
 apply bo b k 0x80060c183000000002;intro o;apply aI w a b [40,63,115,58,46,42] (T + (tz k + 5)) (T + (tz k + 6));k_all;intro C n st
 apply bo b k 0x104003870e1c0000000100;intro o;apply aI w a b [41,92,90] (n + 2) (n + 3);k_all;intro D u st
 apply zt b k 0x400407121410800040010208183;intro o;apply r ([(lT N)]++fr) (u + 3) lows;k_all;intro z i G p st
 apply qk b k 16513;intro o;apply q ([(lT N)]++fr) N (N + 1) z (i + 2) i (i + 1) (ae (o 9)) 0 lows;k_all;intro v J c l E H y p st
 apply lh b k [1,2];apply m;intro o τ;refine gB (i + 1) c l ⟨?_, ?_,y⟩;apply rfl;apply rfl;k_mem
theorem Bf(lows:Mem) :
  ak w a b fr 9 (bw 302 [sv (Co k .c) t,.ref e]) ([(e,aa d f)]++lows) (xz e d f lows (ss.flatMap (GE .c (oM k)))):=by
 have s:=fun(fr:List Env)(t:Nat)(lows:Mem)=>pK w a b fr e (aa d f) k t lows
 have r:=fun(fr:List Env)(F l A CL it ac:Nat)(J:ab)(x:Nat)(lows:Mem)=>yQ w a b fr Li F e f l d (oM k) A CL it ac ss h g hz J x lows
 apply eY b k 0x20010204080000200081020400001;intro V N T B q n st
 apply bo b k 0x80050a142800000002;intro o;apply aI w a b [40,63,115,58,40,63,62,46,42,63] (T + 3) (T + 4);k_all;intro C p st
 apply bo b k 0x104003060c180000000100;intro o;apply aI w a b [41,46,42,41,92,90] (p + 2) (p + 3);k_all;intro D u st
 apply zt b k 0x400386101410700040010208183;intro o;apply s ([(lT N)]++fr) (u + 3) lows;k_all;intro z j G q st
 apply qk b k 16513;intro o;apply r ([(lT N)]++fr) N (N + 1) z (j + 2) j (j + 1) (ae (o 8)) 0 lows;k_all;intro v J i m E H y q st
 apply lh b k [1,2];apply n;intro o τ;refine gB (j + 1) i m ⟨?_, ?_,y⟩;apply rfl;apply rfl;k_mem
end
theorem xA(w:Lj)(a b:Bool)(fr:List Env)(k:E7)(f:Fm)(t h i:Nat)(d:LV)(ss:LLN)(g:af ss d)(e:d≠[])(hz:d.length < 900)(hne:∀s∈ss,s≠[])(lows:Mem) :
  ak w a b fr 9 (bw 302 [sv (Co k f) t,.ref h]) ([(h,aa d i)]++lows) (xz h d i lows (ss.flatMap (GE f (oM k)))):=
 match f with
 | .a=>Bd w a b fr k t h i d ss g e hz hne lows
 | .b=>Be w a b fr k t h i d ss g e hz hne lows
 | .c=>Bf w a b fr k t h i d ss g e hz lows
def ba:Lg:=ed (ax (ai cY) 12)
def xB:Lg:=jk ba
theorem ul:ba=.DictComp (lR ba) (jk ba) [⟨lS ba,iP ba,[],0⟩] (jG ba) (qD ba):=by kernel_rfl
section
variable(w:Lj)(i a b:Bool)(fr:List Env)(X:eZ)(g n h m:Nat)(d l:LV)
include w i a b fr X g n h m d l
theorem mP(ss:LLN)(E:af ss d)(D:d≠[])(hz:d.length < 900)(hne:∀s∈ss,s≠[])(CL it ac j:Nat)(k:E7)(f:Fm)(t:Nat)(M:l[j]? = Ld (sv (iJ k f) t))(c:Bool)(v:Lc)(J:ab)(q:LV)(K:q.length < 1000)(A:Nat)(p:Option Nat)(lows:Mem)(r:Lm->Mem->Prop)(IH:∀(v:Lc)(J:ab)(A R e:Nat)(p:Option Nat)(vs:LV),af (ss.flatMap (GE f (oM k))) vs->ak (wT w i) a b fr 14 (.compLoop xB 0 (.ref it) (.ref ac) (fw xB CL X.F jM X.cc)) ([(CL,bR Lh iu v J),(it,al h (j + 1)),(cg ac q [.ref R] A),(h,aa l m),(g,aa d n),(X.cc,ad (Ld (.ref g))),(184,b6 p),(R,aa vs e)]++lows) r) :
  ak (wT w i) a b fr 14 (.compLoop xB 0 (.ref it) (.ref ac) (fw xB CL X.F jM X.cc)) ([(CL,bR c iu v J),(it,al h j),(ac,aa q A),(h,aa l m),(g,aa d n),(X.cc,ad (Ld (.ref g))),(184,b6 p)]++lows) r:=by
 have I:=fun(fr:List Env)(t:Nat)(p:Option Nat)(lows:Mem)=>n5 w i a b fr k f t p lows
 have TK:=fun(fr:List Env)(t:Nat)(lows:Mem)=>xA (wT w i) a b fr k f t g n d ss E D hz hne lows
 apply eY b c 0x6041020400100;intro V N T P G C st
 apply bo b c 0x602080010000081;intro o;apply aG (wT w i) a b it h j l m (sv (iJ k f) t) M;k_all;intro Q Y st
 apply vj b c;intro o;apply I fr t p lows;k_mem;intro V V S Z u;refine d9 (fun O z u=>?_) u;apply iq u;refine ⟨_,_,.refl _,fun G=>?_⟩;apply na b c 1344307207;intro st
 apply vj b c;intro o;apply TK fr O lows;k_mem;intro V V U T3 u;refine ma (fun x y B u=>?_) u;apply jt u;intro L;refine ⟨_,_,.refl _,fun G=>?_⟩;apply na b c 1344307968;intro st
 apply cP b c 3;intro o;apply aB (wT w i) a b ac q (.ref x) A (by kd_p);k_all;intro H W T4 st
 apply gT b c [3,4,5,6,1,7,2,0];apply C;intro o;apply IH (sv (iJ k f) t) (ae (o 3)) H.e x B z y L;k_mem
theorem xC(CL it ac j:Nat)(q:l.length<=j)(c:Bool)(v:Lc)(J:ab)(e:LV)(p:Nat)(f:Option Nat)(lows:Mem) :
  ak (wT w i) a b fr 14 (.compLoop xB 0 (.ref it) (.ref ac) (fw xB CL X.F jM X.cc)) ([(CL,bR c iu v J),(it,al h j),(ac,aa e p),(h,aa l m),(g,aa d n),(X.cc,ad (Ld (.ref g))),(184,b6 f)]++lows) (d6 .next [(CL,bR c iu v J),(ac,aa e p),(h,aa l m),(g,aa d n),(X.cc,ad (Ld (.ref g))),(184,b6 f)] lows):=by
 apply eY b c 0x6041020400100;intro V N T r u k st
 apply nA b c 8;intro o;apply aP (wT w i) a b it h j l m q;k_all;intro x y s t st
 apply lh b c [0,2,3,4,5,6];apply k;intro o τ;refine ⟨?_, ?_⟩;apply rfl;apply rfl;k_mem
end
noncomputable def Cp:E4->Bool->E7
 | .z0,Li=>.z0 | .z0,Lh=>.z3
 | .z1,Li=>.z1 | .z1,Lh=>.z4
 | .z2,Li=>.z5 | .z2,Lh=>.z5
 | .z3,Li=>.z2 | .z3,Lh=>.z6
theorem xD(i:E4)(d:Bool):oM (Cp i d)=je i:=by cases i<;>cases d<;>rfl
abbrev mQ (x0 x1 x2 x3):=[sv (iJ x0 .a) x1,sv (iJ x0 .b) x2,sv (iJ x0 .c) x3]
theorem Bg(w:Lj)(a b:Bool)(fr:List Env)(i:E4)(d:Bool)(t u c:Nat)(oA:Obj)(lows:Mem) :
  ak w a b fr 3 (.call (.ref 290) ⟨[sv [je i] t,.int (if d then 1 else 0) u],[]⟩) ([(c,oA)]++lows) (fun l k=>∃(L e f g j:Nat),l=.ok (.ret (.ref L))/\k=[(L,aa (mQ (Cp i d) f g j) e),(c,oA)]++lows):=by
 refine aO.weak (Gm w a b fr i d t u ((c,oA)::lows)) (Lf _) fun l k q=>?_
 obtain ⟨L,e,vs,rfl,rfl,h⟩:=q
 cases h with
 | cons m f h=>
  cases h with
  | cons n g h=>
   cases h with
   | cons o j h=>
    cases h
    refine ⟨_,.refl _,L,e,f,g,j,rfl, ?_⟩
    cases i<;>cases d<;>rfl
theorem GF(w:Lj)(G a b:Bool)(fr:List Env)(X:eZ)(h u n y:Nat)(e:LV)(ss:LLN)(C:af ss e)(B:e≠[])(hz:e.length < 900)(hne:∀s∈ss,s≠[])(CL it ac:Nat)(k:E7)(o p r:Nat)(J:ab)(g:Nat)(d:Option Nat)(lows:Mem) :
  ak (wT w G) a b fr 14 (.compStart xB 0 (.ref it) (.ref ac) (fw xB CL X.F jM X.cc)) ([(CL,av [] J),(it,al n 0),(ac,aa [] g),(n,aa (mQ k o p r) y),(h,aa e u),(X.cc,ad (Ld (.ref h))),(184,b6 d)]++lows)
   (fun L K=>∃(v:Lc)(J:ab)(g f j m x A E:Nat)(d:Option Nat)(t z D:LV),L=.ok .next/\K=[(CL,av [(iu,v)] J),(ac,aa [.ref f,.ref j,.ref m] g),(n,aa (mQ k o p r) y),(h,aa e u),(X.cc,ad (Ld (.ref h))),(184,b6 d),(f,aa t x),(j,aa z A),(m,aa D E)]++lows/\af (ss.flatMap (kD (oM k))) t/\af (ss.flatMap (kB (oM k))) z/\af (ss.flatMap (ud (oM k))) D):=by
 refine bD (l:=n) (i:=0) 1 ((Nr xB)[0]!) rfl (by kernel_rfl) (by kernel_rfl) (by kernel_rfl) (by kernel_rfl) (by kernel_rfl) ?_
 refine mP w G a b fr X h u n y e (mQ k o p r) ss C B hz hne CL it ac 0 k .a o rfl Li .none J [] (by decide) g d lows _ fun R M g f x d t O=>?_
 refine mP w G a b fr X h u n y e (mQ k o p r) ss C B hz hne CL it ac 1 k .b p rfl Lh R M [.ref f] (by simp) g d ((f,aa t x)::lows) _ fun S N g j A d z P=>?_
 refine mP w G a b fr X h u n y e (mQ k o p r) ss C B hz hne CL it ac 2 k .c r rfl Lh S N [.ref f,.ref j] (by simp) g d ((j,aa z A)::(f,aa t x)::lows) _ fun I H g m E d D Q=>?_
 refine aO.weak (xC w G a b fr X h u n y e (mQ k o p r) CL it ac 3 (Lf _) Lh I H [.ref f,.ref j,.ref m] g d ((m,aa D E)::(j,aa z A)::(f,aa t x)::lows)) (Lf _) fun L K q=>?_
 obtain ⟨rfl,rfl⟩:=q
 refine ⟨[(CL,av [(iu,I)] H),(ac,aa [.ref f,.ref j,.ref m] g),(n,aa (mQ k o p r) y),(h,aa e u),(X.cc,ad (Ld (.ref h))),(184,b6 d),(f,aa t x),(j,aa z A),(m,aa D E)]++lows, ?_,(rU I H g f j m x A E d t z D ⟨rfl,rfl,O,P,Q⟩)⟩
 exact (RK.refl [(CL,av [(iu,I)] H),(ac,aa [.ref f,.ref j,.ref m] g),(n,aa (mQ k o p r) y),(h,aa e u),(X.cc,ad (Ld (.ref h))),(184,b6 d)]).append ((List.reverse_perm [(f,aa t x),(j,aa z A),(m,aa D E)]).append_right lows)
noncomputable abbrev rS(X:eZ):List (Str × Nat):=[(⟨⟨fD⟩⟩,X.cr),(⟨⟨uV⟩⟩,X.cn),(⟨⟨jM⟩⟩,X.cc)]
def bQ(r:E4->Nat)(J:ab):LV:=[sv [r .z0] (J.t 0),sv [r .z1] (J.t 1),sv [r .z2] (J.t 2),sv [r .z3] (J.t 3)]
noncomputable def n6(r:E4->Nat):LLN:=[[r .z0],[r .z1],[r .z2],[r .z3]]
theorem Bi(r:E4->Nat)(J:ab):af (n6 r) (bQ r J):=.cons _ _ (.cons _ _ (.cons _ _ (.one _ _)))
abbrev rE (x0 x1 x2 x3 x4 x5 x6 x7 x8 x9 x10 x11 x12 x13 x14 x15 x16 x17 x18 x19):=([(x0,bR x1 jB x2 x3),(x4,al x5 x6),(x7,ad (Ld (.ref x5))),(x8,ad (Ld (.ref x9))),(x10,ad (Ld (.ref x11))),(x5,aa (bQ x12 x13) x14),(x9,aa x15 x16),(x11,aa x17 x18),(184,b6 x19)] : Mem)
section
variable(w:Lj)(y a b:Bool)(fr:List Env)(X:eZ)(l q A n z:Nat)(h g:LV)(r:E4->Nat)(f:ab)(CL it B:Nat)
include w y a b fr X l q A n z h g r f CL it B
theorem Bj(i p k:Nat)(s:(bQ r f)[i]? = Ld (sv [p] k))(c:Bool)(v:Lc)(J:ab)(d:Option Nat)(lows:Mem) :
  dh (wT w y) a b fr 20 (.compLoop ba 0 (.ref it) (.ref B) (dz ba CL X (rS X))) (n4 (lS ba) (iP ba) (.ref it) (dz ba CL X (rS X))) ((rE CL c v J it l i X.cr X.cn q X.cc n r f f.e h A g z d)++lows) (fun u m=>∃J:ab,u=.ok .next/\m=(rE CL Lh (sv [p] k) J it l (i + 1) X.cr X.cn q X.cc n r f f.e h A g z d)++lows):=by
 apply vl b c 22025133391874;intro V N T x E j st
 apply bo b c 129;intro o;apply aG (wT w y) a b it l i [(sv [(r E4.z0)] (f.t 0)),(sv [(r E4.z1)] (f.t 1)),(sv [(r E4.z2)] (f.t 2)),(sv [(r E4.z3)] (f.t 3))] f.e (sv [p] k) s;k_all;intro C D st
 apply lh b c [0,1,2,3,4,5,6,7,8];apply j;intro o τ;refine ⟨(ae (o 0)),⟨?_, ?_⟩⟩;apply rfl;apply rfl;k_mem
theorem Bk(i p j:Nat)(J:ab)(c:Option Nat)(lows:Mem) :
  dh (wT w y) a b fr 20 (.compLoop ba 0 (.ref it) (.ref B) (dz ba CL X (rS X))) (gM (lR ba) (dz ba CL X (rS X))) ((rE CL Lh (sv [p] j) J it l i X.cr X.cn q X.cc n r f f.e h A g z c)++lows) (d6 (.ret (sv [p] j)) (rE CL Lh (sv [p] j) J it l i X.cr X.cn q X.cc n r f f.e h A g z c) lows):=by
 apply fU b 1;intro V N T k m d st
 apply b4 b [0,1,2,3,4,5,6,7,8];apply d;intro o τ;refine ⟨?_, ?_⟩;apply rfl;apply rfl;k_mem
theorem Bl(ss:LLN)(hss:af ss g)(Y:g≠[])(hz:g.length < 900)(hne:∀s∈ss,s≠[])(i j:Nat)(p:E4)(K:Nat)(hj:(n6 r)[j]? = Ld [je p])(Z:∀m,m < j->(n6 r)[m]? ≠ Ld [je p])(I:Int)(tn:Nat)(hnu:h[(0:Int).toNat]? = Ld (.int I tn))(d:Bool)(hd:(I + Ll j).fmod 2=if d then 1 else 0)(J:ab)(c:Option Nat)(lows:Mem) :
  dh (wT w y) a b fr 20 (.compLoop ba 0 (.ref it) (.ref B) (dz ba CL X (rS X))) (gM (jk ba) (dz ba CL X (rS X))) ((rE CL Lh (sv [je p] K) J it l i X.cr X.cn q X.cc n r f f.e h A g z c)++lows) (fun rr F'=>∃(L E F G e Q R S:Nat)(c:Option Nat)(M O P:LV),rr=.ok (.ret (.ref L))/\F'=[(CL,bR Lh jB (sv [je p] K) J),(it,al l i),(X.cr,ad (Ld (.ref l))),(X.cn,ad (Ld (.ref q))),(X.cc,ad (Ld (.ref n))),(l,aa (bQ r f) f.e),(q,aa h A),(n,aa g z),(184,b6 c),(L,aa [.ref E,.ref F,.ref G] e),(E,aa M Q),(F,aa O R),(G,aa P S)]++lows/\af (ss.flatMap (kD (oM (Cp p d)))) M/\af (ss.flatMap (kB (oM (Cp p d)))) O/\af (ss.flatMap (ud (oM (Cp p d)))) P):=by
 have PT:=fun(fr:List Env)(t u:Nat)(lows:Mem)=>Bg (wT w y) a b fr p d t u n (aa g z) lows
 have LI:=fun(t:Nat)=>uh (wT w y) a b l (bQ r f) f.e [je p] t (Bi r f) j hj Z (by simp [n6])
 have M2:=fun(t u:Nat)=>xn (wT w y) a b (I + Ll j) t u d hd
 have TP:=fun(fr:List Env)(Pl pe CL it ac t0 t1 t2:Nat)(J:ab)(U:Nat)(c:Option Nat)(lows:Mem)=>GF w y a b fr X n z Pl pe g ss hss Y hz hne CL it ac (Cp p d) t0 t1 t2 J U c lows
 apply fU b 0x180820e003870e10080;intro V N T B0 Y0 W st
 apply aE b 0x140820c000860c18303;intro o;apply aF (wT w y) a b q h A 0 T (.int I tn) (by kd_p) (by kd_p) hnu;k_all;intro N1 T1 st
 apply bA b 4194304;intro o;apply LI K;k_all;intro k N2 T2 st
 apply bA b 14696704;intro o;apply M2 T2 (T2 + 1);k_all;intro k1 N3 T3 st
 apply j0 b;intro o;apply PT fr K k1 lows;k_mem;intro V V H T4 x;refine jA (fun L e t0 t1 t2 x=>?_) x;apply iq x;refine ⟨_,_,.refl _,fun Y0=>?_⟩;apply dC b 0x24301002c50c0e085800200081;intro st
 apply j0 b;intro o;apply TP fr L e (H + 2) H (H + 1) t0 t1 t2 (ae (o 12)) 0 c lows;k_mem;intro V V N5 T5 x;refine qT (fun v J1 U E F G Q R S D M O P x=>?_) x;apply jt x;intro C;refine ⟨_,_,.refl _,fun Y0=>?_⟩;apply dC b 16513;intro st
 have hq:=C.1
 have hq1:=C.2.1
 have hq2:=C.2.2
 apply b4 b [9,10,11,12,4,13,14,3,5,1,6,7,8];apply W;intro o τ;refine uS (H + 1) E F G U Q R S D M O P ⟨?_, ?_,hq,hq1,hq2⟩;apply rfl;apply rfl;k_mem
theorem Bm(i:Nat)(u:4<=i)(c:Bool)(v:Lc)(J:ab)(d:Option Nat)(lows:Mem) :
  ak (wT w y) a b fr 20 (.compLoop ba 0 (.ref it) (.ref B) (dz ba CL X (rS X))) ((rE CL c v J it l i X.cr X.cn q X.cc n r f f.e h A g z d)++lows) (d6 .next [(CL,bR c jB v J),(X.cr,ad (Ld (.ref l))),(X.cn,ad (Ld (.ref q))),(X.cc,ad (Ld (.ref n))),(l,aa (bQ r f) f.e),(q,aa h A),(n,aa g z),(184,b6 d)] lows):=by
 apply eY b c 0xa041020400100;intro V N T k s j st
 apply nA b c 10;intro o;apply aP (wT w y) a b it l i [(sv [(r E4.z0)] (f.t 0)),(sv [(r E4.z1)] (f.t 1)),(sv [(r E4.z2)] (f.t 2)),(sv [(r E4.z3)] (f.t 3))] f.e (by kd_p);k_all;intro x C m p st
 apply lh b c [0,2,3,4,5,6,7,8];apply j;intro o τ;refine ⟨?_, ?_⟩;apply rfl;apply rfl;k_mem
end
theorem bC.length{ss:List (Nat × Nat)}{vs:LV}(h:bC ss vs):vs.length=ss.length:=by
 induction h with
 | nil=>rfl
 | cons p q t _ a=>rw [Ls,Ls,a]
theorem Bn{e f:E4}(h:e4 e=e4 f):e=f:=by cases e<;>cases f<;>first|rfl|exact absurd h (by decide)
abbrev ew (x0 x1 x2 x3 x4):=((x0,aa (sv x1 x2::x3) x4):Nat × Obj)
theorem xE(w:Lj)(a b:Bool)(v:Nat)(f:Int)(C:Nat)(ns:List Int)(m:LV)(B:Nat)(G:bF ns m)(hz:ns.length < 100)(e:E4)(he:e4 e=(f.fdiv 7).fmod 4)(r:E4->Nat)(c:∀z,r z=pc (cD e z))(p q:Nat)(g:List (Nat × Nat))(hd:d4 (eO e) (f::ns) 0 []=((p,q)::g).map fun x=>[x.1,x.2]) :
  CT w a b 6 (bw 257 [.ref v]) [(eR v f C m B)]
   (fun D os d=>∃(u R j:Nat)(o i n:ab)(I:Nat)(E:LV),D=.ok (.ret (.ref u))/\os=[aa (.int f C::m) B]/\d=[(u,EX [.ref R,.ref j] o),(R,bq r i),(ew j [p,q] I E n.e)]/\bC g E):=
 (zX w a b v f C ns m B G hz).weak (Lf _) fun D os d h=>by
  refine oO (fun u R j e' o i n vs y=>?_) h;apply y8 y;intro y;obtain ⟨F,k⟩:=y
  have : e'=e:=Bn (F.trans he.symm)
  subst this
  rw [hd] at k
  have A:∀{l:List (Nat × Nat)}{vs:LV},af (l.map fun x=>[x.1,x.2]) vs->bC l vs:=by
   intro l
   induction l with
   | nil=>intro vs h;cases h;exact .nil
   | cons x l H=>intro vs h;cases h with
    | cons s t h=>exact .cons _ _ t (H h)
  cases k with
  | cons s t k=>exact ⟨u,R,j,o,i,n,t,_,rfl,rfl,by show _=[_,(R,bq r i),_];unfold bq zC;rw [c,c,c,c],A k⟩
theorem GG(w:Lj)(a b:Bool)(fr:List Env)(X:eZ)(j l:Nat)(k:Int)(m:Nat)(ns:List Int)(s:LV)(M:bF ns s)(hz:ns.length < 100)(e:E4)(he:e4 e=(k.fdiv 7).fmod 4)(r:E4->Nat)(A:∀z,r z=pc (cD e z))(p q:Nat)(c:List (Nat × Nat))(hsz:c.length < 100)(hd:d4 (eO e) (k::ns) 0 []=((p,q)::c).map fun x=>[x.1,x.2])(v:Lc)(J:ab)(lows:Mem) :
  dh w a b fr 9 (jj X) (eU (mL cY 1 2) (bu X)) ([(X.F,aJ [(dq,v)] J),(X.cn,ad (Ld (.ref j))),(eR j k m s l),(X.cr,ad Lk),(X.cs,ad Lk),(X.cw,ad Lk)]++lows) (fun O G=>∃(n g P C i:Nat)(f J:ab)(d:LV),O=.ok .next/\G=[(X.F,aJ [(dq,v)] J),(X.cn,ad (Ld (.ref j))),(eR j k m s l),(X.cr,ad (Ld (.ref n))),(X.cs,ad (Ld (.ref g))),(X.cw,ad (Ld (.ref C))),(n,bq r f),(ew g [p,q] i d P),(C,aa ((sv [p,q] i::d)++bQ r f) 0)]++lows/\bC c d):=by
 have E:=fun(I m l:Nat)=>xE w a b I k m ns s l M hz e he r A p q c hd
 have H:=fun(g n i K L:Nat)(d:LV)(f:ab)(h:bC c d)=>pg w a b g n (sv [p,q] i::d) (bQ r f) K L (by rw [Ls,h.length];simp [bQ];kd_p)
 apply fU b 68992106752;intro V N T Q Y0 t st
 apply lg b;intro o;apply E j m l;k_mem;intro V V V U Y y V;refine oO (fun u R g S f B i d y=>?_) y;apply jr y;intro D;apply dC b 0x388040848012204840a14284083050a0e28500140050a141c50a002800a142838a14005001428007001c387;intro st
 apply bA b 774;intro o;apply H g R i B.e f.e d f D;k_all;intro x W Z st
 apply b4 b [0,1,2,3,4,5,7,8,12];apply t;intro o τ;refine oy R g B.e x i f J d ⟨?_, ?_,D⟩;apply rfl;apply rfl;k_mem
noncomputable def m3(x:Int):M3:=if x=0 then .m0 else if x=1 then .m1 else .m2
set_option tactic.hygienic true in
theorem um(w:Lj)(a b:Bool)(x:Int)(t u:Nat) :
  CT w a b 0 (b9 "int.__mod__" [.int x t,.int 3 u]) [] (fun d os c=>∃(k:Nat),d=.ok (.ret (.int (mi (m3 (x.fmod 3))) k))/\os=[]/\c=[]):=
 (gH w a b x 3 t u (by decide)).weak (Lf _) fun r os c h=>by
  obtain ⟨⟨k,rfl⟩,rfl,rfl⟩:=h
  have f:=NJ x (by decide:(0:Int) < 3)
  have g:=Oh x (by decide:(0:Int) < 3)
  have : mi (m3 (x.fmod 3))=x.fmod 3:=by
   unfold m3
   split
   .rename_i e;rw [e];rfl
   .split
    .rename_i e;rw [e];rfl
    .show (2:Int)=_
     kd_p
  exact ⟨k,by rw [this],rfl,rfl⟩
def Bo(e:Lg):Lg:=ex e 1
def lx:Lg:=Bo (ed (ax (ai cY) 3))
abbrev pO (x0 x1 x2 x3 x4 x5 x6 x7):=([(x0,aa x1 x2),(x3,aa x4 x5),(x6,ad (Ld (.ref x0))),(x7,ad (Ld (.ref x3)))] : Mem)
abbrev n7 (x0 x1 x2 x3):=ig lx x0 x1 [(⟨⟨CE⟩⟩,x2),(⟨⟨uV⟩⟩,x3)]
section
variable(w:Lj)(a b:Bool)(fr:List Env)(F i l h g cw cn:Nat)(f d:LV)(CL it ac:Nat)(j left:Int)
include w a b fr F i l h g cw cn f d CL it ac j left
theorem xF(n:Int)(E G:Nat)(p:Sg)(P:f[j.toNat]? = Ld (sv [pc p] G))(r:0<=j)(y:j < 1000)(z:0 < left)(C:(0:Int) < d.length)(D:d.length < 900)(O:d[(j.fmod (d.length:Int)).toNat]? = Ld (.int n E))(A:0<=j.fmod (d.length:Int))(B:j.fmod (d.length:Int) < 100000)(c:Bool)(v:Lc)(J:ab)(m:LV)(s:Nat)(hz:m.length < 1000)(lows:Mem)(q:Lm->Mem->Prop)(IH:∀(v:Lc)(J:ab)(t s:Nat),ak w a b fr 8 (.compLoop lx 0 (.ref it) (.ref ac) (n7 CL F cw cn)) (([(CL,bR Lh [106] v J),(it,dg (j + 1) (left - 1)),(cg ac m [sv (wr [p] (m3 ((n.fdiv 7 + j).fmod 3))) t] s)]++(pO i f l h d g cw cn))++lows) q) :
  ak w a b fr 8 (.compLoop lx 0 (.ref it) (.ref ac) (n7 CL F cw cn)) (([(CL,bR c [106] v J),(it,dg j left),(ac,aa m s)]++(pO i f l h d g cw cn))++lows) q:=by
 have L:j < 100000:=QV y (by decide)
 have M:0<=j:=r
 apply eY b c 4432947314944;intro V N T S Y0 x st
 apply cP b c 0x3020820008102010c00081;intro o;apply cQ w a b it j left z;k_all;intro k U T1 st
 apply bo b c 0x402080070000087;intro o;apply aF w a b i f l j k (sv [(pc p)] G) r ‹_› P;k_all;intro W T2 st
 apply cP b c 256;intro o;apply du w a b h d g (oA D rfl);k_all;intro t X T3 st
 apply eE b c 0x8041050014285;intro o;apply gH w a b j (mE Lc d) k t C;k_all;intro Q Y T4 st
 apply bo b c 256;intro o;apply aF w a b h d g (Pt j (mE Lc d)) Q (.int n E) A B O;k_all;intro Z K st
 apply eE b c 536870913;intro o;apply pd w a b n 7 E K (by kd_p) (by kd_p);k_all;intro k2 N6 H st
 apply cP b c 256;intro o;apply um w a b ((Pu n 7) + j) H (H + 1);k_all;intro R N7 T7 st
 apply cP b c 539001216;intro o;apply Fb w a b p (m3 (Pt ((Pu n 7) + j) 3)) G R;k_all;intro u N8 T8 st
 apply cP b c 3;intro o;apply aB w a b ac m (sv (wr [p] (m3 (Pt ((Pu n 7) + j) 3))) u) s (by kd_p);k_all;intro I N9 T9 st
 apply gT b c [0,1,2,3,4,5,6];apply x;intro o;apply IH (.int j k) (ae (o 0)) u I.e;k_mem
theorem xG(n:Int)(G H:Nat)(p q:Sg)(Q:f[j.toNat]? = Ld (sv [pc p,pc q] H))(s:0<=j)(z:j < 1000)(A:0 < left)(D:(0:Int) < d.length)(E:d.length < 900)(P:d[(j.fmod (d.length:Int)).toNat]? = Ld (.int n G))(B:0<=j.fmod (d.length:Int))(C:j.fmod (d.length:Int) < 100000)(c:Bool)(v:Lc)(J:ab)(m:LV)(x:Nat)(hz:m.length < 1000)(lows:Mem)(r:Lm->Mem->Prop)(IH:∀(v:Lc)(J:ab)(t x:Nat),ak w a b fr 8 (.compLoop lx 0 (.ref it) (.ref ac) (n7 CL F cw cn)) (([(CL,bR Lh [106] v J),(it,dg (j + 1) (left - 1)),(cg ac m [sv (wr [p,q] (m3 ((n.fdiv 7 + j).fmod 3))) t] x)]++(pO i f l h d g cw cn))++lows) r) :
  ak w a b fr 8 (.compLoop lx 0 (.ref it) (.ref ac) (n7 CL F cw cn)) (([(CL,bR c [106] v J),(it,dg j left),(ac,aa m x)]++(pO i f l h d g cw cn))++lows) r:=by
 have M:j < 100000:=QV z (by decide)
 have O:0<=j:=s
 apply eY b c 4432947314944;intro V N T U Y0 y st
 apply cP b c 0x3020820008102010c00081;intro o;apply cQ w a b it j left A;k_all;intro k W T1 st
 apply bo b c 0x402080070000087;intro o;apply aF w a b i f l j k (sv [(pc p),(pc q)] H) s ‹_› Q;k_all;intro X T2 st
 apply cP b c 256;intro o;apply du w a b h d g (oA E rfl);k_all;intro t Y T3 st
 apply eE b c 0x8041050014285;intro o;apply gH w a b j (mE Lc d) k t D;k_all;intro R Z T4 st
 apply bo b c 256;intro o;apply aF w a b h d g (Pt j (mE Lc d)) R (.int n G) B C P;k_all;intro N5 L st
 apply eE b c 536870913;intro o;apply pd w a b n 7 G L (by kd_p) (by kd_p);k_all;intro k2 N6 I st
 apply cP b c 256;intro o;apply um w a b ((Pu n 7) + j) I (I + 1);k_all;intro S N7 T7 st
 apply cP b c 539001216;intro o;apply Fc w a b p q (m3 (Pt ((Pu n 7) + j) 3)) H S;k_all;intro u N8 T8 st
 apply cP b c 3;intro o;apply aB w a b ac m (sv (wr [p,q] (m3 (Pt ((Pu n 7) + j) 3))) u) x (by kd_p);k_all;intro K N9 T9 st
 apply gT b c [0,1,2,3,4,5,6];apply y;intro o;apply IH (.int j k) (ae (o 0)) u K.e;k_mem
theorem xH(n:left<=0)(c:Bool)(v:Lc)(J:ab)(k:LV)(p:Nat)(lows:Mem) :
  ak w a b fr 8 (.compLoop lx 0 (.ref it) (.ref ac) (n7 CL F cw cn)) (([(CL,bR c [106] v J),(it,dg j left),(ac,aa k p)]++(pO i f l h d g cw cn))++lows)
   (d6 .next ([(CL,bR c [106] v J),(ac,aa k p)]++(pO i f l h d g cw cn)) lows):=by
 apply eY b c 4432947314944;intro V N T q t m st
 apply nA b c 8;intro o;apply fV w a b it j left n;k_all;intro e u r s st
 apply lh b c [0,2,3,4,5,6];apply m;intro o τ;refine ⟨?_, ?_⟩;apply rfl;apply rfl;k_mem
end
theorem bF.at{ns:List Int}{vs:LV}(h:bF ns vs):∀{i:Nat}{x:Lc},vs[i]? = Ld x->∃n t,ns[i]? = Ld n/\x=.int n t:=by
 induction h with
 | nil=>intro i x h;simp at h
 | cons n t _ a=>
  intro i x h
  cases i with
  | zero=>simp at h;exact (jm n t ⟨rfl,h.symm⟩)
  | succ i=>
   simp only [Nw] at h ⊢
   exact a h
theorem bF.of_at:∀{ns:List Int}{vs:LV},vs.length=ns.length->(∀(i:Nat)(x:Lc),vs[i]? = Ld x->∃(n:Int)(t:Nat),ns[i]? = Ld n/\x=L6 n t)->bF ns vs
 | [],[],_,_=>.nil
 | [],_::_,h,_=>nomatch h
 | _::_,[],h,_=>nomatch h
 | n::ns,v::vs,h,k=>by
  obtain ⟨m,t,a,rfl⟩:=k 0 v rfl
  simp at a
  subst a
  exact .cons _ _ (bF.of_at (by simpa using h) fun i x c=>by
   obtain ⟨m,t,a,b⟩:=k (i + 1) x (by simpa using c)
   exact ⟨m,t,by simpa using a,b⟩)
theorem yY(w:Lj)(a b:Bool)(fr:List Env)(F g m:Nat)(f:LV)(ns:List Int)(hns:bF ns f)(G:f.length < 900)(CL it ac:Nat)(J:ab)(e:Nat)(lows:Mem) :
  ak w a b fr 7 (.compStart iM 0 (.ref it) (.ref ac) (ig iM CL F [])) ([(CL,av [] J),(it,al g 0),(ac,aa [] e),(g,aa f m)]++lows)
   (fun A u=>∃(v:Lc)(J:ab)(vs:LV)(e:Nat),A=.ok .next/\u=[(CL,bR (f.length != 0) oS v J),(ac,aa vs e),(g,aa f m)]++lows/\bF (ns.map fun n=>n.fmod 9973) vs):=by
 refine bD (l:=g) (i:=0) 1 ((Nr iM)[0]!) rfl (by kernel_rfl) (by kernel_rfl) (by kernel_rfl) (by kernel_rfl) (by kernel_rfl) ?_
 refine aO.weak (gj (fun c v J=>bR c oS v J) (al g) (fun V d=>d=[(g,aa f m)]) lows f.length (fun i x=>∃n t,(ns.map fun n=>n.fmod 9973)[i]? = Ld n/\x=.int n t) [] (by simp;kd_p) (fun i z c v J h e hz d r o IH=>?_) (fun c v J h e d r=>?_) Li .none J e _ rfl) (Lf _) fun A u q=>?_
 .subst r
  refine d9 (fun n t j=>?_) (hns.at (Lo z));obtain ⟨C,D⟩:=j
  have I:f[i]? = Ld (.int n t):=by rw [Lo z,D]
  exact wG w a b fr F g m f CL it ac i n t I c v J h e hz lows o fun v J k e=>IH v J _ ⟨_,k,by rw [MO,C];rfl,rfl⟩ e _ rfl
 .subst r
  exact wH w a b fr F g m f CL it ac _ (Lf _) c v J h e lows
 .refine qc (fun c' v J s p d j=>?_) q;apply gu j;intro j;refine y7 (fun y B E H=>?_) j;subst B
  rw [OV] at y
  subst y
  exact ⟨_,.refl _,(jJ v J s p ⟨rfl,rfl,bF.of_at (by rw [E,Ln,hns.length]) H⟩)⟩
def yZ(ns:List Int)(j:Nat)(w:List Sg):LN:=wr w (m3 (((ns.getD (j % ns.length) 0).fdiv 7 + Ll j).fmod 3))
def pP(w:List Sg):Prop:=(∃p,w=[p])∨∃p q,w=[p,q]
theorem bF.get{ns:List Int}{vs:LV}(h:bF ns vs):∀{i:Nat},i < ns.length->∃t,vs[i]? = Ld (.int (ns.getD i 0) t):=by
 induction h with
 | nil=>intro i h;exact absurd h (Qg _)
 | cons n t _ a=>
  intro i h
  cases i with
  | zero=>exact ⟨t,rfl⟩
  | succ i=>simpa using a (i:=i) (by simpa using h)
theorem GH(j n:Nat):(Ll j).fmod (Ll n)=Ll (j % n):=by
 show ((j:Int)).fmod (n:Int)=((j % n:Nat):Int)
 rw [Int.fmod_eq_emod_of_nonneg _ (NI n)]
 rfl
theorem af.of_at:∀{ss:LLN}{vs:LV},vs.length=ss.length->(∀(i:Nat)(x:Lc),vs[i]? = Ld x->∃(s:LN)(t:Nat),ss[i]? = Ld s/\x=sv s t)->af ss vs
 | [],[],_,_=>.nil
 | [],_::_,h,_=>nomatch h
 | _::_,[],h,_=>nomatch h
 | n::ns,v::vs,h,k=>by
  obtain ⟨m,t,a,rfl⟩:=k 0 v rfl
  simp at a
  subst a
  exact .cons _ _ (af.of_at (by simpa using h) fun i x c=>by
   obtain ⟨m,t,a,b⟩:=k (i + 1) x (by simpa using c)
   exact ⟨m,t,by simpa using a,b⟩)
theorem GI(w:Lj)(a b:Bool)(fr:List Env)(F y G u E A z:Nat)(h g:LV)(ns:List Int)(hns:bF ns g)(P:0 < ns.length)(D:ns.length < 900)(f:List (List Sg))(hw:af (f.map fun w=>w.map pc) h)(W:∀w∈f,pP w)(Z:f.length < 900)(CL it ac:Nat)(J:ab)(j:Nat)(lows:Mem) :
  ak w a b fr 8 (.compStart lx 0 (.ref it) (.ref ac) (n7 CL F A z)) ([(CL,av [] J),(it,dg 0 (Ll f.length)),(ac,aa [] j),(y,aa h G),(u,aa g E),(A,ad (Ld (.ref y))),(z,ad (Ld (.ref u)))]++lows)
   (fun rr F'=>∃(v:Lc)(J:ab)(vs:LV)(j:Nat),rr=.ok .next/\F'=[(CL,bR (f.length != 0) [106] v J),(ac,aa vs j),(y,aa h G),(u,aa g E),(A,ad (Ld (.ref y))),(z,ad (Ld (.ref u)))]++lows/\af (f.mapIdx (yZ ns)) vs):=by
 have n:=hns.length
 refine ls (x:=0) (left:=Ll f.length) 1 ((Nr lx)[0]!) rfl (by kernel_rfl) (by kernel_rfl) (by kernel_rfl) (by kernel_rfl) (by kernel_rfl) ?_
 have l:=gj (prog:=pw) (w:=wd w a b) (kt:=kt (wd w a b).params) (fr:=fr) (L:=8) (e:=lx) (d:=0) (it:=it) (ac:=ac) (CL:=CL) (env:=(n7 CL F A z)) (fun c v J=>bR c [106] v J) (fun i=>dg (Ll i) (Ll f.length - Ll i)) (fun V r=>r=(pO y h G u g E A z)) lows f.length (fun i x=>∃w t,f[i]? = Ld w/\x=sv (yZ ns i w) t) [] (by simp;kd_p) (fun i R c v J m j hz r X B IH=>?_) (fun c v J m j r X=>?_) Li .none J j _ rfl
 .have e0:Ll f.length - Ll 0=Ll f.length:=by simp
  rw [e0] at l
  refine aO.weak l (Lf _) fun rr F' q=>?_
  refine qc (fun c' v J new U r C=>?_) q;apply gu C;intro C;refine y7 (fun hc S hl ho=>?_) C;subst S
  rw [OV] at hc
  subst hc
  refine ⟨_,.refl _,(jJ v J new U ⟨rfl,rfl,af.of_at (by rw [hl,List.length_mapIdx]) fun i x hx=>?_⟩)⟩
  refine d9 (fun w t C=>?_) (ho i x hx);obtain ⟨h1,h2⟩:=C
  exact ⟨_,t,by rw [List.getElem?_mapIdx,h1];rfl,h2⟩
 .subst X
  have k:f[i]? = Ld f[i]:=Lo R
  obtain ⟨tw,o⟩:=hw.get (i:=i) (s:=(f[i]).map pc) (by rw [MO,k];rfl)
  have hm:i % ns.length < ns.length:=Nat.mod_lt _ P
  obtain ⟨tn,Y⟩:=hns.get hm
  have hf:(Ll i).fmod (g.length:Int)=Ll (i % ns.length):=by rw [n];exact GH i ns.length
  have S:Ll f.length - Ll (i + 1)=Ll f.length - Ll i - 1:=by
   exact (congrArg _ (P1 i)).trans (Int.sub_sub _ _ 1).symm
  have H:(0:Int)<=Ll i:=NI i
  have I:Ll i < 1000:=M5.mpr (MC (LG R (Mh Z)) (by decide))
  have K:(0:Int) < Ll f.length - Ll i:=Int.sub_pos_of_lt (M5.mpr R)
  have M:(0:Int) < g.length:=M5.mpr (n ▸ P)
  have N:(0:Int)<=(Ll i).fmod (g.length:Int):=by rw [hf];exact NI _
  have O:(Ll i).fmod (g.length:Int) < 100000:=by rw [hf];exact M5.mpr (MC hm (oA D rfl))
  have Q:g[((Ll i).fmod (g.length:Int)).toNat]? = Ld (.int (ns.getD (i % ns.length) 0) tn):=by rw [hf];exact Y
  rw [S] at IH
  rcases W _ (MX R) with q0|q0
  .obtain ⟨p,hp⟩:=q0
   rw [hp] at o k
   exact xF w a b fr F y G u E A z h g CL it ac (Ll i) _ _ tn tw p o H I K M (n ▸ D) Q N O c v J m j hz lows B fun v J t j=>IH v J _ ⟨[p],t,k,rfl⟩ j _ rfl
  .refine d9 (fun p q C=>?_) q0;have hp:=C
   rw [hp] at o k
   exact xG w a b fr F y G u E A z h g CL it ac (Ll i) _ _ tn tw p q o H I K M (n ▸ D) Q N O c v J m j hz lows B fun v J t j=>IH v J _ ⟨[p,q],t,k,rfl⟩ j _ rfl
 .subst X
  exact xH w a b fr F y G u E A z h g CL it ac _ _ (QX (Int.sub_self _)) c v J m j lows
set_option tactic.hygienic true in
theorem GJ(w:Lj)(a b:Bool)(A:LexA)(X:LexX)(G Jd Jl:ab)(n n':Int)(chs:LV)(O:Nat)(p q m:Nat)(H:LV)(S pe:Nat)(d:List (Nat × Nat))(hst:bC d H)(g:Nat)(s1:LN)(ws:LLN)(hlw0:LW chs ([g]::s1::ws) n n')(f:Nat)(out:LLN)(hf:fJ ((p,q)::d) (f + 1) [g] [] (s1::ws) []=Ld out) :
  CT w a b 9 (bw 271 [.ref A.l,.ref O]) (aU A X Jd G Jl n chs++[(A.pb,aa [] pe),(ew O [p,q] m H S)])
   (fun rr os news=>∃(C:Nat)(i j Z W:ab)(cv:LV),rr=.ok (.ret (.ref C))/\os=(aU A X i G j n' []).map (·.2)++[aa [] Z.e,aa (sv [p,q] m::H) S]/\news=[(C,aa cv W.e)]/\af out cv):=by
 obtain _ | ⟨q0,hz,hs,hlw1⟩:=hlw0
 rename_i E n1
 unfold fJ at hf
 split at hf
 .cases hf
 rename_i hb
 have h:0 + (d.length + 1) < 1000:=(Cv (a:=0) (b:=0) (c:=0) hb).2.2
 rw [M4] at h
 have I:d.length < 1000:=LZ h
 have hsz:d.length < 40000:=oA I rfl
 have K:bC d ((sv [p,q] m::H).drop 1):=hst
 have L:bC ((p,q)::d) (sv [p,q] m::H):=.cons p q m hst
 have z:af [] []:=.nil
 have hf:fJ ((p,q)::d) f (nx (gI ((p,q)::d) [g] g []) (s1::ws)).1 (nx (gI ((p,q)::d) [g] g []) (s1::ws)).2.1 (nx (gI ((p,q)::d) [g] g []) (s1::ws)).2.2 [[g]]=Ld out:=hf
 rw [show gI ((p,q)::d) [g] g []=fH g [g] d (if ([p] == [g])=Lh then [[g,q]] else []) from rfl] at hf
 apply fE b 0x4070c1420304040090400101000000002000000200000022c58b002c58b1600001;intro V N T V B0 Y0 fin st
 apply vi b 0xb0208600163060c182c000160058b;intro o;apply sZ w a b A X G Jd Jl q0 pe hz (by simp);k_all;intro u i j N1 T1 st
 apply jY b 0x24682043800e003800a002850b000068d1a340000000580000000b;intro o;apply dx w a b (N + 1) [] [g] u 0 z (by decide);k_all;intro J N2 T2 hq st
 apply aE b 0x4000000000580002c58b;intro o;apply aG w a b (N2 + 1) O 0 ([(sv [p,q] m)]++H) S (sv [p,q] m) rfl;k_all;intro N3 T3 st
 apply o7 b;intro o;apply fX w a b [p] [g] (T3 + 2) (T3 + 5);k_all;intro v N4 T4 hq1
 rw [<- hq1] at hf
 have hy:=iz g [g] d
 cases v
 .apply dC b 0x68a12203860a101820200602;intro st
  apply lg b;intro o;apply kc w a b A X G i j n1 E O ([(sv [p,q] m)]++H) S N (N + 1) (N2 + 1) [] g (ae (o 10)) (sv [p,q] m) d [] [] pe 1 _ K z (by simpa using hsz) (by decide) rfl;k_mem;intro V V V N5 T5 k V;refine jA (fun pb' Z F Jf' oi k=>?_) k;apply jr k;intro B;apply dC b 0x101c305080c1010024100040400000000800000080000008b;intro st
  refine ma (fun R y n2 k=>?_) (qm B (LJ (hy _) (by show 0 + d.length < _;rw [M4];exact oA I rfl)) hlw1)
  apply lg b;intro o;apply mB w a b A X G i j k.1 Z.e;k_mem;intro V V V N6 T6 h V;refine gz (fun u1 r t D h=>?_) h;apply dX h;apply dC b 0x16284880e182840608080180858b;intro st
  apply lg b;intro o;apply th w a b A X G (f:=f) (out:=out) (n':=n') O ([(sv [p,q] m)]++H) S N (N + 1) ([(p,q)]++d) L r t n2 y _ _ _ R D [[g]] [(sv [g] u)] J.e (ae (o 10)) F k.2.2 k.2.1 hq hf;k_mem;intro V V V N7 T7 h V;refine uL (fun s x M W Y U P h=>?_) h;apply jr h;intro Q;apply dC b 11;intro st
  apply fT b [0,1,2,3,4,5,6,7,8,9,11];apply fin;intro o τ;refine ox (N + 1) s x M W P ⟨?_, ?_, ?_,Q⟩;apply rfl;apply rfl;apply rfl;rfl;k_mem
 .apply dC b 0x100000058b040400000000800000080000008b;intro st
  apply fc b 0x101c305080c1010024100;intro o;apply bB w a b [g] [q] u (T4 + 1) (by show 1 + 1 < 60000;decide);k_all;intro v1 N5 T5 st
  apply jY b 0x68a12203860a101820200602;intro o;apply j9 w a b A X G i j E n1 [g,q] v1 [] pe z (by decide);k_all;intro D N6 T6 B st
  apply lg b;intro o;apply kc w a b A X G i j n1 E O ([(sv [p,q] m)]++H) S N (N + 1) (N2 + 1) [] g (ae (o 10)) (sv [p,q] m) d [[g,q]] [sv [g,q] v1] D 1 _ K B (by show 1 + d.length < _;rw [NV];exact oE I rfl) (by decide) rfl;k_mem;intro V V V N7 T7 k V;refine jA (fun pb' Z F Jf' oi k=>?_) k;apply jr k;intro B;apply dC b 0x101c305080c1010024100040400000000800000080000008b;intro st
  refine ma (fun R y n2 k=>?_) (qm B (LJ (hy _) (by show 1 + d.length < _;rw [NV];exact oE I rfl)) hlw1)
  apply lg b;intro o;apply mB w a b A X G i j k.1 Z.e;k_mem;intro V V V N8 T8 h V;refine gz (fun u1 r t D h=>?_) h;apply dX h;apply dC b 0x16284880e182840608080180858b;intro st
  apply lg b;intro o;apply th w a b A X G (f:=f) (out:=out) (n':=n') O ([(sv [p,q] m)]++H) S N (N + 1) ([(p,q)]++d) L r t n2 y _ _ _ R D [[g]] [(sv [g] u)] J.e (ae (o 10)) F k.2.2 k.2.1 hq hf;k_mem;intro V V V N9 T9 h V;refine uL (fun s x M W Y U P h=>?_) h;apply jr h;intro Q;apply dC b 11;intro st
  apply fT b [0,1,2,3,4,5,6,7,8,9,11];apply fin;intro o τ;refine ox (N + 1) s x M W P ⟨?_, ?_, ?_,Q⟩;apply rfl;apply rfl;apply rfl;rfl;k_mem
def kF:Lg:=ed (ax (ai cY) 5)
section
variable(w:Lj)(a b:Bool)(fr:List Env)(F d f cx g:Nat)(stv:LV)(A:LexA)(X:LexX)(h:ab)(CL it ac i:Nat)
include w a b fr F d f cx g stv A X h CL it ac i
theorem xI(sx:LN)(E:Nat)(I:stv[i]? = Ld (sv sx E)){p:LV}{s:LN}{m:LV}{n n':Int}(H:TR p s m n n')(D:p.length < 50000)(hsz:s.length < 40000)(c:Bool)(v:Lc)(J q r:ab)(j:LV)(x:Nat)(hz:j.length < 1000)(lows:Mem)(k:Lm->Mem->Prop)(IH:∀(v:Lc)(J:ab)(t x:Nat)(q r:ab),ak w a b fr 9 (.compLoop kF 0 (.ref it) (.ref ac) (fw kF CL F oU cx)) (([(CL,bR Lh ir v J),(it,al d (i + 1)),(cg ac j [sv s t] x)]++(aU A X q h r n' m++(eg A.pb [] g d stv f cx A.l)))++lows) k) :
  ak w a b fr 9 (.compLoop kF 0 (.ref it) (.ref ac) (fw kF CL F oU cx)) (([(CL,bR c ir v J),(it,al d i),(ac,aa j x)]++(aU A X q h r n p++(eg A.pb [] g d stv f cx A.l)))++lows) k:=by
 have TK:=fun(q r:ab)=>sZ w a b A X h q r H g D hsz
 apply eY b c 6759866748109056;intro V N T K S B st
 apply bo b c 0x58a12203860a1018904002840000000080000008000000838081;intro o;apply aG w a b it d i stv f (sv sx E) I;k_all;intro L P st
 apply Ix b c;intro o;apply TK q r;k_mem;intro V V V M Q C V;refine ma (fun u y z C=>?_) C;apply dX C;apply na b c 539001216;intro st
 apply cP b c 3;intro o;apply aB w a b ac j (sv s u) x (by kd_p);k_all;intro G O R st
 apply gT b c [0,1,2,3,4,5,6,7,8,9,10,11,12,13];apply B;intro o;apply IH (sv sx E) (ae (o 0)) u G.e y z;k_mem
theorem xJ(r:stv.length<=i)(c:Bool)(v:Lc)(J m p:ab)(j:LV)(n:Int)(e:LV)(q:Nat)(lows:Mem) :
  ak w a b fr 9 (.compLoop kF 0 (.ref it) (.ref ac) (fw kF CL F oU cx)) (([(CL,bR c ir v J),(it,al d i),(ac,aa e q)]++(aU A X m h p n j++(eg A.pb [] g d stv f cx A.l)))++lows)
   (d6 .next ([(CL,bR c ir v J),(ac,aa e q)]++(aU A X m h p n j++(eg A.pb [] g d stv f cx A.l))) lows):=by
 apply eY b c 6759866748109056;intro V N T s y k st
 apply nA b c 15;intro o;apply aP w a b it d i stv f r;k_all;intro x z t u st
 apply lh b c [0,2,3,4,5,6,7,8,9,10,11,12,13];apply k;intro o τ;refine ⟨?_, ?_⟩;apply rfl;apply rfl;k_mem
end
theorem bC.str{l:List (Nat × Nat)}{vs:LV}(h:bC l vs):af (l.map fun x=>[x.1,x.2]) vs:=by
 induction h with
 | nil=>exact .nil
 | cons p q t _ a=>exact .cons _ t a
theorem bC.strc{p q:Nat}{l:List (Nat × Nat)}{vs:LV}(h:bC l vs)(t:Nat):af (((p,q)::l).map fun x=>[x.1,x.2]) (sv [p,q] t::vs):=.cons _ t h.str
theorem af.stp:∀{l:List (Nat × Nat)}{vs:LV},af (l.map fun x=>[x.1,x.2]) vs->bC l vs:=by
 intro l
 induction l with
 | nil=>intro vs h;cases h;exact .nil
 | cons x l a=>intro vs h;cases h with
  | cons s t h=>exact .cons _ _ t (a h)
theorem GK(w:Lj)(a b:Bool)(fr:List Env)(F z M E K:Nat)(d:LV)(A:LexA)(X:LexX)(G:ab)(ss:LLN)(U:af ss d)(hz:d.length < 900)(f p:LLN)(y:f.length=d.length)(W:f≠[]){e:LV}{n n':Int}(hL:LW e (f++p) n n')(CL it ac:Nat)(J g j:ab)(u:Nat)(lows:Mem) :
  ak w a b fr 9 (.compStart kF 0 (.ref it) (.ref ac) (fw kF CL F oU E)) ([(CL,av [] J),(it,al z 0),(ac,aa [] u)]++(aU A X g G j n e++(eg A.pb [] K z d M E A.l))++lows)
   (fun rr F'=>∃(v:Lc)(J g j:ab)(vs k:LV)(O:Int)(u:Nat),rr=.ok .next/\F'=([(CL,av [(ir,v)] J),(ac,aa vs u)]++(aU A X g G j O k++(eg A.pb [] K z d M E A.l)))++lows/\af f vs/\LW k p O n'):=by
 refine bD (l:=z) (i:=0) 1 ((Nr kF)[0]!) rfl (by kernel_rfl) (by kernel_rfl) (by kernel_rfl) (by kernel_rfl) (by kernel_rfl) ?_
 refine aO.weak (gj (fun c v J=>bR c ir v J) (al z) (fun i r=>∃(g j:ab)(e:LV)(n:Int),r=aU A X g G j n e++(eg A.pb [] K z d M E A.l)/\LW e ((f++p).drop i) n n') lows d.length (fun i x=>∃(s:LN)(t:Nat),(f++p)[i]? = Ld s/\x=sv s t) [] (by simp;kd_p) (fun i hi c v J D u hz r S L IH=>?_) (fun c v J D u r S=>?_) Li .none J u _ (jJ g j e n ⟨rfl,hL⟩)) (Lf _) fun rr F' q=>?_
 .refine gz (fun g j e n o=>?_) S;obtain ⟨rfl,B⟩:=o
  refine bp fun C m=>?_;refine bp fun C m=>?_;refine bp fun C m=>?_;obtain ⟨sx,tx,_,N⟩:=U.at (Lo hi);apply m;clear m;apply m;clear m;apply m;clear m
  have Y:d[i]? = Ld (sv sx tx):=by rw [Lo hi,N]
  have H:i < (f++p).length:=by rw [Lq];kd_p
  rw [List.drop_eq_getElem_cons H] at B
  refine bp fun C m=>?_;cases B with
  | cons q Q hsz B=>
   apply m;clear m
   exact xI w a b fr F z M E K d A X G CL it ac i sx tx Y q Q (by kd_p) c v J g j D u hz lows L fun v J t u g j=>IH v J _ ⟨_,t,Lo H,rfl⟩ u _ (jJ g j _ _ ⟨rfl,B⟩)
 .refine gz (fun g j e n o=>?_) S;obtain ⟨rfl,B⟩:=o
  exact xJ w a b fr F z M E K d A X G CL it ac _ (Lf _) c v J g j e n D u lows
 .refine qc (fun c' v J Z P r o=>?_) q;apply gu o;intro o;refine y7 (fun hc z1 I ho=>?_) o;refine bp fun C m=>?_;refine gz (fun g j k O o=>?_) z1;obtain ⟨rfl,B⟩:=o;apply m;clear m
  have hp:c'=Lh:=by
   rw [hc,OV]
   have : d.length≠0:=by rw [<- y];exact fun h=>W (Mw.mp h)
   simpa using this
  subst hp
  rw [<- y,List.drop_left] at B
  refine ⟨_,.refl _,(oy v J g j Z k O P ⟨rfl,rfl,af.of_at (by rw [I,y]) fun i x N=>?_,B⟩)⟩
  refine d9 (fun s t o=>?_) (ho i x N);obtain ⟨h1,h2⟩:=o
  have R:i < f.length:=by rw [y,<- I];exact (Mn.mp N).1
  rw [NW R] at h1
  exact ⟨s,t,h1,h2⟩
theorem GM(w:Lj)(a b:Bool)(fr:List Env)(X:eZ)(u B r:Nat)(g:LV)(A:LexA)(E:LexX)(D:ab)(p q:Nat)(d:List (Nat × Nat))(O:af (((p,q)::d).map fun x=>[x.1,x.2]) g)(hz:g.length < 900)(G:Nat)(H:LN)(K:LLN){z:LV}{n n':Int}(hL:LW z ((((p,q)::d).map fun x=>[x.1,x.2])++([G]::H::K)) n n')(f:Nat)(outW:LLN)(hf:fJ ((p,q)::d) (f + 1) [G] [] (H::K) []=Ld outW)(vS vR:Lc)(J h i:ab)(lows:Mem) :
  dh w a b fr 11 (jj X) (eU (mL cY 5 6) (bu X)) (([(ay X.F [(dq,vS),(e5,vR)] J),(X.cs,ad (Ld (.ref u))),(X.cc,ad Lk)]++(aU A E h D i n z++(eg A.pb [] r u g B X.cx A.l)))++lows)
   (fun R Q=>∃(Rd re Cm ce:Nat)(P L:LV)(J h i:ab)(r:Nat),R=.ok .next/\Q=([(ay X.F [(dq,vS),(e5,vR),(ey,.ref Rd)] J),(X.cs,ad (Ld (.ref u))),(X.cc,ad (Ld (.ref Cm))),(Rd,aa P re),(Cm,aa L ce)]++(aU A E h D i n' []++(eg A.pb [] r u g B X.cx A.l)))++lows/\af (((p,q)::d).map fun x=>[x.1,x.2]) P/\af outW L):=by
 have C5:∀(fr:List Env)(CL it ac:Nat)(J h i:ab)(k:Nat)(lows:Mem),ak w a b fr 9 (.compStart kF 0 (.ref it) (.ref ac) (fw kF CL X.F oU X.cx)) ([(CL,av [] J),(it,al u 0),(ac,aa [] k)]++(aU A E h D i n z++(eg A.pb [] r u g B X.cx A.l))++lows)
   (fun R Q=>∃(v:Lc)(J h i:ab)(I:Nat)(y c:LV)(m:Int)(k:Nat),R=.ok .next/\Q=([(CL,av [(ir,v)] J),(ew ac [p,q] I y k)]++(aU A E h D i m c++(eg A.pb [] r u g B X.cx A.l)))++lows/\bC d y/\LW c ([G]::H::K) m n'):=fun fr CL it ac J h i k lows=>by
  refine aO.weak (GK w a b fr X.F u B X.cx r g A E D _ O hz (((p,q)::d).map fun x=>[x.1,x.2]) ([G]::H::K) (by rw [O.length]) (by simp) hL CL it ac J h i k lows) (Lf _) fun R Q q=>?_
  refine oO (fun v J h i vs c m k j=>?_) q;apply gu j;intro j;obtain ⟨h1,h2⟩:=j
  refine bp fun C kC=>?_;cases h1 with
  | cons s t h1=>apply kC;clear kC;exact ⟨_,.refl _,(Cu v J h i t _ c m k ⟨rfl,rfl,h1.stp,h2⟩)⟩
 have RN:=fun(h i:ab)(m:Int)(c:LV)(Z I:Nat)(y:LV)(B r:Nat)(hs:bC d y)(hl:LW c ([G]::H::K) m n')=>GJ w a b A E D h i m n' c Z p q I y B r d hs G H K hl f outW hf
 apply fU b 0x3460b14244070c142031e3880e043c00d0034682;intro V N T B0 Y0 fin st
 apply j0 b;intro o;apply C5 ([(bu X)]++fr) (N + 2) N (N + 1) (ae (o 16)) h i 0 lows;k_mem;intro V V N1 T1 j;refine Cc (fun v J1 U Y I y c m k j=>?_) j;apply jt j;intro M;refine ⟨_,_,.refl _,fun Y0=>?_⟩;apply dC b 0x114244070c1420304281001c34001020470e;intro st
 have hq:=M.1
 have hq1:=M.2
 apply lg b;intro o;apply RN U Y m c (N + 1) I y k r hq ‹_›;k_mem;intro V V V N2 T2 j V;refine qc (fun C S W Jp Jc cv j=>?_) j;apply jr j;intro hq2;apply dC b 2064;intro st
 apply b4 b [13,14,15,1,16,2,3,4,5,6,7,8,9,10,11,12];apply fin;intro o τ;refine rT (N + 1) k C Jc.e ([(sv [p,q] I)]++y) cv (ae (o 13)) S W Jp.e ⟨?_, ?_,(by exact bC.strc ‹_› _),hq2⟩;apply rfl;apply rfl;k_mem
def Bp(ss:LLN)(p:Nat):List LLN:=[ss.flatMap (kD p),ss.flatMap (kB p),ss.flatMap (ud p)]
inductive lb(G:Nat->List LLN):LN->List (LN × Lc)->Mem->Prop
 | nil (M:Mem):lb G [] [] M
 | snoc {ps:LN} {kvs:List (LN × Lc)} {lows:Mem} (h:lb G ps kvs lows) {p:Nat} {x0 x1 x2:LLN} {v0 v1 v2:LV} (hG:G p=[x0,x1,x2]) (h0:af x0 v0) (h1:af x1 v1) (h2:af x2 v2) (L L0 L1 L2 e e0 e1 e2:Nat) :
   lb G (ps++[p]) (kvs++[([p],.ref L)]) ((L,aa [.ref L0,.ref L1,.ref L2] e)::(L0,aa v0 e0)::(L1,aa v1 e1)::(L2,aa v2 e2)::lows)
theorem lb.keys{G:Nat->List LLN}{a:LN}{kvs:List (LN × Lc)}{lows:Mem}(h:lb G a kvs lows):kvs.map (·.1)=a.map fun p=>[p]:=by
 induction h with
 | nil=>rfl
 | snoc h _ _ _ _ L c d f e g i j b=>rw [LC,LC,b];rfl
theorem n8{k:LN} : ∀{kvs:List (LN × Lc)},k∉kvs.map (·.1)->am kvs k=Lk
 | [],_=>rfl
 | (k',v)::r,h=>by
  dsimp only [am]
  rw [Lz,LD,not_or] at h
  rw [if_neg (fun e=>h.1 e.symm)]
  exact n8 h.2
section
variable{G:Nat->List LLN}{ps:LN}{kvs:List (LN × Lc)}{lows:Mem}(h:lb G ps kvs lows)
include G ps kvs lows h
theorem lb.none{p:Nat}(hp:p∉ps):am kvs [p]=Lk:=by
 refine n8 ?_
 rw [h.keys]
 intro hm
 obtain ⟨q,a,e⟩:=LE.mp hm
 cases e
 exact hp a
theorem lb.len:kvs.length=ps.length:=by
 have:=congrArg Og h.keys
 simpa using this
end
def lU(w:Lj)(a b:Bool)(fr:List Env)(L:Nat)(c:Mk)(B:Type)(Q:B->Prop)(Qc:Nat->B->Mem)(k:Nat)(G:Nat->List LLN)(i:Nat)(p:Nat):Prop:=
 ∀(kvs:List (LN × Lc))(f:ab)(ep:Nat)(x:B)(lows:Mem)(d:Lm->Mem->Prop),kvs.length < 1000->am kvs [p]=Lk ->
  (∀(x:B)(V:Q x)(f:ab)(L' g h j e s t u:Nat)(o q r:LLN)(l m n:LV),G p=[o,q,r]->af o l->af q m->af r n ->
   aO pw (wd w a b) (kt (wd w a b).params) fr L c (Qc (i + 1) x++((k,bO (wd w a b) (kvs++[([p],.ref L')]) f (ep + 1))::(L',aa [.ref g,.ref h,.ref j] e)::(g,aa l s)::(h,aa m t)::(j,aa n u)::lows)) d) ->
  aO pw (wd w a b) (kt (wd w a b).params) fr L c (Qc i x++((k,bO (wd w a b) kvs f ep)::lows)) d
theorem y3{w:Lj}{a b:Bool}{fr:List Env}{L:Nat}{c:Mk}{B:Type}{Q:B->Prop}{Qc:Nat->B->Mem}{s:Nat}{G:Nat->List LLN}{H I J K:Nat}(U:[H,I,J,K].Nodup)(Z:lU w a b fr L c B Q Qc s G 0 H)(t1:lU w a b fr L c B Q Qc s G 1 I)(t2:lU w a b fr L c B Q Qc s G 2 J)(t3:lU w a b fr L c B Q Qc s G 3 K)(g:ab)(ep:Nat)(x:B)(lows:Mem)(f:Lm->Mem->Prop)(W:∀(x:B)(V:Q x)(kvs:List (LN × Lc))(g:ab)(ep:Nat)(d:Mem),lb G [H,I,J,K] kvs d->aO pw (wd w a b) (kt (wd w a b).params) fr L c (Qc 4 x++((s,bO (wd w a b) kvs g ep)::d)) f) :
  aO pw (wd w a b) (kt (wd w a b).params) fr L c (Qc 0 x++((s,bO (wd w a b) [] g ep)::lows)) f:=by
 simp only [Mb,LD,MB,or_false,not_or] at U
 refine y7 (fun z0 z1 F z3=>?_) U;obtain ⟨z,A,C⟩:=z0;obtain ⟨D,E⟩:=z1;obtain - := z3
 have X:lb G [] [] lows:=.nil _
 refine Z _ _ _ _ _ _ (by decide) rfl fun x t g L' i j k e l m n P R S M N O r o p q=>?_
 have u:=X.snoc r o p q L' i j k e l m n
 refine t1 _ _ _ _ _ _ (by rw [u.len];simp) (u.none (by simpa using fun h=>z h.symm)) fun x t g L' i j k e l m n P R S M N O r o p q=>?_
 have v:=u.snoc r o p q L' i j k e l m n
 refine t2 _ _ _ _ _ _ (by rw [v.len];simp) (v.none (by simp;exact ⟨fun h=>A h.symm,fun h=>D h.symm⟩)) fun x t g L' i j k e l m n P R S M N O r o p q=>?_
 have y:=v.snoc r o p q L' i j k e l m n
 refine t3 _ _ _ _ _ _ (by rw [y.len];simp) (y.none (by simp;exact ⟨fun h=>C h.symm,fun h=>E h.symm,fun h=>F h.symm⟩)) fun x t g L' i j k e l m n P R S M N O r o p q=>?_
 have Y:=y.snoc r o p q L' i j k e l m n
 exact W x t _ _ _ _ Y
def un(X:eZ)(a c b e sc:Nat)(d f:LV)(CL it:Nat)(i:Nat)(x:Option Lc × ab):Mem:=[(CL,av [] x.2),(it,al a i),(sc,ad x.1),(a,aa d c),(b,aa f e),(X.cy,ad (Ld (.ref b)))]
theorem Bq(w:Lj)(a b:Bool)(fr:List Env)(X:eZ)(l n m o sc:Nat)(j f:LV)(CL it c i:Nat)(ss:LLN)(J:af ss f)(I:f≠[])(K:f.length < 900)(hne:∀s∈ss,s≠[])(p g:Nat)(W:j[i]? = Ld (sv [p] g)) :
  lU w a b fr 20 (.compLoop aZ 0 (.ref it) (.ref c) (dz aZ CL X (rR sc X))) (Option Lc × ab) (fun V=>True) (un X l n m o sc j f CL it) c (Bp ss) i p:=by
 intro kvs q ep x lows O hz U IH
 have S:Qn aZ 0 (.ref it) (.ref c) (dz aZ CL X (rR sc X))=.compLoop (.DictComp (lR aZ) (jk aZ) [⟨lS aZ,iP aZ,[],0⟩] (jG aZ) (qD aZ)) 0 (.ref it) (.ref c) (dz aZ CL X (rR sc X)):=by rw [<- ug]
 refine kE w a b (k:=[p]) (kvs:=kvs) S hz U
  (post1:=fun h=>h=un X l n m o sc j f CL it (i + 1) (Ld (sv [p] g),x.2)++((c,bO (wd w a b) kvs q ep)::lows))
  (post2:=fun t h=>t=g/\h=un X l n m o sc j f CL it (i + 1) (Ld (sv [p] g),x.2)++((c,bO (wd w a b) kvs q ep)::lows))
  (post3:=fun v Q F N=>∃(L r u y e C D E:Nat)(z A B:LV),v=.ref L/\F=ep/\N=un X l n m o sc j f CL it (i + 1) (Ld (sv [p] g),x.2)++((L,aa [.ref r,.ref u,.ref y] e)::(r,aa z C)::(u,aa A D)::(y,aa B E)::lows)/\af (ss.flatMap (kD p)) z/\af (ss.flatMap (kB p)) A/\af (ss.flatMap (ud p)) B)
  (bW.weakP (AE w a b fr X l n m o sc j f CL it c i p g W x.1 x.2 ((c,bO (wd w a b) kvs q ep)::lows)) (Lf _) ?_) ?_ ?_ ?_
 .rintro P h ⟨rfl,rfl⟩
  exact ⟨_,.refl _,rfl,rfl⟩
 .rintro h rfl
  refine dW.tree (bW.weakP (AF w a b fr X l n m o sc j f CL it c (i + 1) p g x.2 ((c,bO (wd w a b) kvs q ep)::lows)) (Lf _) ?_)
  rintro P h ⟨rfl,rfl⟩
  exact ⟨_,.refl _,_,rfl,g,rfl,rfl,rfl⟩
 .rintro t h ⟨rfl,rfl⟩
  refine dW.tree (bW.weakP (AG w a b fr X l n m o sc j f CL it c (i + 1) ss J I K hne p t x.2 ((c,bO (wd w a b) kvs q ep)::lows)) (Lf _) ?_)
  intro P h M;refine ni (fun L r u y e C D E z A B d=>?_) M;apply gu d;intro d;refine qd (fun d G H=>?_) d
  exact ⟨_,Pk.perm MH,_,rfl,(gB q ep _ ⟨rfl,(qU L r u y e C D E z A B ⟨rfl,rfl,rfl,d,G,H⟩)⟩)⟩
 .intro v Q F R N M;refine ni (fun L r u y e C D E z A B d=>?_) M;apply y8 d;intro d;refine qd (fun d G H=>?_) d
  exact aO.pk (IH (Ld (sv [p] g),x.2) trivial R L r u y e C D E _ _ _ z A B rfl d G H) (Pk.perm MH.symm)
abbrev GN (x0 x1 x2 x3 x4 x5 x6 x7 x8 x9 x10 x11 x12 x13 x14):=(fun e b=>∃(kvs:List (LN × Lc))(d:Option Lc)(J c:ab)(ep:Nat)(a:Mem),e=.ok .next/\b=[(x0,av [] J),(x1,ad d),(x2,bq x3 x4),(x5,aa x6 x7),(x8,ad (Ld (.ref x5))),(x9,bO (wd x10 x11 x12) kvs c ep)]++a/\lb (Bp x13) x14 kvs a:Lm->Mem->Prop)
theorem Br(w:Lj)(a b:Bool)(fr:List Env)(X:eZ)(m n u sc:Nat)(r:E4->Nat)(D:∀i j,r i=r j->i=j)(c:ab)(g:LV)(CL it k:Nat)(ss:LLN)(z:af ss g)(v:g≠[])(A:g.length < 900)(hne:∀s∈ss,s≠[])(B:Option Lc)(J l:ab)(ep:Nat)(lows:Mem) :
  ak w a b fr 20 (.compLoop aZ 0 (.ref it) (.ref k) (dz aZ CL X (rR sc X))) (un X m c.e n u sc [sv [r .z0] (c.t 0),sv [r .z1] (c.t 1),sv [r .z2] (c.t 2),sv [r .z3] (c.t 3)] g CL it 0 (B,J)++((k,bO (wd w a b) [] l ep)::lows))
   (GN CL sc m r c n g u X.cy k w a b ss [r .z0,r .z1,r .z2,r .z3]):=by
 have d:∀i j:E4,i≠j->r i≠r j:=fun i j h q=>h (D i j q)
 have y:[r .z0,r .z1,r .z2,r .z3].Nodup:=by
  simp only [Mb,LD,MB,or_false,not_or,MN,not_false_eq_true,and_true]
  exact ⟨⟨d _ _ (by intro h;cases h),d _ _ (by intro h;cases h),d _ _ (by intro h;cases h)⟩,⟨d _ _ (by intro h;cases h),d _ _ (by intro h;cases h)⟩,d _ _ (by intro h;cases h)⟩
 have o:=fun(i:Nat)(p F:Nat) E=>Bq w a b fr X m c.e n u sc [sv [r .z0] (c.t 0),sv [r .z1] (c.t 1),sv [r .z2] (c.t 2),sv [r .z3] (c.t 3)] g CL it k i ss z v A hne p F E
 refine y3 y (o 0 _ _ rfl) (o 1 _ _ rfl) (o 2 _ _ rfl) (o 3 _ _ rfl) l ep (B,J) lows _ fun x V kvs l ep f C=>?_
 refine aO.weak (AH w a b fr X m c.e n u sc [sv [r .z0] (c.t 0),sv [r .z1] (c.t 1),sv [r .z2] (c.t 2),sv [r .z3] (c.t 3)] g CL it k 4 (Lf _) x.1 x.2 ((k,bO (wd w a b) kvs l ep)::f)) (Lf _) fun H G q=>?_
 obtain ⟨rfl,rfl⟩:=q
 exact ⟨_,.refl _,(ox kvs x.1 x.2 l ep f ⟨rfl,rfl,C⟩)⟩
def uo(X:eZ)(a g j d h:Nat)(c b:LV)(r:E4->Nat)(f:ab)(CL it:Nat)(i:Nat)(x:(Bool × Lc) × (ab × Option Nat)):Mem:=[(CL,bR x.1.1 jB x.1.2 x.2.1),(it,al a i),(X.cr,ad (Ld (.ref a))),(X.cn,ad (Ld (.ref g))),(X.cc,ad (Ld (.ref d))),(a,aa (bQ r f) f.e),(g,aa c j),(d,aa b h),(184,b6 x.2.2)]
section
variable(w:Lj)(l a b:Bool)(fr:List Env)(X:eZ)(u p A o B:Nat)(f c:LV)(r:E4->Nat)(n:ab)(CL it g:Nat)
include w l a b fr X u p A o B f c r n CL it g
theorem Bs(ss:LLN)(hss:af ss c)(W:c≠[])(hz:c.length < 900)(hne:∀s∈ss,s≠[])(i:Nat)(q:E4)(z:Nat)(hx:(bQ r n)[i]? = Ld (sv [je q] z))(hj:(n6 r)[i]? = Ld [je q])(Y:∀m,m < i->(n6 r)[m]? ≠ Ld [je q])(D:Int)(tn:Nat)(Z:f[(0:Int).toNat]? = Ld (.int D tn)) :
  lU (wT w l) a b fr 20 (.compLoop ba 0 (.ref it) (.ref g) (dz ba CL X (rS X))) ((Bool × Lc) × (ab × Option Nat)) (fun x=>x.1.1=Lh) (uo X u p A o B f c r n CL it) g (Bp ss) i (je q):=by
 intro kvs F ep x lows post hz1 hv IH
 obtain ⟨d,hd⟩ : ∃d:Bool,(D + Ll i).fmod 2=if d then 1 else 0:=by
  have j:=NJ (D + Ll i) (by decide:(0:Int) < 2)
  have S:=Oh (D + Ll i) (by decide:(0:Int) < 2)
  rcases (by kd_p:(D + Ll i).fmod 2=0∨(D + Ll i).fmod 2=1) with h|h
  .exact ⟨Li,h⟩
  .exact ⟨Lh,h⟩
 have hc:Qn ba 0 (.ref it) (.ref g) (dz ba CL X (rS X))=.compLoop (.DictComp (lR ba) (jk ba) [⟨lS ba,iP ba,[],0⟩] (jG ba) (qD ba)) 0 (.ref it) (.ref g) (dz ba CL X (rS X)):=by rw [<- ul]
 refine kE (wT w l) a b (k:=[je q]) (kvs:=kvs) hc hz1 hv
  (post1:=fun C=>∃J:ab,C=uo X u p A o B f c r n CL it (i + 1) ((Lh,sv [je q] z),(J,x.2.2))++((g,bO (wd (wT w l) a b) kvs F ep)::lows))
  (post2:=fun t C=>∃J:ab,t=z/\C=uo X u p A o B f c r n CL it (i + 1) ((Lh,sv [je q] z),(J,x.2.2))++((g,bO (wd (wT w l) a b) kvs F ep)::lows))
  (post3:=fun v J' R F3=>∃(J:ab)(y:Option Nat)(L G H I e O P Q:Nat)(K M N:LV),v=.ref L/\R=ep/\F3=uo X u p A o B f c r n CL it (i + 1) ((Lh,sv [je q] z),(J,y))++((L,aa [.ref G,.ref H,.ref I] e)::(G,aa K O)::(H,aa M P)::(I,aa N Q)::lows)/\af (ss.flatMap (kD (je q))) K/\af (ss.flatMap (kB (je q))) M/\af (ss.flatMap (ud (je q))) N)
  (bW.weakP (Bj w l a b fr X u p A o B f c r n CL it g i (je q) z hx x.1.1 x.1.2 x.2.1 x.2.2 ((g,bO (wd (wT w l) a b) kvs F ep)::lows)) (Lf _) ?_) ?_ ?_ ?_
 .intro rr C E;refine bj (fun J j=>?_) E;apply kW j
  exact ⟨_,.refl _,rfl,J,rfl⟩
 .rintro C ⟨J,rfl⟩
  refine dW.tree (bW.weakP (Bk w l a b fr X u p A o B f c r n CL it g (i + 1) (je q) z J x.2.2 ((g,bO (wd (wT w l) a b) kvs F ep)::lows)) (Lf _) ?_)
  rintro rr C ⟨rfl,rfl⟩
  exact ⟨_,.refl _,_,rfl,z,rfl,J,rfl,rfl⟩
 .intro t C E;refine bj (fun J j=>?_) E;obtain ⟨rfl,rfl⟩:=j
  refine dW.tree (bW.weakP (Bl w l a b fr X u p A o B f c r n CL it g ss hss W hz hne (i + 1) i q t hj Y D tn Z d hd J x.2.2 ((g,bO (wd (wT w l) a b) kvs F ep)::lows)) (Lf _) ?_)
  intro rr C E;refine uR (fun L G H I e O P Q y K M N j=>?_) E;apply gu j;intro j;refine qd (fun j S U=>?_) j
  rw [xD] at j S U
  exact ⟨_,Pk.perm MH,_,rfl,(gB F ep _ ⟨rfl,(rU J y L G H I e O P Q K M N ⟨rfl,rfl,rfl,j,S,U⟩)⟩)⟩
 .intro v J' R Jn F3 E;refine qT (fun J y L G H I e O P Q K M N j=>?_) E;apply y8 j;intro j;refine qd (fun j S U=>?_) j
  exact aO.pk (IH ((Lh,sv [je q] z),(J,y)) rfl Jn L G H I e O P Q _ _ _ K M N rfl j S U) (Pk.perm MH.symm)
theorem Bt(Z:∀i j,r i=r j->i=j)(P:E4->E4)(C:∀i,r i=je (P i))(ss:LLN)(K:af ss c)(G:c≠[])(hz:c.length < 900)(hne:∀s∈ss,s≠[])(N:Int)(F:Nat)(I:f[(0:Int).toNat]? = Ld (.int N F))(R:Lc)(J E:ab)(D:Option Nat)(ep:Nat)(lows:Mem) :
  ak (wT w l) a b fr 20 (.compLoop ba 0 (.ref it) (.ref g) (dz ba CL X (rS X))) (uo X u p A o B f c r n CL it 0 ((Li,R),(J,D))++((g,bO (wd (wT w l) a b) [] E ep)::lows))
   (fun O M=>∃(v:Lc)(kvs:List (LN × Lc))(J E:ab)(D:Option Nat)(ep:Nat)(d:Mem),O=.ok .next/\M=[(CL,bR Lh jB v J),(X.cr,ad (Ld (.ref u))),(X.cn,ad (Ld (.ref p))),(X.cc,ad (Ld (.ref o))),(u,aa (bQ r n) n.e),(p,aa f A),(o,aa c B),(184,b6 D),(g,bO (wd (wT w l) a b) kvs E ep)]++d/\lb (Bp ss) [r .z0,r .z1,r .z2,r .z3] kvs d):=by
 have t:∀i j:E4,i≠j->r i≠r j:=fun i j h q=>h (Z i j q)
 have H:[r .z0,r .z1,r .z2,r .z3].Nodup:=by
  simp only [Mb,LD,MB,or_false,not_or,MN,not_false_eq_true,and_true]
  exact ⟨⟨t _ _ (by intro h;cases h),t _ _ (by intro h;cases h),t _ _ (by intro h;cases h)⟩,⟨t _ _ (by intro h;cases h),t _ _ (by intro h;cases h)⟩,t _ _ (by intro h;cases h)⟩
 have F:=fun(i:Nat)(z:E4)(Q:Nat)(S:(bQ r n)[i]? = Ld (sv [r z] Q))(U:(n6 r)[i]? = Ld [r z])(W:∀m,m < i->(n6 r)[m]? ≠ Ld [r z])=>by
  have h:=Bs w l a b fr X u p A o B f c r n CL it g ss K G hz hne i (P z) Q (by rw [<- C];exact S) (by rw [<- C];exact U) (by rw [<- C];exact W) N F I
  rw [<- C] at h
  exact h
 have k:∀x y:E4,x≠y->Ld [r x]≠Ld [r y]:=fun x y h q=>by
  injection q with q
  injection q with q
  exact t x y h q
 refine y3 H (F 0 .z0 _ rfl rfl (fun m h=>by kd_p)) (F 1 .z1 _ rfl rfl (fun m h=>?_)) (F 2 .z2 _ rfl rfl (fun m h=>?_)) (F 3 .z3 _ rfl rfl (fun m h=>?_)) E ep ((Li,R),(J,D)) lows _ fun x L kvs E ep d Y=>?_
 .rcases m with _|m
  .exact k .z0 .z1 (by intro h;cases h)
  .kd_p
 .rcases m with _ | _|m
  .exact k .z0 .z2 (by intro h;cases h)
  .exact k .z1 .z2 (by intro h;cases h)
  .kd_p
 .rcases m with _ | _ | _|m
  .exact k .z0 .z3 (by intro h;cases h)
  .exact k .z1 .z3 (by intro h;cases h)
  .exact k .z2 .z3 (by intro h;cases h)
  .kd_p
 .refine aO.weak (Bm w l a b fr X u p A o B f c r n CL it g 4 (Lf _) x.1.1 x.1.2 x.2.1 x.2.2 ((g,bO (wd (wT w l) a b) kvs E ep)::d)) (Lf _) fun O M q=>?_
  obtain ⟨rfl,rfl⟩:=q
  rw [L]
  exact ⟨_,.refl _,(uM x.1.2 kvs x.2.1 E x.2.2 ep d ⟨rfl,rfl,Y⟩)⟩
end
section
variable(w:Lj)(p a b:Bool)(fr:List Env)(X:eZ)(f k u h x:Nat)(d c:LV)(r:E4->Nat)(g:ab)(A:∀i j,r i=r j->i=j)(z:E4->E4)(t:∀i,r i=je (z i))(ss:LLN)(n:af ss c)(q:c≠[])(hz:c.length < 900)(hne:∀s∈ss,s≠[])(n0:Int)(y:Nat)(m:d[(0:Int).toNat]? = Ld (.int n0 y))
include w p a b fr X f k u h x d c r g A z t ss n q hz hne n0 y m
theorem Bu(CL it C:Nat)(J B:ab)(s:Option Nat)(lows:Mem) :
  ak (wT w p) a b fr 20 (.compStart ba 0 (.ref it) (.ref C) (dz ba CL X (rS X))) ([(CL,av [] J),(it,al f 0),(X.cr,ad (Ld (.ref f))),(X.cn,ad (Ld (.ref k))),(X.cc,ad (Ld (.ref h))),(f,aa (bQ r g) g.e),(k,aa d u),(h,aa c x),(184,b6 s),(C,av [] B)]++lows)
   (fun E D=>∃(v:Lc)(kvs:List (LN × Lc))(J B:ab)(s:Option Nat)(ep:Nat)(o:Mem),E=.ok .next/\D=[(CL,av [(jB,v)] J),(X.cr,ad (Ld (.ref f))),(X.cn,ad (Ld (.ref k))),(X.cc,ad (Ld (.ref h))),(f,aa (bQ r g) g.e),(k,aa d u),(h,aa c x),(184,b6 s),(C,bO (wd (wT w p) a b) kvs B ep)]++o/\lb (Bp ss) [r .z0,r .z1,r .z2,r .z3] kvs o):=by
 refine bD (l:=f) (i:=0) 1 ((Nr ba)[0]!) rfl (by kernel_rfl) (by kernel_rfl) (by kernel_rfl) (by kernel_rfl) (by kernel_rfl) ?_
 exact Bt w p a b fr X f k u h x d c r g CL it C A z t ss n q hz hne n0 y m .none J B s B.e lows
abbrev gQ (x0 x1 x2 x3 x4 x5 x6 x7 x8):=((x0,bk [(dq,x1),(e5,x2),x3,x4,x5,x6] x7 x8):Nat × Obj)
abbrev pQ (x0 x1):=eU [ax (ai cY) x0] (bu x1)
theorem Bv(H I K L M O:Lc)(J:ab)(G:Array (Option Lc))(lows:Mem) :
  dh (wT w p) a b fr 22 (jj X) (pQ 12 X) ([(gQ X.F H I (ey,K) (fC,L) (gV,M) (gS,O) J G),(X.cr,ad (Ld (.ref f))),(X.cn,ad (Ld (.ref k))),(X.cc,ad (Ld (.ref h))),(f,aa (bQ r g) g.e),(k,aa d u),(h,aa c x),(184,b6 Lk)]++lows)
   (fun U P=>∃(E:Nat)(kvs:List (LN × Lc))(J s:ab)(l:Option Nat)(ep:Nat)(i:Mem),U=.ok .next/\P=[(X.F,bk [(dq,H),(e5,I),(ey,K),(fC,L),(gV,M),(gS,O),(qY,.ref E)] J G),(X.cr,ad (Ld (.ref f))),(f,aa (bQ r g) g.e),(184,b6 l),(E,bO (wd (wT w p) a b) kvs s ep)]++i/\lb (Bp ss) [r .z0,r .z1,r .z2,r .z3] kvs i):=by
 have B:=fun(fr:List Env)(CL it R:Nat)(J s:ab)(l:Option Nat)(lows:Mem)=>Bu w p a b fr X f k u h x d c r g A z t ss n q hz hne n0 y m CL it R J s l lows
 apply fU b 0x243860a10182022050a04240050014282;intro V N T W Q C st
 apply j0 b;intro o;apply B ([(bu X)]++fr) (N + 2) N (N + 1) (ae (o 10)) (ae (o 9)) Lk lows;k_mem;intro V V Z T1 D;refine uL (fun v kvs Y s l ep i D=>?_) D;apply jt D;intro S;refine ⟨_,_,.refl _,fun Q=>?_⟩;apply dC b 270550282;intro st
 apply b4 b [9,1,4,7,8];apply C;intro o τ;refine uM (N + 1) kvs (ae (o 9)) s l ep i ⟨?_, ?_,S⟩;apply rfl;apply rfl;k_mem
end
theorem Bw(w:Lj)(a b:Bool)(fr:List Env)(X:eZ)(d f p sc:Nat)(r:E4->Nat)(t:∀i j,r i=r j->i=j)(k:ab)(c:LV)(CL it g:Nat)(ss:LLN)(n:af ss c)(m:c≠[])(o:c.length < 900)(hne:∀s∈ss,s≠[])(q:Option Lc)(J h:ab)(lows:Mem) :
  ak w a b fr 20 (.compStart aZ 0 (.ref it) (.ref g) (dz aZ CL X (rR sc X))) ([(CL,av [] J),(it,al d 0),(sc,ad q),(d,bq r k),(f,aa c p),(X.cy,ad (Ld (.ref f))),(g,av [] h)]++lows)
   (GN CL sc d r k f c p X.cy g w a b ss [r .z0,r .z1,r .z2,r .z3]):=by
 refine bD (l:=d) (i:=0) 1 ((Nr aZ)[0]!) rfl (by kernel_rfl) (by kernel_rfl) (by kernel_rfl) (by kernel_rfl) (by kernel_rfl) ?_
 exact Br w a b fr X d f p sc r t k c CL it g ss n m o hne q J h h.e lows
theorem GO(w:Lj)(a b:Bool)(fr:List Env)(X:eZ)(g h E:Nat)(r:E4->Nat)(L:∀i j,r i=r j->i=j)(t:ab)(e:LV)(ss:LLN)(n:af ss e)(m:e≠[])(p:e.length < 900)(hne:∀s∈ss,s≠[])(x y z A B C D:Lc)(J:ab)(v:Array (Option Lc))(lows:Mem) :
  dh w a b fr 22 (jj X) (pQ 13 X) ([(X.F,bk [(dq,x),(e5,y),(ey,z),(fC,A),(gV,B),(gS,C),(qY,D)] J v),(X.cr,ad (Ld (.ref g))),(g,bq r t),(X.cy,ad (Ld (.ref h))),(h,aa e E)]++lows)
   (fun M G=>∃(q:Nat)(kvs:List (LN × Lc))(J d:ab)(ep:Nat)(c:Mem),M=.ok .next/\G=[(X.F,bk [(dq,x),(e5,y),(ey,z),(fC,A),(gV,B),(gS,C),(qY,D),(yg,.ref q)] J v),(q,bO (wd w a b) kvs d ep)]++c/\lb (Bp ss) [r .z0,r .z1,r .z2,r .z3] kvs c):=by
 have f:=fun(fr:List Env)(sc CL it I:Nat)(u:Option Lc)(J d:ab)(lows:Mem)=>Bw w a b fr X g h E sc r L t e CL it I ss n m p hne u J d lows
 apply fU b 0xc0c20210143870418003000c182;intro V N T O H k st
 apply j0 b;intro o;apply f ([(bu X)]++fr) (N + 3) (N + 2) N (N + 1) Lk (ae (o 7)) (ae (o 6)) lows;k_mem;intro V V Q R l;refine qc (fun kvs u P d ep c l=>?_) l;apply jt l;intro K;refine ⟨_,_,.refl _,fun H=>?_⟩;apply dC b 903;intro st
 apply b4 b [6,5];apply k;intro o τ;refine ox (N + 1) kvs (ae (o 6)) d ep c ⟨?_, ?_,K⟩;apply rfl;apply rfl;k_mem
section
open PySem.SeqAt PySem.MeetsSeq
def pR(w:Lj)(a b:Bool)(c:SN)(x y:Lc)(F:Mem)(v:Bool):Prop:=∀(A:L9)(g h:ME)(G:Array Mi)(D:Nn)(O:Mq)(N T:Nat)(E Q:Lc->Ly->Prop),A.units + 100 < P9->(kt (wd w a b).params).Holds g 1 0->Rep g h N F->Q (.bool v) ⟨h,G,D,T,O⟩->L7 (Lw pw (wd w a b)) A (OA c x y) Q E ⟨h,G,D,T,O⟩
section
variable{w:Lj}{a b:Bool}{fr:List Env}{L:Nat}{c:Mk}{env:Env}{F:Mem}{l r:Lg}{d:SN}{pos:Pos}{post1:Lc->Mem->Prop}
include w a b fr L c env F l r d pos post1
theorem dO.cmpS{e:Bool->Mem->Prop}(hm:Mo d r=Li)(J:NU c.cUnits 100=Lh)(h:dW pw (wd w a b) (kt (wd w a b).params) fr (L + 1) c env l F post1)(H:∀x j,post1 x j->∃post2:Lc->Mem->Prop,dW pw (wd w a b) (kt (wd w a b).params) fr (L + 1) c env r j post2/\∀y f,post2 y f->∃v,pR w a b d x y f v/\e v f):dO pw (wd w a b) (kt (wd w a b).params) fr (L + 1) c env (.Compare l [d] [r] pos) F e:=
 fun A g C G D O N T K m hf o u I k=>IT.cmp hm (h A g C G D O N T _ m hf o u I fun x j z B E p n=>by
  obtain ⟨post2,R,S⟩:=H x j p
  refine R A g E G D O z B _ m hf o u n fun y f q s t Q i=>?_
  obtain ⟨v,M,P⟩:=S y f Q
  refine M _ g t G D O q s _ _ ?_ o i ⟨v,rfl,k v f q s t P i⟩
  exact oL (c:=100) (L:=1) (LS (LP J) _) (oK (MZ (MJ L)) m.2.2))
theorem dW.cmpS{e:Lc->Mem->Prop}(hm:Mo d r=Li)(J:NU c.cUnits 100=Lh)(h:dW pw (wd w a b) (kt (wd w a b).params) fr (L + 1) c env l F post1)(H:∀x j,post1 x j->∃post2:Lc->Mem->Prop,dW pw (wd w a b) (kt (wd w a b).params) fr (L + 1) c env r j post2/\∀y f,post2 y f->∃v,pR w a b d x y f v/\e (.bool v) f):dW pw (wd w a b) (kt (wd w a b).params) fr (L + 1) c env (.Compare l [d] [r] pos) F e:=
 fun A g C G D O N T K m hf o u I k=>EV.cmp hm (h A g C G D O N T _ m hf o u I fun x j z B E p n=>by
  obtain ⟨post2,R,S⟩:=H x j p
  refine R A g E G D O z B _ m hf o u n fun y f q s t Q i=>?_
  obtain ⟨v,M,P⟩:=S y f Q
  refine M _ g t G D O q s _ _ ?_ o i (k _ f q s t P i)
  exact oL (c:=100) (L:=1) (LS (LP J) _) (oK (MZ (MJ L)) m.2.2))
end
section
variable{w:Lj}{a b:Bool}{F:Mem}
include w a b F
theorem uq(x:Int)(t u:Nat):pR w a b .NotEq (.int x t) (.int x u) F Li:=by
 intro A g h G D O N T E Q f e d c
 have:=RcNeAt.int_int (A:=A) (s:=⟨h,G,D,T,O⟩) x t x u pw (wd w a b) E Q
 rw [beq_self_eq_true] at this
 exact this c
theorem rF(x:Bool):pR w a b .NotEq (.bool x) (.bool x) F Li:=by
 intro A g h G D O N T E Q f e d c
 have:=RcNeAt.bool_bool (A:=A) (s:=⟨h,G,D,T,O⟩) x x pw (wd w a b) E Q
 rw [beq_self_eq_true] at this
 exact this c
theorem iQ{l m e e':Nat}{ss c:LLN}{vs d:LV}(h:af ss vs)(f:af c d)(k:(l,aa vs e)∈F)(n:(m,aa d e')∈F):pR w a b .NotEq (.ref l) (.ref m) F (!decide (ss=c)):=
 fun A g i G D O N T E Q q p j o=>jd h f k n pw (wd w a b) A g i G D O N T E Q (by kd_p) j o
end
theorem jH{A:L9}{s:Ly}{l m:Nat}{ss:LLN}{vs a:LV}(h:af ss vs)(b:af ss a)(f:s.heap.IsList l vs.toArray)(hm:s.heap.IsList m a.toArray)(g:A.units < P9):EqAt A s (.ref l) (.ref m) Lh:=by
 by_cases e:l=m
 .subst e
  exact TI _
 .refine SM e ?_
  have hsz:vs.toArray.size=a.toArray.size:=by simp [h.length,b.length]
  have:=Tm (A:=A) f hm hsz g (e:=fun V=>Lh) (fun j c d=>by
   have k:=h.eqAt (A:=A.in1) (s:=s) b j c d
   rw [decide_eq_true rfl] at k
   exact k)
  rwa [show ((Np vs.toArray.size).all fun V=>Lh)=Lh from by simp] at this
section
variable{tot:List LLN}{vals:LV}{lows:Mem}(h:dN tot vals lows)
include tot vals lows h
theorem dN.len:vals.length=tot.length:=by
 induction h with
 | nil=>rfl
 | snoc h hs R e a=>rw [Lq,Lq,a];rfl
theorem dN.at:∀{i:Nat}{v:Lc},vals[i]? = Ld v->∃(R e:Nat)(ss:LLN)(vs:LV),v=.ref R/\tot[i]? = Ld ss/\(R,aa vs e)∈lows/\af ss vs:=by
 induction h with
 | nil=>intro i v h;simp at h
 | @snoc tot vals lows h ss vs hs R e l=>
  intro i v a
  rcases NQ i vals.length with hi|hi|hi
  .rw [NW hi] at a
   refine gz (fun d e' b c f=>?_) (l a);refine y7 (fun g j k h4=>?_) f
   refine ⟨d,e',b,c,g, ?_,.tail _ k,h4⟩
   rw [NW (by rw [<- h.len];exact hi)]
   exact j
  .subst hi
   rw [Mf (Lf _),QN] at a
   cases a
   refine (jJ R e ss vs ⟨rfl, ?_,.head _,hs⟩)
   rw [h.len,Mf (Lf _),QN]
   rfl
  .rw [MV (by simp;kd_p)] at a
   cases a
end
theorem rG{w:Lj}{a b:Bool}{F o l2:Mem}{l m e e':Nat}{f:List LLN}{vs c:LV}(h:dN f vs o)(k:dN f c l2)(x:(l,aa vs e)∈F)(y:(m,aa c e')∈F)(P:∀p∈o,p∈F)(R:∀p∈l2,p∈F):pR w a b .NotEq (.ref l) (.ref m) F Li:=by
 intro A g t G D O N T E Q hu hk i z
 have hsz:vs.toArray.size=c.toArray.size:=by simp [h.len,k.len]
 have:=Sh (A:=A) (s:=⟨t,G,D,T,O⟩) (bc i x) (bc i y) hsz (by kd_p) (e:=fun V=>Lh) (fun j u v=>?_)
 .have:=this pw (wd w a b) E Q
  rw [show ((Np vs.toArray.size).all fun V=>Lh)=Lh from by simp] at this
  exact this z
 .have q:vs[j]? = Ld vs.toArray[j]:=by
   have : j < vs.length:=by simpa using u
   rw [Lo this];simp
  have r:c[j]? = Ld c.toArray[j]:=by
   have : j < c.length:=by simpa using v
   rw [Lo this];simp
  refine bp fun C d=>?_;obtain ⟨Y,e1,S,W,B,H,I,J⟩:=h.at q;apply d;clear d
  refine bp fun C d=>?_;obtain ⟨Z,e2,U,X,K,n,L,M⟩:=k.at r;apply d;clear d
  rw [H] at n
  cases n
  rw [B,K]
  exact jH J M (bc i (P _ I)) (bc i (R _ L)) (by show A.units + 1 < P9;kd_p)
end
section
open PySem.SeqAt PySem.MeetsSeq
def rH(G:Nat->List LLN)(lows:Mem)(p:Nat)(v:Lc):Prop:=∃(h i j:LLN)(d f g:LV)(L a b c e k l m:Nat),G p=[h,i,j]/\af h d/\af i f/\af j g/\v=.ref L /\
 (L,aa [.ref a,.ref b,.ref c] e)∈lows/\(a,aa d k)∈lows/\(b,aa f l)∈lows/\(c,aa g m)∈lows
theorem rH.up{G:Nat->List LLN}{lows a:Mem}{p:Nat}{v:Lc}(h:rH G lows p v)(s:∀x∈lows,x∈a):rH G a p v:=by
 refine bp fun C b=>?_;obtain ⟨A,B,D,w,y,z,L,c,d,f,e,g,i,j,o,k,l,n,q,m,r,t,u⟩:=h;apply b;clear b
 exact ⟨A,B,D,w,y,z,L,c,d,f,e,g,i,j,o,k,l,n,q,s _ m,s _ r,s _ t,s _ u⟩
theorem lb.mem{G:Nat->List LLN}{a:LN}{kvs:List (LN × Lc)}{lows:Mem}(h:lb G a kvs lows):∀x∈kvs,∃p,p∈a/\x.1=[p]/\rH G lows p x.2:=by
 induction h with
 | nil=>intro x h;cases h
 | @snoc a kvs lows h p A B D v w z s n o r L c d f e k l m u=>
  intro x hx
  rcases MA.mp hx with hx|hx
  .refine bp fun C b=>?_;obtain ⟨q,g,i,j⟩:=u x hx;apply b;clear b
   exact ⟨q,Lu _ g,i,j.up fun y t=>.tail _ (.tail _ (.tail _ (.tail _ t)))⟩
  .rw [ND.mp hx]
   exact ⟨p,LB _ (.head _),rfl,A,B,D,v,w,z,L,c,d,f,e,k,l,m,s,n,o,r,rfl,.head _,.tail _ (.head _),.tail _ (.tail _ (.head _)),.tail _ (.tail _ (.tail _ (.head _)))⟩
theorem lV{k:LN} : ∀{kvs:List (LN × Lc)},k∈kvs.map (·.1)->∃v,am kvs k=Ld v/\(k,v)∈kvs
 | [],h=>nomatch h
 | (k',v)::r,h=>by
  dsimp only [am]
  by_cases e:k'=k
  .subst e
   exact ⟨v,if_pos rfl,.head _⟩
  .rw [if_neg e]
   rw [Lz,LD] at h
   obtain ⟨u,a,b⟩:=lV (h.resolve_left fun q=>e q.symm)
   exact ⟨u,a,.tail _ b⟩
theorem n9{A:L9}{s:Ly}{kb:List (Str × Lc)} : ∀(l:List (Str × Lc)),(∀x∈l,∃y,SB kb x.1=Ld y/\EqAt A s x.2 y Lh)->PySem.W.KeqHits A s kb l Lh
 | [],_=>.nil
 | (k,v)::r,h=>by
  obtain ⟨y,a,c⟩:=h (k,v) (.head _)
  exact .hit (e:=Lh) (b:=Lh) a c (n9 r fun x d=>h x (.tail _ d))
theorem GP{A:L9}{g h:ME}{N:Nat}{F:Mem}{G:Array Mi}{D:Nn}{T:Nat}{O:Mq}{i:Nat->List LLN}{p:Nat}{v y:Lc}(d:Rep g h N F)(a:rH i F p v)(b:rH i F p y)(hu:A.units + 2 < P9):EqAt A ⟨h,G,D,T,O⟩ v y Lh:=by
 refine bp fun C f=>?_;obtain ⟨x0,x1,x2,v0,v1,v2,L,l,q,t,e,Z,e1,e2,I,B,E,H,rfl,m,R,S,U⟩:=a;apply f;clear f
 refine bp fun C f=>?_;obtain ⟨y0,y1,y2,u0,u1,u2,L',o,r,u,e',w,x,z,c,M,P,Q,rfl,n,W,X,Y⟩:=b;apply f;clear f
 rw [I] at c
 injection c with q0 c
 injection c with q1 c
 injection c with q2 _
 subst q0 q1 q2
 by_cases k:L=L'
 .subst k
  exact TI _
 .refine SM k ?_
  have:=Tm (A:=A) (s:=⟨h,G,D,T,O⟩) (bc d m) (bc d n) rfl (by kd_p) (e:=fun V=>Lh) (fun j K j2=>?_)
  .rwa [show ((Np ([Lv l,.ref q,.ref t] : LV).toArray.size).all fun V=>Lh)=Lh from by simp] at this
  .have J:j < 3:=K
   match j,J with
   | 0,_=>exact jH B M (bc d R) (bc d W) (by show A.units + 1 < P9;kd_p)
   | 1,_=>exact jH E P (bc d S) (bc d X) (by show A.units + 1 < P9;kd_p)
   | 2,_=>exact jH H Q (bc d U) (bc d Y) (by show A.units + 1 < P9;kd_p)
theorem qH{G:Nat->List LLN}{a:LN}{kvs:List (LN × Lc)}{lows:Mem}(h:lb G a kvs lows)(b:a.Nodup):(kvs.map (·.1)).Nodup:=by
 rw [h.keys]
 exact MM.mpr (b.imp fun c e=>c (by injection e))
theorem pS{w:Lj}{a b:Bool}{F C l2:Mem}{d m ep k:Nat}{J I:ab}{G:Nat->List LLN}{t:LN}{kvs c:List (LN × Lc)}(h:lb G t kvs C)(i:lb G t c l2)(B:t.Nodup)(v:(d,bO (wd w a b) kvs J ep)∈F)(y:(m,bO (wd w a b) c I k)∈F)(X:∀p∈C,p∈F)(Y:∀p∈l2,p∈F):pR w a b .Eq (.ref d) (.ref m) F Lh:=by
 intro A g f Z D O N T E Q hu L j P
 have own:∀x o,(x,o)∈F->(x == sysModules)=Li:=fun x o s=>by
  have z:=Ox L (show (kt (wd w a b).params).get 1=Ld (o1 (wd w a b).params) from by kernel_rfl)
  rw [beq_eq_false_iff_ne]
  intro e
  have:=(j.own (x,o) s).2
  have e':x=1:=e
  rw [e',z] at this
  cases this
 refine PySem.W.keq_eq (knd:=strKind pw (wd w a b)) (ka:=oz kvs) (kb:=oz c) (r:=Lh) (own _ _ v) (own _ _ y) (hF (j.own _ v).1 (qH h B)) (hF (j.own _ y).1 (qH i B)) (by kd_p) (fun V=>n9 _ fun x s=>?_) ?_
 .refine bj (fun z f=>?_) (LE.mp s);obtain ⟨hz,rfl⟩:=f
  refine bj (fun p f=>?_) (h.mem z hz);refine qd (fun hp l R=>?_) f
  have hm:[p]∈c.map (·.1):=by rw [i.keys];exact LE.mpr ⟨p,hp,rfl⟩
  refine bj (fun u f=>?_) (lV hm);obtain ⟨S,U⟩:=f
  refine bj (fun H f=>?_) (i.mem _ U);refine qd (fun M n q=>?_) f
  have : H=p:=by injection n with e;exact e.symm
  subst this
  refine ⟨u, ?_,GP j (R.up X) (q.up Y) (by show A.units + 1 + 2 < P9;kd_p)⟩
  have:=cF [H] c
  rw [S] at this
  show SB (oz c) (⟨⟨z.1⟩⟩ : Str)=_
  rw [l]
  exact this
 .have K:(oz kvs).length=(oz c).length:=by
   show (kvs.map _).length=(c.map _).length
   rw [Ln,Ln,h.len,i.len]
  rw [K,beq_self_eq_true]
  exact P
end
section
open PySem.Builtin.Str (occurrences subAt)
open PySem.StrLaws (occBody occ_eq)
theorem iR(x:LN)(c:Nat):∀(l:LN)(i:Nat)(st:Array Nat × Nat),x.drop i=l->i<=x.length->st.1.size<=i->st.2<=i ->
  (forIn (List.range' i (l.length + 1)) st (Rq ⟨⟨x⟩⟩ ⟨⟨[c]⟩⟩ x.length (x.length + 1))).run.fst.size=st.1.size + l.count c
 | [],i,st,hd,p,j,k=>by
  have q:x[i]? = Lk:=by
   exact MV (List.drop_eq_nil_iff.mp hd)
  rw [LQ,M4,RG,List.range'_zero,R9]
  dsimp only [Rq]
  rw [if_neg (fun b=>by
   have:=(PH ⟨⟨x⟩⟩ c i).mp ⟨b.1.2,b.2⟩
   rw [show (⟨⟨x⟩⟩ : Str).cps.toList=x from rfl,q] at this
   cases this)]
  rfl
 | d::l,i,st,hd,p,j,k=>by
  have m:x[i]? = Ld d:=by
   have:=congrArg OL hd
   rw [NL] at this
   simpa using this
  have a:i < x.length:=(Mn.mp m).1
  have f:x.drop (i + 1)=l:=by
   rw [show x.drop (i + 1)=(x.drop i).drop 1 from by rw [OM],hd];rfl
  rw [Ls,RG,R9]
  dsimp only [Rq]
  have e:=PH ⟨⟨x⟩⟩ c i
  rw [show (⟨⟨x⟩⟩ : Str).cps.toList=x from rfl,m] at e
  by_cases b:d=c
  .subst b
   obtain ⟨n,o⟩:=e.mpr rfl
   rw [if_pos ⟨⟨⟨RC (LL j (Mh a)),k⟩,n⟩,o⟩,List.count_cons_self]
   have g:=iR x d l (i + 1) (st.1.push i,i + 1) f a (by rw [P2];exact MZ j) (Lf _)
   rw [P2] at g
   exact g.trans (Ng _ 1 _)
  .rw [if_neg (fun h=>b (by have:=e.mp ⟨h.1.2,h.2⟩;cases this;rfl)),List.count_cons_of_ne (by simpa using b)]
   have g:=iR x c l (i + 1) st f a (NS j) (NS k)
   unfold Rq at g
   exact g
theorem xK(x:LN)(c:Nat):(MG ⟨⟨x⟩⟩ ⟨⟨[c]⟩⟩ 0 x.length (x.length + 1)).length=x.count c:=by
 rw [occ_eq]
 have:=iR x c x 0 (#[],0) rfl (MJ _) (Lf _) (Lf _)
 rw [NX]
 simpa using this
theorem ur(w:Lj)(a b:Bool)(x:LN)(c t u:Nat) :
  CT w a b 0 (b9 "str.count" [sv x t,sv [c] u]) [] (fun e os d=>∃k:Nat,e=.ok (.ret (.int (Ll (x.count c)) k))/\os=[]/\d=[]):=
 (bM (w:=w) (a:=a) (b:=b) (L:=0) (fun e=>∃k:Nat,e=.ok (.ret (.int (Ll (x.count c)) k))) (by decide +kernel) F.entry_str_count (gives_str_count ⟨⟨x⟩⟩ ⟨⟨[c]⟩⟩ t u) fun s=>⟨⟨s.toks,by
  rw [show (⟨⟨x⟩⟩ : Str).length=x.length from rfl,xK];rfl⟩,rfl,rfl,rfl,rfl⟩).weak (Lf _) fun r os d h=>by
  obtain ⟨⟨k,rfl⟩,rfl,rfl⟩:=h
  exact ⟨k,rfl,rfl,rfl⟩
end
def Ko(e:Lg)(i:Nat):Lg:=ex e i
def i8(k:Nat):Lg:=Ko (tV (ax (ai cY) 8)) k
def nh(k:Nat):Lg:=Ko (tV (ax (ai cY) 11)) k
def Cq:Lg:=Km (ax (ai cY) 14)
section
variable(w:Lj)(a b:Bool)(fr:List Env)(X:eZ)
include w a b fr X
theorem xL(e f:Lc)(c:Nat)(J:ab)(lows:Mem) :
  dh w a b fr 9 (jj X) (gM (dy (i8 0)) (bu X)) ([(ay X.F [(dq,e),(e5,f),(ey,.ref c)] J)]++lows) (d6 (.ret (.ref c)) [(ay X.F [(dq,e),(e5,f),(ey,.ref c)] J)] lows):=by
 apply fU b 1;intro V N T g h d st
 apply b4 b [0];apply d;intro o τ;refine ⟨?_, ?_⟩;apply rfl;apply rfl;k_mem
abbrev mT (x0 x1):=([(x0,ad (Ld (.ref x1)))] : Mem)
theorem ut(c:Nat)(lows:Mem) :
  dh w a b fr 9 (jj X) (gM (bP (i8 0)) (bu X)) ((mT X.cs c)++lows) (d6 (.ret (.ref c)) (mT X.cs c) lows):=by
 apply fU b 1;intro V N T e f d st
 apply b4 b [0];apply d;intro o τ;refine ⟨?_, ?_⟩;apply rfl;apply rfl;k_mem
theorem xM(c:Nat)(lows:Mem) :
  dh w a b fr 9 (jj X) (gM (dy (i8 1)) (bu X)) ((mT X.cc c)++lows) (d6 (.ret (.ref c)) (mT X.cc c) lows):=by
 apply fU b 1;intro V N T e f d st
 apply b4 b [0];apply d;intro o τ;refine ⟨?_, ?_⟩;apply rfl;apply rfl;k_mem
theorem xN(c:Nat)(lows:Mem) :
  dh w a b fr 9 (jj X) (gM (bP (i8 1)) (bu X)) ((mT X.cy c)++lows) (d6 (.ret (.ref c)) (mT X.cy c) lows):=by
 apply fU b 1;intro V N T e f d st
 apply b4 b [0];apply d;intro o τ;refine ⟨?_, ?_⟩;apply rfl;apply rfl;k_mem
theorem Bx(A:LexA)(g:LexX)(d f e:ab)(n:Int)(lows:Mem) :
  dh w a b fr 9 (jj X) (gM (dy (i8 2)) (bu X)) (((mT X.cx A.l)++aU A g d f e n [])++lows) (fun i h=>∃t:Nat,i=.ok (.ret (.int n t))/\h=((mT X.cx A.l)++aU A g d f e n [])++lows):=by
 apply fU b 0x180040800000080000000101;intro V N T j k c st
 apply b4 b [0,1,2,3,4,5,6,7,8];apply c;intro o τ;refine ⟨τ,⟨?_, ?_⟩⟩;apply rfl;apply rfl;k_mem
theorem By(f g:Lc)(c:LN)(e:Nat)(J:ab)(lows:Mem) :
  dh w a b fr 9 (jj X) (gM (bP (i8 2)) (bu X)) ([(ay X.F [(dq,f),(e5,sv c e),(ey,g)] J)]++lows) (fun i h=>∃t:Nat,i=.ok (.ret (.int (1 + Ll (c.count 10)) t))/\h=[(ay X.F [(dq,f),(e5,sv c e),(ey,g)] J)]++lows):=by
 apply fU b 32769;intro V N T j n d st
 apply bA b 0;intro o;apply ur w a b c 10 e (T + 1);k_all;intro k l m st
 apply b4 b [0];apply d;intro o τ;refine ⟨τ,⟨?_, ?_⟩⟩;apply rfl;apply rfl;k_mem
theorem xO(e f g h i:Lc)(cy:Bool)(J:ab)(d:Array (Option Lc))(lows:Mem) :
  dh w a b fr 9 (jj X) (gM (dy (nh 0)) (bu X)) ([(gQ X.F e f (ey,g) (fC,h) (gV,.bool cy) (gS,i) J d)]++lows) (d6 (.ret (.bool cy)) [(gQ X.F e f (ey,g) (fC,h) (gV,.bool cy) (gS,i) J d)] lows):=by
 apply fU b 1;intro V N T j k c st
 apply b4 b [0];apply c;intro o τ;refine ⟨?_, ?_⟩;apply rfl;apply rfl;k_mem
theorem Bz(f g h i j:Lc)(c:Nat)(J:ab)(e:Array (Option Lc))(lows:Mem) :
  dh w a b fr 9 (jj X) (gM (dy (bP (nh 0))) (bu X)) ([(gQ X.F f g (ey,h) (fC,.ref c) (gV,i) (gS,j) J e)]++lows) (d6 (.ret (.ref c)) [(gQ X.F f g (ey,h) (fC,.ref c) (gV,i) (gS,j) J e)] lows):=by
 apply fU b 1;intro V N T k l d st
 apply b4 b [0];apply d;intro o τ;refine ⟨?_, ?_⟩;apply rfl;apply rfl;k_mem
theorem BA(d:Nat)(o0:Obj)(lows:Mem) :
  dh w a b fr 9 (jj X) (gM (bP (bP (nh 0))) (bu X)) ([(d,o0)]++lows) (fun g e=>∃(m f:Nat),g=.ok (.ret (.ref m))/\e=[(m,aa [] f),(d,o0)]++lows):=by
 apply fU b 0;intro V N T h i c st
 apply b4 b [1,0];apply c;intro o τ;refine jm N 0 ⟨?_, ?_⟩;apply rfl;apply rfl;k_mem
theorem BB(f g h i j:Lc)(c:Nat)(J:ab)(e:Array (Option Lc))(lows:Mem) :
  dh w a b fr 9 (jj X) (gM (dy (nh 1)) (bu X)) ([(gQ X.F f g (ey,h) (fC,i) (gV,j) (gS,.ref c) J e)]++lows) (d6 (.ret (.ref c)) [(gQ X.F f g (ey,h) (fC,i) (gV,j) (gS,.ref c) J e)] lows):=by
 apply fU b 1;intro V N T k l d st
 apply b4 b [0];apply d;intro o τ;refine ⟨?_, ?_⟩;apply rfl;apply rfl;k_mem
theorem BC(g C h D i E:Nat)(k m f:LV)(e d:LLN)(t:af e k)(u:k.length < 900)(r:∀s∈e,s≠[])(y:af d f)(v:f≠[])(z:f.length < 900)(hne:∀s∈d,s≠[])(hsz:∀s∈d,s.length < 60000)(mx:Nat->E4)(xs:LN)(A:af (xs.map fun x=>[x]) m)(B:xs.length < 60)(hmx:∀x∈xs,(d.flatMap (c3 (e.flatMap bf))).contains [x]=Li->en (mx x)∈d.flatMap (bZ x)/\∀n∈d.flatMap (bZ x),n<=en (mx x))(H I K L M:Lc)(J:ab)(G:Array (Option Lc))(lows:Mem) :
  dh w a b fr 16 (jj X) (gM (bP (nh 1)) (bu X)) ([(gQ X.F H I (ey,K) (fC,.ref i) (gV,L) (gS,M) J G),(X.cr,ad (Ld (.ref g))),(X.cy,ad (Ld (.ref h))),(g,aa m C),(h,aa f D),(i,aa k E)]++lows)
   (fun S P=>∃(j p:Nat)(l:LV)(c:Mem),S=.ok (.ret (.ref j))/\P=[(j,aa l p),(gQ X.F H I (ey,K) (fC,.ref i) (gV,L) (gS,M) J G),(X.cr,ad (Ld (.ref g))),(X.cy,ad (Ld (.ref h))),(g,aa m C),(h,aa f D)]++c/\dN (fp (d.flatMap (c3 (e.flatMap bf))) mx xs) l c):=by
 have O:=fun(fr:List Env)(lows:Mem)=>Gl w a b fr g C h D i E k m f e d t u r y v z hne hsz mx xs A B hmx lows
 apply fU b 0x284060c100020c100;intro V N T U Q q st
 apply iW b 0;intro o;apply O ([(bu X)]++fr) lows;k_all;intro j p l c W Y R Q st
 apply b4 b [0,3,4,5,1,2];apply q;intro o τ;refine jJ j p l c ⟨?_, ?_,R⟩;apply rfl;apply rfl;k_mem
abbrev oa (x0 x1 x2 x3 x4 x5 x6 x7 x8 x9 x10):=([(x0,bk [(dq,x1),(e5,x2),(ey,x3),(fC,x4),(gV,x5),(gS,x6),(qY,.ref x7),(yg,.ref x8)] x9 x10)] : Mem)
section
variable(v0 v1 v2 e f g:Lc)(d c:Nat)(J:ab)(sl:Array (Option Lc))(lows:Mem)
include v0 v1 v2 e f g d c J sl lows
theorem GQ :
  dh w a b fr 9 (jj X) (gM (dy Cq) (bu X)) ((oa X.F v0 v1 v2 e f g d c J sl)++lows) (d6 (.ret (.ref d)) (oa X.F v0 v1 v2 e f g d c J sl) lows):=by
 apply fU b 1;intro V N T i j h st
 apply b4 b [0];apply h;intro o τ;refine ⟨?_, ?_⟩;apply rfl;apply rfl;k_mem
theorem GS :
  dh w a b fr 9 (jj X) (gM (bP Cq) (bu X)) ((oa X.F v0 v1 v2 e f g d c J sl)++lows) (d6 (.ret (.ref c)) (oa X.F v0 v1 v2 e f g d c J sl) lows):=by
 apply fU b 1;intro V N T i j h st
 apply b4 b [0];apply h;intro o τ;refine ⟨?_, ?_⟩;apply rfl;apply rfl;k_mem
end
end
theorem cb(n:Nat)(M M2:Mem)(is:LN)(b:M.length=n)(h:is.Perm (Np n))(e:is.filterMap (fun i=>M[i]?)=M2):M.Perm M2:=by
 have a:∀(M:Mem),(Np M.length).filterMap (fun i=>M[i]?)=M:=by
  intro M
  apply PJ
  intro i
  induction M generalizing i with
  | nil=>rfl
  | cons x r c=>
   rw [Ls,List.range_succ_eq_map,Rc]
   simp only [QF,List.filterMap_map]
   cases i with
   | zero=>rfl
   | succ i=>
    rw [Nw,Nw]
    exact c i
 subst b
 rw [<- e]
 have:=h.filterMap (fun i=>M[i]?)
 rw [a] at this
 exact this.symm
section
variable{prog:LU}{w:Lj}{kt:Qb}{fr:List Env}{L:Nat}
include prog w kt fr L
theorem bt.stage{L':Nat}{c:Mk}{env:Env}{e b:List L4}{M:Mem}{post1:Lm->Mem->Prop}{a:Oi->Mem->Prop}(h:bW prog w kt fr L c (eU e env) M post1)(l:L<=L')(i:∀g d,post1 g d->g=.ok .next/\bt prog w kt fr L' c env b d a):bt prog w kt fr L' c env (e++b) M a:=
 bt.append (post1:=fun f d=>f=.next/\bt prog w kt fr L' c env b d a) (bt.tree (bW.weakP h l fun g d q=>by
  obtain ⟨rfl,j⟩:=i g d q
  exact ⟨d,.refl _,.next,rfl,rfl,j⟩)) fun f d q=>q
theorem dW.same{L':Nat}{c:Mk}{env:Env}{e:Lg}{M M2:Mem}{Q:Lc->Prop}(h:bW prog w kt fr L c (gM e env) M2 (fun b a=>∃v,Q v/\b=.ok (.ret v)/\a=M2))(l:L<=L')(p:M.Perm M2):dW prog w kt fr L' c env e M (fun v a=>Q v/\a=M):=
 dW.tree (bW.pk (bW.weakP h l fun b a q=>by
  obtain ⟨v,d,rfl,rfl⟩:=q
  exact ⟨M,Pk.perm p.symm,v,rfl,d,rfl⟩) (Pk.perm p))
theorem bW.val{c:Mk}{t:Sem Fin}{M:Mem}{v:Lc}(h:bW prog w kt fr L c t M (fun b a=>b=.ok (.ret v)/\a=M)):bW prog w kt fr L c t M (fun b a=>∃u,u=v/\b=.ok (.ret u)/\a=M):=
 bW.weak h (Lf _) fun b a q=>⟨_,.refl _,v,rfl,q.1,q.2⟩
end
noncomputable def GT(s:L4):Pos:=(uN s).p
theorem BD:ax (ai cY) 14=.Return (Ld (.Compare (dy Cq) [.Eq] [bP Cq] (dQ Cq))) (GT (ax (ai cY) 14)):=by kernel_rfl
theorem GU:Mo .Eq (bP Cq)=Li:=by kernel_rfl
theorem bt.frame{prog:LU}{w:Lj}{kt:Qb}{fr:List Env}{L:Nat}{c:Mk}{env:Env}{l:List L4}{M X:Mem}{a:Oi->Mem->Prop}(C:bt prog w kt fr L c env l M a):bt prog w kt fr L c env l (M++X) (fun f b=>∃e,a f e/\b=e++X):=by
 intro A g h G D O N T K o hf q r p d
 obtain ⟨k,t⟩:=p.tail
 exact C A _ h G D O N T K o hf (Ml t.keep q) (r.keeps t.keep) k fun f b i m n hp j=>d f _ i m n ⟨b,hp,rfl⟩ (t.rep j)
noncomputable def rI(vs:Array Lc):Obj:={ cls:=.none,data:=.fields vs }
def GV(as:LN)(F:Mem):Prop:=∀n∈as,∃vs,(n,rI vs)∈F
theorem GV.cons{as:LN}{F X:Mem}{n:Nat}{vs:Array Lc}(h:GV as F)(b:(n,rI vs)∈X):GV (n::as) (F++X):=by
 intro m hm
 rcases LD.mp hm with rfl|hm
 .exact ⟨vs,LB _ b⟩
 .obtain ⟨c,a⟩:=h m hm
  exact ⟨c,Lu _ a⟩
abbrev iS(as:LN)(w:Lj)(a b:Bool)(X:eZ)(c:List L4)(M:Mem):Prop:=bt pw (wd w a b) (kt (wd w a b).params) [] 24 (jj X) (bu X) c M (fun f d=>f=.ret (.bool Lh)/\GV as d)
theorem iS.table{as:LN}{w:Lj}{a b:Bool}{X:eZ}{c:List L4}{M:Mem}(n:Nat)(vs:Array Lc)(h:iS as w a b X c M):iS (n::as) w a b X c (M++[(n,rI vs)]):=
 bt.mono (bt.frame h) fun f e q=>by
  obtain ⟨g,⟨rfl,d⟩,rfl⟩:=q
  exact ⟨_,.refl _,rfl,d.cons (.head _)⟩
theorem xP(a:Option Nat):∃b:Array Lc,b6 a=rI b:=by
 cases a with
 | none=>exact ⟨#[],rfl⟩
 | some x=>exact ⟨match (b6 (Ld x)).data with | .fields b=>b | _=>#[],rfl⟩
theorem I0(w:Lj)(a b:Bool)(X:eZ)(i j k l m o:Lc)(e d:Nat)(J:ab)(g:Array (Option Lc)){u l2:Mem}{ep s:Nat}{z r:ab}{G:Nat->List LLN}{t:LN}{kvs f:List (LN × Lc)}(h:lb G t kvs u)(A:lb G t f l2)(B:t.Nodup)(c:Mem)(C:(e,bO (wd w a b) kvs z ep)∈c)(D:(d,bO (wd w a b) f r s)∈c)(E:∀p∈u,p∈c)(H:∀p∈l2,p∈c) :
  iS [] w a b X [ax (ai cY) 14] ((oa X.F i j k l m o e d J g)++c):=by
 unfold iS
 rw [BD]
 have up:∀ {p},p∈c->p∈(oa X.F i j k l m o e d J g)++c:=fun h=>LB _ h
 refine bt.ret (post1:=fun v q=>v=.bool Lh) (dW.cmpS (L:=23) (post1:=fun v q=>v=.ref e/\q=(oa X.F i j k l m o e d J g)++c) GU (by kernel_rfl) (dW.same (bW.val (GQ w a b [] X i j k l m o e d J g c)) (by decide) (.refl _)) ?_) ?_
 .rintro x I ⟨rfl,rfl⟩
  refine ⟨fun v q=>v=.ref d/\q=(oa X.F i j k l m o e d J g)++c,dW.same (bW.val (GS w a b [] X i j k l m o e d J g c)) (by decide) (.refl _), ?_⟩
  rintro y K ⟨rfl,rfl⟩
  exact ⟨Lh,pS h A B (up C) (up D) (fun p hp=>up (E p hp)) (fun p hp=>up (H p hp)),rfl⟩
 .rintro v q rfl
  exact ⟨rfl,fun n h=>absurd h MB⟩
abbrev xQ (x0 x1 x2 x3 x4 x5 x6 x7 x8 x9 x10 x11 x12 x13 x14 x15 x16 x17 x18 x19 x20 x21 x22 x23 x24 x25):=([(x0,bk [(dq,x1),(e5,x2),(ey,x3),x4,x5,x6] x7 x8),(x9,ad (Ld (.ref x10))),(x11,ad (Ld (.ref x12))),(x13,ad (Ld (.ref x14))),(x10,aa (bQ x15 x16) x17),(x12,aa x18 x19),(x14,aa x20 x21),(184,au),(x22,ad (Ld (.ref x23))),(x23,aa x24 x25)] : Mem)
abbrev pT (x0 x1 x2 x3):=([(x0,ad (Ld (.ref x1))),(x1,aa x2 x3)] : Mem)
theorem I1(w:Lj)(d a b:Bool)(X:eZ)(m Nu ne Cm ce n t:Nat)(o f k:LV)(r:E4->Nat)(l:ab)(R:∀i j,r i=r j->i=j)(sg:E4->E4)(S:∀i,r i=je (sg i))(ss:LLN)(U:af ss f)(G:af ss k)(N:f≠[])(O:k≠[])(hz:f.length < 900)(Z:k.length < 900)(hne:∀s∈ss,s≠[])(n0:Int)(tn:Nat)(Q:o[(0:Int).toNat]? = Ld (.int n0 tn))(y z A B D E:Lc)(J:ab)(x:Array (Option Lc))(lows:Mem) :
  iS [184] (wT w d) a b X ([ax (ai cY) 12]++([ax (ai cY) 13]++[ax (ai cY) 14])) ((xQ X.F y z A (fC,B) (gV,D) (gS,E) J x X.cr m X.cn Nu X.cc Cm r l l.e o ne f ce X.cy n k t)++lows):=by
 have P:[r .z0,r .z1,r .z2,r .z3].Nodup:=by
  have c:∀i j:E4,i≠j->r i≠r j:=fun i j h q=>h (R i j q)
  simp only [Mb,LD,MB,or_false,not_or,MN,not_false_eq_true,and_true]
  exact ⟨⟨c _ _ (by intro h;cases h),c _ _ (by intro h;cases h),c _ _ (by intro h;cases h)⟩,⟨c _ _ (by intro h;cases h),c _ _ (by intro h;cases h)⟩,c _ _ (by intro h;cases h)⟩
 have K:=bW.frame (X:=(pT X.cy n k t)++lows) (Bv w d a b [] X m Nu ne Cm ce o f r l R sg S ss U N hz hne n0 tn Q y z A B D E J x [])
 refine bt.stage K (by decide) ?_
 rintro rr F' ⟨F0,⟨g,kvs,J,u,tab,ep,v,rfl,rfl,ht⟩,rfl⟩
 refine ⟨rfl, ?_⟩
 obtain ⟨us,Y⟩:=xP tab
 rw [Y]
 have L:=bW.frame (X:=(g,bO (wd (wT w d) a b) kvs u ep)::(v++lows)) (GO (wT w d) a b [] X m n t r R l k ss G O Z hne y z A B D E (.ref g) J x [])
 refine bt.pk (iS.table 184 us (bt.stage L (by decide) ?_)) (Pk.perm ?_)
 .intro rr F' q0;refine bp fun C kC=>?_;obtain ⟨F0,⟨Du,H,J,I,M,l2,rfl,rfl,W⟩,rfl⟩:=q0;apply kC;clear kC
  refine ⟨rfl, ?_⟩
  exact I0 (wT w d) a b X y z A B D E g Du J x ht W P ((Du,bO (wd (wT w d) a b) H I M)::(l2++(g,bO (wd (wT w d) a b) kvs u ep)::(v++lows))) (.tail _ (LB _ (.head _))) (.head _) (fun p hp=>.tail _ (LB _ (.tail _ (Lu _ hp)))) (fun p hp=>.tail _ (Lu _ hp))
 .
  have p1:((g,bO (wd (wT w d) a b) kvs u ep)::v++((pT X.cy n k t)++lows)).Perm ((pT X.cy n k t)++((g,bO (wd (wT w d) a b) kvs u ep)::(v++lows))):=by
   have q:=OF ((g,bO (wd (wT w d) a b) kvs u ep)::v) (pT X.cy n k t) lows
   simpa [Lr] using q
  have p2:=p1.append_left [(X.F,bk [(dq,y),(e5,z),(ey,A),(fC,B),(gV,D),(gS,E),(qY,.ref g)] J x),(X.cr,ad (Ld (.ref m))),(m,aa (bQ r l) l.e)]
  refine RK.trans ?_ (p2.append_right [(184,rI us)])
  have p3:=(MH (a:=(184,rI us)) (l₁:=[(X.F,bk [(dq,y),(e5,z),(ey,A),(fC,B),(gV,D),(gS,E),(qY,.ref g)] J x),(X.cr,ad (Ld (.ref m))),(m,aa (bQ r l) l.e)]) (l₂:=(g,bO (wd (wT w d) a b) kvs u ep)::(v++((pT X.cy n k t)++lows)))).trans (List.perm_append_singleton _ _).symm
  simpa [Lr] using p3
theorem GW(w:Lj)(a b:Bool)(X:vO)(A:SrtA)(r:E4->Nat)(hr:∀i j,r i=r j->i=j)(d:E4->Nat)(E:E4->List E4)(f:E4->LV)(hsu:cA r E f)(hsl:∀x,(E x).length < 50)(R U W Y F z B se ac C:Nat)(k:LV)(Jr:ab)(v0 v1:Lc)(rb:Bool)(D sL:Array (Option Lc))(oL:Obj)(O u M m p q s:ab)(vs:LV)(g:af ((ar d aV).map fun y=>[r y]) vs)(n:Nat)(l:List (List E4))(h:cC E n (gq (-1) (cJ d) (ar d aV)) (ar d aV)=Ld l)(h4:(ar d aV).length<=4)(hn:n < 800)(lows:Mem) :
  dh w a b [X.eL] 13 (nS F) (i9 km (bm F)) (([(jw F z B A.S v0 v1 rb O D),(X.L,aD oL sL),(z,bq r Jr),(B,aa k se)]++cT (wd w a b) A r (.ref ac) 0 0 (cJ d) f u M m p q s R U W Y++[(ac,aa vs C)])++lows)
   (fun rr F'=>∃(P v er:Nat)(J:ab)(rv:LV)(c:Mem),rr=.ok (.ret (.ref P))/\F'=[(P,bx [.bool rb,.ref v] J.e),(v,aa rv er),(X.L,aD oL sL),(z,bq r Jr),(B,aa k se)]++c/\dN (l.map (f3 r)) rv c):=by
 have hz:vs.length < 1000:=by rw [g.length,Ln];kd_p
 have hz2:([] : LV).length + n < 900:=by simp only [LQ];kd_p
 have GR:=fun(fr:List Env)(lows:Mem)=>FQ w a b fr A r hr 0 0 (cJ d) u M m p q s f R U W Y ac C vs (ar d aV) g hz lows
 have WL:=fun(fr:List Env)(v:Nat)(D:Array (Option Lc))(lows:Mem)(t et er C:Nat)(po nf:Int)(O u m p q s:ab)=>Ao w a b fr A r hr M E f hsu hsl R U W Y F z B v ac v0 v1 (.bool rb) D (l.map (f3 r)) n (ar d aV) (gq (-1) (cJ d) (ar d aV)) l h h4 vs g [] (Oc _) [] hz2 lows (.nil _) t et er C po nf O u m p q s
 apply fU b 0xf1c3460b14244070c1420c040030500000000a000000a000000a04081;intro V N T B0 Y0 fin st
 apply Iw b 0x2c509101c305080c101004460d1e0870e;intro o;apply GR [(bm F),X.eL] lows;k_all;intro t et Z po' Q G H I K N1 T1 Y0 st
 apply j0 b;intro o;apply WL [(bm F),X.eL] N D lows t et 0 Z po' 0 (ae (o 13)) Q G H I K;k_mem;intro V V N2 T2 h0;refine jA (fun t' er' Jf' rv' c h0=>?_) h0;apply jt h0;intro hq;refine ⟨_,_,.refl _,fun Y0=>?_⟩;apply dC b 129;intro st
 apply b4 b [5,1,2,3,4];apply fin;intro o τ;refine ox N2 N er' (ae (o 5)) rv' c ⟨?_, ?_,hq⟩;apply rfl;apply rfl;k_mem
abbrev xR (x0):=gq (-1) (cJ (dD x0).1) (ar (dD x0).1 aV)
theorem GY(w:Lj)(a b:Bool)(X:vO)(x:X.Ok)(F:Nat)(r:E4->Nat)(hr:∀i j,r i=r j->i=j)(W Y se:Nat)(Jr J:ab)(Q:LV)(p q:E4)(sts' d:List (E4 × E4))(hsts:d=(p,q)::sts')(hs:bC (bz r d) Q)(hne:∀p∈d,p.2≠p.1)(hn:d.length < 900)(oL:Obj)(hL:dS oL)(n:Nat)(cy:Bool)(h:dK (dD d).2 n aV []=Ld cy)(m:Nat)(hm:m < 800)(l:List (List E4))(hl:cC (dD d).2 m (xR d) (ar (dD d).1 aV)=Ld l)(h4:(ar (dD d).1 aV).length<=4)(hsl:∀x,((dD d).2 x).length < 50)(sL:Array (Option Lc))(lows:Mem) :
  ak w a b [X.eL] 14 (nS F) ([(ay F [(fD,.ref W),(dT,.ref Y)] J),(X.L,aD oL sL),(W,bq r Jr),(Y,aa Q se)]++lows)
   (fun rr F'=>∃(P Rn er:Nat)(J:ab)(rv:LV)(U:Array (Option Lc))(c:Mem),rr=.ok (.ret (.ref P))/\F'=[(P,bx [.bool cy,.ref Rn] J.e),(Rn,aa rv er),(X.L,aD oL U),(W,bq r Jr),(Y,aa Q se)]++c/\dN (l.map (f3 r)) rv c):=by
 intro AA g o G D O N T R hA hfr hk hl0 hR Z
 refine tJ (FT F) ?_
 have rest:∀(A:SrtA)(v0 v1:Lc)(Jf B z s t u v:ab)(sl U:Array (Option Lc))(E H I K ac ea:Nat)(vs:LV)(k:E4->LV)(c:Mem)(hvs:af ((ar (dD d).1 aV).map fun y=>[r y]) vs)(hsu:cA r (dD d).2 k)(h1:ME)(N1 T1:Nat),
   Rep g h1 N1 (([(jw F W Y A.S v0 v1 cy Jf sl),(X.L,aD oL U),(W,bq r Jr),(Y,aa Q se)]++cT (wd w a b) A r (.ref ac) 0 0 (cJ (dD d).1) k B z s t u v E H I K++[(ac,aa vs ea)])++c) ->
   NE (Lw pw (wd w a b)) AA (nS F) (i9 km (bm F)) (fun Z s2=>∀f,Z=.done f->R (.ok f) s2) (fun V V=>False) ⟨h1,G,D,T1,O⟩:=by
  intro A v0 v1 Jf B z s t u v sl U E H I K ac ea vs k c hvs hsu h1 N1 T1 R1
  have C:=GW w a b X A r hr (dD d).1 (dD d).2 k hsu hsl E H I K F W Y se ac ea Q Jr v0 v1 cy sl U oL Jf B z s t u v vs hvs m l hl h4 hm c AA g h1 G D O N1 T1
   (fun rr s'=>∃f,rr=.ok f/\R (.ok f) s') (hA.mono (by decide)) hfr hk hl0 R1 (fun rr F' N' T' h' q R'=>by
    refine qc (fun P Rn er J rv c o=>?_) q;refine qd (fun e0 e1 hrn=>?_) o;subst e0;subst e1
    exact ⟨_,rfl,Z _ _ _ _ _ (uM P Rn er J rv U c ⟨rfl,rfl,hrn⟩) R'⟩)
  refine OW C (fun fn s' q=>?_) (fun e s' q=>?_)
  .intro f hf
   subst hf
   refine bj (fun f' o=>?_) q;obtain ⟨h2,h3⟩:=o
   cases h2
   exact h3
  .refine bj (fun f' o=>?_) q;obtain ⟨h2,_⟩:=o
   cases h2
 cases cy with
 | false=>
  have C:=Af w a b X x F r hr W Y se Jr J Q p q sts' d hsts hs hne hn oL hL n h sL lows AA g o G D O N T (fun rr s'=>rr=.ok .next/\NE (Lw pw (wd w a b)) AA (nS F) (i9 km (bm F)) (fun Z s2=>∀f,Z=.done f->R (.ok f) s2) (fun V V=>False) s') (hA.mono (by decide)) hfr hk hl0 hR ?_
  .refine OW C (fun fn s' q=>?_) (fun e s' q=>?_)
   .intro f hf
    subst hf
    obtain ⟨h2,h3⟩:=q
    cases h2
    exact .inl ⟨rfl,h3⟩
   .obtain ⟨h2,_⟩:=q
    cases h2
  .intro rr F' N1 T1 h1 q0;refine ni (fun A v0 v1 Jf B z s t u v sl o=>?_) q0;refine qS (fun U E H I K ac ea vs k c o=>?_) o;apply gu o;intro o;obtain ⟨hvs,hsu⟩:=o;intro R1
   exact ⟨rfl,rest A v0 v1 Jf B z s t u v sl U E H I K ac ea vs k c hvs hsu h1 N1 T1 R1⟩
 | true=>
  have C:=Ag w a b X x F r hr W Y se Jr J Q p q sts' d hsts hs hne hn oL hL n h sL lows AA g o G D O N T (fun rr s'=>∃e,rr=.ok (.ret e)/\L7 (Lw pw (wd w a b)) (AA.under (nS F)) (Nc e (bm F)) (fun V s2=>L7 (Lw pw (wd w a b)) (AA.under (nS F)) (OT e Lk) (fun V s3=>L7 (Lw pw (wd w a b)) (AA.under (nS F)) (RQ e (bm F) [Ki]) (fun f s4=>f=.next /\
    NE (Lw pw (wd w a b)) AA (nS F) (i9 km (bm F)) (fun Z s2=>∀f,Z=.done f->R (.ok f) s2) (fun V V=>False) s4) (fun V V=>False) s3) (fun V V=>False) s2) (fun V V=>False) s') (hA.mono (by decide)) hfr hk hl0 hR ?_
  .refine OW C (fun fn s' q=>?_) (fun e s' q=>?_)
   .intro f hf
    subst hf
    refine bj (fun e o=>?_) q;obtain ⟨h2,h3⟩:=o
    cases h2
    exact .inr ⟨e,rfl,h3⟩
   .refine bj (fun V o=>?_) q;obtain ⟨h2,_⟩:=o
    cases h2
  .intro rr F' N1 T1 h1 q0;refine qT (fun e tp Tb P tb A v0 v1 Jf B z s t o=>?_) q0;refine qT (fun u v sl U E H I K ac ea vs k c o=>?_) o;apply gu o;intro o;obtain ⟨hvs,hsu⟩:=o;intro R1
   refine ⟨_,rfl, ?_⟩
   have fm:dG [bm F,X.eL] [(jw F W Y A.S v0 v1 Li Jf sl),(X.L,aD oL U)]:=.cons (qr F) rfl (fun vs q=>by cases q) (.cons x.kL x.fL hL .nil)
   have hfr2:(AA.under (nS F)).frames=Ld [bm F,X.eL]:=by
    show TB [bm F] AA.frames=_
    rw [hfr];rfl
   have hw:(nS F).weight=1:=by kernel_rfl
   have hu:(nS F).cUnits=3:=by kernel_rfl
   have fA:∀e:Lc,eG ((AA.under (nS F)).mark (Ld e)) 5:=by
    intro e
    have h1:=hA.2.1
    have h2:=hA.2.2
    refine ⟨?_, ?_⟩
    .show AA.depth + (nS F).weight + 20 * 6 < _
     rw [hw];exact Mine.oL (L:=6) (LS (by decide:1<=20) _) (oK (by decide) h1)
    .show AA.units + (nS F).cUnits + 100 * 6 < _
     rw [hu];exact Mine.oL (L:=6) (LS (by decide:3<=100) _) (oK (by decide) h2)
   have R2:=Rep.pickL (L:=[(jw F W Y A.S v0 v1 Li Jf sl),(X.L,aD oL U)]++(e,gr tp (.ref Tb))::(iD Tb P tb)::([(W,bq r Jr),(Y,aa Q se)]++cT (wd w a b) A r (.ref ac) 0 0 (cJ (dD d).1) k B z s t u v E H I K++[(ac,aa vs ea)])) [2,3,0,1,4,5,6,7,8,9,10,11,12,13,14,15,16,17] R1 (by kernel_rfl)
   rw [Lr,MI,MI] at R2
   refine q9 hfr2 rfl fm R2 fun h2 frs' tb2 hu R3=>?_
   refine d9 (fun sl2 r1 o=>?_) (hu.split);obtain ⟨rfl,hu1⟩:=o
   refine d9 (fun sL2 r2 o=>?_) (hu1.split);obtain ⟨rfl,hu2⟩:=o
   obtain rfl:=hu2.none
   refine gG R3 fun h3 R4=>?_
   have q1:vw (k9 dk)=[.ExceptHandler (Ld (Ho (k9 dk))) Lk [] (Cj (k9 dk))]:=by kernel_rfl
   have q2:Hm (k9 dk)=[.ExceptHandler Lk Lk (Hp (k9 dk)) (Cj (k9 dk))]:=by kernel_rfl
   refine Sb ?_ (by intro q;cases q)
   rw [<- q1]
   refine (Ac w a b F W Y A.S v0 v1 Jf sl2 e tp (.ref N1)).row (M:=[(jw F W Y A.S v0 v1 Li Jf sl2),(X.L,aD oL sL2),(e,gr tp (.ref N1)),(N1,az "traceback" (.ref Tb :: .ref F :: .none :: .none::tb2)),(iD Tb P tb)]++([(W,bq r Jr),(Y,aa Q se)]++cT (wd w a b) A r (.ref ac) 0 0 (cJ (dD d).1) k B z s t u v E H I K++[(ac,aa vs ea)])) (lows:=c) [0,2] (by kernel_rfl) (fA _) hk hl0 R4 ?_
   intro r2 os news N2 T2 h4' q0;apply m8 q0;intro V R5
   show Mm _ _ _ _ _
   rw [<- q2]
   refine (Ae w a b F W Y A.S v0 v1 Jf sl2 e tp N1 (.ref Tb) (.ref F) .none tb2).row (M:=[(jw F W Y A.S v0 v1 Li Jf sl2),(X.L,aD oL sL2),(e,gr tp (.ref N1)),(N1,az "traceback" (.ref Tb :: .ref F :: .none :: .none::tb2)),(iD Tb P tb)]++([(W,bq r Jr),(Y,aa Q se)]++cT (wd w a b) A r (.ref ac) 0 0 (cJ (dD d).1) k B z s t u v E H I K++[(ac,aa vs ea)])) (lows:=c) [0,2,3] (by kernel_rfl) (fA _) hk hl0 R5 ?_
   intro r3 os news N3 T3 h5' q0;refine bj (fun Jf' o=>?_) q0;apply m8 o;intro V R6
   refine ⟨rfl, ?_⟩
   have R7:=Rep.pickL (M:=[(jw F W Y A.S v0 v1 Lh Jf' sl2),(X.L,aD oL sL2),(e,gr tp (.ref N1)),(N1,az "traceback" (.ref Tb :: .ref F :: .none :: .none::tb2)),(iD Tb P tb)]++([(W,bq r Jr),(Y,aa Q se)]++cT (wd w a b) A r (.ref ac) 0 0 (cJ (dD d).1) k B z s t u v E H I K++[(ac,aa vs ea)])) (lows:=c)
    (L:=[(jw F W Y A.S v0 v1 Lh Jf' sl2),(X.L,aD oL sL2),(W,bq r Jr),(Y,aa Q se)]++cT (wd w a b) A r (.ref ac) 0 0 (cJ (dD d).1) k B z s t u v E H I K++[(ac,aa vs ea)]) [0,1,5,6,7,8,9,10,11,12,13,14,15,16,17,18] R6 (by kernel_rfl)
   exact rest A v0 v1 Jf' B z s t u v sl2 sL2 E H I K ac ea vs k c hvs hsu _ N3 T3 R7
theorem I3(w:Lj)(a b:Bool)(X:vO)(x:X.Ok)(r:E4->Nat)(I:∀i j,r i=r j->i=j)(k s z:Nat)(u:ab)(f:LV)(p q:E4)(sts' c:List (E4 × E4))(g:c=(p,q)::sts')(hs:bC (bz r c) f)(hne:∀p∈c,p.2≠p.1)(H:c.length < 900)(oL:Obj)(hL:dS oL)(n:Nat)(cy:Bool)(h:dK (dD c).2 n aV []=Ld cy)(m:Nat)(hm:m < 800)(l:List (List E4))(G:cC (dD c).2 m (xR c) (ar (dD c).1 aV)=Ld l)(h4:(ar (dD c).1 aV).length<=4)(hsl:∀x,((dD c).2 x).length < 50)(t:Array (Option Lc))(lows:Mem) :
  ak w a b [X.eL] 14 (bw 278 [.ref k,.ref s]) ([(X.L,aD oL t),(k,bq r u),(s,aa f z)]++lows)
   (fun K C=>∃(P A E:Nat)(J:ab)(B:LV)(y:Array (Option Lc))(d:Mem),K=.ok (.ret (.ref P))/\C=[(P,bx [.bool cy,.ref A] J.e),(A,aa B E),(X.L,aD oL y),(k,bq r u),(s,aa f z)]++d/\dN (l.map (f3 r)) B d):=by
 have D:=fun(F:Nat)(J:ab)(t:Array (Option Lc))(lows:Mem)=>GY w a b X x F r I k s z u J f p q sts' c g hs hne H oL hL n cy h m hm l G h4 hsl t lows
 apply cW b 0x6102040800001;intro V N T M O v st
 apply lB b [3,0,1,2];apply v;intro o;apply D N (ae (o 3)) t lows;k_mem
theorem I4(w:Lj)(a b:Bool)(fr:List Env)(X:eZ)(d k:Nat)(c:LV)(ss:LLN)(i:af ss c)(h:c≠[])(j:c.length < 900)(hne:∀s∈ss,s≠[])(hsz:∀s∈ss,s.length < 60000)(q p n:Lc)(J:ab)(lows:Mem) :
  dh w a b fr 9 (jj X) (pQ 9 X) ([(ay X.F [(dq,q),(e5,p),(ey,n)] J),(X.cy,ad (Ld (.ref d))),(d,aa c k)]++lows)
   (fun A t=>∃(l x:Nat)(m:LV)(J:ab),A=.ok .next/\t=[(ay X.F [(dq,q),(e5,p),(ey,n),(fC,.ref l)] J),(X.cy,ad (Ld (.ref d))),(d,aa c k),(l,aa m x)]++lows/\af (ss.flatMap cN) m):=by
 have r:=fun(fr:List Env)(CL it ac:Nat)(J:ab)(y:Nat)(lows:Mem)=>Gr w a b fr X.F d k c CL it ac ss i h j hne hsz J y lows
 apply fU b 0x2080c2840410003000c182;intro V N T B u g st
 apply iW b 270549508;intro o;apply r ([(bu X)]++fr) (N + 2) N (N + 1) (ae (o 5)) 0 lows;k_all;intro v C e f D E z u st
 apply b4 b [3,4,2,1];apply g;intro o τ;refine jJ (N + 1) f e (ae (o 3)) ⟨?_, ?_,z⟩;apply rfl;apply rfl;k_mem
def y4(X:eZ):vO:=⟨X.F,bu X⟩
theorem uu(X:eZ):(y4 X).Ok:=⟨(by
  show (bY cY).kind≠.module
  rw [show (bY cY).kind=.function from by kernel_rfl]
  exact fun h=>nomatch h),rfl⟩
theorem GZ(w:Lj)(a b:Bool)(X:eZ)(r:E4->Nat)(O:∀i j,r i=r j->i=j)(g f A:Nat)(u:ab)(e:LV)(p q:E4)(sts' c:List (E4 × E4))(k:c=(p,q)::sts')(hs:bC (bz r c) e)(hne:∀p∈c,p.2≠p.1)(L:c.length < 900)(n:Nat)(cy:Bool)(h:dK (dD c).2 n aV []=Ld cy)(m:Nat)(hm:m < 800)(l:List (List E4))(K:cC (dD c).2 m (xR c) (ar (dD c).1 aV)=Ld l)(h4:(ar (dD c).1 aV).length<=4)(hsl:∀x,((dD c).2 x).length < 50)(E D C:Lc)(J:ab)(lows:Mem) :
  dh w a b [] 16 (jj X) (pQ 10 X) ([(ay X.F [(dq,E),(e5,D),(ey,.ref f),(fC,C)] J),(X.cr,ad (Ld (.ref g))),(g,bq r u),(f,aa e A)]++lows)
   (fun Q G=>∃(s v:Nat)(t:LV)(J:ab)(S:Array (Option Lc))(d:Mem),Q=.ok .next/\G=[(X.F,bk ([(dq,E),(e5,D),(ey,.ref f),(fC,C),(gV,.bool cy),(gS,.ref s)]) J S),(X.cr,ad (Ld (.ref g))),(g,bq r u),(f,aa e A),(s,aa t v)]++d/\dN (l.map (f3 r)) t d):=by
 have H:=fun(J:ab)(R:Array (Option Lc))(lows:Mem)=>I3 w a b (y4 X) (uu X) r O g f A u e p q sts' c k hs hne L (aJ [(dq,E),(e5,D),(ey,.ref f),(fC,C)] J) (eS _ _) n cy h m hm l K h4 hsl R lows
 apply fU b 0x304001820004100;intro V N T U I y st
 apply j0 b;intro o;apply H J (MT []) lows;k_mem;intro V V Y Z z;refine uL (fun P s v W t B d z=>?_) z;apply jt z;intro M;refine ⟨_,_,.refl _,fun I=>?_⟩;apply dC b 0xc1830624387021c3800e003870e04387001c0070e1c0870e003800e1c0010004081;intro st
 apply b4 b [2,5,3,4,1];apply y;intro o τ;refine ox s v t (ae (o 2)) B d ⟨?_, ?_,M⟩;apply rfl;apply rfl;k_mem
theorem oc(A l B L:Mem):((A++l)++(B++L)).Perm ((A++B)++(l++L)):=by
 rw [Lr,Lr]
 exact (OF l B L).append_left A
theorem BE:ax (ai cY) 11=.If (.BoolOp .Or [.Compare (dy (nh 0)) [.NotEq] [.Compare (dy (bP (nh 0))) [.NotEq] [bP (bP (nh 0))] (dQ (bP (nh 0)))] (dQ (nh 0)),.Compare (dy (nh 1)) [.NotEq] [bP (nh 1)] (dQ (nh 1))] (qF (tV (ax (ai cY) 11)))) (ai (ax (ai cY) 11)) [] (tY (ax (ai cY) 11)):=by kernel_rfl
theorem BF:Mo .NotEq (.Compare (dy (bP (nh 0))) [.NotEq] [bP (bP (nh 0))] (dQ (bP (nh 0))))=Li:=by kernel_rfl
theorem BG:Mo .NotEq (bP (bP (nh 0)))=Li:=by kernel_rfl
theorem BH:Mo .NotEq (bP (nh 1))=Li:=by kernel_rfl
theorem bt.skip{prog:LU}{w:Lj}{kt:Qb}{fr:List Env}{L:Nat}{c:Mk}{env:Env}{g:Lg}{body e:List L4}{i:Pos}{M:Mem}{post1:Mem->Prop}{d:Oi->Mem->Prop}(h:dO prog w kt fr L c env g M (fun b a=>b=Li/\post1 a))(j:∀a,post1 a->bt prog w kt fr L c env e a d):bt prog w kt fr L c env ([.If g body [] i]++e) M d:=
 bt.append (post1:=fun f a=>f=.next/\post1 a) (bt.if_ h fun b a q=>by
  obtain ⟨rfl,q⟩:=q
  exact bt.mono bt.nil fun f k r=>by
   obtain ⟨rfl,rfl⟩:=r
   exact ⟨_,.refl _,rfl,q⟩) fun f a q=>⟨q.1,j a q.2⟩
abbrev y5 (x0 x1 x2 x3 x4 x5 x6 x7 x8 x9 x10 x11 x12 x13 x14 x15 x16 x17 x18 x19 x20 x21 x22 x23 x24 x25 x26 x27 x28 x29):=([(x0,bk [(dq,x1),(e5,x2),(ey,x3),(fC,.ref x4),(gV,.bool x5),(gS,.ref x6)] x7 x8),(x9,ad (Ld (.ref x10))),(x11,ad (Ld (.ref x12))),(x13,ad (Ld (.ref x14))),(x10,aa (bQ x15 x16) x17),(x12,aa x18 x19),(x14,aa x20 x21),(184,au),(x22,ad (Ld (.ref x23))),(x23,aa x24 x25),(x4,aa x26 x27),(x6,aa x28 x29)] : Mem)
abbrev xS (x0 x1 x2 x3 x4 x5 x6 x7 x8 x9 x10 x11 x12 x13 x14 x15 x16 x17 x18 x19 x20 x21 x22 x23 x24):=([(x0,ad (Ld (.ref x1))),(x2,ad (Ld (.ref x3))),(x4,ad (Ld (.ref x5))),(x1,aa (bQ x6 x7) x8),(x3,aa x9 x10),(x5,aa x11 x12),(184,au),(x13,ad (Ld (.ref x14))),(x14,aa x15 x16),(x17,aa x18 x19),(x20,aa x21 x22)]++(x23++x24):Mem)
abbrev BI (x0 x1 x2 x3 x4 x5 x6 x7 x8 x9 x10 x11 x12):=([(x0,aa [] x1),(x2,ad (Ld (.ref x3))),(x4,ad (Ld (.ref x5))),(x3,aa x6 x7),(x5,aa x8 x9),(184,au),(x10,aa x11 x12)] : Mem)
theorem I5{as:LN}(w:Lj)(a b:Bool)(X:eZ)(q D G B E t H l j k c:Nat)(i g u Q d:LV)(r:E4->Nat)(f:ab)(ss:LLN)(hss2:af ss u)(hn1:u≠[])(hz1:u.length < 900)(hne:∀s∈ss,s≠[])(hsz:∀s∈ss,s.length < 60000)(R:LLN)(hcs:af R Q)(hcz:Q.length < 900)(hcn:∀s∈R,s≠[])(cy:Bool)(hcy:cy = !decide (R=[]))(mx:Nat->E4)(hmx:∀x∈[r .z0,r .z1,r .z2,r .z3],(ss.flatMap (c3 (R.flatMap bf))).contains [x]=Li->en (mx x)∈ss.flatMap (bZ x)/\∀n∈ss.flatMap (bZ x),n<=en (mx x))(Z:List LLN)(htot:Z=fp (ss.flatMap (c3 (R.flatMap bf))) mx [r .z0,r .z1,r .z2,r .z3])(I:Mem)(hrn:dN Z d I)(N O P:Lc)(J:ab)(M:Array (Option Lc))(lows:Mem)(S:List L4)(Y:∀lows,iS as w a b X S ((xQ X.F N O P (fC,.ref l) (gV,.bool cy) (gS,.ref k) J M X.cr q X.cn D X.cc B r f f.e i G g E X.cy t u H)++lows)) :
  iS as w a b X ([ax (ai cY) 11]++S) ((y5 X.F N O P l cy k J M X.cr q X.cn D X.cc B r f f.e i G g E X.cy t u H Q j d c)++(I++lows)):=by
 rw [BE]
 refine bt.skip (post1:=fun A=>iS as w a b X S A) (dO.or (pos':=default) (post1:=fun v A=>v=Li/\∃(m o:Nat),A=(m,aa [] o)::((y5 X.F N O P l cy k J M X.cr q X.cn D X.cc B r f f.e i G g E X.cy t u H Q j d c)++(I++lows))) (dO.cmpS (L:=23) (post1:=fun v A=>v=.bool cy/\A=(y5 X.F N O P l cy k J M X.cr q X.cn D X.cc B r f f.e i G g E X.cy t u H Q j d c)++(I++lows)) BF (by kernel_rfl) (dW.same (bW.val (xO w a b [] X N O P (.ref l) (.ref k) cy J M (xS X.cr q X.cn D X.cc B r f f.e i G g E X.cy t u H l Q j k d c I lows))) (by decide) (.refl _)) ?_) ?_ ?_) ?_
 .rintro x F1 ⟨rfl,rfl⟩
  refine ⟨fun v A=>∃(m o:Nat),v=.bool cy/\A=(m,aa [] o)::((y5 X.F N O P l cy k J M X.cr q X.cn D X.cc B r f f.e i G g E X.cy t u H Q j d c)++(I++lows)),dW.cmpS (L:=23) (post1:=fun v A=>v=.ref l/\A=(y5 X.F N O P l cy k J M X.cr q X.cn D X.cc B r f f.e i G g E X.cy t u H Q j d c)++(I++lows)) BG (by kernel_rfl) (dW.same (bW.val (Bz w a b [] X N O P (.bool cy) (.ref k) l J M (xS X.cr q X.cn D X.cc B r f f.e i G g E X.cy t u H l Q j k d c I lows))) (by decide) (.refl _)) ?_, ?_⟩
  .rintro y F2 ⟨rfl,rfl⟩
   refine ⟨fun v A=>∃(m o:Nat),v=.ref m/\A=(m,aa [] o)::((y5 X.F N O P l cy k J M X.cr q X.cn D X.cc B r f f.e i G g E X.cy t u H Q j d c)++(I++lows)),dW.tree (bW.weakP (BA w a b [] X X.F _ (xS X.cr q X.cn D X.cc B r f f.e i G g E X.cy t u H l Q j k d c I lows)) (by decide) ?_), ?_⟩
   .rintro rr A ⟨m,o,rfl,rfl⟩
    exact ⟨_,.refl _,_,rfl,m,o,rfl,rfl⟩
   .rintro z F3 ⟨m,o,rfl,rfl⟩
    refine ⟨_,iQ hcs .nil (e:=j) (e':=o) ?_ (.head _),m,o,by rw [hcy],rfl⟩
    exact .tail _ (Lu _ (by repeat (first|exact .head _|apply ON)))
  .rintro y F2 ⟨m,o,rfl,rfl⟩
   exact ⟨Li,rF cy,rfl,m,o,rfl⟩
 .rintro A ⟨h,_⟩
  cases h
 .rintro A ⟨_,m,o,rfl⟩
  refine dO.or1 (dO.cmpS (L:=23) (post1:=fun v A=>v=.ref k/\A=(m,aa [] o)::((y5 X.F N O P l cy k J M X.cr q X.cn D X.cc B r f f.e i G g E X.cy t u H Q j d c)++(I++lows))) BH (by kernel_rfl) (dW.same (bW.val (BB w a b [] X N O P (.ref l) (.bool cy) k J M ((m,aa [] o)::(xS X.cr q X.cn D X.cc B r f f.e i G g E X.cy t u H l Q j k d c I lows)))) (by decide) (RK.swap _ _ _)) ?_)
  rintro x F1 ⟨rfl,rfl⟩
  have DU:=bW.frame (X:=(BI m o X.cn D X.cc B i G g E k d c)++(I++lows)) (BC w a b [] X q f.e t H l j Q (bQ r f) u R ss hcs hcz hcn hss2 hn1 hz1 hne hsz mx [r .z0,r .z1,r .z2,r .z3] (Bi r f) (by simp) hmx N O P (.bool cy) (.ref k) J M [])
  refine ⟨fun v A=>∃(U W:Nat)(K:LV)(l2:Mem),v=.ref U/\dN Z K l2/\A=([(U,aa K W),(gQ X.F N O (ey,P) (fC,.ref l) (gV,.bool cy) (gS,.ref k) J M),(X.cr,ad (Ld (.ref q))),(X.cy,ad (Ld (.ref t))),(q,aa (bQ r f) f.e),(t,aa u H)]++l2)++((BI m o X.cn D X.cc B i G g E k d c)++(I++lows)),dW.tree (bW.pk (bW.weakP DU (by decide) ?_) (Pk.perm ?_)), ?_⟩
  .intro rr A q0;refine bp fun C kC=>?_;obtain ⟨F0,⟨U,W,K,l2,rfl,rfl,h2⟩,rfl⟩:=q0;apply kC;clear kC
   exact ⟨_,.refl _,_,rfl,U,W,K,l2,rfl,by rw [htot];exact h2,rfl⟩
  .exact (cb 13 ((m,aa [] o)::(y5 X.F N O P l cy k J M X.cr q X.cn D X.cc B r f f.e i G g E X.cy t u H Q j d c)) [(gQ X.F N O (ey,P) (fC,.ref l) (gV,.bool cy) (gS,.ref k) J M),(X.cr,ad (Ld (.ref q))),(X.cy,ad (Ld (.ref t))),(q,aa (bQ r f) f.e),(t,aa u H),(l,aa Q j),(m,aa [] o),(X.cn,ad (Ld (.ref D))),(X.cc,ad (Ld (.ref B))),(D,aa i G),(B,aa g E),(184,au),(k,aa d c)] [1,2,9,5,10,11,0,3,4,6,7,8,12] rfl (by decide) rfl).append_right (I++lows)
  .rintro y F2 ⟨U,W,K,l2,rfl,h2,rfl⟩
   refine ⟨Li,rG hrn h2 (e:=c) (e':=W) ?_ (Lu _ (Lu _ (.head _))) (fun p hp=>LB _ (LB _ (Lu _ hp))) (fun p hp=>Lu _ (LB _ hp)),rfl, ?_⟩
   .exact LB _ (Lu _ (by repeat (first|exact .head _|apply ON)))
   .refine bt.pk (Y ((U,aa K W)::(m,aa [] o)::(k,aa d c)::(l2++(I++lows)))) (Pk.perm ((oc _ _ _ _).trans ?_))
    exact (cb 13 ([(U,aa K W),(gQ X.F N O (ey,P) (fC,.ref l) (gV,.bool cy) (gS,.ref k) J M),(X.cr,ad (Ld (.ref q))),(X.cy,ad (Ld (.ref t))),(q,aa (bQ r f) f.e),(t,aa u H)]++(BI m o X.cn D X.cc B i G g E k d c)) ((xQ X.F N O P (fC,.ref l) (gV,.bool cy) (gS,.ref k) J M X.cr q X.cn D X.cc B r f f.e i G g E X.cy t u H)++[(U,aa K W),(m,aa [] o),(k,aa d c)]) [1,2,7,8,4,9,10,11,3,5,0,6,12] rfl (by decide) rfl).append_right (l2++(I++lows))
 .intro A h
  exact h
theorem uv{ss:LLN} : ∀s∈ss.flatMap cN,s∈ss:=by
 intro s hs
 refine bj (fun t a=>?_) (RH.mp hs);obtain ⟨b,h⟩:=a
 unfold cN at h
 split at h
 .split at h
  .rw [ND.mp h];exact b
  .cases h
 .cases h
theorem uw(ss:LLN):(ss.flatMap cN).length<=ss.length:=by
 induction ss with
 | nil=>exact Lf _
 | cons s ss a=>
  rw [Me,Lq,Ls]
  have : (cN s).length<=1:=by
   unfold cN
   split
   .split<;>simp
   .simp
  kd_p
abbrev Cr (x0 x1 x2 x3 x4 x5 x6 x7 x8 x9 x10 x11 x12 x13 x14 x15 x16 x17 x18 x19 x20 x21 x22):=([(x0,aJ [(dq,x1),x2,(ey,.ref x3)] x4),(x5,ad (Ld (.ref x6))),(x7,ad (Ld (.ref x8))),(x9,ad (Ld (.ref x10))),(x6,bq x11 x12),(x8,aa x13 x14),(x10,aa x15 x16),(184,au),(x17,ad (Ld (.ref x18))),(x18,aa x19 x20),(x3,aa x21 x22)] : Mem)
theorem K3{as:LN}(w:Lj)(a b:Bool)(X:eZ)(t o D k B u I h E:Nat)(f d z c:LV)(r:E4->Nat)(A:ab)(ss:LLN)(K:af ss z)(U:z≠[])(Y:z.length < 900)(hne:∀s∈ss,s≠[])(hsz:∀s∈ss,s.length < 60000)(hr:∀i j,r i=r j->i=j)(p q:E4)(sts' g:List (E4 × E4))(W:g=(p,q)::sts')(hs:bC (bz r g) c)(hns:∀p∈g,p.2≠p.1)(hnn:g.length < 900)(n:Nat)(cy:Bool)(hfc:dK (dD g).2 n aV []=Ld cy)(m:Nat)(hm:m < 800)(l:List (List E4))(hrl:cC (dD g).2 m (xR g) (ar (dD g).1 aV)=Ld l)(h4:(ar (dD g).1 aV).length<=4)(hsl:∀x,((dD g).2 x).length < 50)(hcy:cy = !decide (ss.flatMap cN=[]))(mx:Nat->E4)(hmx:∀x∈[r .z0,r .z1,r .z2,r .z3],(ss.flatMap (c3 ((ss.flatMap cN).flatMap bf))).contains [x]=Li->en (mx x)∈ss.flatMap (bZ x)/\∀n∈ss.flatMap (bZ x),n<=en (mx x))(htot:l.map (f3 r)=fp (ss.flatMap (c3 ((ss.flatMap cN).flatMap bf))) mx [r .z0,r .z1,r .z2,r .z3])(G H:Lc)(J:ab)(lows:Mem)(L:List L4)(Q:∀(v2:Lc)(v M:Nat)(J:ab)(R:Array (Option Lc))(lows:Mem),iS as w a b X L ((xQ X.F G H v2 (fC,.ref v) (gV,.bool cy) (gS,.ref M) J R X.cr t X.cn o X.cc k r A A.e f D d B X.cy u z I)++lows)) :
  iS as w a b X ([ax (ai cY) 9]++([ax (ai cY) 10]++([ax (ai cY) 11]++L))) ((Cr X.F G (e5,H) h J X.cr t X.cn o X.cc k r A f D d B X.cy u z I c E)++lows):=by
 refine bt.pk (bt.stage (I4 w a b [] X u I z ss K U Y hne hsz G H (.ref h) J ([(X.cr,ad (Ld (.ref t))),(X.cn,ad (Ld (.ref o))),(X.cc,ad (Ld (.ref k))),(t,bq r A),(o,aa f D),(k,aa d B),(184,au),(h,aa c E)]++lows)) (by decide) ?_) (Pk.perm ((cb 11 (Cr X.F G (e5,H) h J X.cr t X.cn o X.cc k r A f D d B X.cy u z I c E) ([(ay X.F [(dq,G),(e5,H),(ey,.ref h)] J),(X.cy,ad (Ld (.ref u))),(u,aa z I)]++[(X.cr,ad (Ld (.ref t))),(X.cn,ad (Ld (.ref o))),(X.cc,ad (Ld (.ref k))),(t,bq r A),(o,aa f D),(k,aa d B),(184,au),(h,aa c E)]) [0,8,9,1,2,3,4,5,6,7,10] rfl (by decide) rfl).append_right lows))
 intro rr F' q0;refine gz (fun v y P J h0=>?_) q0;apply gu h0;intro S
 refine ⟨rfl, ?_⟩
 have hcz:P.length < 900:=by
  rw [S.length]
  have:=uw ss
  have:=K.length
  kd_p
 have S10:=bW.frame (X:=[(X.cy,ad (Ld (.ref u))),(u,aa z I),(v,aa P y),(X.cn,ad (Ld (.ref o))),(X.cc,ad (Ld (.ref k))),(o,aa f D),(k,aa d B),(184,au)]++lows) (GZ w a b X r hr t h E A c p q sts' g W hs hns hnn n cy hfc m hm l hrl h4 hsl G H (.ref v) J [])
 refine bt.pk (bt.stage S10 (by decide) ?_) (Pk.perm ((cb 12 [(ay X.F [(dq,G),(e5,H),(ey,.ref h),(fC,.ref v)] J),(X.cy,ad (Ld (.ref u))),(u,aa z I),(v,aa P y),(X.cr,ad (Ld (.ref t))),(X.cn,ad (Ld (.ref o))),(X.cc,ad (Ld (.ref k))),(t,bq r A),(o,aa f D),(k,aa d B),(184,au),(h,aa c E)] [(ay X.F [(dq,G),(e5,H),(ey,.ref h),(fC,.ref v)] J),(X.cr,ad (Ld (.ref t))),(t,bq r A),(h,aa c E),(X.cy,ad (Ld (.ref u))),(u,aa z I),(v,aa P y),(X.cn,ad (Ld (.ref o))),(X.cc,ad (Ld (.ref k))),(o,aa f D),(k,aa d B),(184,au)] [0,4,7,11,1,2,3,5,6,8,9,10] rfl (by decide) rfl).append_right lows))
 intro rr F' q0;refine bj (fun F0 h0=>?_) q0;refine bp fun C kC=>?_;obtain ⟨⟨M,N,O,J,R,Z,rfl,rfl,hrn⟩,rfl⟩:=h0;apply kC;clear kC
 refine ⟨rfl, ?_⟩
 refine bt.pk (I5 w a b X t o D k B u I v y M N f d z P O r A ss K U Y hne hsz (ss.flatMap cN) S hcz (fun s hs=>hne s (uv s hs)) cy hcy mx hmx (l.map (f3 r)) htot Z hrn G H (.ref h) J R ((h,aa c E)::lows) L (fun lows=>Q (.ref h) v M J R lows)) (Pk.perm ((oc _ _ _ _).trans ?_))
 refine ((cb 13 ([(gQ X.F G H (ey,.ref h) (fC,.ref v) (gV,.bool cy) (gS,.ref M) J R),(X.cr,ad (Ld (.ref t))),(t,bq r A),(h,aa c E),(M,aa O N)]++[(X.cy,ad (Ld (.ref u))),(u,aa z I),(v,aa P y),(X.cn,ad (Ld (.ref o))),(X.cc,ad (Ld (.ref k))),(o,aa f D),(k,aa d B),(184,au)]) ([(gQ X.F G H (ey,.ref h) (fC,.ref v) (gV,.bool cy) (gS,.ref M) J R),(X.cr,ad (Ld (.ref t))),(X.cn,ad (Ld (.ref o))),(X.cc,ad (Ld (.ref k))),(t,bq r A),(o,aa f D),(k,aa d B),(184,au),(X.cy,ad (Ld (.ref u))),(u,aa z I),(v,aa P y),(M,aa O N)]++[(h,aa c E)]) [0,1,8,9,2,10,11,12,5,6,7,4,3] rfl (by decide) rfl).append_right (Z++lows)).trans ?_
 exact MR [(gQ X.F G H (ey,.ref h) (fC,.ref v) (gV,.bool cy) (gS,.ref M) J R),(X.cr,ad (Ld (.ref t))),(X.cn,ad (Ld (.ref o))),(X.cc,ad (Ld (.ref k))),(t,bq r A),(o,aa f D),(k,aa d B),(184,au),(X.cy,ad (Ld (.ref u))),(u,aa z I),(v,aa P y),(M,aa O N)] (show ((h,aa c E)::(Z++lows)).Perm (Z++(h,aa c E)::lows) from MH.symm)
theorem G0:ax (ai cY) 8=.If (.BoolOp .Or [.Compare (dy (i8 0)) [.NotEq] [bP (i8 0)] (dQ (i8 0)),.Compare (dy (i8 1)) [.NotEq] [bP (i8 1)] (dQ (i8 1)),.Compare (dy (i8 2)) [.NotEq] [bP (i8 2)] (dQ (i8 2))] (qF (tV (ax (ai cY) 8)))) (ai (ax (ai cY) 8)) [] (tY (ax (ai cY) 8)):=by kernel_rfl
theorem G1:Mo .NotEq (bP (i8 0))=Li:=by kernel_rfl
theorem G2:Mo .NotEq (bP (i8 1))=Li:=by kernel_rfl
theorem G3:Mo .NotEq (bP (i8 2))=Li:=by kernel_rfl
abbrev pU (x0 x1 x2 x3 x4 x5 x6 x7 x8 x9 x10 x11 x12 x13 x14 x15 x16 x17 x18 x19 x20 x21 x22 x23 x24 x25 x26 x27 x28 x29 x30 x31 x32 x33 x34 x35 x36):=([(x0,aJ [(dq,x1),(e5,sv x2 x3),(ey,.ref x4)] x5),(x6,ad (Ld (.ref x7))),(x8,ad (Ld (.ref x9))),(x10,ad (Ld (.ref x11))),(x7,bq x12 x13),(x9,aa x14 x15),(x11,aa x16 x17),(184,au),(x18,ad (Ld (.ref x19))),(x19,aa x20 x21),(x4,aa x22 x23)]++([(x24,ad (Ld (.ref x25))),(x25,aa x26 x27),(x28,ad (Ld (.ref x29)))]++(aU x30 x31 x32 x33 x34 x35 []++x36)):Mem)
abbrev mU (x0 x1 x2 x3 x4 x5):=ay x0 [(dq,x1),(e5,sv x2 x3),(ey,.ref x4)] x5
theorem K4{as:LN}(w:Lj)(a b:Bool)(X:eZ)(p o E k B z I j G s H:Nat)(g d C e f:LV)(r:E4->Nat)(D:ab)(A:LexA)(O:LexX)(K N M:ab)(n':Int)(s1:LLN)(W:af s1 e)(Y:af s1 f)(s2:LLN)(S:af s2 d)(Z:af s2 C)(c:LN)(m:Nat)(U:n'=1 + Ll (c.count 10))(n:Lc)(J:ab)(lows:Mem)(P:List L4)(Q:iS as w a b X P (pU X.F n c m j J X.cr p X.cn o X.cc k r D g E d B X.cy z C I e G X.cs s f H X.cx A.l A O K N M n' lows)) :
  iS as w a b X ([ax (ai cY) 8]++P) (pU X.F n c m j J X.cr p X.cn o X.cc k r D g E d B X.cy z C I e G X.cs s f H X.cx A.l A O K N M n' lows):=by
 rw [G0]
 have mR:(j,aa e G)∈(pU X.F n c m j J X.cr p X.cn o X.cc k r D g E d B X.cy z C I e G X.cs s f H X.cx A.l A O K N M n' lows):=Lu _ (by repeat (first|exact .head _|apply ON))
 have mC:(k,aa d B)∈(pU X.F n c m j J X.cr p X.cn o X.cc k r D g E d B X.cy z C I e G X.cs s f H X.cx A.l A O K N M n' lows):=Lu _ (by repeat (first|exact .head _|apply ON))
 have mW:(z,aa C I)∈(pU X.F n c m j J X.cr p X.cn o X.cc k r D g E d B X.cy z C I e G X.cs s f H X.cx A.l A O K N M n' lows):=Lu _ (by repeat (first|exact .head _|apply ON))
 have mS:(s,aa f H)∈(pU X.F n c m j J X.cr p X.cn o X.cc k r D g E d B X.cy z C I e G X.cs s f H X.cx A.l A O K N M n' lows):=LB _ (.tail _ (.head _))
 refine bt.skip (post1:=fun i=>i=(pU X.F n c m j J X.cr p X.cn o X.cc k r D g E d B X.cy z C I e G X.cs s f H X.cx A.l A O K N M n' lows)) (dO.or (pos':=default) (post1:=fun v i=>v=Li/\i=(pU X.F n c m j J X.cr p X.cn o X.cc k r D g E d B X.cy z C I e G X.cs s f H X.cx A.l A O K N M n' lows)) (dO.cmpS (L:=23) (post1:=fun v i=>v=.ref j/\i=(pU X.F n c m j J X.cr p X.cn o X.cc k r D g E d B X.cy z C I e G X.cs s f H X.cx A.l A O K N M n' lows)) G1 (by kernel_rfl) (dW.same (bW.val (xL w a b [] X n (sv c m) j J _)) (by decide) (.refl _)) ?_) ?_ ?_) ?_
 .rintro x F1 ⟨rfl,rfl⟩
  refine ⟨fun v i=>v=.ref s/\i=(pU X.F n c m j J X.cr p X.cn o X.cc k r D g E d B X.cy z C I e G X.cs s f H X.cx A.l A O K N M n' lows),dW.same (bW.val (ut w a b [] X s ((Cr X.F n (e5,sv c m) j J X.cr p X.cn o X.cc k r D g E d B X.cy z C I e G)++([(s,aa f H),(X.cx,ad (Ld (.ref A.l)))]++(aU A O K N M n' []++lows))))) (by decide) MH, ?_⟩
  rintro y F2 ⟨rfl,rfl⟩
  exact ⟨_,iQ W Y mR mS,by simp,rfl⟩
 .rintro i ⟨h,_⟩
  cases h
 .rintro i ⟨_,rfl⟩
  refine dO.or (pos':=default) (post1:=fun v i=>v=Li/\i=(pU X.F n c m j J X.cr p X.cn o X.cc k r D g E d B X.cy z C I e G X.cs s f H X.cx A.l A O K N M n' lows)) (dO.cmpS (L:=23) (post1:=fun v i=>v=.ref k/\i=(pU X.F n c m j J X.cr p X.cn o X.cc k r D g E d B X.cy z C I e G X.cs s f H X.cx A.l A O K N M n' lows)) G2 (by kernel_rfl) (dW.same (bW.val (xM w a b [] X k _)) (by decide) (MH (l₁:=[(mU X.F n c m j J),(X.cr,ad (Ld (.ref p))),(X.cn,ad (Ld (.ref o)))]))) ?_) ?_ ?_
  .rintro x F1 ⟨rfl,rfl⟩
   refine ⟨fun v i=>v=.ref z/\i=(pU X.F n c m j J X.cr p X.cn o X.cc k r D g E d B X.cy z C I e G X.cs s f H X.cx A.l A O K N M n' lows),dW.same (bW.val (xN w a b [] X z _)) (by decide) (MH (l₁:=[(mU X.F n c m j J),(X.cr,ad (Ld (.ref p))),(X.cn,ad (Ld (.ref o))),(X.cc,ad (Ld (.ref k))),(p,bq r D),(o,aa g E),(k,aa d B),(184,au)])), ?_⟩
   rintro y F2 ⟨rfl,rfl⟩
   exact ⟨_,iQ S Z mC mW,by simp,rfl⟩
  .rintro i ⟨h,_⟩
   cases h
  .rintro i ⟨_,rfl⟩
   refine dO.or1 (dO.cmpS (L:=23) (post1:=fun v i=>(∃t:Nat,v=.int n' t)/\i=(pU X.F n c m j J X.cr p X.cn o X.cc k r D g E d B X.cy z C I e G X.cs s f H X.cx A.l A O K N M n' lows)) G3 (by kernel_rfl) (dW.same (bW.weak (Bx w a b [] X A O K N M n' (((Cr X.F n (e5,sv c m) j J X.cr p X.cn o X.cc k r D g E d B X.cy z C I e G)++(pT X.cs s f H))++lows)) (Lf _) fun rr i q=>?_) (by decide) ?_) ?_)
   .refine bj (fun t R=>?_) q;apply kW R
    exact ⟨_,.refl _,_,⟨t,rfl⟩,rfl,rfl⟩
   .exact OF ((Cr X.F n (e5,sv c m) j J X.cr p X.cn o X.cc k r D g E d B X.cy z C I e G)++(pT X.cs s f H)) ((mT X.cx A.l)++aU A O K N M n' []) lows
   .rintro x F1 ⟨⟨t,rfl⟩,rfl⟩
    refine ⟨fun v i=>(∃t:Nat,v=.int (1 + Ll (c.count 10)) t)/\i=(pU X.F n c m j J X.cr p X.cn o X.cc k r D g E d B X.cy z C I e G X.cs s f H X.cx A.l A O K N M n' lows),dW.same (bW.weak (By w a b [] X n (.ref j) c m J _) (Lf _) fun rr i q=>?_) (by decide) (.refl _), ?_⟩
    .refine bj (fun t R=>?_) q;apply kW R
     exact ⟨_,.refl _,_,⟨t,rfl⟩,rfl,rfl⟩
    .rintro y F2 ⟨⟨u,rfl⟩,rfl⟩
     rw [U]
     exact ⟨Li,uq _ _ _,rfl,rfl⟩
 .rintro i rfl
  exact Q
section
open PySem.Builtin.Str (glued tooLong)
theorem qI(w:Lj)(a b:Bool)(l p:Nat)(vs:LV)(e k t:Nat)(hz:vs.length < 60000) :
  CT w a b 0 (b9 "list.__getitem__" [.ref l,.ref p]) [(l,aa vs e),(p,rl .none (.int (Ll k) t))] (fun B os j=>∃(x:Nat),B=.ok (.ret (.ref x))/\os=[aa vs e,rl .none (.int (Ll k) t)]/\j=[(x,aa (vs.take k) 0)]):=
 bH (by decide +kernel) OZ fun A g h G D O N T R C v E n q=>by
  have z:=n.get (i:=0) rfl
  have c:=n.get (i:=1) rfl
  have y:=n.size
  have d:(⟨h,G,D,T,O⟩ : Ly).TypeIs (.ref p) "slice" := ⟨_,c,rfl⟩
  have hsz:=SC ⟨vs⟩ Lk (Ld (Ll k)) Lk
  have s:Pf ⟨vs⟩ Lk (Ld (Ll k)) Lk=(vs.take k).toArray:=slicePick_upto' ⟨vs⟩ k
  have u:vs.length<=M9:=by
   have : 60000<=M9:=by decide
   kd_p
  have r:=n.alloc (o:=aa (Pf ⟨vs⟩ Lk (Ld (Ll k)) Lk).toList 0) rfl
  have f:=q (.ok (.ret (.ref h.objs.size))) [_,_] [(h.objs.size,aa (Pf ⟨vs⟩ Lk (Ld (Ll k)) Lk).toList 0)] (N + 1) T (h.push (aa (Pf ⟨vs⟩ Lk (Ld (Ll k)) Lk).toList 0)) ⟨h.objs.size,rfl,rfl,by rw [s]⟩ rfl (by rw [y];exact r)
  show L7 _ _ (MF (.ref p) >>= _) _ _ _
  refine Le ?_
  dsimp only [MF]
  refine Le (Tf d TA ?_)
  simp only [Q0,if_true]
  refine Lx ?_
  refine Le (wpAny_typeOf d ?_)
  refine Le (Le (L8 c rfl (x:=.none) rfl (Le (Ou .none ?_))))
  refine Le (L8 c rfl (x:=.none) rfl (Le (Ou .none ?_)))
  refine Le (L8 c rfl (x:=.int (Ll k) t) rfl (Le (Ou (.int (Ll k) t) (Lx ?_))))
  refine Le (m:=NY (.ref l)) ?_
  unfold NY
  refine Le (N0 z rfl (Lx ?_))
  refine Le (OG (SX Lk (Ld (Ll k)) Lk vs.length (by decide)) ?_)
  refine Le (Mg (Lx ?_) (LL hsz u))
  exact f
theorem rJ(w:Lj)(a b:Bool)(l:Nat)(vs:LV)(e t:Nat){ss:LLN}(hs:af ss vs)(hz:ss.flatten.length < 60000) :
  CT w a b 0 (b9 "str.join" [sv [] t,.ref l]) [(l,aa vs e)] (fun C os u=>∃t:Nat,C=.ok (.ret (sv ss.flatten t))/\os=[aa vs e]/\u=[]):=by
 obtain ⟨c,x,y⟩ : ∃c:List (Str × Tok),strValues c=vs/\c.map (fun p=>p.1.cps.toList)=ss:=by
  induction hs with
  | nil=>exact ⟨[],rfl,rfl⟩
  | cons s t _ o=>
   refine bj (fun c z=>?_) (o (by rw [OS,Lq] at hz;exact LJ (Pd _ _) hz));obtain ⟨x,y⟩:=z
   exact ⟨(⟨⟨s⟩⟩,t)::c,by rw [<- x];rfl,by rw [<- y];rfl⟩
 subst y
 have m:∀c:List (Str × Tok),glued ⟨⟨[]⟩⟩ (c.map (·.1))=⟨⟨(c.map (fun p=>p.1.cps.toList)).flatten⟩⟩:=by
  intro c
  cases c with
  | nil=>rfl
  | cons p c=>
   have k:∀(c:List (Str × Tok))(d:Array Nat),(c.map (·.1)).foldl (fun d p=>d++(⟨⟨[]⟩⟩ : Str).cps++p.cps) d=⟨d.toList++(c.map (fun p=>p.1.cps.toList)).flatten⟩:=by
    intro c
    induction c with
    | nil=>intro d;cases d;simp
    | cons q c o=>
     intro d
     rw [Lz,Oz,o]
     simp
   show (⟨(c.map (·.1)).foldl (fun d p=>d++(⟨⟨[]⟩⟩ : Str).cps++p.cps) p.1.cps⟩ : Str)=_
   rw [k]
   simp
 have B:Qz ((c.map (·.1)).toArray.foldl (· + ·.length + (⟨⟨[]⟩⟩ : Str).length) 0)=Li:=by
  have k:∀(c:List (Str × Tok))(n:Nat),(c.map (·.1)).foldl (· + ·.length + (⟨⟨[]⟩⟩ : Str).length) n=n + (c.map (fun p=>p.1.cps.toList)).flatten.length:=by
   intro c
   induction c with
   | nil=>intro n;rfl
   | cons q c o=>
    intro n
    rw [Lz,Oz,o,Lz,OS,Lq]
    show n + q.1.cps.size + 0 + _=_
    rw [O8,Px];rfl
  rw [List.foldl_toArray,k]
  unfold Qz
  rw [decide_eq_false_iff_not]
  have:=aX
  kd_p
 refine bg (by decide +kernel) F.entry_str_join (meets_str_join_list ⟨⟨[]⟩⟩ t l c B) fun A g h G D O N T R E v f=>?_
 have hL:(⟨h,G,D,T,O⟩ : Ly).heap.IsList l (strValues c).toArray:=⟨_,v.get (i:=0) rfl,rfl,_,by rw [x]⟩
 refine ⟨hL, ?_⟩
 have j:=m c
 match c,j,f,hz with
 | [],j,f,hz=>
  refine ⟨by rw [j];exact LL (Mh hz) aX,f _ [_] [] N _ _ ⟨T, ?_,rfl,rfl⟩ rfl (da v)⟩
  rw [j]
 | [p],j,f,hz=>
  refine f _ [_] [] N _ _ ⟨p.2, ?_,rfl,rfl⟩ rfl (da v)
  simp
 | p::q::r,j,f,hz=>
  refine ⟨by rw [j];exact LL (Mh hz) aX,f _ [_] [] N _ _ ⟨T, ?_,rfl,rfl⟩ rfl (da v)⟩
  rw [j]
end
theorem G4(w:Lj)(a b:Bool)(fr:List Env)(X:eZ)(k r j q:Nat)(g f:LV)(ns:List Int)(hns:bF ns g)(H:0 < ns.length)(I:ns.length < 900)(d:List (List Sg))(L:af (d.map fun w=>w.map pc) f)(E:∀w∈d,pP w)(M:d≠[])(O:d.length < 900)(i:LN)(n:(d.mapIdx (yZ ns)).flatten=i)(hrz:i.length < 60000)(U:Lc)(J:ab)(lows:Mem) :
  dh w a b fr 10 (jj X) (eU (mL cY 3 4) (bu X)) ([(X.F,aJ [(dq,U)] J),(X.cn,ad (Ld (.ref k))),(k,aa g r),(X.cw,ad (Ld (.ref j))),(j,aa f q),(X.cx,ad Lk),(240,au)]++lows)
   (fun Q s=>∃(t:Nat)(J:ab)(A:LexA)(X':LexX)(u z y:ab)(m:LV)(P x:Nat),Q=.ok .next/\s=([(ay X.F [(dq,U),(e5,sv i t)] J),(X.cn,ad (Ld (.ref k))),(k,aa g r),(X.cw,ad (Ld (.ref j))),(j,aa f q),(X.cx,ad (Ld (.ref A.l)))]++aU A X' u z y 1 m++[(A.pb,aa [] P),(240,sX x)])++lows/\af (i.map fun c=>[c]) m):=by
 have W:∀(fr:List Env)(CL it ac:Nat)(J:ab)(p:Nat)(lows:Mem),ak w a b fr 8 (.compStart lx 0 (.ref it) (.ref ac) (n7 CL X.F X.cw X.cn)) ([(CL,av [] J),(it,dg 0 (Ll d.length)),(ac,aa [] p),(j,aa f q),(k,aa g r),(X.cw,ad (Ld (.ref j))),(X.cn,ad (Ld (.ref k)))]++lows) (fun Q s=>∃(v:Lc)(J:ab)(vs:LV)(p:Nat),Q=.ok .next/\s=[(CL,av [([106],v)] J),(ac,aa vs p),(j,aa f q),(k,aa g r),(X.cw,ad (Ld (.ref j))),(X.cn,ad (Ld (.ref k)))]++lows/\af (d.mapIdx (yZ ns)) vs):=fun fr CL it ac J p lows=>by
  have h:=GI w a b fr X.F j q k r X.cw X.cn f g ns hns H I d L E O CL it ac J p lows
  have hp:(d.length != 0)=Lh:=by
   have : d.length≠0:=fun h=>M (Mw.mp h)
   simpa using this
  rw [hp] at h
  exact h
 have R:=fun(l:Nat)(vs:LV)(e t:Nat)(h:af (d.mapIdx (yZ ns)) vs)=>rJ w a b l vs e t h (by rw [n];exact hrz)
 rw [n] at R
 have LN:=fun(l:Nat)(e:Nat)=>du w a b l f e (by rw [L.length,Ln];kd_p)
 have G:(f.length:Int)=Ll d.length:=by rw [L.length,Ln];rfl
 rw [G] at LN
 have RI:=fun(rg:Nat)(J:ab)=>g7 w a b rg (Ll d.length) J (NI _) (by show (d.length:Int) < 100000;kd_p)
 have Y:=fun(t:Nat)=>vo w a b i t hrz
 apply fU b 0x402080040000000;intro V N T B0 Y0 C st
 apply bA b 0x70208400102040010004080000000;intro o;apply LN j q;k_all;intro t Z T1 st
 apply bA b 0x830410488141c109;intro o;apply RI Z (ae (o 7));k_all;intro x B T2 st
 apply iW b 4432943136897;intro o;apply W ([(bu X)]++fr) (B + 1) x B (ae (o 10)) 0 lows;k_all;intro v J1 vs p N3 T3 hq Y0 st
 apply bA b 4508066408039303;intro o;apply R B vs p T ‹_›;k_all;intro S N4 T4 st
 apply lg b;intro o;apply Y S;k_mem;intro V V V N5 T5 D V;refine oO (fun A X1 u z y m P x1 D=>?_) D;apply jr D;intro K;apply dC b 1032;intro st
 apply b4 b [6,5,3,4,2,7,10,11,12,13,14,15,16,17,18,8];apply C;intro o τ;refine rT S (ae (o 6)) A X1 u z y m P x1 ⟨?_, ?_,K⟩;apply rfl;apply rfl;k_mem
theorem rK(w:Lj)(a b:Bool)(x:LN)(c t u:Nat)(h:x.contains c=Lh) :
  CT w a b 0 (b9 "str.__contains__" [sv x t,sv [c] u]) [] (go (.ret (.bool Lh)) []):=
 (g8 w a b x c t u).weak (Lf _) fun r os d q=>by
  obtain ⟨v,rfl,rfl,rfl,rfl⟩:=q
  exact ⟨by rw [h],rfl,rfl⟩
theorem lW(w:Lj)(a b:Bool)(x:LN)(c t u:Nat)(h:x.contains c=Li) :
  CT w a b 0 (b9 "str.__contains__" [sv x t,sv [c] u]) [] (go (.ret (.bool Li)) []):=
 (g8 w a b x c t u).weak (Lf _) fun r os d q=>by
  obtain ⟨v,rfl,rfl,rfl,rfl⟩:=q
  exact ⟨by rw [h],rfl,rfl⟩
set_option tactic.hygienic true in
theorem BJ(w:Lj)(a b:Bool)(p q i:Nat)(d:List (Nat × Nat))(z:Nat)(x:LV)(D:Nat)(u:bC d x)(n:Nat):CW w a b n ((p,q)::d) z (sv [p,q] i::x) D:=by
 induction n with
 | zero=>intro F t out h;cases h
 | succ n IH=>
  intro F t out hf
  unfold bU at hf
  split at hf
  .cases hf
  rename_i l hw
  obtain ⟨c,rfl⟩ : ∃c,F=c++[l]:=by
   rw [Nk] at hw
   obtain ⟨ys,rfl⟩:=hw
   exact ⟨ys,rfl⟩
  split at hf
  .cases hf
  rename_i hb
  rw [Lq] at hb
  have r:c.length < 100:=NR (Nz hb)
  have hwi:c.length < 1000:=oA r rfl
  have hw6:c.length < 60000:=oA r rfl
  have P:∀q:Nat,(c++[l]).length + [q].length < 60000:=fun q=>oN r rfl
  have h1:af [c++[l]] [sv (c++[l]) t]:=.one _ _
  have hst1:bC d ((sv [p,q] i::x).drop 1):=u
  rw [Oy] at hf
  split at hf
  .rename_i K
   cases hf
   apply fE b 0x2000000200081020400001;intro V N T V W Y0 g st
   apply fc b 8830989631490;intro o;apply bh w a b c l t (T + 3);k_all;intro k y A st
   apply fc b 256;intro o;apply cZ w a b c l t y (A + 1) ‹_›;k_all;intro C X Y st
   apply aE b 2;intro o;apply rK w a b c l C k K;k_all;intro f Z st
   apply fT b [0,3];apply g;intro o τ;refine gB f (ae (o 3)) [(sv (c++[l]) t)] ⟨?_, ?_, ?_,‹_›⟩;apply rfl;apply rfl;apply rfl;rfl;k_mem
  .rename_i K
   have hcF:c.contains l=Li:=by simpa using K
   by_cases s:p=l
   .subst s
    rw [d5,if_pos rfl] at hf
    split at hf
    .rename_i U Q
     split at hf
     .cases hf
     .rename_i I
      have heq:[p]=[p]:=rfl
      have hz:[c++[p]].length + U.length < 60000:=oI I rfl
      have hwl2:=P q
      apply fE b 0x2000000200081020400001;intro V N T V W Y0 g st
      apply fc b 8830989631490;intro o;apply bh w a b c p t (T + 3);k_all;intro k y A st
      apply fc b 256;intro o;apply cZ w a b c p t y (A + 1) ‹_›;k_all;intro C X Y st
      apply aE b 0x404082800a0028002000810408102;intro o;apply lW w a b c p C k ‹_›;k_all;intro f Z st
      apply aE b 0x10000001000008102;intro o;apply aG w a b (f + 1) z 0 ([(sv [p,q] i)]++x) D (sv [p,q] i) rfl;k_all;intro N4 B st
      apply fc b 256;intro o;apply bh w a b c p t (B + 4);k_all;intro S N5 T5 st
      apply aE b 0x40000004080040810202;intro o;apply iG w a b [p] [p] (B + 2) S ‹_›;k_all;intro N6 T6 st
      apply fc b 2129922;intro o;apply bB w a b (c++[p]) [q] t (T6 + 1) ‹_›;k_all;intro v N7 T7 st
      apply jZ b 172608225792;intro o;apply IH ((c++[p])++[q]) v U Q;k_all;intro R J vs N8 T8 L st
      apply jY b 138246357506;intro o;apply hU w a b f R [(sv (c++[p]) t)] vs 0 J.e h1 L ‹_›;k_all;intro J1 N9 T9 M st
      apply lg b;intro o;apply qo w a b n ((p,q)::d) z (sv [p,q] i::x) D IH N f (f + 1) c p d (sv [p,q] i) (ae (o 1)) ([(c++[p])]++U) ([(sv (c++[p]) t)]++vs) J1.e 1 out u M ‹_› hf;k_mem;intro V V V N10 T10 m V;refine jA (fun j H G E oi m=>?_) m;apply jr m;intro O;apply dC b 2;intro st
      apply fT b [0,3];apply g;intro o τ;refine gB f H j ⟨?_, ?_, ?_,O⟩;apply rfl;apply rfl;apply rfl;rfl;k_mem
    .cases hf
   .rw [d5,if_neg s] at hf
    have hne:[p]≠[l]:=fun h=>s (by injection h)
    apply fE b 0x2000000200081020400001;intro V N T V W Y0 g st
    apply fc b 8830989631490;intro o;apply bh w a b c l t (T + 3);k_all;intro k y A st
    apply fc b 256;intro o;apply cZ w a b c l t y (A + 1) ‹_›;k_all;intro C X Y st
    apply aE b 0x404082800a0028002000810408102;intro o;apply lW w a b c l C k ‹_›;k_all;intro f Z st
    apply aE b 0x10000001000008102;intro o;apply aG w a b (f + 1) z 0 ([(sv [p,q] i)]++x) D (sv [p,q] i) rfl;k_all;intro N4 B st
    apply fc b 256;intro o;apply bh w a b c l t (B + 4);k_all;intro S N5 T5 st
    apply aE b 138246357506;intro o;apply iH w a b [p] [l] (B + 2) S ‹_›;k_all;intro N6 T6 st
    apply lg b;intro o;apply qo w a b n ((p,q)::d) z (sv [p,q] i::x) D IH N f (f + 1) c l d (sv [p,q] i) (ae (o 1)) [(c++[l])] [(sv (c++[l]) t)] 0 1 out u h1 ‹_› hf;k_mem;intro V V V N7 T7 m V;refine jA (fun j H G E oi m=>?_) m;apply jr m;intro L;apply dC b 2;intro st
    apply fT b [0,3];apply g;intro o τ;refine gB f H j ⟨?_, ?_, ?_,L⟩;apply rfl;apply rfl;apply rfl;rfl;k_mem
section
variable(w:Lj)(a b:Bool)(fr:List Env)(X:eZ)(f c j:Nat)(r:E4->Nat)(d:ab)(p q k:Nat)(sts:List (Nat × Nat))(g:LV)(m:bC sts g)(n:Nat)(hnL:2 * n + 6<=18)(W:E4->LLN)(hW:∀z,bU ((p,q)::sts) n [r z]=Ld (W z))(hZ:∀z,uQ (W z))
include w a b fr X f c j r d p q k sts g m n hnL W hW hZ
theorem G5(CL it ac:Nat)(J:ab)(o:Nat)(lows:Mem) :
  ak w a b fr 20 (.compStart dR 0 (.ref it) (.ref ac) (fw dR CL X.F dT X.cs)) ([(CL,av [] J),(it,al f 0),(ac,aa [] o),(304,au),(f,bq r d),(ew c [p,q] k g j),(X.cs,ad (Ld (.ref c)))]++lows)
   (fun M K=>∃(s v:Lc)(J:ab)(P:LV)(o x:Nat),M=.ok .next/\K=[(CL,qB s Lh v J),(ac,aa P o),(f,bq r d),(ew c [p,q] k g j),(X.cs,ad (Ld (.ref c))),(304,lr x)]++lows/\af (aT (W .z0)++aT (W .z1)++aT (W .z2)++aT (W .z3)) P):=by
 have t:=BJ w a b p q k sts c g j m n
 refine bD (l:=f) (i:=0) 1 ((Nr dR)[0]!) rfl (by kernel_rfl) (by kernel_rfl) (by kernel_rfl) (by kernel_rfl) (by kernel_rfl) ?_
 have C:=fun(z:E4)(O:LV)(h:af (aT (W z)) O)=>(show O.length < 64 by rw [h.length,c4];exact (hZ z).n64)
 refine uc w a b fr X.F f d.e c j X.cs (bQ r d) (sv [p,q] k::g) CL it ac (r .z0) _ rfl n _ t hnL (W .z0) (hW _) (hZ _) J o lows _ fun s v J o x u y B A D E=>?_
 refine kz w a b fr X.F f d.e c j X.cs (bQ r d) (sv [p,q] k::g) CL it ac 1 x u y B A s v D (by have:=C _ _ E;kd_p) (r .z1) _ rfl n _ t hnL (W .z1) (hW _) (hZ _) J o lows _ fun s v J o x u y B A G H=>?_
 refine kz w a b fr X.F f d.e c j X.cs (bQ r d) (sv [p,q] k::g) CL it ac 2 x u y B A s v (D++G) (by have:=C _ _ E;have:=C _ _ H;simp only [Lq];kd_p) (r .z2) _ rfl n _ t hnL (W .z2) (hW _) (hZ _) J o lows _ fun s v J o x u y B A I L=>?_
 refine kz w a b fr X.F f d.e c j X.cs (bQ r d) (sv [p,q] k::g) CL it ac 3 x u y B A s v (D++G++I) (by have:=C _ _ E;have:=C _ _ H;have:=C _ _ L;simp only [Lq];kd_p) (r .z3) _ rfl n _ t hnL (W .z3) (hW _) (hZ _) J o lows _ fun s v J o x u y B A N Q=>?_
 refine aO.pk (aO.weak (wL w a b fr X.F f d.e c j X.cs (bQ r d) (sv [p,q] k::g) CL it ac 4 (Lf _) s v J (D++G++I++N) o ([(ew c [p,q] k g j),(X.cs,ad (Ld (.ref c))),(304,lr x)]++lows)) (Lf _) fun M K q=>?_) (Pk.of (M2:=[(CL,qB s Lh v J),(it,al f 4),(ac,aa (D++G++I++N) o),(f,aa (bQ r d) d.e),(ew c [p,q] k g j),(X.cs,ad (Ld (.ref c))),(304,lr x)]) [0,1,2,5,6,7,3] rfl)
 obtain ⟨rfl,rfl⟩:=q
 exact ⟨_,.refl _,(ox s v J _ o x ⟨rfl,rfl,((E.append H).append L).append Q⟩)⟩
theorem I6(y u t:Lc)(J:ab)(lows:Mem) :
  dh w a b fr 22 (jj X) (pQ 7 X) ([(ay X.F [(dq,y),(e5,u),(ey,t)] J),(X.cr,ad (Ld (.ref f))),(X.cs,ad (Ld (.ref c))),(X.cy,ad Lk),(f,bq r d),(ew c [p,q] k g j),(304,au)]++lows)
   (fun E B=>∃(s G x:Nat)(e:LV)(J:ab),E=.ok .next/\B=[(ay X.F [(dq,y),(e5,u),(ey,t)] J),(X.cr,ad (Ld (.ref f))),(X.cs,ad (Ld (.ref c))),(X.cy,ad (Ld (.ref s))),(f,bq r d),(ew c [p,q] k g j),(s,aa e G),(304,lr x)]++lows/\af (aT (W .z0)++aT (W .z1)++aT (W .z2)++aT (W .z3)) e):=by
 have A:=fun(fr:List Env)(CL it ac:Nat)(J:ab)(h:Nat)(lows:Mem)=>G5 w a b fr X f c j r d p q k sts g m n hnL W hW hZ CL it ac J h lows
 apply fU b 0x414206101c48704200050014282;intro V N T H C i st
 apply j0 b;intro o;apply A ([(bu X)]++fr) (N + 2) N (N + 1) (ae (o 9)) 0 lows;k_mem;intro V V K L l;refine qc (fun M v I e h x l=>?_) l;apply jt l;intro D;refine ⟨_,_,.refl _,fun C=>?_⟩;apply dC b 5106166629679233;intro st
 apply b4 b [6,7,4,8,2,3,1,5];apply i;intro o τ;refine m7 (N + 1) h x e J ⟨?_, ?_,D⟩;apply rfl;apply rfl;k_mem
end
theorem ux(A C B:Mem)(t:Nat × Obj)(lows:Mem):((A++(C++(B++[t])))++lows).Perm (((A++(C++B))++lows)++[t]):=by
 simp only [Lr]
 exact ((MU.append_left B).append_left C).append_left A
abbrev uy (x0 x1 x2 x3 x4 x5 x6 x7 x8 x9 x10 x11 x12 x13 x14 x15 x16 x17 x18 x19):=([(x0,aa [] x1),(x2,aa (sv x3 x4::x5) x6),(x7,ad (Ld (.ref x8))),(x9,ad (Ld (.ref x10))),(x10,aa (.int x11 x12::x13) x14),(x15,ad (Ld (.ref x16))),(x16,bq x17 x18),(x19,ad Lk),(184,au),(304,au)] : Mem)
section
variable{as:LN}(w:Lj)(a b:Bool)(X:eZ)(i h s e t:Nat)(n0:Int)(m j:Nat)(o g:LV)(r:E4->Nat)(k:ab)(p q:E4)(sts':List (E4 × E4))(u:bC (bz r sts') g)(d:LN)
include as w a b X i h s e t n0 m j o g r k p q sts' u d
theorem K5(M n:Nat)(hnL:2 * n + 6<=18)(W:E4->LLN)(hW:∀z,bU ((r p,r q)::bz r sts') n [r z]=Ld (W z))(hZ:∀z,uQ (W z))(v H y K:Nat)(c f:LV)(A:LexA)(G:LexX)(C E D:ab)(n':Int)(I:Nat)(N:Lc)(J:ab)(lows:Mem)(L:List L4)(O:∀(B Q:Nat)(P:LV)(J:ab)(lows:Mem),af (aT (W .z0)++aT (W .z1)++aT (W .z2)++aT (W .z3)) P->iS as w a b X L ((Cr X.F N (e5,sv d M) y J X.cr i X.cn h X.cc v r k (.int n0 m::o) s c H X.cy B P Q f K)++([(X.cs,ad (Ld (.ref e))),(ew e [r p,r q] j g t),(X.cx,ad (Ld (.ref A.l)))]++((aU A G C E D n' [])++lows)))) :
  iS (304::as) w a b X ([ax (ai cY) 7]++L) (([(mU X.F N d M y J),(X.cs,ad (Ld (.ref e))),(X.cc,ad (Ld (.ref v))),(y,aa f K),(v,aa c H)]++((aU A G C E D n' [])++(uy A.pb I e [r p,r q] j g t X.cx A.l X.cn h n0 m o s X.cr i r k X.cy)))++lows):=by
 refine bt.pk (bt.stage (I6 w a b [] X i e t r k (r p) (r q) j (bz r sts') g u n hnL W hW hZ N (sv d M) (.ref y) J (([(X.cc,ad (Ld (.ref v))),(y,aa f K),(v,aa c H)]++((aU A G C E D n' [])++[(A.pb,aa [] I),(X.cx,ad (Ld (.ref A.l))),(X.cn,ad (Ld (.ref h))),(eR h n0 m o s),(184,au)]))++lows)) (by decide) ?_) (Pk.perm ((cb 23 ([(mU X.F N d M y J),(X.cs,ad (Ld (.ref e))),(X.cc,ad (Ld (.ref v))),(y,aa f K),(v,aa c H)]++((aU A G C E D n' [])++(uy A.pb I e [r p,r q] j g t X.cx A.l X.cn h n0 m o s X.cr i r k X.cy))) ([(mU X.F N d M y J),(X.cr,ad (Ld (.ref i))),(X.cs,ad (Ld (.ref e))),(X.cy,ad Lk),(i,bq r k),(ew e [r p,r q] j g t),(304,au),(X.cc,ad (Ld (.ref v))),(y,aa f K),(v,aa c H)]++((aU A G C E D n' [])++[(A.pb,aa [] I),(X.cx,ad (Ld (.ref A.l))),(X.cn,ad (Ld (.ref h))),(eR h n0 m o s),(184,au)])) [0,18,1,20,19,14,22,2,3,4,5,6,7,8,9,10,11,12,13,15,16,17,21] (by kernel_rfl) (by decide) (by kernel_rfl)).append_right lows))
 intro Z Y U;refine jA (fun B Q x P J R=>?_) U;apply gu R;intro S
 refine ⟨rfl, ?_⟩
 exact bt.pk (iS.table 304 #[.int 371 0,.int 78 0,.ref x] (O B Q P J ((A.pb,aa [] I)::lows) S)) (Pk.perm (((cb 24 ([(mU X.F N d M y J),(X.cr,ad (Ld (.ref i))),(X.cs,ad (Ld (.ref e))),(X.cy,ad (Ld (.ref B))),(i,bq r k),(ew e [r p,r q] j g t),(B,aa P Q),(304,lr x),(X.cc,ad (Ld (.ref v))),(y,aa f K),(v,aa c H)]++((aU A G C E D n' [])++[(A.pb,aa [] I),(X.cx,ad (Ld (.ref A.l))),(X.cn,ad (Ld (.ref h))),(eR h n0 m o s),(184,au)])) ([(mU X.F N d M y J),(X.cr,ad (Ld (.ref i))),(X.cn,ad (Ld (.ref h))),(X.cc,ad (Ld (.ref v))),(i,bq r k),(eR h n0 m o s),(v,aa c H),(184,au),(X.cy,ad (Ld (.ref B))),(B,aa P Q),(y,aa f K),(X.cs,ad (Ld (.ref e))),(ew e [r p,r q] j g t),(X.cx,ad (Ld (.ref A.l)))]++((aU A G C E D n' [])++[(A.pb,aa [] I),(304,lr x)])) [0,1,21,8,4,22,10,23,3,6,9,2,5,20,11,12,13,14,15,16,17,18,19,7] (by kernel_rfl) (by decide) (by kernel_rfl)).append_right lows).trans (ux [(mU X.F N d M y J),(X.cr,ad (Ld (.ref i))),(X.cn,ad (Ld (.ref h))),(X.cc,ad (Ld (.ref v))),(i,bq r k),(eR h n0 m o s),(v,aa c H),(184,au),(X.cy,ad (Ld (.ref B))),(B,aa P Q),(y,aa f K),(X.cs,ad (Ld (.ref e))),(ew e [r p,r q] j g t),(X.cx,ad (Ld (.ref A.l)))] (aU A G C E D n' []) [(A.pb,aa [] I)] (304,lr x) lows)))
theorem I7(N:Nat)(A:LexA)(I:LexX)(z H B:ab)(n':Int)(C:Nat)(D:LV)(f:Nat)(outW:LLN)(hL:LW D ((((r p,r q)::bz r sts').map fun x=>[x.1,x.2])++([r .z0]::[r .z1]::[[r .z2],[r .z3]])) 1 n')(hf:fJ ((r p,r q)::bz r sts') (f + 1) [r .z0] [] ([r .z1]::[[r .z2],[r .z3]]) []=Ld outW)(hz:g.length < 100)(O:Lc)(J:ab)(lows:Mem)(v:List L4)(y:∀(E K G M:Nat)(c n:LV)(J z B:ab)(C:Nat)(lows:Mem),af (((r p,r q)::bz r sts').map fun x=>[x.1,x.2]) n->af outW c->iS as w a b X v (([(mU X.F O d N G J),(X.cs,ad (Ld (.ref e))),(X.cc,ad (Ld (.ref E))),(G,aa n M),(E,aa c K)]++((aU A I z H B n' [])++(uy A.pb C e [r p,r q] j g t X.cx A.l X.cn h n0 m o s X.cr i r k X.cy)))++lows)) :
  iS as w a b X ((mL cY 5 6)++v) (([(ay X.F [(dq,O),(e5,sv d N)] J),(X.cs,ad (Ld (.ref e))),(X.cc,ad Lk)]++((aU A I z H B 1 D)++(uy A.pb C e [r p,r q] j g t X.cx A.l X.cn h n0 m o s X.cr i r k X.cy)))++lows):=by
 have S:=GM w a b [] X e t C (sv [r p,r q] j::g) A I H (r p) (r q) (bz r sts') (u.strc j) (by rw [Ls];kd_p) (r .z0) [r .z1] [[r .z2],[r .z3]] hL f outW hf O (sv d N) J z B ([(X.cn,ad (Ld (.ref h))),(eR h n0 m o s),(X.cr,ad (Ld (.ref i))),(i,bq r k),(X.cy,ad Lk),(184,au),(304,au)]++lows)
 refine bt.pk (bt.stage S (by decide) ?_) (Pk.perm (.of_eq (by simp only [Lr,MI,Oc])))
 intro W U R;refine qS (fun G M E K n c J z B C L=>?_) R;apply gu L;intro L;obtain ⟨P,Q⟩:=L
 refine ⟨rfl, ?_⟩
 exact bt.pk (y E K G M c n J z B C lows P Q) (Pk.perm (.of_eq (by simp only [Lr,MI,Oc])))
abbrev G6 (x0 x1 x2 x3 x4 x5 x6 x7 x8 x9 x10 x11 x12 x13 x14 x15 x16 x17 x18 x19 x20 x21 x22 x23):=([(x0,aJ [(dq,x1)] x2),(x3,ad (Ld (.ref x4))),(eR x4 x5 x6 x7 x8),(x9,ad (Ld (.ref x10))),(x10,aa ((sv x11 x12::x13)++bQ x14 x15) 0),(x16,ad Lk),(240,au),(x17,ad (Ld (.ref x18))),(x19,ad (Ld (.ref x20))),(x18,bq x14 x15),(ew x20 x11 x12 x13 x21),(x22,ad Lk),(x23,ad Lk),(184,au),(304,au)] : Mem)
theorem I8(ns:List Int)(hns:bF (n0::ns) (.int n0 m::o))(M:(n0::ns).length < 900)(n:List (List Sg))(R:∀g j,bC (bz r sts') g->af (n.map fun w=>w.map pc) ((sv [r p,r q] j::g)++bQ r k))(L:∀w∈n,pP w)(N:n≠[])(O:n.length < 900)(K:(n.mapIdx (yZ (n0::ns))).flatten=d)(hrz:d.length < 60000)(v:Nat)(I:Lc)(J:ab)(lows:Mem)(y:List L4)(z:∀(H:Nat)(J:ab)(A:LexA)(E:LexX)(B D C:ab)(f:LV)(G:Nat)(lows:Mem),af (d.map fun c=>[c]) f->iS as w a b X y (([(ay X.F [(dq,I),(e5,sv d H)] J),(X.cs,ad (Ld (.ref e))),(X.cc,ad Lk)]++((aU A E B D C 1 f)++(uy A.pb G e [r p,r q] j g t X.cx A.l X.cn h n0 m o s X.cr i r k X.cy)))++lows)) :
  iS (240::as) w a b X ((mL cY 3 4)++y) ((G6 X.F I J X.cn h n0 m o s X.cw v [r p,r q] j g r k X.cx X.cr i X.cs e t X.cc X.cy)++lows):=by
 have S:=G4 w a b [] X h s v 0 (.int n0 m::o) ((sv [r p,r q] j::g)++bQ r k) (n0::ns) hns (by rw [Ls];kd_p) M n (R g j u) L N O d K hrz I J ([(X.cr,ad (Ld (.ref i))),(X.cs,ad (Ld (.ref e))),(i,bq r k),(ew e [r p,r q] j g t),(X.cc,ad Lk),(X.cy,ad Lk),(184,au),(304,au)]++lows)
 refine bt.stage S (by decide) ?_
 intro Y W U;refine qS (fun H J A E B D C f G x P=>?_) U;apply gu P;intro Q
 refine ⟨rfl, ?_⟩
 refine bt.pk (iS.table 240 #[.int 275 0,.int 18 0,.ref x] (z H J A E B D C f G ((X.cw,ad (Ld (.ref v)))::(v,aa ((sv [r p,r q] j::g)++bQ r k) 0)::lows) Q)) (Pk.perm (((cb 24 ([(ay X.F [(dq,I),(e5,sv d H)] J),(X.cn,ad (Ld (.ref h))),(eR h n0 m o s),(X.cw,ad (Ld (.ref v))),(v,aa ((sv [r p,r q] j::g)++bQ r k) 0),(X.cx,ad (Ld (.ref A.l)))]++((aU A E B D C 1 f)++[(A.pb,aa [] G),(240,sX x),(X.cr,ad (Ld (.ref i))),(X.cs,ad (Ld (.ref e))),(i,bq r k),(ew e [r p,r q] j g t),(X.cc,ad Lk),(X.cy,ad Lk),(184,au),(304,au)])) ([(ay X.F [(dq,I),(e5,sv d H)] J),(X.cs,ad (Ld (.ref e))),(X.cc,ad Lk)]++((aU A E B D C 1 f)++[(A.pb,aa [] G),(ew e [r p,r q] j g t),(X.cx,ad (Ld (.ref A.l))),(X.cn,ad (Ld (.ref h))),(eR h n0 m o s),(X.cr,ad (Ld (.ref i))),(i,bq r k),(X.cy,ad Lk),(184,au),(304,au),(X.cw,ad (Ld (.ref v))),(v,aa ((sv [r p,r q] j::g)++bQ r k) 0),(240,sX x)])) [0,17,20,6,7,8,9,10,11,12,13,14,19,5,1,2,16,18,21,22,23,3,4,15] (by kernel_rfl) (by decide) (by kernel_rfl)).append_right lows).trans (ux [(ay X.F [(dq,I),(e5,sv d H)] J),(X.cs,ad (Ld (.ref e))),(X.cc,ad Lk)] (aU A E B D C 1 f) [(A.pb,aa [] G),(ew e [r p,r q] j g t),(X.cx,ad (Ld (.ref A.l))),(X.cn,ad (Ld (.ref h))),(eR h n0 m o s),(X.cr,ad (Ld (.ref i))),(i,bq r k),(X.cy,ad Lk),(184,au),(304,au),(X.cw,ad (Ld (.ref v))),(v,aa ((sv [r p,r q] j::g)++bQ r k) 0)] (240,sX x) lows)))
end
noncomputable def ij(e:E4)(a:List (E4 × E4)):List (List Sg):=a.map (fun x=>[cD e x.1,cD e x.2])++[[cD e .z0],[cD e .z1],[cD e .z2],[cD e .z3]]
def lX(e:E4)(a:List (E4 × E4))(ns:List Int):LN:=((ij e a).mapIdx (yZ ns)).flatten
noncomputable def bJ(e:E4)(z:E4):Nat:=pc (cD e z)
set_option genInjectivity false in
set_option genSizeOf false in
structure PL(n0:Int)(ns:List Int) where
 e:E4
 p:E4
 q:E4
 sts':List (E4 × E4)
 W:E4->LLN
 outW:LLN
 n:Nat
 f:Nat
 nf:Nat
 m:Nat
 cy:Bool
 l:List (List E4)
 mx:Nat->E4
 hz:ns.length < 50
 he:e4 e=(n0.fdiv 7).fmod 4
 hd:d4 (eO e) (n0::ns) 0 []=((bJ e p,bJ e q)::bz (bJ e) sts').map fun x=>[x.1,x.2]
 hs:sts'.length < 50
 hrz:(lX e ((p,q)::sts') (n0::ns)).length < 50000
 hL:∀chs,af ((lX e ((p,q)::sts') (n0::ns)).map fun c=>[c]) chs->LW chs ((((bJ e p,bJ e q)::bz (bJ e) sts').map fun x=>[x.1,x.2])++([bJ e .z0]::[bJ e .z1]::[[bJ e .z2],[bJ e .z3]])) 1 (1 + Ll ((lX e ((p,q)::sts') (n0::ns)).count 10))
 hnL:2 * n + 6<=18
 hW:∀z,bU ((bJ e p,bJ e q)::bz (bJ e) sts') n [bJ e z]=Ld (W z)
 hZ:∀z,uQ (W z)
 hf:fJ ((bJ e p,bJ e q)::bz (bJ e) sts') (f + 1) [bJ e .z0] [] ([bJ e .z1]::[[bJ e .z2],[bJ e .z3]]) []=Ld outW
 hout:outW=(aT (W .z0)++aT (W .z1)++aT (W .z2)++aT (W .z3))
 hne:∀s∈outW,s≠[]
 hsz:∀s∈outW,s.length < 60000
 hns:∀x∈(p,q)::sts',x.2≠x.1
 hfc:dK (aA ((p,q)::sts') (fun V=>0) fun V=>[]).2 nf aV []=Ld cy
 hm:m < 800
 hrl:cC (aA ((p,q)::sts') (fun V=>0) fun V=>[]).2 m (gq (-1) (cJ (aA ((p,q)::sts') (fun V=>0) fun V=>[]).1) (ar (aA ((p,q)::sts') (fun V=>0) fun V=>[]).1 aV)) (ar (aA ((p,q)::sts') (fun V=>0) fun V=>[]).1 aV)=Ld l
 h4:(ar (aA ((p,q)::sts') (fun V=>0) fun V=>[]).1 aV).length<=4
 hsl:∀x,((aA ((p,q)::sts') (fun V=>0) fun V=>[]).2 x).length < 50
 hcy:cy = !decide (outW.flatMap cN=[])
 hmx:∀x∈[bJ e .z0,bJ e .z1,bJ e .z2,bJ e .z3],(outW.flatMap (c3 ((outW.flatMap cN).flatMap bf))).contains [x]=Li->en (mx x)∈outW.flatMap (bZ x)/\∀n∈outW.flatMap (bZ x),n<=en (mx x)
 htot:l.map (f3 (bJ e))=fp (outW.flatMap (c3 ((outW.flatMap cN).flatMap bf))) mx [bJ e .z0,bJ e .z1,bJ e .z2,bJ e .z3]
noncomputable def Kp:E4->E4->E4
 | .z0,.z0=>.z0
 | .z0,.z1=>.z1
 | .z0,.z2=>.z2
 | .z0,.z3=>.z3
 | .z1,.z0=>.z1
 | .z1,.z1=>.z2
 | .z1,.z2=>.z3
 | .z1,.z3=>.z0
 | .z2,.z0=>.z2
 | .z2,.z1=>.z3
 | .z2,.z2=>.z0
 | .z2,.z3=>.z1
 | .z3,.z0=>.z3
 | .z3,.z1=>.z0
 | .z3,.z2=>.z1
 | .z3,.z3=>.z2
theorem BK(e z:E4):bJ e z=je (Kp e z):=by cases e<;>cases z<;>rfl
def Kq(e:E4)(n:Nat):E4:=
 match QS n (bJ e .z0),QS n (bJ e .z1),QS n (bJ e .z2) with
 | true,_,_=>.z0
 | _,Lh,_=>.z1
 | _,_,Lh=>.z2
 | _,_,_=>.z3
theorem ik(e:E4):∀i j,bJ e i=bJ e j->i=j:=by
 have h:∀i,Kq e (bJ e i)=i:=fun i=>by cases e<;>cases i<;>rfl
 exact fun i j q=>(h i).symm.trans ((congrArg (Kq e) q).trans (h j))
theorem pV(e:E4)(a:List (E4 × E4)):∀w∈ij e a,pP w:=by
 intro w hw
 rcases MA.mp hw with hw|hw
 .obtain ⟨x,_,rfl⟩:=LE.mp hw
  exact .inr ⟨_,_,rfl⟩
 .simp only [LD,MB,or_false] at hw
  rcases hw with rfl|rfl|rfl|rfl<;>exact .inl ⟨_,rfl⟩
theorem lY(e:E4)(a:List (E4 × E4)):(ij e a).map (fun w=>w.map pc)=(bz (bJ e) a).map (fun x=>[x.1,x.2])++[[bJ e .z0],[bJ e .z1],[bJ e .z2],[bJ e .z3]]:=by
 unfold ij bz
 rw [LC,Mu,Mu]
 rfl
abbrev I9 (x0 x1 x2 x3 x4 x5 x6 x7 x8 x9):=[ax (ai cY) x0,ax (ai cY) x1]++(x2++(x3++([ax (ai cY) x4]++([ax (ai cY) x5]++([ax (ai cY) x6]++([ax (ai cY) x7]++([ax (ai cY) x8]++x9)))))))
abbrev G7:=(mL cY 1 2)++((mL cY 3 4)++(I9 5 6 [ax (ai cY) 7] [ax (ai cY) 8] 9 10 11 12 13 [ax (ai cY) 14]))
theorem Kr(w:Lj)(y a b:Bool)(X:eZ)(i o:Nat)(k:Int)(v:Nat)(ns:List Int)(C:LV)(hns:bF ns C)(K:PL k ns)(r:Lc)(J:ab)(lows:Mem) :
  iS [240,304,184] (wT w y) a b X G7 ([(X.F,aJ [(dq,r)] J),(X.cn,ad (Ld (.ref i))),(eR i k v C o),(X.cr,ad Lk),(X.cs,ad Lk),(X.cw,ad Lk),(X.cx,ad Lk),(X.cc,ad Lk),(X.cy,ad Lk),(184,au),(240,au),(304,au)]++lows):=by
 have B:(bz (bJ K.e) K.sts').length=K.sts'.length:=by unfold bz;rw [Ln]
 have S:=GG (wT w y) a b [] X i o k v ns C hns (by have:=K.hz;kd_p) K.e K.he (bJ K.e) (fun V=>rfl) (bJ K.e K.p) (bJ K.e K.q) (bz (bJ K.e) K.sts') (B ▸ oA K.hs rfl) K.hd r J ([(X.cx,ad Lk),(X.cc,ad Lk),(X.cy,ad Lk),(184,au),(240,au),(304,au)]++lows)
 refine bt.stage S (by decide) ?_
 intro rr F' q0;refine oO (fun t E H Z x s J D h0=>?_) q0;apply gu h0;intro j
 refine ⟨rfl, ?_⟩
 have N:=j.length
 have hsr:D.length < 100:=N ▸ B ▸ oA K.hs rfl
 refine bt.pk (I8 (wT w y) a b X t i o E H k v x C D (bJ K.e) s K.p K.q K.sts' j (lX K.e ((K.p,K.q)::K.sts') (k::ns)) ns (.cons k v hns) (by have:=K.hz;rw [Ls];kd_p) (ij K.e ((K.p,K.q)::K.sts')) (fun D x h=>?_) (pV _ _) (by simp [ij]) (by unfold ij;rw [Lq,Ln];exact oJ K.hs rfl) rfl (by have:=K.hrz;kd_p) Z r J lows _ fun tr J A X' U Js Y I pe lows hch=>?_) (Pk.perm ((cb 15 [(X.F,aJ [(dq,r)] J),(X.cn,ad (Ld (.ref i))),(eR i k v C o),(X.cr,ad (Ld (.ref t))),(X.cs,ad (Ld (.ref E))),(X.cw,ad (Ld (.ref Z))),(t,bq (bJ K.e) s),(ew E [bJ K.e K.p,bJ K.e K.q] x D H),(Z,aa ((sv [bJ K.e K.p,bJ K.e K.q] x::D)++bQ (bJ K.e) s) 0),(X.cx,ad Lk),(X.cc,ad Lk),(X.cy,ad Lk),(184,au),(240,au),(304,au)] (G6 X.F r J X.cn i k v C o X.cw Z [bJ K.e K.p,bJ K.e K.q] x D (bJ K.e) s X.cx X.cr t X.cs E H X.cc X.cy) [0,1,2,5,8,9,13,3,4,6,7,10,11,12,14] (by kernel_rfl) (by decide) (by kernel_rfl)).append_right lows))
 .rw [lY]
  exact (h.strc x).append (Bi _ _)
 refine I7 (wT w y) a b X t i o E H k v x C D (bJ K.e) s K.p K.q K.sts' j _ tr A X' U Js Y _ pe I K.f K.outW (K.hL I hch) K.hf hsr r J lows _ fun R ce Rd re d G J U Y pe lows M u=>?_
 refine K5 (wT w y) a b X t i o E H k v x C D (bJ K.e) s K.p K.q K.sts' j _ tr K.n K.hnL K.W K.hW K.hZ R ce Rd re d G A X' U Js Y _ pe r J lows _ fun Wy we Q J lows g=>?_
 rw [<- K.hout] at g
 have c:∀z,(K.W z).length < 64:=fun z=>(K.hZ z).n64
 have hol:K.outW.length < 400:=by
  rw [K.hout]
  simp only [Lq,c4]
  exact MC (Qr (Qr (Qr (c .z0) (c .z1)) (c .z2)) (c .z3)) (by decide)
 have L:K.outW≠[]:=by
  rw [K.hout]
  intro h
  have h1:=congrArg Og h
  simp only [Lq,c4,LQ] at h1
  exact (K.hZ .z0).pos (Mw.mp (Tw.mp (h1 ▸ LL (Mj _ _) (LL (Mj _ _) (Mj _ _)))))
 have hcz:d.length < 900:=by rw [u.length];kd_p
 have P:Q.length < 900:=by rw [g.length];kd_p
 have hc0:d≠[]:=fun h=>L (Mw.mp (by rw [<- u.length,h];rfl))
 have O:Q≠[]:=fun h=>L (Mw.mp (by rw [<- g.length,h];rfl))
 refine K4 (wT w y) a b X t i o R ce Wy we Rd re E H _ d Q G _ (bJ K.e) s A X' U Js Y _ _ M (j.strc x) K.outW u g _ tr rfl r J lows _ ?_
 refine K3 (wT w y) a b X t i o R ce Wy we Rd re _ d Q G (bJ K.e) s K.outW g O P K.hne K.hsz (ik K.e) K.p K.q K.sts' ((K.p,K.q)::K.sts') rfl (af.stp M) K.hns (by have:=K.hs;rw [Ls];kd_p) K.nf K.cy K.hfc K.m K.hm K.l K.hrl K.h4 K.hsl K.hcy K.mx K.hmx K.htot r _ J _ _ fun v2 Cl Rn J sl lows=>?_
 exact I1 w y a b X t i o R ce Wy we _ d Q (bJ K.e) s (ik K.e) (Kp K.e) (BK K.e) K.outW u g hc0 O hcz P K.hne k v rfl r _ v2 _ _ _ J sl lows
noncomputable def cE:E4->Nat
 | .z0=>0 | .z1=>1 | .z2=>2 | .z3=>3
def qJ(o:LLN)(x:Nat):E4:=match (o.flatMap (bZ x)).foldl max 0 with
 | 0=>.z0 | 1=>.z0 | 2=>.z1 | 3=>.z2 | _=>.z3
noncomputable def rL(out:LLN):Bool:=decide out.Nodup && decide (out.length < 64) && (match out with | []=>Li|a::l=>l.all fun s=>decide (a.length < s.length)) && out.all fun s=>decide (s.length < 60000)
def iT(a:LLN)(mx:Nat->E4)(xs:LN)(e:E4):LLN:=match dl a mx e xs with
 | []=>[]
 | gs=>[gs]
noncomputable def qK:LLN->LLN->Bool
 | [],[]=>Lh
 | a::l,b::m=>a.isPerm b && qK l m
 | _,_=>Li
def G8(a:List (E4 × E4))(o:LLN):Bool:=
 match dK (aA a (fun V=>0) fun V=>[]).2 100 aV [] with
 | some cy=>(cy == !decide (o.flatMap cN=[])) &&
  (match cC (aA a (fun V=>0) fun V=>[]).2 20 (gq (-1) (cJ (aA a (fun V=>0) fun V=>[]).1) (ar (aA a (fun V=>0) fun V=>[]).1 aV)) (ar (aA a (fun V=>0) fun V=>[]).1 aV) with
  | some l=>qK (l.map (·.map cE)) (iT (o.flatMap (c3 ((o.flatMap cN).flatMap bf))) (qJ o) [cE .z0,cE .z1,cE .z2,cE .z3] .z0++iT (o.flatMap (c3 ((o.flatMap cN).flatMap bf))) (qJ o) [cE .z0,cE .z1,cE .z2,cE .z3] .z1++iT (o.flatMap (c3 ((o.flatMap cN).flatMap bf))) (qJ o) [cE .z0,cE .z1,cE .z2,cE .z3] .z2++iT (o.flatMap (c3 ((o.flatMap cN).flatMap bf))) (qJ o) [cE .z0,cE .z1,cE .z2,cE .z3] .z3)
  | none=>Li) &&
  decide ((ar (aA a (fun V=>0) fun V=>[]).1 aV).length<=4) &&
  aV.all (fun x=>decide (((aA a (fun V=>0) fun V=>[]).2 x).length < 50)) &&
  [cE .z0,cE .z1,cE .z2,cE .z3].all (fun x=>(o.flatMap (c3 ((o.flatMap cN).flatMap bf))).contains [x] || ((o.flatMap (bZ x)).contains (en (qJ o x)) && (o.flatMap (bZ x)).all fun n=>decide (n<=en (qJ o x))))
 | none=>Li
def bn(a:List (E4 × E4)):Bool:=
 match bU (bz cE a) 6 [cE .z0],bU (bz cE a) 6 [cE .z1],bU (bz cE a) 6 [cE .z2],bU (bz cE a) 6 [cE .z3],fJ (bz cE a) 101 [cE .z0] [] [[cE .z1],[cE .z2],[cE .z3]] [] with
 | some b,Ld c,Ld d,Ld e,Ld o=>
  rL b && rL c && rL d && rL e && decide (o=aT b++aT c++aT d++aT e) &&
  o.all (fun s=>decide (s≠[]) && decide (s.length < 60000)) && a.all (fun x=>decide (cE x.2≠cE x.1)) && G8 a o
 | _,_,_,_,_=>Li
noncomputable def gU:E7->E4 × E4
 | .z0=>(.z0,.z1) | .z1=>(.z0,.z2) | .z2=>(.z0,.z3) | .z3=>(.z1,.z2) | .z4=>(.z1,.z3) | .z5=>(.z2,.z3) | .z6=>(.z3,.z0)
noncomputable def xT(a b c d:List E4):List (E4 × E4):=a.map (fun q=>(.z0,q))++b.map (fun q=>(.z1,q))++c.map (fun q=>(.z2,q))++d.map (fun q=>(.z3,q))
noncomputable def aL:Nat->List (List E4)
 | 0=>[[]]
 | n + 1=>[]::aV.flatMap fun x=>(aL n).map (x :: ·)
theorem uz:∀(s:List E4)(n:Nat),s.length<=n->s∈aL n
 | [],0,_=>.head _
 | [],_ + 1,_=>.head _
 | x::s,n + 1,h=>.tail _ (RH.mpr ⟨x,di.mp (by cases x<;>rfl),LE.mpr ⟨s,uz s n (Oo h),rfl⟩⟩)
def G9:List E4->Bool
 | []=>Lh
 | x::l=>match dI x l with
  | true=>Li
  | false=>G9 l
theorem pW:∀{s:List E4},s.Nodup->G9 s=Lh
 | [],_=>rfl
 | x::l,h=>by
  dsimp only [G9]
  cases e:dI x l with
  | true=>exact absurd (di.mp e) (Mb.mp h).1
  | false=>exact pW (Mb.mp h).2
def Je:List (List E4):=(aL 4).filter fun s=>G9 s && !dI .z0 s
def l5:List (List E4):=(aL 4).filter fun s=>G9 s && !dI .z0 s && !dI .z1 s
theorem BL{x:E4}{s:List E4}(h:∀q∈s,q≠x):(!dI x s)=Lh:=by
 cases e:dI x s with
 | true=>exact absurd rfl (h x (di.mp e))
 | false=>rfl
theorem Jg(s:List E4)(n:s.Nodup)(h:∀q∈s,q≠.z0):s∈Je:=
 P5.mpr ⟨uz s 4 (dJ n),by rw [pW n,BL h];rfl⟩
theorem K6(s:List E4)(n:s.Nodup)(h:∀q∈s,q=.z2∨q=.z3):s∈l5:=
 P5.mpr ⟨uz s 4 (dJ n),by
  have b:∀q∈s,q≠.z0:=fun q a e=>by
   rcases h q a with h1|h1<;>rw [h1] at e<;>cases e
  have c:∀q∈s,q≠.z1:=fun q a e=>by
   rcases h q a with h1|h1<;>rw [h1] at e<;>cases e
  rw [pW n,BL b,BL c];rfl⟩
noncomputable def l2:List (List E4):=[[],[.z3]]
noncomputable def Jh:List (List E4):=[[],[.z0]]
def Jj(a:List E4)(b:List E4):Bool:=l2.all fun c=>Jh.all fun d=>bn (xT a b c d)
noncomputable def sc(l:Nat):List (Nat × Nat)->LN
 | []=>[]
 | (p,q)::r=>if p=l then q::sc l r else sc l r
noncomputable def gy(g:LN->Option LLN)(b:LN):LN->LLN->Option LLN
 | [],a=>Ld a
 | q::r,a=>match g (b++[q]) with
  | some c=>if 1000 < a.length + c.length then Lk else gy g b r (a++c)
  | none=>Lk
theorem gm(g:LN->Option LLN)(l:Nat)(b:LN):∀(c:List (Nat × Nat))(a:LLN),d5 g l b c a=gy g b (sc l c) a
 | [],a=>rfl
 | (p,q)::r,a=>by
  dsimp only [d5,sc]
  by_cases h:p=l
  .rw [if_pos h,if_pos h]
   dsimp only [gy]
   cases g (b++[q]) with
   | none=>rfl
   | some d=>
    show (if 1000 < a.length + d.length then Lk else d5 g l b r (a++d))=(if 1000 < a.length + d.length then Lk else gy g b (sc l r) (a++d))
    rw [gm g l b r (a++d)]
  .rw [if_neg h,if_neg h]
   exact gm g l b r a
theorem il(l:Nat)(b:LN):∀(c:List (Nat × Nat))(a:LLN),fH l b c a=a++(sc l c).map (fun q=>b++[q])
 | [],a=>(Mp _).symm
 | (p,q)::r,a=>by
  unfold fH sc
  by_cases h:p=l
  .subst h
   rw [if_pos (by simp),if_pos rfl,il p b r,Lr]
   rfl
  .rw [if_neg (by simpa using h),if_neg h,il l b r]
theorem od{b sts':List (Nat × Nat)}(h:∀l,sc l b=sc l sts'):∀(n:Nat)(a:LN),bU b n a=bU sts' n a
 | 0,_=>rfl
 | n + 1,a=>by
  have c:bU b n=bU sts' n:=funext (od h n)
  unfold bU
  rw [c]
  cases a.getLast? with
  | none=>rfl
  | some l=>
   simp only
   rw [gm,gm,h l]
theorem qL{d sts':List (Nat × Nat)}(h:∀l,sc l d=sc l sts')(g:d.length=sts'.length):∀(f:Nat)(b:LN)(c e a:LLN),fJ d f b c e a=fJ sts' f b c e a
 | 0,_,_,_,_=>rfl
 | f + 1,b,c,e,a=>by
  unfold fJ
  rw [g]
  cases b.getLast? with
  | none=>rfl
  | some l=>
   simp only [gI,il,h l,qL h g f]
section
variable{ρ:Nat->Nat}(c:∀i j,ρ i=ρ j->i=j)
noncomputable abbrev mm(ρ:Nat->Nat):LN->LN:=NK ρ
noncomputable abbrev mp(ρ:Nat->Nat)(a:List (Nat × Nat)):List (Nat × Nat):=a.map fun x=>(ρ x.1,ρ x.2)
include c
theorem pX:∀a b:LN,mm ρ a=mm ρ b->a=b
 | [],[],_=>rfl
 | [],_::_,h=>by cases h
 | _::_,[],h=>by cases h
 | x::a,y::b,h=>by
  have d:ρ x=ρ y/\mm ρ a=mm ρ b:=by simpa [mm] using h
  rw [c _ _ d.1,pX a b d.2]
theorem mV(x:Nat)(l:LN):(l.map ρ).contains (ρ x)=l.contains x:=by
 rw [P6,MW,MW]
 constructor
 .intro h
  obtain ⟨y,a,e⟩:=LE.mp h
  rw [<- c _ _ e];exact a
 .exact Md
theorem pY(x:LN)(l:LLN):(l.map (mm ρ)).contains (mm ρ x)=l.contains x:=by
 rw [P6,MW,MW]
 constructor
 .intro h
  obtain ⟨y,a,e⟩:=LE.mp h
  rw [<- pX c _ _ e];exact a
 .exact Md
theorem pZ(l:Nat):∀a:List (Nat × Nat),sc (ρ l) (mp ρ a)=(sc l a).map ρ
 | []=>rfl
 | (p,q)::r=>by
  have b:=pZ l r
  show (if ρ p=ρ l then ρ q::sc (ρ l) (mp ρ r) else sc (ρ l) (mp ρ r))=((if p=l then q::sc l r else sc l r).map ρ)
  by_cases h:p=l
  .rw [if_pos h,if_pos (by rw [h]),b];rfl
  .rw [if_neg h,if_neg (fun q=>h (c _ _ q)),b]
omit c in
theorem lZ{g f:LN->Option LLN}(h:∀a,f (mm ρ a)=(g a).map (NK (mm ρ)))(a:LN):∀(i:LN)(b:LLN),gy f (mm ρ a) (i.map ρ) (b.map (mm ρ))=(gy g a i b).map (NK (mm ρ))
 | [],b=>rfl
 | q::r,b=>by
  show (match f (mm ρ a++[ρ q]) with
   | some d=>if 1000 < (b.map (mm ρ)).length + d.length then Lk else gy f (mm ρ a) (r.map ρ) (b.map (mm ρ)++d)
   | none=>Lk)=(match g (a++[q]) with
   | some d=>if 1000 < b.length + d.length then Lk else gy g a r (b++d)
   | none=>Lk).map (NK (mm ρ))
  have e:mm ρ a++[ρ q]=mm ρ (a++[q]):=by simp [mm]
  rw [e,h]
  cases g (a++[q]) with
  | none=>rfl
  | some d=>
   show (if 1000 < (b.map (mm ρ)).length + (d.map (mm ρ)).length then Lk else gy f (mm ρ a) (r.map ρ) (b.map (mm ρ)++d.map (mm ρ)))=(if 1000 < b.length + d.length then Lk else gy g a r (b++d)).map (NK (mm ρ))
   rw [Ln,Ln,<- LC]
   split
   .rfl
   .exact lZ h a r (b++d)
theorem l6(b:List (Nat × Nat)):∀(n:Nat)(a:LN),bU (mp ρ b) n (mm ρ a)=(bU b n a).map (NK (mm ρ))
 | 0,_=>rfl
 | n + 1,a=>by
  unfold bU
  rw [show (mm ρ a).getLast? = a.getLast?.map ρ from On ..]
  cases a.getLast? with
  | none=>rfl
  | some l=>
   show (if 100 < (mm ρ a).length then Lk else if (mm ρ a).dropLast.contains (ρ l) then Ld [mm ρ a] else d5 (bU (mp ρ b) n) (ρ l) (mm ρ a) (mp ρ b) [mm ρ a])=(if 100 < a.length then Lk else if a.dropLast.contains l then Ld [a] else d5 (bU b n) l a b [a]).map (NK (mm ρ))
   rw [show (mm ρ a).length=a.length from Ln ..,show (mm ρ a).dropLast=a.dropLast.map ρ from (PI ..).symm,mV c]
   split
   .rfl
   .split
    .rfl
    .rw [gm,gm,pZ c]
     exact lZ (l6 b n) a _ [a]
theorem uB(b:List (Nat × Nat))(d:LN)(l:Nat)(a:LLN):gI (mp ρ b) (mm ρ d) (ρ l) (a.map (mm ρ))=(gI b d l a).map (mm ρ):=by
 unfold gI
 rw [<- PI,mV c]
 split
 .rfl
 .rw [il,il,pZ c,LC,Mu,Mu]
  congr 1
  apply Ns
  intro q V
  simp [mm]
theorem oe(g:List (Nat × Nat)):∀(f:Nat)(a:LN)(d h b:LLN),fJ (mp ρ g) f (mm ρ a) (d.map (mm ρ)) (h.map (mm ρ)) (b.map (mm ρ))=(fJ g f a d h b).map (NK (mm ρ))
 | 0,_,_,_,_=>rfl
 | f + 1,a,d,h,b=>by
  dsimp only [fJ]
  rw [Ln,Ln,Ln,Ln,On]
  split
  .rfl
  .cases a.getLast? with
   | none=>
    simp only [Option.map_none,List.isEmpty_map]
    split<;>rfl
   | some l=>
    have e:b.map (mm ρ)++[mm ρ a]=(b++[a]).map (mm ρ):=by rw [LC];rfl
    simp only [Ru]
    rw [uB c,e,show nx ((gI g a l d).map (mm ρ)) (h.map (mm ρ))=(mm ρ (nx (gI g a l d) h).1,(nx (gI g a l d) h).2.1.map (mm ρ),(nx (gI g a l d) h).2.2.map (mm ρ)) by cases gI g a l d<;>cases h<;>rfl]
    exact oe g f _ _ _ _
omit c in
theorem oh(x:LN):∀l:LLN,f9 (mm ρ x) (l.map (mm ρ))=(f9 x l).map (mm ρ)
 | []=>rfl
 | y::r=>by
  show (if (mm ρ x).length < (mm ρ y).length then mm ρ x::mm ρ y::r.map (mm ρ) else mm ρ y::f9 (mm ρ x) (r.map (mm ρ)))=((if x.length < y.length then x::y::r else y::f9 x r).map (mm ρ))
  rw [show (mm ρ x).length=x.length from Ln ..,show (mm ρ y).length=y.length from Ln ..,oh x r]
  split<;>rfl
omit c in
theorem gn(ss:LLN):aT (ss.map (mm ρ))=(aT ss).map (mm ρ):=by
 unfold aT
 have b:∀(ss a:LLN),(ss.map (mm ρ)).foldl (fun a x=>f9 x a) (a.map (mm ρ))=(ss.foldl (fun a x=>f9 x a) a).map (mm ρ):=by
  intro ss
  induction ss with
  | nil=>intro a;rfl
  | cons s ss d=>
   intro a
   rw [Lz,Oz,Oz,oh,d]
 exact b ss []
theorem oj(s:LN):cN (mm ρ s)=(cN s).map (mm ρ):=by
 unfold cN
 rw [show (mm ρ s).getLast? = s.getLast?.map ρ from On ..]
 cases s.getLast? with
 | none=>rfl
 | some l=>
  show (if (mm ρ s).dropLast.contains (ρ l)=Lh then [mm ρ s] else [])=(if s.dropLast.contains l=Lh then [s] else []).map (mm ρ)
  rw [show (mm ρ s).dropLast=s.dropLast.map ρ from (PI ..).symm,mV c]
  split<;>rfl
omit c in
theorem l7(s:LN):bf (mm ρ s)=(bf s).map (mm ρ):=by
 unfold bf
 rw [show (mm ρ s).getLast? = s.getLast?.map ρ from On ..]
 cases s.getLast?<;>rfl
theorem uC(a:LLN)(s:LN):c3 (a.map (mm ρ)) (mm ρ s)=(c3 a s).map (mm ρ):=by
 unfold c3
 rw [show (mm ρ s).head? = s.head?.map ρ from List.head?_map ..]
 cases s.head? with
 | none=>rfl
 | some f=>
  show (if (a.map (mm ρ)).contains (mm ρ [f])=Lh then bf (mm ρ s) else [])=(if a.contains [f]=Lh then bf s else []).map (mm ρ)
  rw [pY c,l7]
  split<;>rfl
theorem ol(x:Nat)(s:LN):bZ (ρ x) (mm ρ s)=bZ x s:=by
 unfold bZ
 rw [show (mm ρ s).getLast? = s.getLast?.map ρ from On ..]
 cases s.getLast? with
 | none=>rfl
 | some l=>
  show (if ρ l=ρ x then [(mm ρ s).length] else [])=(if l=x then [s.length] else [])
  rw [show (mm ρ s).length=s.length from Ln ..]
  by_cases h:l=x
  .rw [if_pos h,if_pos (by rw [h])]
  .rw [if_neg h,if_neg fun q=>h (c _ _ q)]
omit c in
theorem im{f a:LN->LLN}(h:∀s,a (mm ρ s)=(f s).map (mm ρ)):∀o:LLN,(o.map (mm ρ)).flatMap a=(o.flatMap f).map (mm ρ)
 | []=>rfl
 | s::o=>by rw [Lz,Me,Me,h,im h o,LC]
omit c in
theorem kG{f a:LN->LN}(h:∀s,a (mm ρ s)=f s):∀o:LLN,(o.map (mm ρ)).flatMap a=o.flatMap f
 | []=>rfl
 | s::o=>by rw [Lz,Me,Me,h,kG h o]
theorem qM(o:LLN)(x:Nat):qJ (o.map (mm ρ)) (ρ x)=qJ o x:=by
 unfold qJ
 rw [kG (ol c x)]
theorem BM(o:LLN):(o.map (mm ρ)).flatMap (c3 (((o.map (mm ρ)).flatMap cN).flatMap bf))=(o.flatMap (c3 ((o.flatMap cN).flatMap bf))).map (mm ρ):=by
 rw [im (oj c),im l7]
 exact im (uC c _) o
theorem om{b:LLN}{mx a:Nat->E4}(hm:∀x,a (ρ x)=mx x)(g:E4):∀xs:LN,dl (b.map (mm ρ)) a g (xs.map ρ)=(dl b mx g xs).map ρ
 | []=>rfl
 | x::xs=>by
  show (if (b.map (mm ρ)).contains (mm ρ [x])=Lh then dl (b.map (mm ρ)) a g (xs.map ρ) else if iF (a (ρ x)) g=Lh then ρ x::dl (b.map (mm ρ)) a g (xs.map ρ) else dl (b.map (mm ρ)) a g (xs.map ρ))=(if b.contains [x]=Lh then dl b mx g xs else if iF (mx x) g=Lh then x::dl b mx g xs else dl b mx g xs).map ρ
  rw [pY c,hm,om hm g xs]
  split
  .rfl
  .split<;>rfl
theorem uQ.map{out:LLN}(h:uQ out):uQ (out.map (mm ρ)) where
 nd:=Qj _ (fun a b n q=>n (pX c _ _ q)) h.nd
 n64:=by rw [Ln];exact h.n64
 pos:=fun q=>h.pos (Pw.mp q)
 min:=fun i e d=>by
  simp only [Nv,mm,Ln]
  exact h.min i (by simpa using e) d
 size:=fun s hs=>by
  refine bj (fun t d=>?_) (LE.mp hs);obtain ⟨f,rfl⟩:=d
  rw [show (mm ρ t).length=t.length from Ln ..]
  exact h.size t f
end
noncomputable def bN(x:E4):List (E4 × E4)->List E4
 | []=>[]
 | (p,q)::r=>match iF p x with
  | true=>q::bN x r
  | false=>bN x r
noncomputable def ly(x:E4):List E4->Nat
 | []=>0
 | q::r=>(match iF x q with
  | true=>1
  | false=>0) + ly x r
theorem kH:∀(c:List (E4 × E4))(b:E4->Nat)(a:E4->List E4)(x:E4),(aA c b a).2 x=a x++bN x c
 | [],b,a,x=>(Mp _).symm
 | (p,q)::r,b,a,x=>by
  show (aA r (bG b q (b q + 1)) (bG a p (a p++[q]))).2 x=_
  rw [kH r]
  cases p<;>cases x<;>simp [bG,bN,iF]
theorem kI:∀(b:List (E4 × E4))(a:E4->Nat)(c:E4->List E4)(x:E4),(aA b a c).1 x=a x + ly x (b.map (·.2))
 | [],a,c,x=>rfl
 | (p,q)::r,a,c,x=>by
  show (aA r (bG a q (a q + 1)) (bG c p (c p++[q]))).1 x=_
  rw [kI r]
  cases q<;>cases x<;>simp [bG,ly,iF]<;>kd_p
theorem kJ(x:E4):∀a:List (E4 × E4),ly x (a.map (·.2))=ly x (bN .z0 a) + ly x (bN .z1 a) + ly x (bN .z2 a) + ly x (bN .z3 a)
 | []=>rfl
 | (p,q)::r=>by
  have b:=kJ x r
  show (match iF x q with
   | true=>1
   | false=>0) + ly x (r.map (·.2))=_
  rw [b]
  cases p<;>simp [bN,iF,ly]<;>kd_p
theorem kK:∀a:List (E4 × E4),a.length=(bN .z0 a).length + (bN .z1 a).length + (bN .z2 a).length + (bN .z3 a).length
 | []=>rfl
 | (p,q)::r=>by
  have b:=kK r
  rw [Ls,b]
  clear b;cases p<;>simp [bN,iF]<;>kd_p
theorem jl(x:E4):∀a b:List (E4 × E4),bN x (a++b)=bN x a++bN x b
 | [],b=>rfl
 | (p,q)::a,b=>by
  show (match iF p x with
   | true=>q::bN x (a++b)
   | false=>bN x (a++b))=(match iF p x with
   | true=>q::bN x a
   | false=>bN x a)++bN x b
  rw [jl x a b]
  cases iF p x<;>rfl
theorem oo(x y:E4):∀s:List E4,bN x (s.map fun q=>(y,q))=if iF y x=Lh then s else []
 | []=>by split<;>rfl
 | q::s=>by
  show (match iF y x with
   | true=>q::bN x (s.map fun q=>(y,q))
   | false=>bN x (s.map fun q=>(y,q)))=_
  rw [oo x y s]
  cases iF y x<;>simp
def gR(a:List (E4 × E4)):List (E4 × E4):=xT (bN .z0 a) (bN .z1 a) (bN .z2 a) (bN .z3 a)
theorem fz(x:E4)(a:List (E4 × E4)):bN x (gR a)=bN x a:=by
 unfold gR xT
 simp only [jl,oo]
 cases x<;>simp [iF]
theorem rM(a:List (E4 × E4)):(gR a).length=a.length:=by
 rw [kK (gR a),kK a]
 simp only [fz]
theorem oq(a:List (E4 × E4)):aA a (fun V=>0) (fun V=>[])=aA (gR a) (fun V=>0) fun V=>[]:=by
 refine Prod.ext (funext fun x=>?_) (funext fun x=>?_)
 .rw [kI,kI,kJ,kJ]
  simp only [fz]
 .rw [kH,kH,fz]
theorem uD:∀(a:List (E4 × E4))(l:Nat),sc l (bz cE a)=(match l with
  | 0=>(bN .z0 a).map cE | 1=>(bN .z1 a).map cE | 2=>(bN .z2 a).map cE | 3=>(bN .z3 a).map cE | _=>[])
 | [],l=>by rcases l with _ | _ | _ | _|l<;>rfl
 | (p,q)::r,l=>by
  have b:=uD r l
  show (if cE p=l then cE q::sc l (bz cE r) else sc l (bz cE r))=_
  rw [b]
  rcases l with _ | _ | _ | _|l<;>cases p<;>simp [cE,bN,iF]
theorem ot(a:List (E4 × E4))(l:Nat):sc l (bz cE a)=sc l (bz cE (gR a)):=by
 rw [uD,uD]
 simp only [fz]
theorem io{x q:E4} : ∀{a:List (E4 × E4)},q∈bN x a->(x,q)∈a
 | (p,q')::r,h=>by
  unfold bN at h
  cases e:iF p x with
  | true=>
   rw [e] at h
   have hp:p=x:=by cases p<;>cases x<;>first|rfl|cases e
   rcases LD.mp h with rfl|h
   .rw [hp];exact .head _
   .exact .tail _ (io h)
  | false=>
   rw [e] at h
   exact .tail _ (io h)
theorem c7(x:E4):∀{a:List (E4 × E4)},a.Nodup->(bN x a).Nodup
 | [],_=>MN
 | (p,q)::r,h=>by
  have b:=Mb.mp h
  unfold bN
  cases e:iF p x with
  | true=>
   have hp:p=x:=by cases p<;>cases x<;>first|rfl|cases e
   exact Mb.mpr ⟨fun hm=>b.1 (by rw [hp];exact io hm),c7 x b.2⟩
  | false=>exact c7 x b.2
def kO(e:E4):Nat->Nat
 | 0=>bJ e .z0
 | 1=>bJ e .z1
 | 2=>bJ e .z2
 | 3=>bJ e .z3
 | n + 4=>n + 100
theorem c9(e:E4):∀i j,kO e i=kO e j->i=j:=by
 have a:∀z,bJ e z < 100:=fun z=>by cases e<;>cases z<;>decide
 have b:=a .z0
 have c:=a .z1
 have d:=a .z2
 have f:=a .z3
 intro i j h
 rcases i with _ | _ | _ | _|i<;>rcases j with _ | _ | _ | _|j<;>simp only [kO] at h<;>first
  | rfl
  | kd_p
  | (have:=ik e _ _ h;cases this)
theorem mX(e x:E4):kO e (cE x)=bJ e x:=by cases x<;>rfl
theorem qN(e:E4)(a:List (E4 × E4)):bz (bJ e) a=mp (kO e) (bz cE a):=by
 unfold bz mp
 rw [Mu]
 apply Ns
 intro x V
 show (bJ e x.1,bJ e x.2)=(kO e (cE x.1),kO e (cE x.2))
 rw [mX,mX]
theorem jI{out:LLN}(h:rL out=Lh):uQ out:=by
 unfold rL at h
 simp only [Nx,decide_eq_true_eq] at h
 obtain ⟨⟨⟨d,e⟩,b⟩,h4⟩:=h
 cases out with
 | nil=>cases b
 | cons a l=>
  refine ⟨d,e,by simp,fun i f c=>?_,fun s hs=>?_⟩
  .cases i with
   | zero=>exact absurd c (NN _)
   | succ i=>
    have:=Ms.mp b (l[i]'(by simpa using f)) (MX _)
    simpa using this
  .have:=Ms.mp h4 s hs
   simpa using this
inductive l8:LLN->LLN->Prop
 | nil:l8 [] []
 | cons {a b:LN} {l m:LLN} (h:a.Perm b) (t:l8 l m):l8 (a::l) (b::m)
theorem ou:∀{l m:LLN},qK l m=Lh->l8 l m
 | [],[],_=>.nil
 | [],_::_,h=>by cases h
 | _::_,[],h=>by cases h
 | a::l,b::m,h=>by
  unfold qK at h
  rw [Nx] at h
  exact .cons (List.isPerm_iff.mp h.1) (ou h.2)
abbrev Cs(o:LLN):LLN:=o.flatMap (c3 ((o.flatMap cN).flatMap bf))
abbrev Ct(a:LLN)(mx:Nat->E4)(xs:LN):LLN:=iT a mx xs .z0++iT a mx xs .z1++iT a mx xs .z2++iT a mx xs .z3
set_option genInjectivity false in
set_option genSizeOf false in
structure K7(sts:List (E4 × E4)) where
 W:E4->LLN
 o:LLN
 cy:Bool
 l:List (List E4)
 hW:∀z,bU (bz cE sts) 6 [cE z]=Ld (W z)
 hZ:∀z,uQ (W z)
 hf:fJ (bz cE sts) 101 [cE .z0] [] [[cE .z1],[cE .z2],[cE .z3]] []=Ld o
 hout:o=aT (W .z0)++aT (W .z1)++aT (W .z2)++aT (W .z3)
 hne:∀s∈o,s≠[]/\s.length < 60000
 hfc:dK (aA sts (fun V=>0) fun V=>[]).2 100 aV []=Ld cy
 hcy:cy = !decide (o.flatMap cN=[])
 hrl:cC (aA sts (fun V=>0) fun V=>[]).2 20 (gq (-1) (cJ (aA sts (fun V=>0) fun V=>[]).1) (ar (aA sts (fun V=>0) fun V=>[]).1 aV)) (ar (aA sts (fun V=>0) fun V=>[]).1 aV)=Ld l
 hp:l8 (l.map (·.map cE)) (Ct (Cs o) (qJ o) [cE .z0,cE .z1,cE .z2,cE .z3])
 h4:(ar (aA sts (fun V=>0) fun V=>[]).1 aV).length<=4
 hsl:∀x,((aA sts (fun V=>0) fun V=>[]).2 x).length < 50
 hmx:∀x∈[cE .z0,cE .z1,cE .z2,cE .z3],(Cs o).contains [x]=Li->en (qJ o x)∈o.flatMap (bZ x)/\∀n∈o.flatMap (bZ x),n<=en (qJ o x)
set_option tactic.hygienic true in
theorem BN{b:List (E4 × E4)}(h:bn b=Lh):Nonempty (K7 b):=by
 unfold bn at h
 split at h
 .rename_i r t u v o w y A B f
  simp only [Nx,decide_eq_true_eq] at h
  obtain ⟨⟨⟨⟨⟨⟨⟨g,i⟩,j⟩,k⟩,hout⟩,hne⟩,_⟩,a⟩:=h
  unfold G8 at a
  split at a
  .rename_i cy d
   simp only [Nx,decide_eq_true_eq,beq_iff_eq] at a
   obtain ⟨⟨⟨⟨hcy,c⟩,h4⟩,hsl⟩,hmx⟩:=a
   split at c
   .rename_i l e
    refine ⟨{ W:=fun z=>match z with | .z0=>r | .z1=>t | .z2=>u | .z3=>v,o:=o,cy:=cy,l:=l,hW:=fun z=>by cases z<;>assumption,hZ:=fun z=>?_,hf:=f,hout:=hout,hne:=fun s hs=>?_,hfc:=d,hcy:=hcy,hrl:=e,hp:=ou c,h4:=h4,hsl:=fun x=>?_,hmx:=fun x q m=>?_ }⟩
    .cases z
     .exact jI g
     .exact jI i
     .exact jI j
     .exact jI k
    .have:=Ms.mp hne s hs
     simpa using this
    .have:=Ms.mp hsl x (by cases x<;>simp [aV])
     simpa using this
    .have:=Ms.mp hmx x q
     rw [m,OV,Nx] at this
     refine ⟨MW.mp this.1,fun n p=>?_⟩
     have:=Ms.mp this.2 n p
     simpa using this
   .cases c
  .cases a
 .cases h
theorem bF.take{ns:List Int}{vs:LV}(h:bF ns vs):∀(k:Nat),bF (ns.take k) (vs.take k):=by
 induction h with
 | nil=>intro k;simp;exact .nil
 | cons n t _ a=>
  intro k
  cases k with
  | zero=>exact .nil
  | succ k=>exact .cons n t (a k)
section
variable(w:Lj)(a b:Bool)(fr:List Env)
include w a b fr
theorem BO(F e i:Nat)(d:LV)(g:Int)(j:List Int)(hns:bF (g::j) d)(f:d.length < 900)(CL it ac:Nat)(J:ab)(c:Nat)(lows:Mem) :
  ak w a b fr 7 (.compStart iM 0 (.ref it) (.ref ac) (ig iM CL F [])) ([(CL,av [] J),(it,al e 0),(ac,aa [] c),(e,aa d i)]++lows)
   (fun l k=>∃(t:Nat)(vs:LV)(c:Nat)(v:Lc)(J:ab),l=.ok .next/\k=[(CL,av [(oS,v)] J),(eR ac (g.fmod 9973) t vs c),(e,aa d i)]++lows/\bF (j.map fun n=>n.fmod 9973) vs):=by
 refine aO.weak (yY w a b fr F e i d (g::j) hns f CL it ac J c lows) (Lf _) fun l k q=>?_
 refine gz (fun v J vs c m=>?_) q;apply gu m;intro h
 have hp:(d.length != 0)=Lh:=by
  have:=hns.length
  rw [Ls] at this
  rw [this];rfl
 rw [hp]
 cases h with
 | cons n t h=>exact ⟨_,.refl _,t,_,c,v,J,rfl,rfl,h⟩
theorem BP(F e g:Nat)(d:LV)(hns:bF [] d)(f:d.length < 900)(CL it ac:Nat)(J:ab)(c:Nat)(lows:Mem) :
  ak w a b fr 7 (.compStart iM 0 (.ref it) (.ref ac) (ig iM CL F [])) ([(CL,av [] J),(it,al e 0),(ac,aa [] c),(e,aa d g)]++lows)
   (fun j i=>∃(c:Nat)(J:ab),j=.ok .next/\i=[(CL,av [] J),(ac,aa [] c),(e,aa d g)]++lows):=by
 refine aO.weak (yY w a b fr F e g d [] hns f CL it ac J c lows) (Lf _) fun j i q=>?_
 refine gz (fun v J vs c k=>?_) q;apply gu k;intro h
 cases h
 cases hns
 exact ⟨_,.refl _,c,J,rfl,rfl⟩
section
variable(X:eZ)(d e:Nat)(c:LV)(ns:List Int)(hns:bF ns c)(hsz:c.length < 60000)
include X d e c ns hns hsz
theorem Ha(j:Int)(g:List Int)(r:ns.take 5=j::g)(J:ab)(lows:Mem) :
  dh w a b fr 9 (jj X) (pQ 0 X) ([(ay X.F [(dq,.ref d)] J),(X.cn,ad Lk),(d,aa c e)]++lows) (fun D u=>∃(p m t:Nat)(vs:LV),D=.ok .next/\u=[(ay X.F [(dq,.ref d)] J),(X.cn,ad (Ld (.ref p))),(d,aa c e),(eR p (j.fmod 9973) t vs m)]++lows/\bF (g.map fun n=>n.fmod 9973) vs):=by
 have y:=fun(E t:Nat)=>qI w a b d E c e 5 t hsz
 have B:bF (j::g) (c.take 5):=by have:=hns.take 5;rwa [r] at this
 have s:=fun(fr:List Env)(z m:Nat)(CL it ac:Nat)(J:ab)(f:Nat)(lows:Mem)=>BO w a b fr X.F z m (c.take 5) j g B (by rw [O1];kd_p) CL it ac J f lows
 have q:(g.map fun n=>n.fmod 9973).length < 60:=by
  have:=congrArg Og r
  rw [O1,Ls] at this
  rw [Ln];kd_p
 have LN:=fun(ac:Nat)(t:Nat)(vs:LV)(h:bF (g.map fun n=>n.fmod 9973) vs)(f:Nat)=>du w a b ac (.int (j.fmod 9973) t::vs) f (by rw [Ls,h.length];kd_p)
 apply fU b 0x1820408180060c181;intro V N T G A k st
 apply bA b 0x81828708083000a00285;intro o;apply y N T;k_all;intro x i L st
 apply j0 b;intro o;apply s ([(bu X)]++fr) x 0 (i + 2) i (i + 1) (ae (o 7)) 0 lows;k_mem;intro V V I M l;refine jA (fun t vs f v H l=>?_) l;apply jt l;intro C;refine ⟨_,_,.refl _,fun A=>?_⟩;apply dC b 567417260490881;intro st
 apply bA b 645;intro o;apply LN (i + 1) t vs ‹_› f;k_all;intro P K O st
 apply b4 b [3,4,5,1];apply k;intro o τ;refine jJ (i + 1) f t vs ⟨?_, ?_,C⟩;apply rfl;apply rfl;k_mem
theorem Hb(v:ns.take 5=[])(J:ab)(lows:Mem) :
  dh w a b fr 9 (jj X) (pQ 0 X) ([(ay X.F [(dq,.ref d)] J),(X.cn,ad Lk),(d,aa c e)]++lows) (fun y n=>∃(l k A B C D:Nat),y=.ok .next/\n=[(ay X.F [(dq,.ref d)] J),(X.cn,ad (Ld (.ref l))),(d,aa c e),(l,aa [.int 0 A,.int 3 B,.int 1 C,.int 4 D] k)]++lows):=by
 have p:=fun(z t:Nat)=>qI w a b d z c e 5 t hsz
 have u:bF [] (c.take 5):=by have:=hns.take 5;rwa [v] at this
 have m:=fun(fr:List Env)(r k:Nat)(CL it ac:Nat)(J:ab)(f:Nat)(lows:Mem)=>BP w a b fr X.F r k (c.take 5) u (by rw [O1];kd_p) CL it ac J f lows
 have LN:=fun(ac f:Nat)=>du w a b ac [] f (by decide)
 apply fU b 0x1820408180060c181;intro V N T E s i st
 apply bA b 0x81828708083000a00285;intro o;apply p N T;k_all;intro x g I st
 apply j0 b;intro o;apply m ([(bu X)]++fr) x 0 (g + 2) g (g + 1) (ae (o 7)) 0 lows;k_mem;intro V V H K j;refine d9 (fun f G j=>?_) j;apply iq j;refine ⟨_,_,.refl _,fun s=>?_⟩;apply dC b 34632401153;intro st
 apply bA b 645;intro o;apply LN (g + 1) f;k_all;intro t q h st
 apply b4 b [3,4,5,7];apply i;intro o τ;refine ox q 0 h (h + 1) (h + 2) (h + 3) ⟨?_, ?_⟩;apply rfl;apply rfl;k_mem
end
end
theorem BQ:ai cY=[ax (ai cY) 0]++G7:=by kernel_rfl
noncomputable def mY(ns:List Int):List Int:=match ns.take 5 with
 | []=>[0,3,1,4]
 | l=>l.map fun n=>n.fmod 9973
def BS(ns:List Int):Prop:=∀a b,mY ns=a::b->Nonempty (PL a b)
def mZ(c a:Nat)(b:LV)(F:Mem):Prop:=(c,aa b a)∈F/\GV [240,304,184] F
theorem iS.scr{w:Lj}{a b:Bool}{X:eZ}{c:List L4}{M:Mem}(i d:Nat)(e:LV)(lows:Mem)(h:iS [240,304,184] w a b X c M):bt pw (wd w a b) (kt (wd w a b).params) [] 24 (jj X) (bu X) c (M++((i,aa e d)::lows)) (fun f g=>f=.ret (.bool Lh)/\mZ i d e g):=
 bt.mono (bt.frame h) fun f g q=>by
  obtain ⟨m,⟨rfl,j⟩,rfl⟩:=q
  exact ⟨_,.refl _,rfl,LB _ (.head _),fun n k=>let ⟨vs,l⟩:=j n k;⟨vs,Lu _ l⟩⟩
abbrev xU (x0 x1 x2 x3 x4 x5 x6 x7 x8 x9 x10 x11):=([(x0,aJ [(dq,.ref x1)] x2),(x3,ad Lk),(x4,ad Lk),(x5,ad Lk),(x6,ad Lk),(x7,ad Lk),(x8,ad Lk),(x9,ad Lk),(x1,aa x10 x11),(184,au),(240,au),(304,au)] : Mem)
section
variable(w:Lj)(g a b:Bool)(X:eZ)(e d:Nat)(c:LV)(ns:List Int)(hns:bF ns c)(hsz:c.length < 60000)(hp:BS ns)(J:ab)(lows:Mem)
include w g a b X e d c ns hns hsz hp J lows
theorem K8 :
  bt pw (wd (wT w g) a b) (kt (wd (wT w g) a b).params) [] 24 (jj X) (bu X) (ai cY) ((xU X.F e J X.cn X.cr X.cs X.cw X.cx X.cc X.cy c d)++lows) (fun f p=>f=.ret (.bool Lh)/\mZ e d c p):=by
 rw [BQ]
 cases k:ns.take 5 with
 | nil=>
  obtain ⟨K⟩:=hp 0 [3,1,4] (by unfold mY;rw [k])
  refine bt.pk (bt.stage (Hb (wT w g) a b [] X e d c ns hns hsz k J ([(X.cr,ad Lk),(X.cs,ad Lk),(X.cw,ad Lk),(X.cx,ad Lk),(X.cc,ad Lk),(X.cy,ad Lk),(184,au),(240,au),(304,au)]++lows)) (by decide) ?_) (Pk.perm ((cb 12 (xU X.F e J X.cn X.cr X.cs X.cw X.cx X.cc X.cy c d) [(ay X.F [(dq,.ref e)] J),(X.cn,ad Lk),(e,aa c d),(X.cr,ad Lk),(X.cs,ad Lk),(X.cw,ad Lk),(X.cx,ad Lk),(X.cc,ad Lk),(X.cy,ad Lk),(184,au),(240,au),(304,au)] [0,1,8,2,3,4,5,6,7,9,10,11] (by kernel_rfl) (by decide) (by kernel_rfl)).append_right lows))
  intro x p s;refine qc (fun h i u l m o q=>?_) s;apply kW q
  refine ⟨rfl, ?_⟩
  exact bt.pk (iS.scr e d c lows (Kr w g a b X h i 0 u [3,1,4] [.int 3 l,.int 1 m,.int 4 o] (.cons 3 l (.cons 1 m (.cons 4 o .nil))) K (.ref e) J [])) (Pk.perm ((cb 13 [(ay X.F [(dq,.ref e)] J),(X.cn,ad (Ld (.ref h))),(e,aa c d),(h,aa [.int 0 u,.int 3 l,.int 1 m,.int 4 o] i),(X.cr,ad Lk),(X.cs,ad Lk),(X.cw,ad Lk),(X.cx,ad Lk),(X.cc,ad Lk),(X.cy,ad Lk),(184,au),(240,au),(304,au)] [(ay X.F [(dq,.ref e)] J),(X.cn,ad (Ld (.ref h))),(h,aa [.int 0 u,.int 3 l,.int 1 m,.int 4 o] i),(X.cr,ad Lk),(X.cs,ad Lk),(X.cw,ad Lk),(X.cx,ad Lk),(X.cc,ad Lk),(X.cy,ad Lk),(184,au),(240,au),(304,au),(e,aa c d)] [0,1,3,4,5,6,7,8,9,10,11,12,2] (by kernel_rfl) (by decide) (by kernel_rfl)).append_right lows))
 | cons j r=>
  obtain ⟨K⟩:=hp (j.fmod 9973) (r.map fun n=>n.fmod 9973) (by unfold mY;rw [k];rfl)
  refine bt.pk (bt.stage (Ha (wT w g) a b [] X e d c ns hns hsz j r k J ([(X.cr,ad Lk),(X.cs,ad Lk),(X.cw,ad Lk),(X.cx,ad Lk),(X.cc,ad Lk),(X.cy,ad Lk),(184,au),(240,au),(304,au)]++lows)) (by decide) ?_) (Pk.perm ((cb 12 (xU X.F e J X.cn X.cr X.cs X.cw X.cx X.cc X.cy c d) [(ay X.F [(dq,.ref e)] J),(X.cn,ad Lk),(e,aa c d),(X.cr,ad Lk),(X.cs,ad Lk),(X.cw,ad Lk),(X.cx,ad Lk),(X.cc,ad Lk),(X.cy,ad Lk),(184,au),(240,au),(304,au)] [0,1,8,2,3,4,5,6,7,9,10,11] (by kernel_rfl) (by decide) (by kernel_rfl)).append_right lows))
  intro x p s;refine gz (fun h i t vs q=>?_) s;apply gu q;intro v
  refine ⟨rfl, ?_⟩
  exact bt.pk (iS.scr e d c lows (Kr w g a b X h i (j.fmod 9973) t (r.map fun n=>n.fmod 9973) vs v K (.ref e) J [])) (Pk.perm ((cb 13 [(ay X.F [(dq,.ref e)] J),(X.cn,ad (Ld (.ref h))),(e,aa c d),(eR h (j.fmod 9973) t vs i),(X.cr,ad Lk),(X.cs,ad Lk),(X.cw,ad Lk),(X.cx,ad Lk),(X.cc,ad Lk),(X.cy,ad Lk),(184,au),(240,au),(304,au)] [(ay X.F [(dq,.ref e)] J),(X.cn,ad (Ld (.ref h))),(eR h (j.fmod 9973) t vs i),(X.cr,ad Lk),(X.cs,ad Lk),(X.cw,ad Lk),(X.cx,ad Lk),(X.cc,ad Lk),(X.cy,ad Lk),(184,au),(240,au),(304,au),(e,aa c d)] [0,1,3,4,5,6,7,8,9,10,11,12,2] (by kernel_rfl) (by decide) (by kernel_rfl)).append_right lows))
theorem BT :
  aO pw (wd (wT w g) a b) (kt (wd (wT w g) a b).params) [] 24 (.func (ai cY) (bu X)) ((xU X.F e J X.cn X.cr X.cs X.cw X.cx X.cc X.cy c d)++lows) (fun j i=>j=.ok (.ret (.bool Lh))/\mZ e d c i):=
 Ge rfl (K8 w g a b X e d c ns hns hsz hp J lows) fun f i h=>by
  obtain ⟨rfl,h⟩:=h
  exact ⟨rfl,h⟩
end
theorem BU(w:Lj)(f a b:Bool)(e d:Nat)(c:LV)(ns:List Int)(hns:bF ns c)(hsz:c.length < 60000)(hp:BS ns)(lows:Mem) :
  aO pw (wd (wT w f) a b) (kt (wd (wT w f) a b).params) [] 25 (bw 307 [.ref e]) ([(e,aa c d),(184,au),(240,au),(304,au)]++lows) (fun j h=>j=.ok (.ret (.bool Lh))/\mZ e d c h):=by
 have i:=fun(X:eZ)(J:ab)(lows:Mem)=>BT w f a b X e d c ns hns hsz hp J lows
 apply cW b 104431878145;intro V N T k l g st
 apply lB b [4,5,6,7,8,9,10,11,0,1,2,3];apply g;intro o;apply i (eZ.mk N (N + 7) (N + 6) (N + 5) (N + 4) (N + 3) (N + 2) (N + 1)) (ae (o 4)) lows;k_mem
theorem af.cons_inv{s:LN}{ss:LLN}{vs:LV}(h:af (s::ss) vs):∃t a,vs=sv s t::a/\af ss a:=by
 cases h with
 | cons s t h=>exact ⟨t,_,rfl,h⟩
noncomputable def BV:Sg->Ch
 | .q=>.q | .b=>.b | .s=>.s | .k=>.k
theorem kR(s:Sg):pc s=cp (BV s):=by cases s<;>rfl
theorem kT(s:Sg):BV s≠.nl:=by cases s<;>exact fun h=>by cases h
noncomputable abbrev kU(c:Nat):LN:=[c]
theorem y6(b:LN):∀(w:List Sg)(c:LV),af (((w.flatMap fun s=>[92,pc s])++32::b).map kU) c->∃a,af (b.map kU) a/\∀n,BR c (w.map pc) a n n
 | [],c,h=>by
  have d:=af.cons_inv (s:=[32]) (ss:=b.map kU) h
  clear h
  obtain ⟨t,vs,rfl,h⟩:=d
  exact ⟨vs,h,fun n=>.sp t vs n⟩
 | s::w,c,h=>by
  have d:=af.cons_inv (s:=[92]) (ss:=[pc s]::((w.flatMap fun s=>[92,pc s])++32::b).map kU) h
  clear h
  obtain ⟨t,vs,rfl,h⟩:=d
  have d:=af.cons_inv h
  clear h
  obtain ⟨u,vs,rfl,h⟩:=d
  obtain ⟨a,f,e⟩:=y6 b w vs h
  refine ⟨a,f,fun n=>?_⟩
  rw [Lz,kR]
  exact .esc t (BV s) u _ _ _ _ _ (kT s) (e n)
theorem uE(b:LN):∀(w:List Sg)(c:LV),af (((w.flatMap fun s=>if kX s || ql s then [92,pc s] else [pc s])++34::b).map kU) c->∃a,af (b.map kU) a/\QR c (w.map pc) a
 | [],c,h=>by
  have d:=af.cons_inv (s:=[34]) (ss:=b.map kU) h
  clear h
  obtain ⟨t,vs,rfl,h⟩:=d
  exact ⟨vs,h,.stop t vs⟩
 | s::w,c,h=>by
  cases hs:(kX s || ql s) with
  | true=>
   rw [Me,hs] at h
   have d:=af.cons_inv (s:=[92]) (ss:=[pc s]::((w.flatMap fun s=>if kX s || ql s then [92,pc s] else [pc s])++34::b).map kU) h
   clear h
   obtain ⟨t,vs,rfl,h⟩:=d
   have d:=af.cons_inv h
   clear h
   obtain ⟨u,vs,rfl,h⟩:=d
   obtain ⟨a,f,e⟩:=uE b w vs h
   refine ⟨a,f, ?_⟩
   rw [Lz,kR]
   exact .esc t (BV s) u _ _ _ (kT s) e
  | false=>
   rw [Me,hs] at h
   have d:=af.cons_inv (s:=[pc s]) (ss:=((w.flatMap fun s=>if kX s || ql s then [92,pc s] else [pc s])++34::b).map kU) h
   clear h
   obtain ⟨u,vs,rfl,h⟩:=d
   obtain ⟨a,f,e⟩:=uE b w vs h
   refine ⟨a,f, ?_⟩
   rw [Lz,kR]
   exact .plain (BV s) u _ _ _ (by cases s<;>first|rfl|cases hs) (kT s) e
theorem qO(c:LN):∀(w:List Sg)(d:LV),af (((w.flatMap fun s=>if kX s then [92,92] else [pc s])++10::c).map kU) d->∃a,af (c.map kU) a/\∀n,BR d (w.map pc) a n (n + 1)
 | [],d,h=>by
  have e:=af.cons_inv (s:=[10]) (ss:=c.map kU) h
  clear h
  obtain ⟨t,vs,rfl,h⟩:=e
  exact ⟨vs,h,fun n=>.nl t vs n⟩
 | s::w,d,h=>by
  cases hs:kX s with
  | true=>
   rw [Me,hs] at h
   have e:=af.cons_inv (s:=[92]) (ss:=[92]::((w.flatMap fun s=>if kX s then [92,92] else [pc s])++10::c).map kU) h
   clear h
   obtain ⟨t,vs,rfl,h⟩:=e
   have e:=af.cons_inv h
   clear h
   obtain ⟨u,vs,rfl,h⟩:=e
   obtain ⟨a,g,f⟩:=qO c w vs h
   refine ⟨a,g,fun n=>?_⟩
   cases s<;>cases hs
   exact BR.esc t .b u _ _ _ _ _ (fun h=>by cases h) (f n)
  | false=>
   rw [Me,hs] at h
   have e:=af.cons_inv (s:=[pc s]) (ss:=((w.flatMap fun s=>if kX s then [92,92] else [pc s])++10::c).map kU) h
   clear h
   obtain ⟨u,vs,rfl,h⟩:=e
   obtain ⟨a,g,f⟩:=qO c w vs h
   refine ⟨a,g,fun n=>?_⟩
   rw [Lz,kR]
   exact .plain (BV s) u _ _ _ _ _ (by cases s<;>first|rfl|cases hs) (kT s) (f n)
theorem BW(w:List Sg):(wr w .m0).count 10=0:=by
 have h:∀w:List Sg,(w.flatMap fun s=>[92,pc s]).count 10=0:=by
  intro w
  induction w with
  | nil=>rfl
  | cons s w a=>rw [Me,MP,a];cases s<;>rfl
 show ((w.flatMap fun s=>[92,pc s])++[32]).count 10=0
 rw [MP,h];rfl
theorem BY(w:List Sg):(wr w .m1).count 10=0:=by
 have h:∀w:List Sg,(w.flatMap fun s=>if kX s || ql s then [92,pc s] else [pc s]).count 10=0:=by
  intro w
  induction w with
  | nil=>rfl
  | cons s w a=>rw [Me,MP,a];cases s<;>rfl
 show (([34]++(w.flatMap fun s=>if kX s || ql s then [92,pc s] else [pc s]))++[34]).count 10=0
 rw [MP,MP,h];rfl
theorem BZ(w:List Sg):(wr w .m2).count 10=1:=by
 have h:∀w:List Sg,(w.flatMap fun s=>if kX s then [92,92] else [pc s]).count 10=0:=by
  intro w
  induction w with
  | nil=>rfl
  | cons s w a=>rw [Me,MP,a];cases s<;>rfl
 show (((match w with|s::_=>if ql s then [92] else [] | []=>[])++(w.flatMap fun s=>if kX s then [92,92] else [pc s]))++[10]).count 10=1
 rw [MP,MP,h]
 cases w with
 | nil=>rfl
 | cons s w=>cases s<;>rfl
theorem xV(d:LN)(s:Sg)(w:List Sg)(m:M3)(f:LV)(h:af ((wr (s::w) m++d).map kU) f):∃a,af (d.map kU) a/\∀n:Int,TR f ((s::w).map pc) a n (n + Ll ((wr (s::w) m).count 10)):=by
 cases m with
 | m0=>
  rw [BW]
  have e:wr (s::w) .m0++d=92::pc s::((w.flatMap fun s=>[92,pc s])++32::d):=by simp [wr]
  rw [e] at h
  have g:=af.cons_inv (s:=[92]) (ss:=[pc s]::((w.flatMap fun s=>[92,pc s])++32::d).map kU) h
  clear h
  obtain ⟨t,vs,rfl,h⟩:=g
  have g:=af.cons_inv h
  clear h
  obtain ⟨u,vs,rfl,h⟩:=g
  obtain ⟨a,j,i⟩:=y6 d w vs h
  refine ⟨a,j,fun n=>?_⟩
  rw [Lz,kR]
  show TR _ _ _ n (n + 0)
  rw [QY]
  exact .esc t (BV s) u _ _ _ _ _ (kT s) (i n)
 | m1=>
  rw [BY]
  have e:wr (s::w) .m1++d=34::(((s::w).flatMap fun s=>if kX s || ql s then [92,pc s] else [pc s])++34::d):=by
   show (34::((s::w).flatMap fun s=>if kX s || ql s then [92,pc s] else [pc s])++[34])++d=_
   rw [Lr];rfl
  rw [e] at h
  have g:=af.cons_inv (s:=[34]) (ss:=(((s::w).flatMap fun s=>if kX s || ql s then [92,pc s] else [pc s])++34::d).map kU) h
  clear h
  obtain ⟨t,vs,rfl,h⟩:=g
  obtain ⟨a,j,i⟩:=uE d (s::w) vs h
  refine ⟨a,j,fun n=>?_⟩
  show TR _ _ _ n (n + 0)
  rw [QY]
  exact .quo t _ _ _ n i
 | m2=>
  rw [BZ]
  have e:wr (s::w) .m2++d=(if ql s then [92] else [])++((if kX s then [92,92] else [pc s])++((w.flatMap fun s=>if kX s then [92,92] else [pc s])++10::d)):=by
   show (((if ql s then [92] else [])++((s::w).flatMap fun s=>if kX s then [92,92] else [pc s]))++[10])++d=_
   rw [Me]
   simp only [Lr,MI,Oc]
  rw [e] at h
  have OY:∀(c:Ch)(vs:LV),zz c=Lh->c≠.nl->af ([cp c]::((w.flatMap fun s=>if kX s then [92,92] else [pc s])++10::d).map kU) vs->∃a,af (d.map kU) a/\∀n:Int,TR vs (cp c::w.map pc) a n (n + 1):=by
   intro c vs o l h
   have g:=af.cons_inv h
   clear h
   obtain ⟨u,vs,rfl,h⟩:=g
   obtain ⟨a,j,i⟩:=qO d w vs h
   exact ⟨a,j,fun n=>.plain c u _ _ _ _ _ o l (i n)⟩
  have esc:∀(c:Ch)(vs:LV),c≠.nl->af ([92]::[cp c]::((w.flatMap fun s=>if kX s then [92,92] else [pc s])++10::d).map kU) vs->∃a,af (d.map kU) a/\∀n:Int,TR vs (cp c::w.map pc) a n (n + 1):=by
   intro c vs l h
   have g:=af.cons_inv h
   clear h
   obtain ⟨t,vs,rfl,h⟩:=g
   have g:=af.cons_inv h
   clear h
   obtain ⟨u,vs,rfl,h⟩:=g
   obtain ⟨a,j,i⟩:=qO d w vs h
   exact ⟨a,j,fun n=>.esc t c u _ _ _ _ _ l (i n)⟩
  clear e;cases s with
  | q=>exact esc .q f (fun h=>by cases h) h
  | b=>exact esc .b f (fun h=>by cases h) h
  | s=>exact OY .s f rfl (fun h=>by cases h) h
  | k=>exact OY .k f rfl (fun h=>by cases h) h
theorem uF(w:List Sg)(h:pP w)(m:M3):(wr w m).length<=7:=by
 rcases h with ⟨p,rfl⟩ | ⟨p,q,rfl⟩
 .cases m<;>cases p<;>decide
 .cases m<;>cases p<;>cases q<;>decide
theorem l9:∀(a:List (List Sg))(f:Nat->List Sg->LN),(∀j w,∃m,f j w=wr w m)->(∀w∈a,pP w)->(a.mapIdx f).flatten.length<=7 * a.length
 | [],f,_,_=>by simp
 | w::a,f,hf,h=>by
  rw [RJ,OS,Lq,Ls]
  have c:=l9 a (fun i=>f (i + 1)) (fun j w=>hf (j + 1) w) fun w b=>h w (.tail _ b)
  obtain ⟨m,hm⟩:=hf 0 w
  have d:=uF w (h w (.head _)) m
  rw [hm]
  kd_p
theorem ow:∀(b:List (List Sg))(f:Nat->List Sg->LN),(∀j w,∃m,f j w=wr w m)->(∀w∈b,pP w)->∀(a:LV)(n:Int),a.length < 50000->af ((b.mapIdx f).flatten.map kU) a->LW a (b.map fun w=>w.map pc) n (n + Ll ((b.mapIdx f).flatten.count 10))
 | [],f,_,_,a,n,_,h=>by
  cases h
  show LW [] [] n (n + 0)
  rw [QY]
  exact .nil n
 | w::b,f,hf,h12,a,n,hz,h=>by
  rw [RJ,OS] at h ⊢
  obtain ⟨m,hm⟩:=hf 0 w
  rw [hm] at h ⊢
  have g:=h12 w (.head _)
  obtain ⟨s,c,rfl⟩ : ∃s c,w=s::c:=by
   rcases g with ⟨p,rfl⟩ | ⟨p,q,rfl⟩
   .exact ⟨_,_,rfl⟩
   .exact ⟨_,_,rfl⟩
  have l:=h.length
  obtain ⟨d,k,o⟩:=xV _ s c m a h
  have hrl:=k.length
  have r:=ow b (fun i=>f (i + 1)) (fun j w=>hf (j + 1) w) (fun w g=>h12 w (.tail _ g)) d (n + Ll ((wr (s::c) m).count 10)) (by
   simp only [Ln,Lq] at l hrl
   kd_p) k
  rw [MP,Lz]
  have e:n + Ll ((wr (s::c) m).count 10 + (b.mapIdx fun i=>f (i + 1)).flatten.count 10)=n + Ll ((wr (s::c) m).count 10) + Ll ((b.mapIdx fun i=>f (i + 1)).flatten.count 10):=by
   simp only [Int.ofNat_eq_natCast,Int.natCast_add]
   kd_p
  rw [e]
  refine .cons (o n) hz ?_ r
  rw [Ln]
  rcases g with ⟨p,h⟩ | ⟨p,q,h⟩<;>rw [h]<;>simp
theorem B4:(Je.all fun a=>l5.all fun b=>Jj a b)=Lh:=by kernel_rfl
theorem Hc{a b c d:List E4}(e:a∈Je)(f:b∈l5)(g:c∈l2)(h:d∈Jh):bn (xT a b c d)=Lh:=
 Ms.mp (Ms.mp (Ms.mp (Ms.mp B4 a e) b f) c g) d h
theorem Ks{y:E4} : ∀s:List E4,s.Nodup->(∀q∈s,q=y)->s=[]∨s=[y]
 | [],_,_=>.inl rfl
 | [a],_,h=>.inr (by rw [h a (by simp)])
 | a::b::t,n,h=>by
  simp only [Mb,LD,not_or] at n
  exact absurd ((h a (by simp)).trans (h b (by simp)).symm) n.1.1
noncomputable def Kt:E4 × E4->E7
 | (.z0,.z1)=>.z0|(.z0,.z2)=>.z1|(.z0,_)=>.z2|(.z1,.z2)=>.z3|(.z1,_)=>.z4|(.z2,_)=>.z5|(.z3,_)=>.z6
theorem qP:∀i j,gU i=gU j->i=j:=by
 have h:∀i,Kt (gU i)=i:=fun i=>by cases i<;>rfl
 exact fun i j e=>(h i).symm.trans ((congrArg Kt e).trans (h j))
theorem m4{x q:E4}{a:List E7}(h:q∈bN x (a.map gU)):∃k,gU k=(x,q):=by
 obtain ⟨k,_,e⟩:=LE.mp (io h)
 exact ⟨k,e⟩
theorem xW{c:List E7}(n:c.Nodup):bn (gR (c.map gU))=Lh:=by
 have nd:(c.map gU).Nodup:=Qj _ (fun a b d q=>d (qP _ _ q)) n
 refine Hc (Jg _ (c7 _ nd) fun q h=>?_) (K6 _ (c7 _ nd) fun q h=>?_) ?_ ?_
 .obtain ⟨k,e⟩:=m4 h
  cases k<;>cases e<;>exact fun h=>by cases h
 .obtain ⟨k,e⟩:=m4 h
  cases k<;>cases e<;>first|exact .inl rfl|exact .inr rfl
 .rcases Ks (y:=.z3) _ (c7 .z2 nd) (fun q h=>by
   obtain ⟨k,e⟩:=m4 h
   cases k<;>cases e<;>rfl) with h|h<;>rw [h]<;>simp [l2]
 .rcases Ks (y:=.z0) _ (c7 .z3 nd) (fun q h=>by
   obtain ⟨k,e⟩:=m4 h
   cases k<;>cases e<;>rfl) with h|h<;>rw [h]<;>simp [Jh]
theorem m5(e:E4)(k:E7):eO e k=[bJ e (gU k).1,bJ e (gU k).2]:=by cases k<;>rfl
theorem uG(e:E4):∀i j,eO e i=eO e j->i=j:=by
 intro i j h
 rw [m5,m5] at h
 simp only [NA,and_true] at h
 exact qP _ _ (Prod.ext (ik e _ _ h.1) (ik e _ _ h.2))
theorem m6(e:E4):∀(ns:List Int)(k:Int)(as:List E7),as.Nodup->∃c:List E7,c.Nodup/\c.length<=as.length + ns.length/\d4 (eO e) ns k (as.map (eO e))=c.map (eO e)/\((as≠[]∨ns≠[])->c≠[])
 | [],k,as,n=>⟨as,n,Lf _,rfl,fun h=>h.elim id fun h=>absurd rfl h⟩
 | m::ns,k,as,n=>by
  have d:(as.map (eO e)).contains (eO e (vG ((m + 5 * k).fmod 7)))=Lh↔vG ((m + 5 * k).fmod 7)∈as:=by
   rw [MW]
   constructor
   .intro h
    obtain ⟨y,o,q⟩:=LE.mp h
    rw [<- uG e _ _ q];exact o
   .exact Md
  show ∃c:List E7,c.Nodup/\c.length<=as.length + (ns.length + 1)/\d4 (eO e) ns (k + 1) (if (as.map (eO e)).contains (eO e (vG ((m + 5 * k).fmod 7))) then as.map (eO e) else as.map (eO e)++[eO e (vG ((m + 5 * k).fmod 7))])=c.map (eO e)/\((as≠[]∨m::ns≠[])->c≠[])
  by_cases h:vG ((m + 5 * k).fmod 7)∈as
  .rw [if_pos (d.mpr h)]
   obtain ⟨c,i,f,g,h4⟩:=m6 e ns (k + 1) as n
   exact ⟨c,i,NS f,g,fun V=>h4 (.inl fun q=>by rw [q] at h;cases h)⟩
  .rw [if_neg fun q=>h (d.mp q)]
   have p:(as++[vG ((m + 5 * k).fmod 7)]).Nodup:=LK.mpr ⟨n,by simp,fun a j b l q=>h (by rw [<- ND.mp l,<- q];exact j)⟩
   obtain ⟨c,i,f,g,h4⟩:=m6 e ns (k + 1) _ p
   rw [LC] at g
   exact ⟨c,i,by rw [Lq,Pe,Px,NV 1] at f;exact f,g,fun V=>h4 (.inl (by simp))⟩
theorem Jk(x:Int):∃e:E4,e4 e=x.fmod 4:=
 (yC (NJ x (by decide)) (Oh x (by decide))).imp fun V h=>h.symm
theorem xX(a:LLN)(mx:Nat->E4)(xs:LN)(g:E4):lq a mx xs g=(iT a mx xs g).map fun b=>cX (b.map fun x=>[x]):=by
 dsimp only [lq,iT]
 cases dl a mx g xs<;>rfl
theorem rN(a:LLN)(mx:Nat->E4)(xs:LN):fp a mx xs=(Ct a mx xs).map fun b=>cX (b.map fun x=>[x]):=by
 unfold fp
 simp only [xX,Ct,LC]
section
variable{ρ:Nat->Nat}(a:∀i j,ρ i=ρ j->i=j){c:LLN}{mx b:Nat->E4}(hm:∀x,b (ρ x)=mx x)(xs:LN)
include ρ a c mx b hm xs
theorem ip(g:E4):iT (c.map (mm ρ)) b (xs.map ρ) g=(iT c mx xs g).map (mm ρ):=by
 unfold iT
 rw [om a hm]
 cases dl c mx g xs<;>rfl
theorem xY:Ct (c.map (mm ρ)) b (xs.map ρ)=(Ct c mx xs).map (mm ρ):=by
 unfold Ct
 rw [ip a hm,ip a hm,ip a hm,ip a hm]
 simp only [LC]
end
theorem p8(ρ:Nat->Nat){l m:LLN}(h:l8 l m):(l.map fun a=>cX ((mm ρ a).map fun x=>[x]))=m.map fun a=>cX ((mm ρ a).map fun x=>[x]):=by
 induction h with
 | nil=>rfl
 | cons h _ b=>rw [Lz,Lz,b,py ((h.map ρ).map _)]
set_option tactic.hygienic true in
theorem Jm(ns:List Int):BS ns:=by
 intro u v M
 have i:(u::v).length<=5:=by
  rw [<- M]
  unfold mY
  split
  .decide
  .rename_i l h
   rw [Ln]
   exact List.length_take_le ..
 have H:v.length<=4:=Oo i
 obtain ⟨e,he⟩:=Jk (u.fdiv 7)
 obtain ⟨a,D,c,E,F⟩:=m6 e (u::v) 0 [] MN
 have c:a.length<=5:=LL c (LL (Op (M4 _)) (MZ H))
 cases a with
 | nil=>exact absurd rfl (F (.inr (by simp)))
 | cons b a=>
  obtain ⟨K⟩:=BN (xW D)
  have O:∀z,bU (bz (bJ e) ((b::a).map gU)) 6 [bJ e z]=Ld ((K.W z).map (mm (kO e))):=fun z=>by
   have h:=l6 (c9 e) (bz cE ((b::a).map gU)) 6 [cE z]
   rw [od (ot _),K.hW] at h
   rw [qN,<- mX]
   exact h
  have N:fJ (bz (bJ e) ((b::a).map gU)) 101 [bJ e .z0] [] [[bJ e .z1],[bJ e .z2],[bJ e .z3]] []=Ld (K.o.map (mm (kO e))):=by
   have h:=oe (c9 e) (bz cE ((b::a).map gU)) 101 [cE .z0] [] [[cE .z1],[cE .z2],[cE .z3]] []
   rw [qL (ot _) (by simp only [bz,Ln,rM]),K.hf] at h
   rw [qN]
   exact h
  have d:=oq ((b::a).map gU)
  have g:Cs (K.o.map (mm (kO e)))=(Cs K.o).map (mm (kO e)):=BM (c9 e) K.o
  have hf:∀(j:Nat)(w:List Sg),∃m,yZ (u::v) j w=wr w m:=fun j w=>⟨_,rfl⟩
  have J:(ij e ((b::a).map gU)).length<=9:=by
   unfold ij
   rw [Lq,Ln,Ln]
   exact Rb c 4
  have r:=l9 _ _ hf (pV e ((b::a).map gU))
  have hrz:(lX e ((b::a).map gU) (u::v)).length < 50000:=by
   unfold lX
   exact LJ r (LJ (Rm 7 J) (by decide))
  refine ⟨{ e:=e,p:=(gU b).1,q:=(gU b).2,sts':=a.map gU,W:=fun z=>(K.W z).map (mm (kO e)),outW:=K.o.map (mm (kO e)),n:=6,f:=100,nf:=100,m:=20,cy:=K.cy,l:=K.l,mx:=qJ (K.o.map (mm (kO e))),hz:=by kd_p,he:=he,hd:=?_,hs:=by rw [Ln];exact LG c (by decide),hrz:=hrz,hL:=?_,hnL:=by decide,hW:=O,hZ:=fun z=>(K.hZ z).map (c9 e),hf:=N,hout:=?_,hne:=?_,hsz:=?_,hns:=?_,hfc:=?_,hm:=by decide,hrl:=?_,h4:=?_,hsl:=?_,hcy:=?_,hmx:=?_,htot:=?_ }⟩
  .refine E.trans ?_
   show (b::a).map (eO e)=(bz (bJ e) ((b::a).map gU)).map fun x=>[x.1,x.2]
   unfold bz
   rw [Mu,Mu]
   apply Ns
   intro k V
   exact m5 e k
  .intro C A
   have h:=ow _ _ hf (pV e ((b::a).map gU)) C 1 (by
    have:=A.length
    rw [Ln] at this
    rw [this]
    exact hrz) A
   rw [lY] at h
   exact h
  .show K.o.map (mm (kO e))=_
   rw [gn,gn,gn,gn,<- LC,<- LC,<- LC,<- K.hout]
  .intro s hs
   obtain ⟨t,I,rfl⟩:=LE.mp hs
   exact fun q=>(K.hne t I).1 (Pw.mp q)
  .intro s hs
   obtain ⟨t,I,rfl⟩:=LE.mp hs
   rw [show (mm (kO e) t).length=t.length from Ln ..]
   exact (K.hne t I).2
  .intro x B
   obtain ⟨k,_,q⟩:=LE.mp (show x∈(b::a).map gU from B)
   rw [<- q]
   cases k<;>exact fun h=>by cases h
  .show dK (aA ((b::a).map gU) (fun V=>0) fun V=>[]).2 100 aV []=Ld K.cy
   rw [d]
   exact K.hfc
  .show cC (aA ((b::a).map gU) (fun V=>0) fun V=>[]).2 20 (gq (-1) (cJ (aA ((b::a).map gU) (fun V=>0) fun V=>[]).1) (ar (aA ((b::a).map gU) (fun V=>0) fun V=>[]).1 aV)) (ar (aA ((b::a).map gU) (fun V=>0) fun V=>[]).1 aV)=Ld K.l
   rw [d]
   exact K.hrl
  .show (ar (aA ((b::a).map gU) (fun V=>0) fun V=>[]).1 aV).length<=4
   rw [d]
   exact K.h4
  .show ∀x,((aA ((b::a).map gU) (fun V=>0) fun V=>[]).2 x).length < 50
   rw [d]
   exact K.hsl
  .rw [K.hcy,im (oj (c9 e))]
   congr 1
   exact decide_eq_decide.mpr Pw.symm
  .intro x B A
   have L:∃z,z∈[cE .z0,cE .z1,cE .z2,cE .z3]/\x=kO e z:=by
    simp only [LD,MB,or_false] at B
    rcases B with rfl|rfl|rfl|rfl
    .exact ⟨cE .z0,by simp,rfl⟩
    .exact ⟨cE .z1,by simp,rfl⟩
    .exact ⟨cE .z2,by simp,rfl⟩
    .exact ⟨cE .z3,by simp,rfl⟩
   obtain ⟨z,hz,rfl⟩:=L
   have G:(Cs K.o).contains [z]=Li:=by
    rw [<- pY (c9 e),<- g]
    exact A
   rw [kG (ol (c9 e) z),qM (c9 e)]
   exact K.hmx z hz G
  .show K.l.map (f3 (bJ e))=fp (Cs (K.o.map (mm (kO e)))) (qJ (K.o.map (mm (kO e)))) ([cE .z0,cE .z1,cE .z2,cE .z3].map (kO e))
   rw [rN,g,xY (c9 e) (qM (c9 e) K.o),Mu]
   have h:=p8 (kO e) K.hp
   rw [Mu] at h
   refine Eq.trans ?_ h
   apply Ns
   intro xs V
   show cX (xs.map fun y=>[bJ e y])=cX ((mm (kO e) (xs.map cE)).map fun x=>[x])
   congr 1
   rw [mm,Mu,Mu]
   apply Ns
   intro y V
   show [bJ e y]=[kO e (cE y)]
   rw [mX]
section
open PySem.W.X
theorem cM{h:ME}{K:TG}(H:AllIn h K)(p:O7 × Obj)(hp:p∈K):h.get? p.1=Ld p.2:=by
 induction K with
 | nil=>cases hp
 | cons q K a=>
  rcases LD.mp hp with e|hp
  .rw [e];exact H.1
  .exact a H.2 hp
theorem fB{h:ME} : ∀{K:TG},(∀p∈K,h.get? p.1=Ld p.2)->AllIn h K
 | [],_=>trivial
 | _::_,H=>⟨H _ (.head _),fB fun p m=>H p (.tail _ m)⟩
theorem rO(h:ME)(K:TG)(H:∀p∈K,h.get? p.1=Ld p.2):Rk h 1 0 (KT.of K):=holds_of (fB H)
def Hd(P:LH):TG:=(kf P).filter fun p=>!([184,240,304] : LN).contains p.1
theorem B5(P:LH):KT.of (Hd P)=kt P:=by kernel_rfl
theorem xZ(P:LH)(p:O7 × Obj)(h:p∈Hd P):p∈kf P/\p.1∉[184,240,304]:=by
 unfold Hd at h
 obtain ⟨hm,hf⟩:=P5.mp h
 refine ⟨hm,fun a=>?_⟩
 have : ([184,240,304] : LN).contains p.1=Lh:=MW.mpr a
 rw [this] at hf
 cases hf
theorem uH{K:TG}{t:KT}(e:KT.of K=t)(g:ME)(H:∀p,p∈K->g.get? p.1=Ld p.2):Rk g 1 0 t:=by
 subst e
 exact rO g K H
theorem uI(g:ME)(P:LH)(H:∀p,p∈Hd P->g.get? p.1=Ld p.2):Rk g 1 0 (kt P):=uH (B5 P) g H
theorem ya:∀x∈Ce,x < 308:=by decide
theorem qQ{vs:LV}{ns:List Int}(h:Ps vs ns):bF ns vs:=by
 induction h with
 | nil=>exact .nil
 | cons n t _ a=>exact .cons n t a
section
variable(P:LH)
include P
theorem qR:Ce=(kf P).map (·.1):=by kernel_rfl
theorem B6:(kf P)[39]? = Ld (188,mo P):=by kernel_rfl
theorem B7:(kf P)[54]? = Ld (244,mq P):=by kernel_rfl
theorem B8:(kf P)[75]? = Ld (306,mr P):=by kernel_rfl
theorem B9:(kf P)[38]? = Ld (184,au):=by kernel_rfl
theorem Ca:(kf P)[53]? = Ld (240,au):=by kernel_rfl
theorem Cb:(kf P)[74]? = Ld (304,au):=by kernel_rfl
noncomputable def yb(o:Obj):Array Lc:=match o.data with | .fields vs=>vs | _=>#[]
theorem p9:(mo P).cls=.type "code" /\ (mo P).data=.fields (yb (mo P))/\(yb (mo P))[11]? = Ld (.ref 184):=⟨by kernel_rfl,by kernel_rfl,by kernel_rfl⟩
theorem qa:(mq P).cls=.type "code" /\ (mq P).data=.fields (yb (mq P))/\(yb (mq P))[11]? = Ld (.ref 240):=⟨by kernel_rfl,by kernel_rfl,by kernel_rfl⟩
theorem qb:(mr P).cls=.type "code" /\ (mr P).data=.fields (yb (mr P))/\(yb (mr P))[11]? = Ld (.ref 304):=⟨by kernel_rfl,by kernel_rfl,by kernel_rfl⟩
end
theorem uJ(w:Lj){h:ME}(k:AllIn h (kf w.params)){N:Nat}(Y:h.objs.size=N)(hl:h.NoLimit)(a:Nat)(x:308<=a)(c:LV)(y:h.get? a=Ld (aa c 0))(ns:List Int)(hns:bF ns c)(hsz:c.length < 60000)(G:Array Mi)(D:Nn)(O:Mq)(T:Nat) :
  Mm (Lw pw w) callerA (.call (.ref 307) ⟨[.ref a],[]⟩) (fun r P=>r=.ok (.ret (.bool Lh))/\OldK h P.heap/\P.os=O/\P.gens=G) ⟨h,G,D,T,O⟩:=by
 have C:=BU w (w.params.followText "fstring-hands-on-the-str") (w.params.followText "comprehension-iter-twice") (w.params.followText "special-get-raises") a 0 c ns hns hsz (Jm ns) []
 rw [show wT w (w.params.followText "fstring-hands-on-the-str")=w from O6 w _,qi] at C
 have m:=B9 w.params
 have s:=Ca w.params
 have u:=Cb w.params
 have q:=B6 w.params
 have t:=B7 w.params
 have v:=B8 w.params
 have W:=qR w.params
 have H:=fun g=>uI g w.params
 have L:=xZ w.params
 generalize kf w.params=K at k m s u q t v W L
 generalize Hd w.params=KF at H L
 generalize kt w.params=X at C H
 have d:=cM k _ (Ma m)
 have i:=cM k _ (Ma s)
 have j:=cM k _ (Ma u)
 have A:Qv h 184:=⟨188,mo w.params,yb (mo w.params),cM k _ (Ma q),(p9 w.params).1,(p9 w.params).2.1,(p9 w.params).2.2⟩
 have B:Qv h 240:=⟨244,mq w.params,yb (mq w.params),cM k _ (Ma t),(qa w.params).1,(qa w.params).2.1,(qa w.params).2.2⟩
 have E:Qv h 304:=⟨306,mr w.params,yb (mr w.params),cM k _ (Ma v),(qb w.params).1,(qb w.params).2.1,(qb w.params).2.2⟩
 have own:∀p∈([(a,aa c 0),(184,au),(240,au),(304,au)] : Mem),h.get? p.1=Ld p.2:=by
  intro p hp
  simp only [LD,MB,or_false] at hp
  rcases hp with rfl|rfl|rfl|rfl
  .exact y
  .exact d
  .exact i
  .exact j
 have R:Mine.Rep (OQ h [a,184,240,304]) h N [(a,aa c 0),(184,au),(240,au),(304,au)]:=by
  refine ⟨Y,fun p hp=>⟨own p hp,hideAll_none _ ?_⟩, ?_,fun b o e=>of_hideAll _ e⟩
  .exact Md (f:=fun p:Nat × Obj=>p.1) hp
  .show [a,184,240,304].Nodup
   simp only [Mb,LD,MB,or_false,not_or,MN,not_false_eq_true,and_true]
   refine ⟨⟨by kd_p,by kd_p,by kd_p⟩,⟨by decide,by decide⟩,by decide⟩
 have keep:∀b o,h.get? b=Ld o->b∉[a,184,240,304]->(OQ h [a,184,240,304]).get? b=Ld o:=fun b o e n=>PB _ e n
 have Q:Rk (OQ h [a,184,240,304]) 1 0 X:=H _ (by
  intro p hp
  obtain ⟨hm,hf⟩:=L _ hp
  refine keep _ _ (cM k p hm) fun hin=>?_
  rcases LD.mp hin with e|hin
  .have U:p.1∈K.map (·.1):=Md hm
   rw [<- W] at U
   have:=ya _ U
   rw [e] at this
   exact absurd x (RZ this)
  .exact hf hin)
 have S:(OQ h [a,184,240,304]).NoLimit:=hl.at fun o e=>keep _ _ e (by
  show (2:Nat)∉[a,184,240,304]
  simp only [LD,MB,or_false,not_or]
  refine ⟨by kd_p,by decide,by decide,by decide⟩)
 refine C callerA _ _ G D O N T _ ⟨fun V=>rfl,by decide +kernel,by decide +kernel⟩ rfl Q S R fun r F' N' T' F hp I=>?_
 clear S Q R own C;obtain ⟨rfl,J,z⟩:=hp
 have Pz:∀b,Qv h b->h.get? b=Ld au->b∈[240,304,184]->asItWas h F b au/\∃M,F.get? b=Ld M:=by
  intro b ht hg Z
  obtain ⟨vs,hv⟩:=z b Z
  have e:=(I.own _ hv).1
  exact ⟨.inr (.inl ⟨ht,rfl,#[],vs,rfl,by rw [e,Array.empty_append];rfl⟩),_,e⟩
 have l:∀b o,h.get? b=Ld o->asItWas h F b o/\∃M,F.get? b=Ld M:=by
  intro b o e
  by_cases hin:b∈[a,184,240,304]
  .simp only [LD,MB,or_false] at hin
   rcases hin with rfl|rfl|rfl|rfl
   .rw [y] at e
    cases e
    have:=(I.own _ J).1
    exact ⟨.inl this,_,this⟩
   .rw [d] at e
    cases e
    exact Pz _ A d (by simp)
   .rw [i] at e
    cases e
    exact Pz _ B i (by simp)
   .rw [j] at e
    cases e
    exact Pz _ E j (by simp)
  .have:=I.keep b o (keep b o e hin)
   exact ⟨.inl this,_,this⟩
 exact ⟨rfl,⟨fun b o e=>(l b o e).1,fun b o e=>(l b o e).2⟩,rfl,rfl⟩
end
section
open PySem.W.X
theorem yc:Of.wellSaid=Lh:=by kernel_rfl
theorem uK:RowW.promised (OpenRow.toRowW (OpenLaw.row Of)):=by
 first
 | exact ⟨[.list []],by decide +kernel,by decide +kernel⟩
theorem HF:Of.Holds:=by
 refine holds_law yc fun g=>?_
 refine holds_openX (q:=qv) (loose:=loose) (Xt:=xt) (XP:=XL qv []) (Yf:=obsZ Ce) (Ya:=Sr kf 308 870) (N:=6550) zm (fun s e=>xl_of s (LY.mp e).1) XL.keeps
  (by rfl) (by rfl) (by rfl) (fun s e=>recFacts_of (LY.mp e).2) (by rfl) g (by decide +kernel) ⟨rfl,rfl,rfl,rfl,rfl,by decide +kernel⟩ uK ?_
 intro w v a X W G y S o Y Q doc R U O hd h hD d M t x as L f c l m i
 have Z:=z_facts qR y
 clear y
 have n:TG.In (kf w.params) a.heap:=InK.keeps w _ _ Z.2.1 L.keeps
 have z:AllIn a.heap (kf w.params):=fB fun p hp=>L.keeps _ _ (cM Z.1 p hp)
 have F:=Z.2.2.1
 clear Z
 refine Ground.open G ?_
 intro T B D C E
 have j:=T.nolimit
 x_fa T n d
 clear n T B D C E G O hd h hD d
 wrow_args f c l m i
 obtain ⟨b,hsz⟩:=script_at L
 rw [F] at b hsz
 subst b
 rename ME.IsList _ _ _=>hLi
 rename Ps _ _=>hI
 have k:=script_obj L hLi
 have u:=(qQ hI).length
 have A:=uJ w z rfl j 308 (Lf _) _ k _ (qQ hI) (by kd_p) a.gens a.drawn a.os a.toks
 refine wpAny_call (codeAny_mono A ?_)
 intro r s' P;refine y7 (fun H I J K=>?_) P;subst H
 refine ⟨.inl (gB _ _ [] ⟨rfl,fun V=>rfl,ReadsW.bool Lh, ?_,fun V=>⟨MN,fun V hm=>(nomatch hm)⟩⟩),I,J,by rw [K,M];exact AllBare.empty⟩
 first
 | rfl
 | wrow_post
 | trace_state
end
end Mine
end
theorem PySem.Challenge.cw_rx0024_02_holds : PySem.Challenge.rw_rx0024_02.Holds :=
 Mine.HF
