import PyProof.Rows.All
import Wide.All
import OpenK.AllK
import Wide.FinOn
import Lean
import PySem.Challenge.RW_tc0080_02
set_option Elab.async false
set_option maxRecDepth 100000
set_option maxHeartbeats 0
set_option genSizeOf false
set_option genInjectivity false
set_option bootstrap.genMatcherCode false
set_option linter.all false
open PySem
namespace Mine
open _root_.Array renaming length_toList->aX,getElem?_toList->bM,append_assoc->g6,toList_append->iz,toList_push->o9,setIfInBounds_append_right->oa,toList_inj->qA,getElem_setIfInBounds->sO,getElem?_eq_some_iff->so,getElem?_eq_getElem->tI,mem_toList_iff->xI,size->zr
open _root_.Bool renaming and_eq_true_iff->aJ,noConfusion->aL,and_eq_true->ag,false_ne_true->bR,or_eq_true_iff->cO,not_eq_true'->dS,eq_false_iff->f5,or_false->gS,false_eq_true->gh,or_eq_false_iff->ij,or_eq_true->iy,false_and->tG,and_false->tH,or_true->wm
open _root_.Classical renaming em->jy,byContradiction->qN
open _root_.Decidable renaming byContradiction->f8
open _root_.False renaming elim->si
open _root_.ForIn renaming forIn->BS
open _root_.ForInStep renaming yield->dq
open _root_.Int renaming natCast_nonneg->bI,fmod_nonneg_of_pos->cm,ofNat_lt->di,ofNat_le->dj,fmod_lt_of_pos->dy,natAbs_mul->fB,fmod_eq_emod_of_nonneg->jf,one_mul->kU,ofNat->lR,ofNat_fdiv->my,negSucc->mz,natAbs_neg->nA,fdiv_fmod_unique->nB,toNat_of_nonneg->n3,negSucc_lt_zero->n4,not_lt->o6,lt_of_le_of_lt->o7,neg_mul->sK,natCast_mul->sf,ofNat_fmod->uH,fdiv_eq_ediv_of_nonneg->uI,ofNat_inj->vI,le_of_lt->xF,neg_neg->zo,mul_one->zp,not_le->Bq,natAbs_natCast->Br
open _root_.Int.ofNat renaming inj->gA
open _root_.LawfulBEq renaming eq_of_beq->fQ
open _root_.List renaming lookup_cons->aM,mem_cons->aO,mem_map->aP,length_map->aR,all_eq_true->aT,not_mem_nil->aU,getElem?_eq_getElem->aW,range->ak,getElem?_eq_some_iff->al,mem_singleton->ao,map_cons->au,mem_of_getElem?->az,getElem?_map->bH,length_cons->bJ,length_append->bO,replicate->bU,isEmpty_iff->bX,contains_iff_mem->b8,nodup_cons->ba,getD_eq_getElem?_getD->bn,size_toArray->cB,toArray->cF,mem_append->cJ,of_mem_zip->cN,mem_filter->cb,map_reverse->dG,mem_range->dN,lookup_eq_none_iff->dQ,length_range->dR,append_nil->dU,length_take->dm,mem_filterMap->dp,length_replicate->dw,getElem?_eq_none->dx,drop_eq_getElem_cons->eF,append_assoc->eJ,mem_reverse->ef,mem_flatMap->ej,length_drop->et,filter_cons->eu,lookup->fH,zip_nil_right->fL,contains_cons->fM,map_append->fV,forIn_cons->fW,all_cons->fY,mem_of_mem_take->fu,zip_cons_cons->gf,nodup_append->iA,drop_eq_nil_of_le->iB,getElem_mem->iW,eq_nil_of_length_eq_zero->ii,length_reverse->jD,lookup_append->j3,take_add_one->js,length->jt,take_of_length_le->lX,map_nil->lY,map_map->lZ,length_take_of_le->l3,foldl_cons->lb,mem_of_mem_drop->m5,replicate_succ->nX,map_fst_zip->qK,drop_length->qL,nil_append->sH,tail_drop->tF,getElem?_zip_eq_some->uF,extract_eq_take_drop->uG,filterMap_cons_some->vE,drop_of_length_le->wl,pairwise_reverse->xD,length_singleton->xE,reverse_reverse->yb,filterMap_cons->zn,pairwise_cons->B0,getElem_range->B3,getElem?_drop->B4,foldl->B5,filterMap_nil->B6,reverse_cons->Bn,foldl_append->Bo,flatten_cons->Bp
open _root_.List.Pairwise renaming nil->dh
open _root_.List.cons renaming inj->j0
open _root_.Nat renaming le_trans->aQ,lt_of_le_of_lt->aV,ne_of_lt->am,le_refl->bC,pow_le_pow_right->bF,add_sub_cancel_left->bL,le_add_right->bZ,zero_le->bj,lt_of_lt_of_le->cT,add_assoc->dk,pow_succ'->eU,succ_le_succ->ez,mul_le_mul->fA,lt_succ_self->gF,ble->gc,pos_of_ne_zero->gm,lt_add_of_pos_right->hG,lt_succ_of_lt->iD,blt->iE,mod_lt->i0,le_of_not_lt->i5,lt_irrefl->ig,le_add_left->jC,ne_of_gt->jX,lt_trans->jY,le_of_lt->jZ,le_of_succ_le->kT,mul_assoc->k6,le_mul_of_pos_right->lQ,sub_zero->la,le_succ->mx,mul_le_mul_left->nZ,zero_add->pw,mul_comm->px,le_succ_of_le->py,mod_eq_of_lt->qo,div_add_mod'->qp,two_mul->sD,pow_one->sE,mul_add->sF,log2_lt->sG,two_pow_pos->s8,le_antisymm->s9,div_le_self->se,add->tE,not_lt->uC,blt_eq->uD,ble_eq->uE,succ_add_eq_add_succ->vH,succ_pos->xA,sub_le_iff_le_add'->xB,le_of_eq->xC,pow_mul->zf,one_mul->zg,not_succ_le_zero->zi,mul_le_mul_right->zj,eq_of_testBit_eq->zk,add_mul->zm,add_lt_add_left->BY,add_le_add_left->BZ,sub_add_cancel->Bl,eq_zero_or_pos->Bm
open _root_.Nat.succ renaming inj->kR
open _root_.Ne renaming symm->dE
open _root_.Option renaming isNone_iff_eq_none->bY,bind->cP,map_eq_some_iff->dZ,eq_none_iff_forall_ne_some->du,none->ey,map_some->gP,bind_eq_some_iff->kQ,bind_eq_bind->m4,or_assoc->qJ,or_none->sC,isSome_iff_exists->tD,map->ya,isSome_or->BX
open _root_.Option.some renaming inj->aC
open _root_.Pure renaming pure->dC
open _root_.PyProof.Rows renaming seqObj->bK,get?_update_seq->h9,listUpdate_at->jT,AllBare->jU,loadName_read->oT,IntsAre->pN,add_str->sA,gt_int->s6,eq_str->s7,seqEpoch_at->vB,listItems_at->Bf
open _root_.PySem renaming Value->aA,Shared->aD,wpAny_bind->aE,wpAny->aF,Addr->aG,wpAny_pure->aK,Str->aN,Around->aZ,wpAny_holding->ab,Heap->ah,wpAny_mono->ay,Scope->bE,wpAny_standAt->bG,sizeLine_eq->bT,strIterType->bW,mainGlobals->bk,Comprehension->cE,model->cK,Keyword->cQ,builtinsNs->cU,FuncData->cV,eval->cW,Env->cg,seg_execs_nil->cy,wpAny_assign_Name->cz,wpAny_Call_ofName->dA,seg_execs_cons->dB,Pos->dM,cellsFrom->dP,Obj->db,wpAny_newObj_type->dc,wpAny_Name->dg,World->dz,NameKind->eG,Flow->eR,codeAny->ec,Stmt->ed,Params->ew,wpAny_callSpecial?_slot->fO,pushCells->fP,constantsAlone->fR,assignEach->fZ,letOwnedTupleGo->ff,compareOp->ft,wpAny_truthy_bool->gD,starEach->gM,recursionLimit->gN,keywordEach->gO,wpAny_call_entry->gX,exec->gY,Program->g5,wpAny_assignInOrder_more->hH,foldedForSure->hS,GenState->hU,holding->hV,keeperOf->iY,firstArgMember->iZ,Model->i6,storeName->jB,Arguments->jF,swappedStores->jS,wpAny_operating->jd,CmpOp->jp,standAt->jq,wpAny_call->kX,backToKw->kY,Operator->kZ,wpAny_evalAll_nil->lU,foldedSetIterable->lV,execs->lW,wpAny_newList->l4,wpAny_assignInOrder_none->l5,Sem->l6,Result->l8,treeTable->mR,evalEach->mS,wpAny_rule->ml,relabel->mq,rawInt->mr,pyNext->ms,getItem->mu,backTo->mw,theTreesLotGoes->nW,wpAny_storeName_local->nY,wpAny_of_eq->oV,wpAny_nsGet->oW,wpAny_newFunctionEnv->oX,wpAny_letTemporaryGo->oY,wpAny_field->oZ,comprehension->qG,assignInOrder->qH,wpAny_assign_Tuple->qi,wpAny_Constant_int->qj,clipAt->qk,call_meets->ql,Keeper->qq,wpAny_Assign_Name->sR,sizeLine->sT,compareChain->sU,codeAny_mono->sX,bindName->sY,testChain->tx,swapsWith->ty,noteFrame->tz,codeAmong->uA,wpAny_execs_nil->vG,spliced->wi,argBest->wj,wpAny_load->wo,typeIs_str->wq,typeIs_int->wr,pyIter->wt,firstAsync->wv,compPost->wx,binaryOp->wy,wpAny_release->z7,wpAny_handled->z8,wpAny_getItem_list_slice->z9,wpAny_attempt->za,swapsWithSole->zb,Tok->ze,wpAny_list_append_plain->BP,firstIter->BU,assignAll->BV,again->BW,DictEntry->B8,wpAny_Call_method_late->Be,isSame->Bg,firstIterPos->Bh,Seg->Bk
open _root_.PySem.AutoSeq1 renaming wpAny_loadPart'->sM
open _root_.PySem.Builtin renaming bitNot->eV,bitAnd->lc,bitXor->qt,bitOr->sn
open _root_.PySem.Builtin.Generator renaming genWake->m6
open _root_.PySem.Builtin.Int renaming intBits->iJ
open _root_.PySem.Builtin.List renaming listFitsIndex->iX
open _root_.PySem.Builtin.Range renaming rangeSize->jE
open _root_.PySem.Builtin.SmallTypes renaming nextOf->mW
open _root_.PySem.Builtin.Str renaming tooLong->lS,glued->mV
open _root_.PySem.Calls renaming spliced_cons->jr,Constant_str->sm,spliced_nil->vA
open _root_.PySem.Const renaming int->pz
open _root_.PySem.Data renaming noConfusion->aI
open _root_.PySem.Env renaming kindOf->i7
open _root_.PySem.Expr renaming Name->aa,BinOp->dH,Subscript->iC,Constant->kW,Call->vJ
open _root_.PySem.F renaming slot_str_ascii_iterator_next->sj,slot_str_iterator_next->xH,slot_enumerate_next->B7
open _root_.PySem.Frame renaming guarded->uJ
open _root_.PySem.Heap renaming get?_push_of_some->aH,get?_push_size->aS,get?_none_of_le->bA,lt_size->br,get?_update_ne->cG,size_push->ch,SameBut->de,get?_push_ne->ju,ExtBut->jx,get?_update_self->mC,size_update->qM
open _root_.PySem.Heap.IsSliceOf renaming new->sL
open _root_.PySem.Heap.SameBut renaming update->lE
open _root_.PySem.NameKind renaming free->bV,cell->gE
open _root_.PySem.Obj renaming mapSeq->ad,data->ik
open _root_.PySem.PyData renaming canLayAll0->oU,depthAll->qI
open _root_.PySem.ScopeKind renaming function->ee
open _root_.PySem.Sem renaming bind_eq_wrap'->kP,wrap_wrap->oS
open _root_.PySem.Stmt renaming Assign->ie,Return->y9
open _root_.PySem.Str renaming empty->bz,ofString->fS,length->je
open _root_.PySem.Value renaming noConfusion->aq,none->gZ,type->sZ,str->vC,ref->vD,int->Bj
open _root_.PySem.Value.ref renaming inj->qm
open _root_.PySem.W renaming emptyDict->mT,boot_heap->mU,tabObj->mo,hideAll_get->o5,behindTheImports->uB,lookIn->wu,findIn->ww,Frag->xG,segRun_of->BQ,piece_app->BR
open _root_.PySem.WalksT renaming enumerateD->zd
@[elab_as_elim] theorem rwl {α:Sort u} {a b:α} {motive:α->Prop} (h:a=b) (m:motive b):motive a:=by cases h;exact m
@[elab_as_elim] theorem rwr {α:Sort u} {a b:α} {motive:α->Prop} (h:a=b) (m:motive a):motive b:=by cases h;exact m
section
local macro_rules
 | `(tactic| rewrite [$e:term]) => `(tactic| first | refine rwl $e ?_ | refine rwl ($e ..) ?_ | fail)
 | `(tactic| rewrite [← $e:term]) => `(tactic| first | refine rwr $e ?_ | refine rwr ($e ..) ?_ | fail)
 | `(tactic| rewrite [$r, $s,*]) => `(tactic| (rewrite [$r]; rewrite [$s,*]))
open Lean in
local macro_rules
 | `(tactic| cases $t:elimTarget) => `(tactic| first | (rcases $t:elimTarget with ⟨⟩) | fail)
 | `(tactic| cases $t:elimTarget $a:inductionAlts) => do
   let mut r ← `(tactic| rcases $t:elimTarget with ⟨⟩)
   unless a.raw[1].getNumArgs == 0 do Macro.throwUnsupported
   for b in a.raw[2].getArgs do
     let s : TSyntax ``Parser.Tactic.tacticSeq := ⟨b[1][1]⟩
     for l in b[0].getArgs do
       let c := l[1]
       let u ← if c.isOfKind ``Parser.Term.hole then `(tactic| all_goals ($s))
         else do
           unless c[0].getNumArgs == 0 do Macro.throwUnsupported
           let xs : TSyntaxArray ``binderIdent := l[2].getArgs.map fun x => ⟨mkNode ``binderIdent #[x]⟩
           `(tactic| case $(⟨c[1]⟩):ident $xs* => $s)
       r ← `(tactic| ($r; $u))
   `(tactic| first | $r:tactic | fail)
open Lean in
local macro_rules
 | `(tactic| obtain ⟨$ps,*⟩ := $e) => do
   if (e.raw.reprint.getD "").length > 400 then Macro.throwUnsupported
   let mut xs : Array Term := #[]
   let mut post ← `(tactic| skip)
   for p in ps.getElems do
     let q := p.raw[0][0][0]
     let one := q.isOfKind ``Parser.Tactic.rcasesPat.one && p.raw[0][0].getNumArgs == 1 && q[0].getId != `rfl
     if one && q[0].getId != e.raw.getId then xs := xs.push ⟨q[0]⟩
     else
       let h := mkIdent (← Macro.addMacroScope (.mkSimple s!"h{xs.size}"))
       xs := xs.push h
       post ← if one then `(tactic| (revert $h; intro $(⟨q[0]⟩):term; $post)) else `(tactic| ($post; obtain $(⟨p.raw[0]⟩):rcasesPatMed := $h:ident))
   let mut t ← `(tactic| fail)
   for i in [0:xs.size] do
     t ← `(tactic| first | (refine $(mkIdent (.mkSimple s!"obE{i}{xs.size-i}")) $e fun $xs* => ?_) | $t:tactic)
   if e.raw.isIdent then t ← `(tactic| ($t; try clear $(⟨e.raw⟩)))
   `(tactic| first | ($t:tactic; $post) | fail)
 | `(tactic| exact ⟨$xs,*⟩) => `(tactic| refine ⟨$xs,*⟩)
 | `(tactic| refine ⟨$xs,*⟩) => do
   let n := xs.getElems.size
   if n < 3 then Macro.throwUnsupported
   let mut t ← `(tactic| fail)
   for i in [0:n] do
     t ← `(tactic| first | refine $(mkIdent (.mkSimple s!"inE{i}{n-i}")) $(xs.getElems)* | $t:tactic)
   return t
local macro_rules | `(tactic| rfl') => `(tactic| kernel_rfl)
theorem obE02 {p0 p1:Prop} {Z:Prop} (h:p0/\p1) (k:p0->p1->Z):Z:=k h.1 h.2
theorem obE03 {p0 p1 p2:Prop} {Z:Prop} (h:p0/\p1/\p2) (k:p0->p1->p2->Z):Z:=k h.1 h.2.1 h.2.2
theorem obE04 {p0 p1 p2 p3:Prop} {Z:Prop} (h:p0/\p1/\p2/\p3) (k:p0->p1->p2->p3->Z):Z:=k h.1 h.2.1 h.2.2.1 h.2.2.2
theorem obE05 {p0 p1 p2 p3 p4:Prop} {Z:Prop} (h:p0/\p1/\p2/\p3/\p4) (k:p0->p1->p2->p3->p4->Z):Z:=k h.1 h.2.1 h.2.2.1 h.2.2.2.1 h.2.2.2.2
theorem obE11 {a0:Type} {p0:a0->Prop} {Z:Prop} (h: ∃x0,p0 x0) (k: ∀x0,p0 x0->Z):Z:=h.elim λx0 h=>k x0 h
theorem obE12 {a0:Type} {p0 p1:a0->Prop} {Z:Prop} (h: ∃x0,p0 x0/\p1 x0) (k: ∀x0,p0 x0->p1 x0->Z):Z:=h.elim λx0 h=>k x0 h.1 h.2
theorem obE13 {a0:Type} {p0 p1 p2:a0->Prop} {Z:Prop} (h: ∃x0,p0 x0/\p1 x0/\p2 x0) (k: ∀x0,p0 x0->p1 x0->p2 x0->Z):Z:=h.elim λx0 h=>k x0 h.1 h.2.1 h.2.2
theorem obE14 {a0:Type} {p0 p1 p2 p3:a0->Prop} {Z:Prop} (h: ∃x0,p0 x0/\p1 x0/\p2 x0/\p3 x0) (k: ∀x0,p0 x0->p1 x0->p2 x0->p3 x0->Z):Z:=h.elim λx0 h=>k x0 h.1 h.2.1 h.2.2.1 h.2.2.2
theorem obE15 {a0:Type} {p0 p1 p2 p3 p4:a0->Prop} {Z:Prop} (h: ∃x0,p0 x0/\p1 x0/\p2 x0/\p3 x0/\p4 x0) (k: ∀x0,p0 x0->p1 x0->p2 x0->p3 x0->p4 x0->Z):Z:=h.elim λx0 h=>k x0 h.1 h.2.1 h.2.2.1 h.2.2.2.1 h.2.2.2.2
theorem obE21 {a0 a1:Type} {p0:a0->a1->Prop} {Z:Prop} (h: ∃x0 x1,p0 x0 x1) (k: ∀x0 x1,p0 x0 x1->Z):Z:=h.elim λx0 h=>h.elim λx1 h=>k x0 x1 h
theorem obE22 {a0 a1:Type} {p0 p1:a0->a1->Prop} {Z:Prop} (h: ∃x0 x1,p0 x0 x1/\p1 x0 x1) (k: ∀x0 x1,p0 x0 x1->p1 x0 x1->Z):Z:=h.elim λx0 h=>h.elim λx1 h=>k x0 x1 h.1 h.2
theorem obE23 {a0 a1:Type} {p0 p1 p2:a0->a1->Prop} {Z:Prop} (h: ∃x0 x1,p0 x0 x1/\p1 x0 x1/\p2 x0 x1) (k: ∀x0 x1,p0 x0 x1->p1 x0 x1->p2 x0 x1->Z):Z:=h.elim λx0 h=>h.elim λx1 h=>k x0 x1 h.1 h.2.1 h.2.2
theorem obE24 {a0 a1:Type} {p0 p1 p2 p3:a0->a1->Prop} {Z:Prop} (h: ∃x0 x1,p0 x0 x1/\p1 x0 x1/\p2 x0 x1/\p3 x0 x1) (k: ∀x0 x1,p0 x0 x1->p1 x0 x1->p2 x0 x1->p3 x0 x1->Z):Z:=h.elim λx0 h=>h.elim λx1 h=>k x0 x1 h.1 h.2.1 h.2.2.1 h.2.2.2
theorem obE25 {a0 a1:Type} {p0 p1 p2 p3 p4:a0->a1->Prop} {Z:Prop} (h: ∃x0 x1,p0 x0 x1/\p1 x0 x1/\p2 x0 x1/\p3 x0 x1/\p4 x0 x1) (k: ∀x0 x1,p0 x0 x1->p1 x0 x1->p2 x0 x1->p3 x0 x1->p4 x0 x1->Z):Z:=h.elim λx0 h=>h.elim λx1 h=>k x0 x1 h.1 h.2.1 h.2.2.1 h.2.2.2.1 h.2.2.2.2
theorem obE26 {a0 a1:Type} {p0 p1 p2 p3 p4 p5:a0->a1->Prop} {Z:Prop} (h: ∃x0 x1,p0 x0 x1/\p1 x0 x1/\p2 x0 x1/\p3 x0 x1/\p4 x0 x1/\p5 x0 x1) (k: ∀x0 x1,p0 x0 x1->p1 x0 x1->p2 x0 x1->p3 x0 x1->p4 x0 x1->p5 x0 x1->Z):Z:=h.elim λx0 h=>h.elim λx1 h=>k x0 x1 h.1 h.2.1 h.2.2.1 h.2.2.2.1 h.2.2.2.2.1 h.2.2.2.2.2
theorem obE31 {a0 a1 a2:Type} {p0:a0->a1->a2->Prop} {Z:Prop} (h: ∃x0 x1 x2,p0 x0 x1 x2) (k: ∀x0 x1 x2,p0 x0 x1 x2->Z):Z:=h.elim λx0 h=>h.elim λx1 h=>h.elim λx2 h=>k x0 x1 x2 h
theorem obE32 {a0 a1 a2:Type} {p0 p1:a0->a1->a2->Prop} {Z:Prop} (h: ∃x0 x1 x2,p0 x0 x1 x2/\p1 x0 x1 x2) (k: ∀x0 x1 x2,p0 x0 x1 x2->p1 x0 x1 x2->Z):Z:=h.elim λx0 h=>h.elim λx1 h=>h.elim λx2 h=>k x0 x1 x2 h.1 h.2
theorem obE33 {a0 a1 a2:Type} {p0 p1 p2:a0->a1->a2->Prop} {Z:Prop} (h: ∃x0 x1 x2,p0 x0 x1 x2/\p1 x0 x1 x2/\p2 x0 x1 x2) (k: ∀x0 x1 x2,p0 x0 x1 x2->p1 x0 x1 x2->p2 x0 x1 x2->Z):Z:=h.elim λx0 h=>h.elim λx1 h=>h.elim λx2 h=>k x0 x1 x2 h.1 h.2.1 h.2.2
theorem obE34 {a0 a1 a2:Type} {p0 p1 p2 p3:a0->a1->a2->Prop} {Z:Prop} (h: ∃x0 x1 x2,p0 x0 x1 x2/\p1 x0 x1 x2/\p2 x0 x1 x2/\p3 x0 x1 x2) (k: ∀x0 x1 x2,p0 x0 x1 x2->p1 x0 x1 x2->p2 x0 x1 x2->p3 x0 x1 x2->Z):Z:=h.elim λx0 h=>h.elim λx1 h=>h.elim λx2 h=>k x0 x1 x2 h.1 h.2.1 h.2.2.1 h.2.2.2
theorem obE35 {a0 a1 a2:Type} {p0 p1 p2 p3 p4:a0->a1->a2->Prop} {Z:Prop} (h: ∃x0 x1 x2,p0 x0 x1 x2/\p1 x0 x1 x2/\p2 x0 x1 x2/\p3 x0 x1 x2/\p4 x0 x1 x2) (k: ∀x0 x1 x2,p0 x0 x1 x2->p1 x0 x1 x2->p2 x0 x1 x2->p3 x0 x1 x2->p4 x0 x1 x2->Z):Z:=h.elim λx0 h=>h.elim λx1 h=>h.elim λx2 h=>k x0 x1 x2 h.1 h.2.1 h.2.2.1 h.2.2.2.1 h.2.2.2.2
theorem obE36 {a0 a1 a2:Type} {p0 p1 p2 p3 p4 p5:a0->a1->a2->Prop} {Z:Prop} (h: ∃x0 x1 x2,p0 x0 x1 x2/\p1 x0 x1 x2/\p2 x0 x1 x2/\p3 x0 x1 x2/\p4 x0 x1 x2/\p5 x0 x1 x2) (k: ∀x0 x1 x2,p0 x0 x1 x2->p1 x0 x1 x2->p2 x0 x1 x2->p3 x0 x1 x2->p4 x0 x1 x2->p5 x0 x1 x2->Z):Z:=h.elim λx0 h=>h.elim λx1 h=>h.elim λx2 h=>k x0 x1 x2 h.1 h.2.1 h.2.2.1 h.2.2.2.1 h.2.2.2.2.1 h.2.2.2.2.2
theorem obE41 {a0 a1 a2 a3:Type} {p0:a0->a1->a2->a3->Prop} {Z:Prop} (h: ∃x0 x1 x2 x3,p0 x0 x1 x2 x3) (k: ∀x0 x1 x2 x3,p0 x0 x1 x2 x3->Z):Z:=h.elim λx0 h=>h.elim λx1 h=>h.elim λx2 h=>h.elim λx3 h=>k x0 x1 x2 x3 h
theorem obE42 {a0 a1 a2 a3:Type} {p0 p1:a0->a1->a2->a3->Prop} {Z:Prop} (h: ∃x0 x1 x2 x3,p0 x0 x1 x2 x3/\p1 x0 x1 x2 x3) (k: ∀x0 x1 x2 x3,p0 x0 x1 x2 x3->p1 x0 x1 x2 x3->Z):Z:=h.elim λx0 h=>h.elim λx1 h=>h.elim λx2 h=>h.elim λx3 h=>k x0 x1 x2 x3 h.1 h.2
theorem obE44 {a0 a1 a2 a3:Type} {p0 p1 p2 p3:a0->a1->a2->a3->Prop} {Z:Prop} (h: ∃x0 x1 x2 x3,p0 x0 x1 x2 x3/\p1 x0 x1 x2 x3/\p2 x0 x1 x2 x3/\p3 x0 x1 x2 x3) (k: ∀x0 x1 x2 x3,p0 x0 x1 x2 x3->p1 x0 x1 x2 x3->p2 x0 x1 x2 x3->p3 x0 x1 x2 x3->Z):Z:=h.elim λx0 h=>h.elim λx1 h=>h.elim λx2 h=>h.elim λx3 h=>k x0 x1 x2 x3 h.1 h.2.1 h.2.2.1 h.2.2.2
theorem obE45 {a0 a1 a2 a3:Type} {p0 p1 p2 p3 p4:a0->a1->a2->a3->Prop} {Z:Prop} (h: ∃x0 x1 x2 x3,p0 x0 x1 x2 x3/\p1 x0 x1 x2 x3/\p2 x0 x1 x2 x3/\p3 x0 x1 x2 x3/\p4 x0 x1 x2 x3) (k: ∀x0 x1 x2 x3,p0 x0 x1 x2 x3->p1 x0 x1 x2 x3->p2 x0 x1 x2 x3->p3 x0 x1 x2 x3->p4 x0 x1 x2 x3->Z):Z:=h.elim λx0 h=>h.elim λx1 h=>h.elim λx2 h=>h.elim λx3 h=>k x0 x1 x2 x3 h.1 h.2.1 h.2.2.1 h.2.2.2.1 h.2.2.2.2
theorem obE46 {a0 a1 a2 a3:Type} {p0 p1 p2 p3 p4 p5:a0->a1->a2->a3->Prop} {Z:Prop} (h: ∃x0 x1 x2 x3,p0 x0 x1 x2 x3/\p1 x0 x1 x2 x3/\p2 x0 x1 x2 x3/\p3 x0 x1 x2 x3/\p4 x0 x1 x2 x3/\p5 x0 x1 x2 x3) (k: ∀x0 x1 x2 x3,p0 x0 x1 x2 x3->p1 x0 x1 x2 x3->p2 x0 x1 x2 x3->p3 x0 x1 x2 x3->p4 x0 x1 x2 x3->p5 x0 x1 x2 x3->Z):Z:=h.elim λx0 h=>h.elim λx1 h=>h.elim λx2 h=>h.elim λx3 h=>k x0 x1 x2 x3 h.1 h.2.1 h.2.2.1 h.2.2.2.1 h.2.2.2.2.1 h.2.2.2.2.2
theorem obE51 {a0 a1 a2 a3 a4:Type} {p0:a0->a1->a2->a3->a4->Prop} {Z:Prop} (h: ∃x0 x1 x2 x3 x4,p0 x0 x1 x2 x3 x4) (k: ∀x0 x1 x2 x3 x4,p0 x0 x1 x2 x3 x4->Z):Z:=h.elim λx0 h=>h.elim λx1 h=>h.elim λx2 h=>h.elim λx3 h=>h.elim λx4 h=>k x0 x1 x2 x3 x4 h
theorem obE52 {a0 a1 a2 a3 a4:Type} {p0 p1:a0->a1->a2->a3->a4->Prop} {Z:Prop} (h: ∃x0 x1 x2 x3 x4,p0 x0 x1 x2 x3 x4/\p1 x0 x1 x2 x3 x4) (k: ∀x0 x1 x2 x3 x4,p0 x0 x1 x2 x3 x4->p1 x0 x1 x2 x3 x4->Z):Z:=h.elim λx0 h=>h.elim λx1 h=>h.elim λx2 h=>h.elim λx3 h=>h.elim λx4 h=>k x0 x1 x2 x3 x4 h.1 h.2
theorem obE53 {a0 a1 a2 a3 a4:Type} {p0 p1 p2:a0->a1->a2->a3->a4->Prop} {Z:Prop} (h: ∃x0 x1 x2 x3 x4,p0 x0 x1 x2 x3 x4/\p1 x0 x1 x2 x3 x4/\p2 x0 x1 x2 x3 x4) (k: ∀x0 x1 x2 x3 x4,p0 x0 x1 x2 x3 x4->p1 x0 x1 x2 x3 x4->p2 x0 x1 x2 x3 x4->Z):Z:=h.elim λx0 h=>h.elim λx1 h=>h.elim λx2 h=>h.elim λx3 h=>h.elim λx4 h=>k x0 x1 x2 x3 x4 h.1 h.2.1 h.2.2
theorem obE57 {a0 a1 a2 a3 a4:Type} {p0 p1 p2 p3 p4 p5 p6:a0->a1->a2->a3->a4->Prop} {Z:Prop} (h: ∃x0 x1 x2 x3 x4,p0 x0 x1 x2 x3 x4/\p1 x0 x1 x2 x3 x4/\p2 x0 x1 x2 x3 x4/\p3 x0 x1 x2 x3 x4/\p4 x0 x1 x2 x3 x4/\p5 x0 x1 x2 x3 x4/\p6 x0 x1 x2 x3 x4) (k: ∀x0 x1 x2 x3 x4,p0 x0 x1 x2 x3 x4->p1 x0 x1 x2 x3 x4->p2 x0 x1 x2 x3 x4->p3 x0 x1 x2 x3 x4->p4 x0 x1 x2 x3 x4->p5 x0 x1 x2 x3 x4->p6 x0 x1 x2 x3 x4->Z):Z:=h.elim λx0 h=>h.elim λx1 h=>h.elim λx2 h=>h.elim λx3 h=>h.elim λx4 h=>k x0 x1 x2 x3 x4 h.1 h.2.1 h.2.2.1 h.2.2.2.1 h.2.2.2.2.1 h.2.2.2.2.2.1 h.2.2.2.2.2.2
theorem obE61 {a0 a1 a2 a3 a4 a5:Type} {p0:a0->a1->a2->a3->a4->a5->Prop} {Z:Prop} (h: ∃x0 x1 x2 x3 x4 x5,p0 x0 x1 x2 x3 x4 x5) (k: ∀x0 x1 x2 x3 x4 x5,p0 x0 x1 x2 x3 x4 x5->Z):Z:=h.elim λx0 h=>h.elim λx1 h=>h.elim λx2 h=>h.elim λx3 h=>h.elim λx4 h=>h.elim λx5 h=>k x0 x1 x2 x3 x4 x5 h
theorem obE62 {a0 a1 a2 a3 a4 a5:Type} {p0 p1:a0->a1->a2->a3->a4->a5->Prop} {Z:Prop} (h: ∃x0 x1 x2 x3 x4 x5,p0 x0 x1 x2 x3 x4 x5/\p1 x0 x1 x2 x3 x4 x5) (k: ∀x0 x1 x2 x3 x4 x5,p0 x0 x1 x2 x3 x4 x5->p1 x0 x1 x2 x3 x4 x5->Z):Z:=h.elim λx0 h=>h.elim λx1 h=>h.elim λx2 h=>h.elim λx3 h=>h.elim λx4 h=>h.elim λx5 h=>k x0 x1 x2 x3 x4 x5 h.1 h.2
theorem obE74 {a0 a1 a2 a3 a4 a5 a6:Type} {p0 p1 p2 p3:a0->a1->a2->a3->a4->a5->a6->Prop} {Z:Prop} (h: ∃x0 x1 x2 x3 x4 x5 x6,p0 x0 x1 x2 x3 x4 x5 x6/\p1 x0 x1 x2 x3 x4 x5 x6/\p2 x0 x1 x2 x3 x4 x5 x6/\p3 x0 x1 x2 x3 x4 x5 x6) (k: ∀x0 x1 x2 x3 x4 x5 x6,p0 x0 x1 x2 x3 x4 x5 x6->p1 x0 x1 x2 x3 x4 x5 x6->p2 x0 x1 x2 x3 x4 x5 x6->p3 x0 x1 x2 x3 x4 x5 x6->Z):Z:=h.elim λx0 h=>h.elim λx1 h=>h.elim λx2 h=>h.elim λx3 h=>h.elim λx4 h=>h.elim λx5 h=>h.elim λx6 h=>k x0 x1 x2 x3 x4 x5 x6 h.1 h.2.1 h.2.2.1 h.2.2.2
theorem obE91 {a0 a1 a2 a3 a4 a5 a6 a7 a8:Type} {p0:a0->a1->a2->a3->a4->a5->a6->a7->a8->Prop} {Z:Prop} (h: ∃x0 x1 x2 x3 x4 x5 x6 x7 x8,p0 x0 x1 x2 x3 x4 x5 x6 x7 x8) (k: ∀x0 x1 x2 x3 x4 x5 x6 x7 x8,p0 x0 x1 x2 x3 x4 x5 x6 x7 x8->Z):Z:=h.elim λx0 h=>h.elim λx1 h=>h.elim λx2 h=>h.elim λx3 h=>h.elim λx4 h=>h.elim λx5 h=>h.elim λx6 h=>h.elim λx7 h=>h.elim λx8 h=>k x0 x1 x2 x3 x4 x5 x6 x7 x8 h
theorem inE03 {p0 p1 p2:Prop}:p0->p1->p2->p0/\p1/\p2:=λh0 h1 h2=>⟨h0,h1,h2⟩
theorem inE04 {p0 p1 p2 p3:Prop}:p0->p1->p2->p3->p0/\p1/\p2/\p3:=λh0 h1 h2 h3=>⟨h0,h1,h2,h3⟩
theorem inE09 {p0 p1 p2 p3 p4 p5 p6 p7 p8:Prop}:p0->p1->p2->p3->p4->p5->p6->p7->p8->p0/\p1/\p2/\p3/\p4/\p5/\p6/\p7/\p8:=λh0 h1 h2 h3 h4 h5 h6 h7 h8=>⟨h0,h1,h2,h3,h4,h5,h6,h7,h8⟩
theorem inE12 {a0:Type} {p0 p1:a0->Prop}: ∀x0,p0 x0->p1 x0-> ∃x0,p0 x0/\p1 x0:=λx0 h0 h1=>⟨x0,h0,h1⟩
theorem inE13 {a0:Type} {p0 p1 p2:a0->Prop}: ∀x0,p0 x0->p1 x0->p2 x0-> ∃x0,p0 x0/\p1 x0/\p2 x0:=λx0 h0 h1 h2=>⟨x0,h0,h1,h2⟩
theorem inE14 {a0:Type} {p0 p1 p2 p3:a0->Prop}: ∀x0,p0 x0->p1 x0->p2 x0->p3 x0-> ∃x0,p0 x0/\p1 x0/\p2 x0/\p3 x0:=λx0 h0 h1 h2 h3=>⟨x0,h0,h1,h2,h3⟩
theorem inE15 {a0:Type} {p0 p1 p2 p3 p4:a0->Prop}: ∀x0,p0 x0->p1 x0->p2 x0->p3 x0->p4 x0-> ∃x0,p0 x0/\p1 x0/\p2 x0/\p3 x0/\p4 x0:=λx0 h0 h1 h2 h3 h4=>⟨x0,h0,h1,h2,h3,h4⟩
theorem inE21 {a0 a1:Type} {p0:a0->a1->Prop}: ∀x0 x1,p0 x0 x1-> ∃x0 x1,p0 x0 x1:=λx0 x1 h0=>⟨x0,x1,h0⟩
theorem inE22 {a0 a1:Type} {p0 p1:a0->a1->Prop}: ∀x0 x1,p0 x0 x1->p1 x0 x1-> ∃x0 x1,p0 x0 x1/\p1 x0 x1:=λx0 x1 h0 h1=>⟨x0,x1,h0,h1⟩
theorem inE23 {a0 a1:Type} {p0 p1 p2:a0->a1->Prop}: ∀x0 x1,p0 x0 x1->p1 x0 x1->p2 x0 x1-> ∃x0 x1,p0 x0 x1/\p1 x0 x1/\p2 x0 x1:=λx0 x1 h0 h1 h2=>⟨x0,x1,h0,h1,h2⟩
theorem inE24 {a0 a1:Type} {p0 p1 p2 p3:a0->a1->Prop}: ∀x0 x1,p0 x0 x1->p1 x0 x1->p2 x0 x1->p3 x0 x1-> ∃x0 x1,p0 x0 x1/\p1 x0 x1/\p2 x0 x1/\p3 x0 x1:=λx0 x1 h0 h1 h2 h3=>⟨x0,x1,h0,h1,h2,h3⟩
theorem inE26 {a0 a1:Type} {p0 p1 p2 p3 p4 p5:a0->a1->Prop}: ∀x0 x1,p0 x0 x1->p1 x0 x1->p2 x0 x1->p3 x0 x1->p4 x0 x1->p5 x0 x1-> ∃x0 x1,p0 x0 x1/\p1 x0 x1/\p2 x0 x1/\p3 x0 x1/\p4 x0 x1/\p5 x0 x1:=λx0 x1 h0 h1 h2 h3 h4 h5=>⟨x0,x1,h0,h1,h2,h3,h4,h5⟩
theorem inE31 {a0 a1 a2:Type} {p0:a0->a1->a2->Prop}: ∀x0 x1 x2,p0 x0 x1 x2-> ∃x0 x1 x2,p0 x0 x1 x2:=λx0 x1 x2 h0=>⟨x0,x1,x2,h0⟩
theorem inE32 {a0 a1 a2:Type} {p0 p1:a0->a1->a2->Prop}: ∀x0 x1 x2,p0 x0 x1 x2->p1 x0 x1 x2-> ∃x0 x1 x2,p0 x0 x1 x2/\p1 x0 x1 x2:=λx0 x1 x2 h0 h1=>⟨x0,x1,x2,h0,h1⟩
theorem inE33 {a0 a1 a2:Type} {p0 p1 p2:a0->a1->a2->Prop}: ∀x0 x1 x2,p0 x0 x1 x2->p1 x0 x1 x2->p2 x0 x1 x2-> ∃x0 x1 x2,p0 x0 x1 x2/\p1 x0 x1 x2/\p2 x0 x1 x2:=λx0 x1 x2 h0 h1 h2=>⟨x0,x1,x2,h0,h1,h2⟩
theorem inE34 {a0 a1 a2:Type} {p0 p1 p2 p3:a0->a1->a2->Prop}: ∀x0 x1 x2,p0 x0 x1 x2->p1 x0 x1 x2->p2 x0 x1 x2->p3 x0 x1 x2-> ∃x0 x1 x2,p0 x0 x1 x2/\p1 x0 x1 x2/\p2 x0 x1 x2/\p3 x0 x1 x2:=λx0 x1 x2 h0 h1 h2 h3=>⟨x0,x1,x2,h0,h1,h2,h3⟩
theorem inE35 {a0 a1 a2:Type} {p0 p1 p2 p3 p4:a0->a1->a2->Prop}: ∀x0 x1 x2,p0 x0 x1 x2->p1 x0 x1 x2->p2 x0 x1 x2->p3 x0 x1 x2->p4 x0 x1 x2-> ∃x0 x1 x2,p0 x0 x1 x2/\p1 x0 x1 x2/\p2 x0 x1 x2/\p3 x0 x1 x2/\p4 x0 x1 x2:=λx0 x1 x2 h0 h1 h2 h3 h4=>⟨x0,x1,x2,h0,h1,h2,h3,h4⟩
theorem inE36 {a0 a1 a2:Type} {p0 p1 p2 p3 p4 p5:a0->a1->a2->Prop}: ∀x0 x1 x2,p0 x0 x1 x2->p1 x0 x1 x2->p2 x0 x1 x2->p3 x0 x1 x2->p4 x0 x1 x2->p5 x0 x1 x2-> ∃x0 x1 x2,p0 x0 x1 x2/\p1 x0 x1 x2/\p2 x0 x1 x2/\p3 x0 x1 x2/\p4 x0 x1 x2/\p5 x0 x1 x2:=λx0 x1 x2 h0 h1 h2 h3 h4 h5=>⟨x0,x1,x2,h0,h1,h2,h3,h4,h5⟩
theorem inE37 {a0 a1 a2:Type} {p0 p1 p2 p3 p4 p5 p6:a0->a1->a2->Prop}: ∀x0 x1 x2,p0 x0 x1 x2->p1 x0 x1 x2->p2 x0 x1 x2->p3 x0 x1 x2->p4 x0 x1 x2->p5 x0 x1 x2->p6 x0 x1 x2-> ∃x0 x1 x2,p0 x0 x1 x2/\p1 x0 x1 x2/\p2 x0 x1 x2/\p3 x0 x1 x2/\p4 x0 x1 x2/\p5 x0 x1 x2/\p6 x0 x1 x2:=λx0 x1 x2 h0 h1 h2 h3 h4 h5 h6=>⟨x0,x1,x2,h0,h1,h2,h3,h4,h5,h6⟩
theorem inE41 {a0 a1 a2 a3:Type} {p0:a0->a1->a2->a3->Prop}: ∀x0 x1 x2 x3,p0 x0 x1 x2 x3-> ∃x0 x1 x2 x3,p0 x0 x1 x2 x3:=λx0 x1 x2 x3 h0=>⟨x0,x1,x2,x3,h0⟩
theorem inE42 {a0 a1 a2 a3:Type} {p0 p1:a0->a1->a2->a3->Prop}: ∀x0 x1 x2 x3,p0 x0 x1 x2 x3->p1 x0 x1 x2 x3-> ∃x0 x1 x2 x3,p0 x0 x1 x2 x3/\p1 x0 x1 x2 x3:=λx0 x1 x2 x3 h0 h1=>⟨x0,x1,x2,x3,h0,h1⟩
theorem inE44 {a0 a1 a2 a3:Type} {p0 p1 p2 p3:a0->a1->a2->a3->Prop}: ∀x0 x1 x2 x3,p0 x0 x1 x2 x3->p1 x0 x1 x2 x3->p2 x0 x1 x2 x3->p3 x0 x1 x2 x3-> ∃x0 x1 x2 x3,p0 x0 x1 x2 x3/\p1 x0 x1 x2 x3/\p2 x0 x1 x2 x3/\p3 x0 x1 x2 x3:=λx0 x1 x2 x3 h0 h1 h2 h3=>⟨x0,x1,x2,x3,h0,h1,h2,h3⟩
theorem inE45 {a0 a1 a2 a3:Type} {p0 p1 p2 p3 p4:a0->a1->a2->a3->Prop}: ∀x0 x1 x2 x3,p0 x0 x1 x2 x3->p1 x0 x1 x2 x3->p2 x0 x1 x2 x3->p3 x0 x1 x2 x3->p4 x0 x1 x2 x3-> ∃x0 x1 x2 x3,p0 x0 x1 x2 x3/\p1 x0 x1 x2 x3/\p2 x0 x1 x2 x3/\p3 x0 x1 x2 x3/\p4 x0 x1 x2 x3:=λx0 x1 x2 x3 h0 h1 h2 h3 h4=>⟨x0,x1,x2,x3,h0,h1,h2,h3,h4⟩
theorem inE46 {a0 a1 a2 a3:Type} {p0 p1 p2 p3 p4 p5:a0->a1->a2->a3->Prop}: ∀x0 x1 x2 x3,p0 x0 x1 x2 x3->p1 x0 x1 x2 x3->p2 x0 x1 x2 x3->p3 x0 x1 x2 x3->p4 x0 x1 x2 x3->p5 x0 x1 x2 x3-> ∃x0 x1 x2 x3,p0 x0 x1 x2 x3/\p1 x0 x1 x2 x3/\p2 x0 x1 x2 x3/\p3 x0 x1 x2 x3/\p4 x0 x1 x2 x3/\p5 x0 x1 x2 x3:=λx0 x1 x2 x3 h0 h1 h2 h3 h4 h5=>⟨x0,x1,x2,x3,h0,h1,h2,h3,h4,h5⟩
theorem inE53 {a0 a1 a2 a3 a4:Type} {p0 p1 p2:a0->a1->a2->a3->a4->Prop}: ∀x0 x1 x2 x3 x4,p0 x0 x1 x2 x3 x4->p1 x0 x1 x2 x3 x4->p2 x0 x1 x2 x3 x4-> ∃x0 x1 x2 x3 x4,p0 x0 x1 x2 x3 x4/\p1 x0 x1 x2 x3 x4/\p2 x0 x1 x2 x3 x4:=λx0 x1 x2 x3 x4 h0 h1 h2=>⟨x0,x1,x2,x3,x4,h0,h1,h2⟩
theorem inE61 {a0 a1 a2 a3 a4 a5:Type} {p0:a0->a1->a2->a3->a4->a5->Prop}: ∀x0 x1 x2 x3 x4 x5,p0 x0 x1 x2 x3 x4 x5-> ∃x0 x1 x2 x3 x4 x5,p0 x0 x1 x2 x3 x4 x5:=λx0 x1 x2 x3 x4 x5 h0=>⟨x0,x1,x2,x3,x4,x5,h0⟩
theorem inE62 {a0 a1 a2 a3 a4 a5:Type} {p0 p1:a0->a1->a2->a3->a4->a5->Prop}: ∀x0 x1 x2 x3 x4 x5,p0 x0 x1 x2 x3 x4 x5->p1 x0 x1 x2 x3 x4 x5-> ∃x0 x1 x2 x3 x4 x5,p0 x0 x1 x2 x3 x4 x5/\p1 x0 x1 x2 x3 x4 x5:=λx0 x1 x2 x3 x4 x5 h0 h1=>⟨x0,x1,x2,x3,x4,x5,h0,h1⟩
section
theorem nk {p:Prop}:(¬p->False)->p:=qN
structure yU where
 margs:jF
 mbody:Expr
 mscope:bE
structure pM where
 dname:aN
 margs:jF
 mbody:List ed
 mscope:bE
inductive Tg where
 |n (x:Nat)
 |t (xs:List Nat)
noncomputable def Tg.t?:Tg->Option (List Nat)
 | .t xs=>some xs
 | .n _=>none
inductive Bi where
 |len|max2|maxL|sorted|listOf|tupleOf|divmod
 deriving DecidableEq
set_option genInjectivity true in
inductive PE where
 |cnone|cbool (b:Bool)|cint (i:Int)|cstr (s:aN)
 |var (x:Nat)
 |fn (k:Nat)
 |bin (op:kZ) (a b:PE)
 |neg (a:PE)|inv (a:PE)|not (a:PE)
 |and (l:List PE)|or (l:List PE)
 |cmp (a:PE) (ops:List jp) (l:List PE)
 |ite (c a b:PE)
 |call (f:PE) (args:List PE) (kns:List Nat) (kvs:List PE)
 |bi (b:Bi) (args:List PE)
 |range (args:List PE)
 |rev (a:PE)
 |sortK (a key:PE)
 |bitlen (a:PE)|count (o a:PE)|join (o a:PE)
 |mk (a:PE)
 |umeth (o:PE) (k:Nat) (args:List PE)
 |attr (o:PE) (i:Nat)
 |sub (o i:PE)
 |slice (o:PE) (lo hi:Option PE)
 |rslice (o:PE)
 |list (l:List PE)|tup (l:List PE)
 |comp (elt:PE) (gens:List (Tg×PE×List PE)) (free:List Nat)
 |lam (ps:List Nat) (body:PE) (caps:List Nat) (d:yU)
 |callN (f:Nat) (args:List PE)
noncomputable def PE.tag:PE->Nat
 | .list _=>1| .comp .. =>2| .bin .. =>3| .bi b _=>(if b= .listOf then 4 else 0)| .rev _=>5
 | .var _=>6| .call .. =>7| .callN .. =>8| .not _=>9| .and _=>10| .or _=>11| .ite .. =>12| .cmp .. =>13
 |_=>0
noncomputable def freshPE (p:PE):Bool:=gc 1 p.tag&&gc p.tag 5
inductive PS where
 |assign (x:Nat) (own:Bool) (e:PE)
 |assignT (xs:List Nat) (e:PE)
 |assignO (xs:List Nat) (own:List Bool) (es:List PE)
 |assignM (xs:List Nat) (e:PE)
 |setItem (x:Nat) (i e:PE)
 |setAttr (x:Nat) (i:Nat) (e:PE)
 |aug (x:Nat) (op:kZ) (e:PE)
 |append (x:Nat) (e:PE)|insert (x:Nat) (i e:PE)|reverse (x:Nat)
 |callS (f:PE) (io:Nat) (args:List PE) (kns:List Nat) (kvs:List PE)
 |ifS (c:PE) (a b:List PS)
 |whileS (c:PE) (b:List PS)
 |forS (t:Tg) (it:PE) (b:List PS)
 |forEsc (xs:List Nat) (it:PE) (b:List PS)
 |ret (e:PE)
 |ret0
 |fail
 |brk
 |callNS (f io:Nat) (args:List PE)
 |defS (x:Nat) (ps:List Nat) (body:List PS) (caps:List Nat) (d:pM)
inductive V where
 |none|bool (b:Bool)|int (i:Int)|str (s:aN)
 |tup (l:List V)|list (l:List V)
 |fn (k:Nat)
 |clo (ps:List Nat) (body:PE) (caps:List Nat) (d:yU) (fT:List V)
 |ndef (ps:List Nat) (body:List PS) (caps:List Nat) (d:pM)
 |inst (ks:List Nat) (fT:List V)
 |range (lo:Int) (n:Nat)
 |rev (l:List V)
 deriving Inhabited
noncomputable def V.int?:V->Option Int
 | .int i=>some i
 |_=>ey
noncomputable def V.str?:V->Option aN
 | .str i=>some i
 |_=>ey
noncomputable def V.list?:V->Option (List V)
 | .list l=>some l
 |_=>ey
noncomputable def V.tup?:V->Option (List V)
 | .tup l=>some l
 |_=>ey
noncomputable def V.len?:V->Option Nat
 | .list l=>some l.length
 | .tup l=>some l.length
 | .str l=>some l.length
 |_=>ey
noncomputable def V.inst?:V->Option (List Nat×List V)
 | .inst a b=>some (a,b)
 |_=>ey
noncomputable def V.nd?:V->Option (List Nat×List PS×List Nat)
 | .ndef a b c _=>some (a,b,c)
 |_=>ey
noncomputable def V.fn?:V->Option Nat
 | .fn k=>some k
 |_=>ey
noncomputable def V.range?:V->Option (Int×Nat)
 | .range a b=>some (a,b)
 |_=>ey
noncomputable def qT {α β:Type} (l:List α) (f:α->Option β):Option β:=match l with
 | []=>none
 |x::r=>match r with
  | []=>f x
  |_::_=>none
noncomputable def Kb {α β:Type} (l:List α) (f:α->α->Option β):Option β:=match l with
 | []=>none
 |x::r=>qT r (f x)
mutual
noncomputable def V.lim (k:Nat):V->Bool
 | .none| .bool _| .int _| .str _| .fn _=>true
 | .tup l=>fC k l
 | .list l=>gc 1 k&&fC k l
 | .inst _ l=>gc 2 k&&fC k l
 | .clo .. | .ndef .. | .range .. | .rev _=>false
noncomputable def fC (k:Nat):List V->Bool
 | []=>true
 |v::r=>v.lim k&&fC k r
end
noncomputable abbrev V.flat (v:V):Bool:=v.lim 0
noncomputable abbrev cj (l:List V):Bool:=fC 0 l
noncomputable abbrev V.plainL (v:V):Bool:=v.lim 1
noncomputable abbrev gu (l:List V):Bool:=fC 1 l
noncomputable abbrev V.firm (v:V):Bool:=v.lim 2
noncomputable abbrev bo (l:List V):Bool:=fC 2 l
noncomputable def V.okV:V->Bool
 | .clo _ _ _ _ l=>bo l
 |v=>v.firm
noncomputable def Go:V->Bool
 | .fn _=>true
 | .clo .. =>true
 |_=>false
noncomputable def jK (n:Nat):Bool:=decide (n<2^62)
noncomputable def cR (n:Nat):Bool:=decide (n<=100000)
noncomputable def tT (a b:Int):Bool:=decide (a.natAbs<2^4096)&&decide (b.natAbs<2^4096)
noncomputable def jO (b:Int):Bool:=!(b==0)&&decide (b.natAbs<2^4096)
noncomputable def m9 (a n:Int):Bool:=decide (0<=n)&&decide (n<=1000000)&&decide (a.natAbs<2^64)
noncomputable def qC {α:Type} (l:List α):Nat->List α
 |0=>[]
 |n+1=>l++qC l n
noncomputable def pD (f:Int->Int->Option V) (a b:V):Option V:=a.int?.bind λx=>b.int?.bind λy=>f x y
noncomputable def K5 (a b:V):Option V:=match a with
 | .int x=>b.int?.bind λy=>some (.int (x+y))
 | .str x=>b.str?.bind λy=>if cR (x.length+y.length)then some (.str (x++y))else none
 | .list x=>b.list?.bind λy=>if cR (x.length+y.length)then some (.list (x++y))else none
 |_=>none
noncomputable def J7 (a b:V):Option V:=b.int?.bind λn=>match a with
 | .int x=>if tT x n then some (.int (x*n))else none
 | .list x=>if cR (x.length*n.toNat)&&decide (n<=100000)&&decide (-100000<=n)then some (.list (qC x n.toNat))else none
 | .str x=>if cR (x.length*n.toNat)&&decide (n<=100000)&&decide (-100000<=n)then some (.str ⟨(qC x.cps.toList n.toNat).toArray⟩)else none
 |_=>none
noncomputable def lz (op:kZ):V->V->Option V:=match op with
 | .Add=>K5
 | .Sub=>pD λa b=>some (.int (a-b))
 | .Mult=>J7
 | .FloorDiv=>pD λa b=>if jO b then some (.int (a.fdiv b))else none
 | .Mod=>pD λa b=>if jO b then some (.int (a.fmod b))else none
 | .Pow=>pD λa n=>if m9 a n then some (.int (a^n.toNat))else none
 | .LShift=>pD λa n=>if m9 a n then some (.int (a*2^n.toNat))else none
 | .RShift=>pD λa n=>if 0<=n then some (.int (a.fdiv (2^n.toNat)))else none
 | .BitAnd=>pD λa b=>some (.int (lc a b))
 | .BitOr=>pD λa b=>some (.int (sn a b))
 | .BitXor=>pD λa b=>some (.int (qt a b))
 | .Div=>λ_ _=>none
 | .MatMult=>λ_ _=>none
noncomputable def lf:V->Option Bool
 | .none=>some false
 | .bool b=>some b
 | .int i=>some (i !=0)
 | .str s=>if jK s.length then some (s.length !=0)else none
 | .list l=>if jK l.length then some (!l.isEmpty)else none
 | .tup l=>if jK l.length then some (!l.isEmpty)else none
 |_=>none
noncomputable def nb:V->Option (Option Bool)
 | .none=>some none
 | .bool b=>some (some b)
 |_=>none
noncomputable def Lv (a b:Option (Option Bool)):Option Bool:=match a with
 |some x=>match b with
  |some y=>some (x==y)
  |none=>some false
 |none=>match b with
  |some _=>some false
  |none=>none
noncomputable def LK (a b:V):Option Bool:=Lv (nb a) (nb b)
noncomputable def nP:List V->Option (List Int)
 | []=>some []
 |x::r=>x.int?.bind λi=>(nP r).bind λl=>some (i::l)
noncomputable def k7:List V->Option (List aN)
 | []=>some []
 |x::r=>x.str?.bind λi=>(k7 r).bind λl=>some (i::l)
noncomputable def b9 {α β:Type} (f:α->Option β):List α->Option (List β)
 | []=>some []
 |a::l=>do
  let b <-f a
  let r <-b9 f l
  some (b::r)
noncomputable def GG:Nat->V->Option PyData
 |0,_=>none
 |n+1,v=>match v with
  | .none=>some .none
  | .bool b=>some (.bool b)
  | .int i=>some (.int i)
  | .tup l=>(b9 (GG n) l).bind λd=>some (.tuple d)
  | .list l=>(b9 (GG n) l).bind λd=>some (.list d)
  |_=>none
noncomputable def Jw (n:Nat) (a b:V):Option Bool:=(GG n a).bind λx=>(GG n b).bind λy=>some (x.eqv y)
noncomputable def F7 (eq lt:V->V->Option Bool):List V->List V->Option Bool
 | [],l=>if l.isEmpty then some false else none
 |a::l,r=>match r with
  | []=>none
  |b::r=>(eq a b).bind λe=>if e then F7 eq lt l r else lt a b
noncomputable def Gq (a b:V):Option (Int×Int):=a.int?.bind λx=>b.int?.bind λy=>some (x,y)
noncomputable def Hu:Nat->V->V->Option Bool
 |0,_,_=>none
 |n+1,a,b=>match Gq a b with
  |some p=>some (decide (p.1<p.2))
  |none=>a.tup?.bind λl=>b.tup?.bind λr=>F7 (Jw n) (Hu n) l r
noncomputable def G6 (a b:V):Option (aN×aN):=a.str?.bind λx=>b.str?.bind λy=>some (x,y)
noncomputable def JG (a b:V):Option Bool:=match G6 a b with
 |some p=>some (p.1==p.2)
 |none=>Jw 8 a b
noncomputable def JF:V->V->Option Bool:=Hu 8
noncomputable def zH (f:Int->Int->Bool) (a b:V):Option Bool:=a.int?.bind λx=>b.int?.bind λy=>some (f x y)
noncomputable def Lw (a b:V):Option Bool:=a.int?.bind λx=>b.list?.bind λl=>(nP l).bind λns=>some (ns.contains x)
noncomputable def Cq (a b:V):Option Bool:=a.str?.bind λx=>b.str?.bind λy=>if x.length=1 then some (!(y.cps.toList.contains (x.cps.toList.headD 0)))else none
noncomputable def nU (op:jp):V->V->Option Bool:=match op with
 | .Eq=>JG
 | .NotEq=>λa b=>(JG a b).bind λc=>some (!c)
 | .Lt=>JF
 | .Gt=>zH λa b=>decide (b<a)
 | .LtE=>zH λa b=>decide (a<=b)
 | .GtE=>zH λa b=>decide (b<=a)
 | .Is=>LK
 | .IsNot=>λa b=>(LK a b).bind λc=>some (!c)
 | .In=>Lw
 | .NotIn=>Cq
noncomputable def ma (i:Int) (n:Nat):Option Nat:=
 if jK n&&decide (-(n:Int)<=i)&&decide (i<n)then some (if 0<=i then i.toNat else(i+n).toNat)else none
noncomputable def vT (v i:V):Option V:=i.int?.bind λi=>match v with
 | .list l=>(ma i l.length).bind λk=>l[k]?
 | .tup l=>(ma i l.length).bind λk=>l[k]?
 | .str s=>(ma i s.length).bind λk=>(s.cps.toList[k]?).bind λc=>some (.str ⟨#[c]⟩)
 |_=>none
noncomputable def yE (i:Int) (n:Nat):Nat:=qk n i
noncomputable def ue {α:Type} (l:List α) (lo hi:Nat):List α:=(l.take hi).drop lo
noncomputable def nV (d n:Nat) (o:Option V):Option Nat:=match o with
 |none=>some d
 |some v=>v.int?.bind λi=>if i.natAbs<2^62 then some (yE i n)else none
noncomputable def jG (v:V) (lo hi:Option V):Option V:=match v with
 | .list l=>if cR l.length then(nV 0 l.length lo).bind λa=>(nV l.length l.length hi).bind λb=>some (.list (ue l a b))else none
 | .str s=>if cR s.length then(nV 0 s.length lo).bind λa=>(nV s.length s.length hi).bind λb=>some (.str ⟨(ue s.cps.toList a b).toArray⟩)else none
 |_=>none
noncomputable def nN {α:Type} (cmp:Nat->Nat->Option Bool):PySem.W.KasT α->Option α
 | .ret a=>some a
 | .ask i j k=>match cmp i j with
  |some b=>nN cmp (k b)
  |none=>none
noncomputable def j7:V->Bool
 | .tup (.int _::_)=>true
 |_=>false
noncomputable def uM:V->Bool
 | .tup (.tup _::_)=>true
 |_=>false
noncomputable def DW:V->Bool
 | .int _=>true
 |_=>false
noncomputable def DQ (ks:List V):Bool:=ks.all DW||ks.all j7||ks.all uM
noncomputable def lF (ks l:List V):Option (List V):=
 if l.length<64&&decide (ks.length=l.length)then
  if l.length<2 then some l
  else if DQ ks then(nN (λi j=>JF (ks.getD i .none) (ks.getD j .none)) (PySem.W.kas_sort l.length)).map λp=>p.toList.map λi=>l.getD i .none
  else none
 else none
noncomputable def gR:V->Option (List V)
 | .list l=>if bo l then some l else none
 | .tup l=>if bo l then some l else none
 | .str s=>some (s.cps.toList.map λc=> .str ⟨#[c]⟩)
 | .range lo n=>some ((ak n).map λk=> .int (lo+(k:Nat)))
 | .rev l=>if bo l then some l.reverse else none
 |_=>none
noncomputable def oC (p:PE):Bool:=Nat.beq p.tag 5
noncomputable def jL (it:PE) (v:V):Option (List V):=match v with
 | .rev _=>if oC it then gR v else none
 |_=>gR v
noncomputable def xX (l:List V):Option V:=match l with
 | []=>none
 |x::r=>x.int?.bind λa=>match r with
  | []=>if a<2^62/\ -(2^62)<a then some (.range 0 a.toNat)else none
  |y::r=>y.int?.bind λb=>match r with
   | []=>if b<2^62/\ -(2^62)<b/\a<2^62/\ -(2^62)<a then some (.range a (b-a).toNat)else none
   |_::_=>none
noncomputable def jQ (a:Int):Int:=if a=0 then 0 else(a.natAbs.log2:Int)+1
noncomputable def Gh:List Int->Option V
 | []=>none
 |x::r=>some (.int (r.foldl max x))
noncomputable def Ij (b:Bi) (l:List V):Option V:=match b with
 | .len=>qT l λv=>v.len?.bind λn=>if jK n then some (.int n)else none
 | .max2=>Kb l (pD λa b=>some (.int (if a<b then b else a)))
 | .maxL=>qT l λv=>v.list?.bind λl=>(nP l).bind Gh
 | .sorted=>qT l λv=>v.list?.bind λl=>(lF l l).bind λl'=>some (.list l')
 | .listOf=>qT l λv=>v.range?.bind λp=>if cR p.2 then some (.list ((ak p.2).map λk=> .int (p.1+(k:Nat))))else none
 | .tupleOf=>qT l λv=>v.list?.bind λl=>if cR l.length then some (.tup l)else none
 | .divmod=>Kb l (pD λa b=>if jO b then some (.tup [.int (a.fdiv b),.int (a.fmod b)])else none)
inductive SK where
 |safe|loose|own|lent|inout|nd
 deriving DecidableEq
structure cA where
 k:SK
 v:V
noncomputable abbrev St:=List (Nat×cA)
noncomputable def St.get (st:St) (x:Nat):Option cA:=st.lookup x
noncomputable def St.put:St->Nat->cA->St
 | [],x,sl=>[(x,sl)]
 |(y,s)::r,x,sl=>if y=x then(x,sl)::r else(y,s)::St.put r x sl
noncomputable def cA.read (sl:cA):V×Bool:=(sl.v,decide (sl.k= .safe)||sl.v.flat)
noncomputable def cA.get (sl:cA):Option (V×Bool):=if sl.k= .nd then none else some sl.read
noncomputable def ai (v:V) (f:Bool):cA:=⟨if f||v.flat then .safe else .loose,v⟩
noncomputable abbrev VB:=V×Bool
noncomputable def St.noOwn (st:St):Bool:=st.all λp=>decide (p.2.k= .safe)||decide (p.2.k= .loose)||decide (p.2.k= .nd)
noncomputable def n5 (st:St):St:=st.map λp=>(p.1,if p.2.k= .loose then⟨.safe,p.2.v⟩else p.2)
noncomputable def qy (st:St):St:=st.map λp=>(p.1,if p.2.k= .nd then p.2 else⟨.safe,p.2.v⟩)
noncomputable def St.noLoose (st:St):Bool:=st.all λp=>decide (p.2.k= .safe)||decide (p.2.k= .nd)
noncomputable def k9 (st:St) (x:Nat) (v:V) (f:Bool):Option St:=
 if v.firm&&(f||v.flat||(st.noOwn&&v.plainL))then some (st.put x (ai v f))else none
noncomputable def pS:St->List Nat->List V->Bool->Option St
 |st,[],[],_=>some st
 |st,x::xs,v::vs,f=>do
  let st' <-k9 st x v f
  pS st' xs vs f
 |_,_,_,_=>none
noncomputable def V.still:V->Bool
 | .range .. | .str _| .tup _=>true
 |_=>false
structure JH where
 ps:List Nat
 kwo:List Nat
 dfl:List (Nat×V)
noncomputable def oP {α:Type}:List Nat->List α->Option (List (Nat×α))
 | [],l=>if l.isEmpty then some []else none
 |x::xs,l=>match l with
  | []=>some []
  |a::as=>(oP xs as).bind λr=>some ((x,a)::r)
noncomputable def rp {α:Type} (names:List Nat):List Nat->List α->List (Nat×α)->Option (List (Nat×α))
 | [],l,acc=>if l.isEmpty then some acc else none
 |x::xs,l,acc=>match l with
  | []=>none
  |a::as=>if names.contains x&&(acc.lookup x).isNone then rp names xs as (acc++ [(x,a)])else none
noncomputable def uc {α:Type} (dfl:List (Nat×α)) (acc:List (Nat×α)):List Nat->Option (List (Nat×α))
 | []=>some []
 |x::xs=>do
  let a <-(match acc.lookup x with
   |some a=>some a
   |none=>dfl.lookup x)
  let r <-uc dfl acc xs
  some ((x,a)::r)
noncomputable def zS {α:Type} (ps kwo:List Nat) (dfl:List (Nat×α)) (args:List α) (kns:List Nat) (kvs:List α):Option (List (Nat×α)):=do
 let p <-oP ps args
 let q <-rp (ps++kwo) kns kvs p
 uc dfl q (ps++kwo)
noncomputable def dO (sg:JH) (args:List VB) (kns:List Nat) (kvs:List VB):Option (List (Nat×VB)):=
 zS sg.ps sg.kwo (sg.dfl.map λp=>(p.1,p.2,true)) args kns kvs
inductive f9 where
 |next|brk|ret (v:V) (f:Bool)
structure dY where
 sg:JH
 body:List PS
structure cY where
 funs:List dY
 init:Nat
 selfX:Nat
 escs:V->Option (List V)
 prim:Nat->List V->Option (Option V)
structure Ev where
 e:St->PE->Option VB
 t:St->PE->Option Bool
 call:V->List VB->List Nat->List VB->Option VB
 proc:V->Nat->List VB->List Nat->List VB->Option V
 s:St->PS->Option (f9×St)
 init:V->Option V
section
variable (r:St->PE->Option VB)
noncomputable def iQ (st:St):List PE->Option (List VB)
 | []=>some []
 |e::es=>do
  let v <-r st e
  let vs <-iQ st es
  some (v::vs)
noncomputable def lx (w:Bool) (st:St):List PE->Option VB
 | []=>none
 |e::es=>if es.isEmpty then r st e else do
  let v <-r st e
  let b <-lf v.1
  if b==w then lx w st es else some v
noncomputable def iR (st:St) (a:V) (ops:List jp) (es:List PE):Option Bool:=match ops with
 | []=>none
 |op::ops=>match es with
  | []=>none
  |e::es=>do
   let b <-r st e
   let c <-nU op a b.1
   if ops.isEmpty&&es.isEmpty then some c else if c then iR st b.1 ops es else some false
end
noncomputable def fT (l:List VB):List V:=l.map (·.1)
noncomputable def fx (l:List VB):Bool:=l.all (·.2)
noncomputable def cL (v:V) (f:Bool):VB:=(v,f||v.flat)
noncomputable def tq (st:St) (tg:Tg) (v:V) (f:Bool):Option St:=match tg with
 | .n x=>if v.firm then some (st.put x (ai v f))else none
 | .t xs=>v.tup?.bind λl=>if l.length=xs.length&&bo l then some ((xs.zip l).foldl (λst p=>st.put p.1 (ai p.2 f)) st)else none
noncomputable def dr (st:St) (tg:Tg) (v:V) (f:Bool):Option St:=match tg with
 | .n x=>k9 st x v f
 | .t xs=>v.tup?.bind λl=>pS st xs l f
noncomputable def Al (t:St->PE->Option Bool) (st:St):List PE->Option Bool
 | []=>some true
 |c::cs=>do
  let b <-t st c
  if b then Al t st cs else some false
noncomputable def lg (t:St->PE->Option Bool) (w:Bool) (st:St):List PE->Option Bool
 | []=>some w
 |c::cs=>do
  let b <-t st c
  if b==w then lg t w st cs else some b
noncomputable def wP {α:Type} (body:α->V->Option α):α->List V->Option α
 |acc,[]=>some acc
 |acc,v::l=>do
  let acc' <-body acc v
  wP body acc' l
noncomputable def Tg.names:Tg->List Nat
 | .n x=>[x]
 | .t xs=>xs
noncomputable def kB (st:St) (tg:Tg):Bool:=tg.names.all λx=>(st.get x).isNone
noncomputable def qv (t:St->PE->Option Bool) (inner:St->List V×Bool->Option (List V×Bool)) (tg:Tg) (ifs:List PE) (f:Bool) (l:List V) (st:St) (acc:List V×Bool):Option (St×(List V×Bool)):=
 wP (λ(q:St×(List V×Bool)) v=>do
   let st' <-tq q.1 tg v f
   let b <-Al t st' ifs
   if b then do
    let acc' <-inner st' q.2
    some (st',acc')
   else some (st',q.2)) (st,acc) l
noncomputable def ti (r:St->PE->Option VB) (t:St->PE->Option Bool) (elt:PE):List (Tg×PE×List PE)->St->List V×Bool->Option (List V×Bool)
 | [],st,acc=>do
  let v <-r st elt
  if v.1.firm&&(v.2||v.1.flat)&&cR (acc.1.length+1)then some (acc.1++ [v.1],true)else none
 |(tg,it,ifs)::gs,st,acc=>if !kB st tg then none else do
  let iv <-r (qy st) it
  let l <-jL it iv.1
  if !iv.2 then none else do
  let q <-qv t (ti r t elt gs) tg ifs st.noLoose l st acc
  some q.2
noncomputable def xL (t:St->Option Bool) (body:St->Option (f9×St)):Nat->St->Option (f9×St)
 |0,_=>none
 |n+1,st=>do
  let b <-t st
  if b then do
   let q <-body st
   match q.1 with
   | .next=>xL t body n q.2
   | .brk=>some (.next,q.2)
   | .ret v f=>some (.ret v f,q.2)
  else some (.next,st)
noncomputable def af (s:St->PS->Option (f9×St)):List PS->St->Option (f9×St)
 | [],st=>some (.next,st)
 |c::cs,st=>do
  let q <-s st c
  match q.1 with
  | .next=>af s cs q.2
  |o=>some (o,q.2)
noncomputable def lT (bind:St->V->Option St) (body:St->Option (f9×St)):List V->St->Option (f9×St)
 | [],st=>some (.next,st)
 |v::l,st=>do
  let st' <-bind st v
  let q <-body st'
  match q.1 with
  | .next=>lT bind body l q.2
  | .brk=>some (.next,q.2)
  | .ret v f=>some (.ret v f,q.2)
noncomputable def be:PE->List Nat
 | .var x=>[x]
 | .tup l=>l.filterMap λe=>match e with| .var x=>some x|_=>none
 |_=>[]
noncomputable def freeze1 (st:St) (x:Nat):St:=match st.get x with
 |some ⟨.own,v⟩=>st.put x ⟨.safe,v⟩
 |_=>st
noncomputable def freeze (st:St) (xs:List Nat):St:=xs.foldl freeze1 st
noncomputable def Gs:Nat:=1000000
noncomputable def ce (st:St) (x:Nat):Option (List V):=(st.get x).bind λsl=>if sl.k= .own\/sl.k= .inout then sl.v.list?.bind λl=>if cR l.length then some l else none else none
noncomputable def fw (st:St) (x:Nat) (l:List V):St:=match st.get x with
 |some ⟨k,_⟩=>st.put x ⟨k,.list l⟩
 |none=>st
noncomputable def Jm (l:List V) (i:Int) (v:V):Option (List V):=
 if i.natAbs<2^62 then some (l.take (yE i l.length)++v::l.drop (yE i l.length))else none
noncomputable def AU:St->List Nat->List Bool->List VB->Option St
 |st,[],[],[]=>some st
 |st,x::xs,o::os,v::vs=>
  if o then v.1.list?.bind λl=>if cj l then AU (st.put x ⟨.own,v.1⟩) xs os vs else none
  else if v.1.flat then AU (st.put x (ai v.1 true)) xs os vs else none
 |_,_,_,_=>none
noncomputable def gK (st:St):List Nat->Option (List (Nat×cA))
 | []=>some []
 |x::xs=>do
  let sl <-st.get x
  let v <-sl.get
  let r <-gK st xs
  some ((x,ai v.1 v.2)::r)
noncomputable def n9:f9->Option VB
 | .ret v f=>some (cL v f)
 | .next=>some (.none,true)
 | .brk=>none
noncomputable def nq:f9->Bool
 | .ret .none _=>true
 | .next=>true
 |_=>false
noncomputable def pF (st:St) (free:List Nat):Bool:=free.all λx=>match st.get x with
 |some sl=>!decide (sl.k= .nd)
 |none=>false
noncomputable def cA.nd? (sl:cA):Option (List Nat×List PS×List Nat):=if sl.k= .nd then sl.v.nd? else none
noncomputable def St.listAt (st:St) (x:Nat) (k:SK):Option (List V):=(st.get x).bind λsl=>if sl.k=k then sl.v.list? else none
noncomputable def St.instAt (st:St) (x:Nat):Option (List Nat×List V):=(st.get x).bind λsl=>if sl.k= .inout then sl.v.inst? else none
noncomputable def PE.var?:PE->Option Nat
 | .var x=>some x
 |_=>ey
noncomputable def kh (st:St):Option Nat->Option (Nat×V)
 |some x=>(st.get x).bind λsl=>if sl.k= .own then some (x,sl.v)else none
 |none=>none
noncomputable def wX (W:cY) (r:Ev) (f:V) (args:List VB) (kns:List Nat) (kvs:List VB):Option VB:=match f with
 | .fn k=>match W.prim k (fT args)with
  |some res=>if kns.isEmpty then res.map λv=>(v,v.flat)else none
  |none=>do
   let d <-W.funs[k]?
   let bs <-dO d.sg args kns kvs
   let q <-af r.s d.body (bs.map λp=>(p.1,ai p.2.1 p.2.2))
   n9 q.1
 | .clo ps body caps _ vs=>
  if kns.isEmpty&&decide (args.length=ps.length)&&bo vs then
   r.e ((ps.zip args).map (λp=>(p.1,ai p.2.1 p.2.2))++(caps.zip vs).map λp=>(p.1,⟨.loose,p.2⟩)) body
  else none
 |_=>none
noncomputable def uf (a b:V):Option VB:=match a with
 | .list l=>b.int?.bind λi=>(nP l).bind λns=>some (.int (ns.count i),true)
 | .str s=>b.str?.bind λt=>if t.length=1 then some (.int (s.cps.toList.count (t.cps.toList.headD 0)),true)else none
 |_=>none
noncomputable def rQ (r:St->PE->Option VB) (st:St):Option PE->Option (Option V)
 |some p=>(r st p).bind λv=>some (some v.1)
 |none=>some none
noncomputable def qb (r:Ev) (elt:PE) (free:List Nat) (st:St):List (Tg×PE×List PE)->Option VB
 | []=>none
 |(tg,it,ifs)::gs=>if kB (st.filter λp=>free.contains p.1) tg&&pF st free then do
   let iv <-r.e st it
   let l <-jL it iv.1
   let q <-qv r.t (ti r.e r.t elt gs) tg ifs iv.2 l (st.filter λp=>free.contains p.1) ([],true)
   some (.list q.2.1,true)
  else none
noncomputable def step (W:cY) (r:Ev):Ev where
 e st
  | .cnone=>some (.none,true)
  | .cbool b=>some (.bool b,true)
  | .cint i=>some (.int i,true)
  | .cstr s=>some (.str s,true)
  | .var x=>(st.get x).bind cA.get
  | .fn k=>some (.fn k,true)
  | .bin op a b=>do
   let x <-r.e st a
   let y <-r.e st b
   let v <-lz op x.1 y.1
   some (cL v (x.2&&y.2))
  | .neg a=>do
   let x <-r.e st a
   let i <-x.1.int?
   some (.int (-i),true)
  | .inv a=>do
   let x <-r.e st a
   let i <-x.1.int?
   some (.int (eV i),true)
  | .not a=>do
   let x <-r.e st a
   let b <-lf x.1
   some (.bool (!b),true)
  | .and l=>lx r.e true st l
  | .or l=>lx r.e false st l
  | .cmp a ops l=>do
   let x <-r.e st a
   let b <-iR r.e st x.1 ops l
   some (.bool b,true)
  | .ite c a b=>do
   let t <-r.t st c
   if t then r.e st a else r.e st b
  | .call f args kns kvs=>do
   let g <-r.e st f
   let as <-iQ r.e st args
   let ks <-iQ r.e st kvs
   r.call g.1 as kns ks
  | .bi b args=>do
   let as <-iQ r.e st args
   let v <-Ij b (fT as)
   some (cL v (fx as))
  | .range args=>do
   let as <-iQ r.e st args
   let v <-xX (fT as)
   some (v,true)
  | .rev a=>do
   let x <-r.e st a
   let l <-x.1.list?
   some (.rev l,x.2)
  | .sortK a key=>do
   let x <-r.e st a
   let k <-r.e st key
   let l <-x.1.list?
   if Go k.1 then do
    let ks <-b9 (λv=>(r.call k.1 [(v,x.2||v.flat)] [] []).map (·.1)) l
    if cj ks then do
     let l' <-lF ks l
     some (.list l',x.2)
    else none
   else none
  | .bitlen a=>do
   let x <-r.e st a
   let i <-x.1.int?
   some (.int (jQ i),true)
  | .count o a=>do
   let x <-r.e st o
   let y <-r.e st a
   uf x.1 y.1
  | .join o a=>do
   let x <-r.e st o
   let y <-r.e st a
   let s <-x.1.str?
   let l <-y.1.list?
   let ss <-k7 l
   if s.length=0&&cR ((ss.map je).sum)then some (.str ⟨(ss.flatMap λt=>t.cps.toList).toArray⟩,true)else none
  | .mk a=>do
   let x <-r.e st a
   let v <-r.init x.1
   some (v,true)
  | .umeth o k args=>do
   let x <-r.e st o
   let as <-iQ r.e st args
   let _ <-x.1.inst?
   r.call (.fn k) (x::as) [] []
  | .attr o i=>do
   let x <-r.e st o
   let p <-x.1.inst?
   let v <-(p.1.zip p.2).lookup i
   some (cL v x.2)
  | .sub o i=>do
   let x <-r.e st o
   let y <-r.e st i
   let v <-vT x.1 y.1
   some (cL v x.2)
  | .slice o lo hi=>do
   let x <-r.e st o
   let a <-rQ r.e st lo
   let b <-rQ r.e st hi
   let v <-jG x.1 a b
   some (cL v x.2)
  | .rslice o=>do
   let x <-r.e st o
   let l <-x.1.list?
   if cR l.length then some (.list l.reverse,x.2)else none
  | .list l=>do
   let as <-iQ r.e st l
   if bo (fT as)&&cR as.length then some (.list (fT as),fx as)else none
  | .tup l=>do
   let as <-iQ r.e st l
   if bo (fT as)&&cR as.length then some (cL (.tup (fT as)) (fx as))else none
  | .comp elt gens free=>qb r elt free st gens
  | .lam ps body caps d=>do
   let vs <-b9 (λx=>(st.get x).bind cA.get) caps
   if bo (fT vs)then some (.clo ps body caps d (fT vs),fx vs)else none
  | .callN f args=>do
   let sl <-st.get f
   let as <-iQ r.e st args
   let p <-sl.nd?
   if as.length=p.1.length&&bo (fT as)then do
    let cs <-gK st p.2.2
    let q <-af r.s p.2.1 ((p.1.zip as).map (λp=>(p.1,ai p.2.1 p.2.2))++cs++ [(f,sl)])
    n9 q.1
   else none
 t st
  | .not a=>do
   let b <-r.t st a
   some (!b)
  | .and l=>lg r.t true st l
  | .or l=>lg r.t false st l
  | .ite c a b=>do
   let t <-r.t st c
   if t then r.t st a else r.t st b
  | .cmp a ops l=>do
   let x <-r.e st a
   iR r.e st x.1 ops l
  |e=>do
   let x <-r.e st e
   lf x.1
 call f args kns kvs:=if args.all (·.1.okV)&&kvs.all (·.1.okV)then wX W r f args kns kvs else none
 proc f io args kns kvs:=if args.all (·.1.okV)&&kvs.all (·.1.okV)then do
   let k <-f.fn?
   let d <-W.funs[k]?
   let bs <-dO d.sg args kns kvs
   let x <-d.sg.ps[io]?
   let q <-af r.s d.body (bs.map λp=>(p.1,if p.1=x then⟨.inout,p.2.1⟩else ai p.2.1 p.2.2))
   if nq q.1 then(q.2.get x).bind λsl=>if sl.k= .inout then some sl.v else none else none
  else none
 s st
  | .assign x own e=>do
   let v <-r.e (freeze st (be e)) e
   if own then do
    let l <-v.1.list?
    if cj l&&freshPE e then some (.next,(freeze st (be e)).put x ⟨.own,.list l⟩)else none
   else do
    let st' <-k9 (freeze st (be e)) x v.1 v.2
    some (.next,st')
  | .assignT xs e=>do
   let v <-r.e st e
   let l <-v.1.tup?
   let st' <-pS st xs l v.2
   some (.next,st')
  | .assignO xs own es=>if(own.zip es).all λp=>!p.1||freshPE p.2 then do
    let vs <-iQ r.e st es
    let st' <-AU st xs own vs
    some (.next,st')
   else none
  | .assignM xs e=>do
   let v <-r.e st e
   if v.1.flat then some (.next,xs.foldl (λst x=>st.put x (ai v.1 true)) st)else none
  | .setItem x i e=>do
   let v <-r.e st e
   let j <-r.e st i
   let l <-ce st x
   let j <-j.1.int?
   if(v.2||v.1.flat)&&v.1.firm&&decide (0<=j)&&decide (j<l.length)then some (.next,fw st x (l.set j.toNat v.1))else none
  | .setAttr x i e=>do
   let v <-r.e st e
   let p <-st.instAt x
   if v.1.flat&&!p.1.contains i then some (.next,st.put x ⟨.inout,.inst (p.1++ [i]) (p.2++ [v.1])⟩)else none
  | .aug x op e=>do
   let sl <-st.get x
   let v <-r.e st e
   let a <-sl.v.int?
   let b <-v.1.int?
   let w <-lz op (.int a) (.int b)
   some (.next,st.put x (ai w true))
  | .append x e=>do
   let l <-ce (freeze st (be e)) x
   let v <-r.e (freeze st (be e)) e
   if(v.2||v.1.flat)&&v.1.firm&&cR (l.length+1)then some (.next,fw (freeze st (be e)) x (l++ [v.1]))else none
  | .insert x i e=>do
   let l <-ce st x
   let j <-r.e st i
   let v <-r.e st e
   let j <-j.1.int?
   let l' <-Jm l j v.1
   if(v.2||v.1.flat)&&v.1.firm&&cR (l.length+1)then some (.next,fw st x l')else none
  | .reverse x=>do
   let l <-ce st x
   some (.next,fw st x l.reverse)
  | .callS f io args kns kvs=>do
   let g <-r.e st f
   let a <-args[io]?
   let x <-a.var?
   let l <-ce st x
   let as <-iQ r.e (n5 st) args
   let ks <-iQ r.e (n5 st) kvs
   if cj l&&fx (as.eraseIdx io)&&fx ks then do
    let v <-r.proc g.1 io as kns ks
    let l' <-v.list?
    if cj l' then some (.next,fw st x l')else none
   else none
  | .ifS c a b=>do
   let t <-r.t st c
   if t then af r.s a st else af r.s b st
  | .whileS c b=>xL (λst=>r.t st c) (λst=>af r.s b st) Gs st
  | .forS tg it b=>do
   let iv <-r.e st it
   let l <-jL it iv.1
   match kh st it.var? with
   |some p=>do
    let q <-lT (λst v=>dr st tg v iv.2) (λst=>af r.s b st) l (st.put p.1 ⟨.lent,p.2⟩)
    let sl <-q.2.get p.1
    if sl.k= .lent then some (q.1,q.2.put p.1 ⟨.own,sl.v⟩)else none
   |none=>if iv.2||(iv.1.still&&cj l)||(st.noOwn&&gu l)then lT (λst v=>dr st tg v iv.2) (λst=>af r.s b st) l st else none
  | .forEsc xs it b=>do
   let iv <-r.e st it
   let l <-W.escs iv.1
   lT (λst v=>dr st (.t xs) v true) (λst=>af r.s b st) l st
  | .ret e=>do
   let v <-r.e (freeze st (be e)) e
   if v.1.firm then some (.ret v.1 v.2,freeze st (be e))else none
  | .ret0=>some (.ret .none true,st)
  | .fail=>none
  | .brk=>some (.brk,st)
  | .callNS f io args=>do
   let sl <-st.get f
   let l <-ce st io
   let as <-iQ r.e st args
   let p <-sl.nd?
   if as.length=p.1.length&&bo (fT as)&&fx as&&!p.1.contains io&&p.2.2.contains io&&cj l then do
    let cs <-gK st (p.2.2.filter (·!=io))
    if cs.all λp=>p.2.v.flat then do
     let q <-af r.s p.2.1 ((p.1.zip as).map (λp=>(p.1,ai p.2.1 p.2.2))++(io,⟨.inout,.list l⟩)::cs++ [(f,sl)])
     if nq q.1 then do
      let l' <-q.2.listAt io .inout
      if cj l' then some (.next,fw st io l')else none
     else none
    else none
   else none
  | .defS x ps body caps d=>some (.next,st.put x ⟨.nd,.ndef ps body caps d⟩)
 init a:=if a.flat then do
   let d <-W.funs[W.init]?
   let bs <-dO d.sg [(.inst [] [],true),(a,true)] [] []
   let q <-af r.s d.body (bs.map λp=>(p.1,if p.1=W.selfX then⟨.inout,p.2.1⟩else ai p.2.1 p.2.2))
   if nq q.1 then(do
    let p <-q.2.instAt W.selfX
    some (.inst p.1 p.2))
   else none
  else none
noncomputable def ev (W:cY):Nat->Ev
 |0=>⟨λ_ _=>none,λ_ _=>none,λ_ _ _ _=>none,λ_ _ _ _ _=>none,λ_ _=>none,λ_=>none⟩
 |n+1=>step W (ev W n)
end
section
section
variable {α β:Type} {Z:Prop}
theorem ac {o:Option α} {f:α->Option β} {b:β} (h:o.bind f=some b) (k: ∀a,o=some a->f a=some b->Z):Z:=match o,h with
 |some a,h=>k a rfl h
theorem bD {α β γ:Type} {a:Option α} {b:α->Option β} {f:α->β->Option γ} {r:γ} (h:(a.bind (λx=>(b x).bind (f x)))=some r) (k: ∀x,a=some x-> ∀y,b x=some y->f x y=some r->Z):Z:=
 ac h λx h1 h=>ac h λy h2 h=>k x h1 y h2 h
theorem dX {α β γ δ:Type} {a:Option α} {b:α->Option β} {c:α->β->Option γ} {f:α->β->γ->Option δ} {r:δ} (h:(a.bind (λx=>(b x).bind (λy=>(c x y).bind (f x y))))=some r) (k: ∀x,a=some x-> ∀y,b x=some y-> ∀z,c x y=some z->f x y z=some r->Z):Z:=
 ac h λx h1 h=>bD h λy h2 z h3 h=>k x h1 y h2 z h3 h
theorem yJ {α β γ δ ε:Type} {a:Option α} {b:α->Option β} {c:α->β->Option γ} {d:α->β->γ->Option δ} {f:α->β->γ->δ->Option ε} {r:ε} (h:(a.bind (λx=>(b x).bind (λy=>(c x y).bind (λz=>(d x y z).bind (f x y z)))))=some r) (k: ∀x,a=some x-> ∀y,b x=some y-> ∀z,c x y=some z-> ∀u,d x y z=some u->f x y z u=some r->Z):Z:=
 ac h λx h1 h=>dX h λy h2 z h3 u h4 h=>k x h1 y h2 z h3 u h4 h
theorem u5 {o:Option α} {f:α->β} {b:β} (h:o.map f=some b) (k: ∀a,o=some a->f a=b->Z):Z:=match o,h with
 |some a,h=>k a rfl (aC h)
theorem aj {c:Prop} [i:Decidable c] {a:Option β} {b:β} (h:(if c then a else none)=some b) (k:c->a=some b->Z):Z:=match i,h with
 | .isTrue hc,h=>k hc h
theorem wB {c:Prop} [i:Decidable c] {a:Option β} {b:β} (h:(if c then none else a)=some b) (k: ¬c->a=some b->Z):Z:=match i,h with
 | .isFalse hc,h=>k hc h
theorem fF {c:Prop} [i:Decidable c] {a d:Option β} {b:β} (h:(if c then a else d)=some b) (k:c->a=some b->Z) (k': ¬c->d=some b->Z):Z:=match i,h with
 | .isTrue hc,h=>k hc h
 | .isFalse hc,h=>k' hc h
theorem cI {b:β} (h:none=some b):Z:=nomatch h
theorem gC {a b:Bool} (h:(a&&b)=true) (k:a=true->b=true->Z):Z:=match a,b,h with
 |true,true,_=>k rfl rfl
theorem mh {a b c:Bool} (h:(a&&b&&c)=true) (k:a=true->b=true->c=true->Z):Z:=gC h λh h3=>gC h λh1 h2=>k h1 h2 h3
theorem oQ {a b c d:Bool} (h:(a&&b&&c&&d)=true) (k:a=true->b=true->c=true->d=true->Z):Z:=gC h λh h4=>mh h λh1 h2 h3=>k h1 h2 h3 h4
theorem bb {a b:β} {C:β->Prop} (h:some a=some b) (k:C b):C a:=aC h▸k
theorem lG {a b:β} {C:β->Prop} (h:some a=some b) (k:C a):C b:=aC h▸k
theorem rN {a a':α} {b b':β} {C:α->β->Prop} (h:some (a,b)=some (a',b')) (k:C a' b'):C a b:=bb (C:=λp=>C p.1 p.2) h k
theorem uY {l:List α} {f:α->Option β} {b:β} (h:qT l f=some b) (k: ∀x,l=[x]->f x=some b->Z):Z:=match l,h with
 | [x],h=>k x rfl h
theorem Ki {l:List α} {f:α->α->Option β} {b:β} (h:Kb l f=some b) (k: ∀x y,l=[x,y]->f x y=some b->Z):Z:=match l,h with
 | [x,y],h=>k x y rfl h
theorem V.int_of {v:V} {i:Int} (h:v.int?=some i):v= .int i:=by cases v<;>first|exact cI h|exact congrArg V.int (aC h)
theorem iP {v:V} {f:Int->Option β} {b:β} (h:v.int?.bind f=some b) (k: ∀i,v= .int i->f i=some b->Z):Z:=ac h λi h1 h=>k i (V.int_of h1) h
theorem V.str_of {v:V} {i:aN} (h:v.str?=some i):v= .str i:=by cases v<;>first|exact cI h|exact congrArg V.str (aC h)
theorem vV {v:V} {f:aN->Option β} {b:β} (h:v.str?.bind f=some b) (k: ∀i,v= .str i->f i=some b->Z):Z:=ac h λi h1 h=>k i (V.str_of h1) h
theorem V.list_of {v:V} {i:(List V)} (h:v.list?=some i):v= .list i:=by cases v<;>first|exact cI h|exact congrArg V.list (aC h)
theorem j6 {v:V} {f:(List V)->Option β} {b:β} (h:v.list?.bind f=some b) (k: ∀i,v= .list i->f i=some b->Z):Z:=ac h λi h1 h=>k i (V.list_of h1) h
theorem V.tup_of {v:V} {i:(List V)} (h:v.tup?=some i):v= .tup i:=by cases v<;>first|exact cI h|exact congrArg V.tup (aC h)
theorem zy {v:V} {f:(List V)->Option β} {b:β} (h:v.tup?.bind f=some b) (k: ∀i,v= .tup i->f i=some b->Z):Z:=ac h λi h1 h=>k i (V.tup_of h1) h
theorem V.inst_of {v:V} {i:(List Nat×List V)} (h:v.inst?=some i):v= .inst i.1 i.2:=by cases v<;>first|exact cI h|exact congrArg (λi:(List Nat×List V)=>V.inst i.1 i.2) (aC h)
theorem Gr {v:V} {f:(List Nat×List V)->Option β} {b:β} (h:v.inst?.bind f=some b) (k: ∀i j,v= .inst i j->f (i,j)=some b->Z):Z:=ac h λi h1 h=>k i.1 i.2 (V.inst_of h1) h
theorem V.fn_of {v:V} {i:Nat} (h:v.fn?=some i):v= .fn i:=by cases v<;>first|exact cI h|exact congrArg V.fn (aC h)
theorem MB {v:V} {f:Nat->Option β} {b:β} (h:v.fn?.bind f=some b) (k: ∀i,v= .fn i->f i=some b->Z):Z:=ac h λi h1 h=>k i (V.fn_of h1) h
theorem V.range_of {v:V} {i:(Int×Nat)} (h:v.range?=some i):v= .range i.1 i.2:=by cases v<;>first|exact cI h|exact congrArg (λi:(Int×Nat)=>V.range i.1 i.2) (aC h)
theorem Hb {v:V} {f:(Int×Nat)->Option β} {b:β} (h:v.range?.bind f=some b) (k: ∀i j,v= .range i j->f (i,j)=some b->Z):Z:=ac h λi h1 h=>k i.1 i.2 (V.range_of h1) h
theorem cA.eqs {sl:cA} {a:SK} {b:V} (h:sl.k=a) (h':sl.v=b):some sl=some ⟨a,b⟩:=by cases sl;cases h;cases h';rfl
theorem V.nd_of {v:V} {t:List Nat×List PS×List Nat} (h:v.nd?=some t): ∃d,v= .ndef t.1 t.2.1 t.2.2 d:=by cases v<;>first|exact cI h|exact⟨_,congrArg (λi:List Nat×List PS×List Nat=>V.ndef i.1 i.2.1 i.2.2 _) (aC h)⟩
theorem cA.nd_of {sl:cA} {t:List Nat×List PS×List Nat} (h:sl.nd?=some t): ∃d,sl=⟨.nd,.ndef t.1 t.2.1 t.2.2 d⟩:=
 aj h λhk h=>(V.nd_of h).elim λd e=>⟨d,aC (cA.eqs hk e)⟩
theorem Lu {sl:cA} {f:List Nat×List PS×List Nat->Option β} {b:β} (h:sl.nd?.bind f=some b) (k: ∀ps body caps d,sl=⟨.nd,.ndef ps body caps d⟩->f (ps,body,caps)=some b->Z):Z:=ac h λt h1 h=>(cA.nd_of h1).elim λd e=>k t.1 t.2.1 t.2.2 d e h
theorem PE.var_of {p:PE} {x:Nat} (h:p.var?=some x):p= .var x:=by cases p<;>first|exact cI h|exact congrArg PE.var (aC h)
theorem Kh {p:PE} {f:Nat->Option β} {b:β} (h:p.var?.bind f=some b) (k: ∀x,p= .var x->f x=some b->Z):Z:=ac h λx h1 h=>k x (PE.var_of h1) h
theorem F6 {st:St} {x:Nat} {sk:SK} {f:List V->Option β} {b:β} (h:(st.listAt x sk).bind f=some b) (k: ∀l,st.get x=some ⟨sk,.list l⟩->f l=some b->Z):Z:=
 ac h λl h1 h=>ac h1 λ_ h2 h1=>aj h1 λh3 h1=>k l (h2.trans (cA.eqs h3 (V.list_of h1))) h
theorem zI {st:St} {x:Nat} {f:List Nat×List V->Option β} {b:β} (h:(st.instAt x).bind f=some b) (k: ∀ks vs,st.get x=some ⟨.inout,.inst ks vs⟩->f (ks,vs)=some b->Z):Z:=
 ac h λl h1 h=>ac h1 λ_ h2 h1=>aj h1 λh3 h1=>k l.1 l.2 (h2.trans (cA.eqs h3 (V.inst_of h1))) h
theorem Hk {st:St} {o:Option Nat} {x:Nat} {v:V} (h:kh st o=some (x,v)) (k:o=some x->st.get x=some ⟨.own,v⟩->Z):Z:=match o,h with
 |some y,h=>ac h λsl h1 h=>aj h λh2 h=>match sl,h with
  |⟨sk,w⟩,h=>k (by clear h1 k;cases h;rfl) (by cases h;clear h k;clear h;clear h;cases h2;exact h1)
theorem Gi {f:α->Option β} {a:α} {b:β} (h:f a=some b):b9 f [a]=some [b]:=by rw[b9,h];rfl
theorem Jb {f:α->Option β} {a a':α} {b b':β} (h:f a=some b) (h':f a'=some b'):b9 f [a,a']=some [b,b']:=by rw[b9,h,Gi h'];rfl
def sQ (p:α->Prop) (o:Option α):Prop:= ∀a,o=some a->p a
theorem sQ.bind {p:β->Prop} {o:Option α} {f:α->Option β} (h: ∀a,sQ p (f a)):sQ p (o.bind f):=λb e=>ac e λa _ e=>h a b e
theorem sQ.some {p:α->Prop} {a:α} (h:p a):sQ p (some a):=λ_ e=>aC e▸h
theorem sQ.none {p:α->Prop}:sQ p none:=λ_ e=>cI e
theorem sQ.ite {p:α->Prop} {c:Prop} [i:Decidable c] {a b:Option α} (h:sQ p a) (h':sQ p b):sQ p (if c then a else b):=match i with
 | .isTrue _=>h
 | .isFalse _=>h'
theorem sQ.one {p:β->Prop} {l:List α} {f:α->Option β} (h: ∀a,sQ p (f a)):sQ p (qT l f):=λb e=>uY e λa _ e=>h a b e
end
section
variable {κ γ δ:Type} [BEq κ] [LawfulBEq κ]
theorem zC {x y:κ} {v:γ} {l:List (κ×γ)} {M:Option γ->Prop} (h1:x=y->M (some v)) (h2:x≠y->M (l.lookup x)):M (((y,v)::l).lookup x):=by
 rw[aM]
 cases h:x==y with
 |true=>exact h1 (fQ h)
 |false=>exact h2 (beq_eq_false_iff_ne.mp h)
theorem dJ {l:List (κ×γ)} {x:κ} {c:γ}:l.lookup x=some c->(x,c)∈l:=by
 induction l with
 |nil=>exact λh=>cI h
 |cons p l ih=>exact zC (M:=λo=>o=some c->(x,c)∈(p.1,p.2)::l) (λe h=>by rw[e,aC h];exact .head _) λ_ h=> .tail _ (ih h)
theorem A9 {l:List (κ×γ)} {x:κ} (h:x∉l.map (·.1)):l.lookup x=none:=by
 cases e:l.lookup x with
 |none=>rfl
 |some c=>exact(h (aP.mpr ⟨_,dJ e,rfl⟩)).elim
theorem lq {l:List (κ×γ)} {x:κ} {c:γ}:(l.map (·.1)).Nodup->(x,c)∈l->l.lookup x=some c:=by
 induction l with
 |nil=>exact λ_ h=>(aU h).elim
 |cons p l ih=>
  exact λnd h=>zC (M:=λo=>o=some c) (y:=p.1) (v:=p.2) (λe=>(aO.mp h).elim (λq=>q▸rfl) λq=>((ba.mp nd).1 (aP.mpr ⟨_,q,e⟩)).elim)
   λne=>ih (ba.mp nd).2 ((aO.mp h).elim (λq=>(ne (congrArg Prod.fst q)).elim) id)
theorem vp {xs:List κ} {x:κ} {y:γ}: ∀{ys:List γ} {i:Nat},xs.Nodup->xs[i]?=some x->ys[i]?=some y->(xs.zip ys).lookup x=some y:=by
 induction xs with
 |nil=>exact λ_ h=>cI h
 |cons a xs ih=>
  intro ys i nd hx hy
  cases ys with
  |nil=>exact cI hy
  |cons b ys=>cases i with
   |zero=>exact zC (M:=λo=>o=some y) (λ_=>hy) λne=>(ne (aC hx).symm).elim
   |succ i=>exact zC (M:=λo=>o=some y) (λe=>((ba.mp nd).1 (e▸az (show xs[i]?=some x from hx))).elim) λ_=>ih (ba.mp nd).2 hx hy
omit [LawfulBEq κ]in
theorem vq (f:γ->δ) (x:κ) (l:List (κ×γ)):(l.map λp=>(p.1,f p.2)).lookup x=(l.lookup x).map f:=by
 induction l with
 |nil=>rfl
 |cons p l ih=>
  rw[au,aM,aM]
  cases x==p.1 with
  |true=>rfl
  |false=>exact ih
end
theorem eW {k:Nat} {l:List V}:fC k l=true↔ ∀v∈l,v.lim k=true:=by
 induction l with
 |nil=>exact⟨λ_ _ h=>(aU h).elim,λ_=>rfl⟩
 |cons v l ih=>exact⟨λh=>gC h λh1 h2 _ hv=>(aO.mp hv).elim (λe=>e▸h1) (ih.mp h2 _),λh=>aJ.mpr ⟨h _ (.head _),ih.mpr λv hv=>h v (.tail _ hv)⟩⟩
theorem oA {k:Nat} {l l':List V} (h: ∀v∈l',v∈l) (e:fC k l=true):fC k l'=true:=eW.mpr λv hv=>eW.mp e v (h v hv)
theorem DK {k:Nat} {a b:List V} (h:fC k a=true) (h':fC k b=true):fC k (a++b)=true:=eW.mpr λv hv=>(cJ.mp hv).elim (eW.mp h v) (eW.mp h' v)
theorem vw {k:Nat} {l:List V}:fC k l=true->fC k l.reverse=true:=oA λ_=>ef.mp
theorem fk (v:V):v.flat=true->v.firm=true:=by
 refine V.rec (motive_1:=λv=>v.flat=true->v.firm=true) (motive_2:=λl=>cj l=true->bo l=true) ?_ ?_ ?_ ?_ ?_ ?_ ?_ ?_ ?_ ?_ ?_ ?_ ?_ ?_ v
 ·exact λh=>h
 ·exact λ_ h=>h
 ·exact λ_ h=>h
 ·exact λ_ h=>h
 ·exact λ_ ih=>ih
 ·exact λ_ _ h=>aL h
 ·exact λ_ h=>h
 ·exact λ_ _ _ _ _ _ h=>aL h
 ·exact λ_ _ _ _ h=>aL h
 ·exact λ_ _ _ h=>aL h
 ·exact λ_ _ h=>aL h
 ·exact λ_ _ h=>aL h
 ·exact λh=>h
 ·exact λv l hv hl h=>gC h λh1 h2=>aJ.mpr ⟨hv h1,hl h2⟩
theorem zP {α:Type} {l:List α} {i:Nat} {C:Prop} (h:i<l.length) (k: ∀x,l[i]?=some x->l.drop i=x::l.drop (i+1)->C):C:=k _ (aW h) (eF h)
theorem EQ {α β:Type} {f:α->β} {l:List α} {i:Nat} {x:α} (h:l[i]?=some x):(l.map f).drop i=f x::(l.map f).drop (i+1):=
 (al.mp h).elim λh1 e=>(eF ((aR ..).symm▸h1)).trans (congrArg (· ::_) ((List.getElem_map ..).trans (congrArg f e)))
theorem LJ {β:Type} {l:List (Nat×β)} {k i:Nat} {a b:β} {Z:Prop} (h:((k,a)::l).lookup i=some b) (k1:i=k->a=b->Z) (k2:l.lookup i=some b->Z):Z:=by
 rw[aM]at h
 cases hx:i==k with
 |true=>rw[hx]at h;exact k1 (fQ hx) (aC h)
 |false=>rw[hx]at h;exact k2 h
theorem HM {i j n:Nat} (h:i+j=n) (h':i<n):j-1<j/\i+1+(j-1)=n:=by
 cases j with
 |zero=>exact absurd h (am h')
 |succ m=>exact⟨gF m,(vH i m).trans h⟩
theorem Ll {i j n:Nat} (h:i+j=n) (h': ¬i<n):i=n:=s9 (h▸bZ i j) (i5 h')
theorem Mj {i j n:Nat} (h:i+j=n) (h':n-i=0):i=n:=Ll h (uC.mpr (Nat.le_of_sub_eq_zero h'))
theorem Mi {n i m:Nat} (h:n-i=m+1):i<n/\n-1-(m+1-1)=i/\n-(i+1)=m:=by
 have q:=Nat.lt_of_sub_eq_succ h
 cases(Nat.sub_eq_iff_eq_add (jZ q)).mp h
 exact⟨q,((Nat.sub_sub _ 1 m).trans (congrArg _ (Nat.add_comm 1 m))).trans (bL ..),(Nat.sub_sub ..).symm.trans (congrArg (· -1) h)⟩
end
section
structure TE where
 nm:List aN
 fns:List (aN×Nat)
 an:List aN
 cls:aN
 cat:List (aN×aN)
 meths:List (aN×Nat)
 esc:aN
 /-- nested defs;the list that they turn -/
 nds:List aN
 nio:aN
 gi:List (aN×Int)
 /-- may it make lambdas;nested defs -/
 lam:Bool
 dfs:Bool
noncomputable def Jn (l:List aN) (x:aN):Nat->Option Nat:=λi=>match l with
 | []=>none
 |y::r=>if y==x then some i else Jn r x (i+1)
noncomputable def TE.id (T:TE) (x:aN):Option Nat:=Jn T.nm x 0
noncomputable def TE.at (T:TE) (x:aN):Option Nat:=Jn T.an x 0
noncomputable def lK (sc:bE) (x:aN):Bool:=match sc.names.lookup x with
 |some .local|some .cell|some .free=>true
 |_=>false
noncomputable def kC (sc:bE) (x:aN):Bool:=match sc.names.lookup x with
 |some .cell|some .free=>true
 |_=>false
noncomputable def eY (sc:bE) (x:aN):Bool:=match sc.names.lookup x with
 |some .globalImplicit=>true
 |_=>false
noncomputable def pZ (sc:bE) (x:aN):Bool:=match sc.names.lookup x with
 |some .local=>true
 |_=>false
noncomputable def dD (x:aN):Bool:=!(x==("__debug__" :aN))&&!(x==("__classdict__" :aN))
noncomputable def Cs:Expr->Bool
 | .Set .. =>false
 |_=>true
noncomputable def ld (l:List aN):Bool:=match l with
 | []=>true
 |x::r=>!r.contains x&&ld r
noncomputable def eX (sc:bE) (x:aN):Bool:=match sc.names.lookup x with
 |some .local|some .cell=>true
 |_=>false
noncomputable def A4:Expr->aN
 | .Name x _=>x
 |_=>bz
noncomputable def lJ:Expr->Option aN
 | .Name x _=>some x
 |_=>none
theorem tS {β:Type} {Z:Prop} {e:Expr} {f:aN->Option β} {b:β} (h:(lJ e).bind f=some b) (k: ∀x p,e= .Name x p->f x=some b->Z):Z:=by cases e<;>first|exact cI h|exact k _ _ rfl h
noncomputable def dW (T:TE) (sc:bE) (elts:List Expr):Option (List Nat):=
 b9 (λe=>(lJ e).bind λx=>if eX sc x then T.id x else none) elts
noncomputable def mX (T:TE) (sc:bE) (e:Expr):Option Tg:=match e with
 | .Name x _=>if eX sc x then(T.id x).bind λi=>some (.n i)else none
 | .Tuple elts _ _=>if ld (elts.map A4)then(dW T sc elts).bind λxs=>some (.t xs)else none
 |_=>none
noncomputable def hA (T:TE) (sc inner:bE):Option (List Nat):=
 b9 (λx=>if kC sc x then T.id x else none) ((inner.names.filter λp=>p.2== .free).map (·.1))
noncomputable def fN (a:jF):Bool:=a.posonlyargs.isEmpty&&a.vararg.isNone&&a.kwonlyargs.isEmpty&&a.kw_defaults.isEmpty&&a.kwarg.isNone&&a.defaults.isEmpty&&a.args.all (·.annotation.isNone)
noncomputable def nK (sc:bE):Bool:=sc.names.all λp=>p.2 != .cell
noncomputable def KS (f:aN) (n:Nat):Option Bi:=
 if f== "len"then(if n=1 then some .len else none)
 else if f== "max"then(if n=2 then some .max2 else if n=1 then some .maxL else none)
 else if f== "sorted"then(if n=1 then some .sorted else none)
 else if f== "list"then(if n=1 then some .listOf else none)
 else if f== "tuple"then(if n=1 then some .tupleOf else none)
 else if f== "divmod"then(if n=2 then some .divmod else none)
 else none
noncomputable def DX:Expr->Bool
 | .Constant (.int i) _ _=>i==1
 |_=>false
noncomputable def Fh:Expr->Bool
 | .UnaryOp .USub e _=>DX e
 |_=>false
noncomputable def iK:Expr->Bool
 | .Call _ _ _ _=>false
 |_=>true
noncomputable def TE.isCls (T:TE) (sc:bE):Expr->Bool
 | .Name x _=>eY sc x&&x==T.cls
 |_=>false
noncomputable def ku (sc:bE):Expr->Bool
 | .Name x _=>eY sc x
 |_=>false
noncomputable def xb (lo hi st:Option Expr):Bool:=lo.isNone&&hi.isNone&&(match st with
 |some e=>Fh e
 |none=>false)
noncomputable def Lr:Const->Option PE
 | .none=>some .cnone
 | .bool b=>some (.cbool b)
 | .int i=>some (.cint i)
 | .str s=>some (.cstr s)
 |_=>none
noncomputable def jM (T:TE) (x:aN):Option PE:=match T.fns.lookup x with
 |some k=>some (.fn k)
 |none=>(T.gi.lookup x).bind λi=>some (.cint i)
noncomputable def JK (a:PE) (op:UnaryOp):Option PE:=match op with
 | .USub=>some (.neg a)
 | .Invert=>some (.inv a)
 | .Not=>some (.not a)
 | .UAdd=>none
noncomputable def E9 (l:List PE) (op:BoolOp):PE:=match op with
 | .And=> .and l
 | .Or=> .or l
noncomputable def ox (T:TE) (f:aN) (as:List PE):Option PE:=
 if f==T.cls then qT as λa=>some (.mk a)
 else if f== "range"then some (.range as)
 else if f== "reversed"then qT as λa=>some (.rev a)
 else(KS f as.length).bind λb=>some (.bi b as)
noncomputable def rC (f:aN) (kws:List cQ) (as kvs:List PE):Option PE:=
 qT kvs λk=>qT as λa=>if f== "sorted" &&(kws.map (·.arg)==[some ("key" :aN)])then some (.sortK a k)else none
noncomputable def kE (T:TE) (f:aN) (kws:List cQ) (as:List PE) (kns:List Nat) (kvs:List PE):Option PE:=match T.fns.lookup f with
 |some k=>some (.call (.fn k) as kns kvs)
 |none=>if kvs.isEmpty then ox T f as else rC f kws as kvs
noncomputable def jI (T:TE) (sc:bE) (f:aN) (nargs:Nat) (kws:List cQ) (as:List PE) (kns:List Nat) (kvs:List PE):Option PE:=
 if dD f&&decide (nargs<=8)&&decide (kws.length<=1)then
  if lK sc f then(if T.nds.contains f then(if kws.isEmpty then(T.id f).bind λi=>some (.callN i as)else none)else(T.id f).bind λi=>some (.call (.var i) as kns kvs))
  else if eY sc f then kE T f kws as kns kvs else none
 else none
noncomputable def vn (T:TE) (m:aN) (a:PE) (as:List PE):Option PE:=
 if m== "bit_length"then(if as.isEmpty then some (.bitlen a)else none)
 else if m== "count"then qT as λx=>some (.count a x)
 else if m== "join"then qT as λx=>some (.join a x)
 else(T.meths.lookup m).bind λk=>some (.umeth a k as)
noncomputable def Ah (T:TE) (k:cQ):Option Nat:=k.arg.bind T.id
noncomputable def pC (T:TE) (sc:bE) (a:Arg):Option Nat:=if pZ sc a.arg then T.id a.arg else none
noncomputable def HU (f:Expr->Option PE) (o:Option Expr):Option (Option PE):=match o with
 |some x=>(f x).bind λy=>some (some y)
 |none=>some none
noncomputable def AB (T:TE) (fi fo:Expr->Option PE) (sc:bE) (g:cE):Option (Tg×PE×List PE):=if g.is_async==0 then do
  let t <-mX T sc g.target
  let i <-fo g.iter
  let cs <-b9 fi g.ifs
  some (t,i,cs)
 else none
noncomputable def cH (T:TE):Nat->bE->Expr->Option PE
 |0,_,_=>none
 |n+1,sc,e=>match e with
  | .Constant c _ _=>Lr c
  | .Name x _=>if dD x then(if lK sc x then(T.id x).bind λi=>some (.var i)else if eY sc x then jM T x else none)else none
  | .BinOp l op r _=>do
   let a <-cH T n sc l
   let b <-cH T n sc r
   some (.bin op a b)
  | .UnaryOp op x _=>do
   let a <-cH T n sc x
   JK a op
  | .BoolOp op vs _=>do
   let l <-b9 (cH T n sc) vs
   some (E9 l op)
  | .Compare l ops cs _=>if cs.all Cs then do
    let a <-cH T n sc l
    let b <-b9 (cH T n sc) cs
    some (.cmp a ops b)
   else none
  | .IfExp c a b _=>do
   let c <-cH T n sc c
   let a <-cH T n sc a
   let b <-cH T n sc b
   some (.ite c a b)
  | .Call fe args kws pos=>match fe with
   | .Name f _=>do
    let as <-b9 (cH T n sc) args
    let kns <-b9 (Ah T) kws
    let kvs <-b9 (λ(k:cQ)=>cH T n sc k.value) kws
    jI T sc f args.length kws as kns kvs
   | .Attribute o m ap=>if ap.endLine==pos.line&&decide (args.length<=8)&&iK o&&kws.isEmpty then do
     let a <-cH T n sc o
     let as <-b9 (cH T n sc) args
     vn T m a as
    else none
   |_=>none
  | .Attribute o a _=>if T.isCls sc o then(T.cat.lookup a).bind λs=>some (.cstr s)
   else if iK o&&!ku sc o then do
    let p <-cH T n sc o
    let i <-T.at a
    some (.attr p i)
   else none
  | .Subscript o s _=>match s with
   | .Slice lo hi st _=>if xb lo hi st then do
     let p <-cH T n sc o
     some (.rslice p)
    else if st.isNone then do
     let a <-cH T n sc o
     let l <-HU (cH T n sc) lo
     let h <-HU (cH T n sc) hi
     some (.slice a l h)
    else none
   |s=>do
    let a <-cH T n sc o
    let i <-cH T n sc s
    some (.sub a i)
  | .List l _=>do
   let as <-b9 (cH T n sc) l
   some (.list as)
  | .Tuple l _ _=>do
   let as <-b9 (cH T n sc) l
   some (.tup as)
  | .ListComp elt gens scope _=>match gens with
   | []=>none
   |g::rest=>if scope.kind== .function&&ld (scope.names.map (·.1))then do
     let free <-hA T sc scope
     let el <-cH T n scope elt
     let g' <-AB T (cH T n scope) (cH T n sc) scope g
     let r <-b9 (AB T (cH T n scope) (cH T n scope) scope) rest
     some (.comp el (g'::r) free)
    else none
  | .Lambda args body scope _=>if T.lam&&fN args&&scope.kind== .function&&nK scope&&ld (scope.names.map (·.1))&&!scope.isGenerator&&!scope.isCoroutine then do
    let ps <-b9 (pC T scope) args.args
    let caps <-hA T sc scope
    let b <-cH {T with lam:=false} n scope body
    some (.lam ps b caps ⟨args,body,scope⟩)
   else none
  |_=>none
noncomputable def xh:Expr->Bool
 | .List .. =>true
 | .ListComp .. =>true
 | .BinOp .. =>true
 | .Call (.Name f _) _ _ _=>f== "list"
 |_=>false
noncomputable def lj (o:Option PS):PS:=o.getD .fail
noncomputable def w9 (T:TE) (ow:List Nat) (n:Nat) (sc:bE) (xs:List Nat) (v:Expr):Option PS:=match v with
  | .Tuple es _ _=>if es.all (fR 8)&&!es.all (hS 8)then none else if(xs.zip es).any (λp=>ow.contains p.1&&xh p.2)&&decide (xs.length=es.length)then do
    let es' <-b9 (cH T n sc) es
    some (.assignO xs ((xs.zip es).map λp=>ow.contains p.1&&xh p.2) es')
   else do
    let e <-cH T n sc v
    some (.assignT xs e)
  |_=>do
   let e <-cH T n sc v
   some (.assignT xs e)
noncomputable def HL (T:TE) (ow:List Nat) (n:Nat) (sc:bE) (v t:Expr):Option PS:=match t with
 | .Name x _=>if eX sc x then do
   let i <-T.id x
   let e <-cH T n sc v
   some (.assign i (ow.contains i&&xh v) e)
  else none
 | .Tuple elts _ _=>do
  let xs <-dW T sc elts
  if ld (elts.map A4)then w9 T ow n sc xs v else none
 | .Subscript o i _=>(lJ o).bind λx=>if lK sc x then do
   let y <-T.id x
   let j <-cH T n sc i
   let e <-cH T n sc v
   some (.setItem y j e)
  else none
 | .Attribute o a _=>(lJ o).bind λx=>if lK sc x then do
   let y <-T.id x
   let j <-T.at a
   let e <-cH T n sc v
   some (.setAttr y j e)
  else none
 |_=>none
noncomputable def vr (m:aN) (y:Nat) (as:List PE):Option PS:=match as with
 | []=>if m== "reverse"then some (.reverse y)else none
 |a::r=>match r with
  | []=>if m== "append"then some (.append y a)else none
  |b::r=>match r with
   | []=>if m== "insert"then some (.insert y a b)else none
   |_::_=>none
noncomputable def Ih (T:TE) (e:PE):Option PS:=match e with
 | .call g as kns kvs=>some (.callS g 0 as kns kvs)
 | .callN g as=>(T.id T.nio).bind λi=>some (.callNS g i as)
 |_=>none
noncomputable def yi (T:TE) (n:Nat) (sc:bE) (v:Expr):Option PS:=match v with
 | .Call f args kws p=>match f with
  | .Attribute o m ap=>(lJ o).bind λx=>if lK sc x&&ap.endLine==p.line&&kws.isEmpty then do
    let y <-T.id x
    let as <-b9 (cH T n sc) args
    vr m y as
   else none
  | .Name _ _=>do
   let e <-cH T n sc v
   Ih T e
  |_=>none
 |_=>none
noncomputable def IY (T:TE) (it:Expr):Option Expr:=match it with
 | .Call f args kws _=>if kws.isEmpty then(lJ f).bind λx=>if x==T.esc then qT args some else none else none
 |_=>none
noncomputable def CF (T:TE) (n:Nat) (sc:bE) (t:Tg) (it:Expr) (b:List PS):Option PS:=match IY T it with
 |some a=>if eY sc T.esc then do
   let i <-cH T n sc a
   let xs <-t.t?
   some (.forEsc xs i b)
  else none
 |none=>do
  let i <-cH T n sc it
  some (.forS t i b)
noncomputable def G4 (T:TE) (ow:List Nat):Nat->bE->ed->Option PS
 |0,_,_=>none
 |n+1,sc,st=>match st with
  | .Assign ts v _=>match ts with
   | []=>none
   |t::r=>if r.isEmpty then HL T ow n sc v t else do
    let xs <-dW T sc (t::r)
    let e <-cH T n sc v
    some (.assignM xs e)
  | .AugAssign t op v _=>(lJ t).bind λx=>if pZ sc x then do
    let y <-T.id x
    let e <-cH T n sc v
    some (.aug y op e)
   else none
  | .Expr v _=>yi T n sc v
  | .If c a b _=>do
   let c <-cH T n sc c
   some (.ifS c (a.map λs=>lj (G4 T ow n sc s)) (b.map λs=>lj (G4 T ow n sc s)))
  | .While c a l _=>if l.isEmpty then do
    let c <-cH T n sc c
    some (.whileS c (a.map λs=>lj (G4 T ow n sc s)))
   else none
  | .For tg it b l _=>if l.isEmpty then do
    let t <-mX T sc tg
    CF T n sc t it (b.map λs=>lj (G4 T ow n sc s))
   else none
  | .Return v _=>match v with
   |some v=>do
    let e <-cH T n sc v
    some (.ret e)
   |none=>some .ret0
  | .Break _=>some .brk
  | .FunctionDef name args body decs ret tps scope tsc bind _=>if decs.isEmpty&&ret.isNone&&tps.isEmpty&&tsc.isNone&&(T.dfs&&fN args&&scope.kind== .function&&nK scope&&ld (scope.names.map (·.1))&&!scope.isGenerator&&!scope.isCoroutine&&kC sc bind&&eX sc bind&&((scope.names.filter λp=>p.2== .free).all λp=>eX sc p.1)&&(bind==name)&&T.nds.contains name)then do
    let x <-T.id bind
    let ps <-b9 (pC T scope) args.args
    let caps <-hA T sc scope
    if caps.contains x then some (.defS x ps (body.map λs=>lj (G4 {T with lam:=false,dfs:=false} [] n scope s)) (caps.filter (·!=x)) ⟨name,args,body,scope⟩)else none
   else none
  |_=>none
noncomputable def qx (T:TE) (ow:List Nat) (n:Nat) (sc:bE) (l:List ed):List PS:=l.map λs=>lj (G4 T ow n sc s)
end
section
open PySem.Spec PySem.Calls PyProof.Rows PySem.W
structure Gl where
 prog:g5
 w:dz
 mg:aN->Option aA
 mb:aN->Option aA
 tabs:List (aG×aG×aN)
 W:cY
 fa:List aG
 /-- as it was at the start,but for the tables -/
 h0:ah
 h0t: ∀q∈tabs,h0.get? q.2.1=none
 /-- the class:its address -/
 cls:aG
 T:TE
noncomputable def Gl.n (G:Gl) (x:Nat):aN:=(G.T.nm[x]?).getD bz
noncomputable def Gl.atn (G:Gl) (x:Nat):aN:=(G.T.an[x]?).getD bz
noncomputable def Gl.Tl (G:Gl) (k:Nat):TE:={G.T with lam:=k==1,dfs:=k==2}
noncomputable def Gl.tb (G:Gl):List aG:=G.tabs.map (·.2.1)
def qg (G:Gl) (h h':ah):Prop:= ∀b o,h.get? b=some o->b∉G.tb->h'.get? b=some o
def fy (G:Gl) (h:ah):Prop:= ∀b o,G.h0.get? b=some o->h.get? b=some o
theorem fy.ext {G:Gl} {h h':ah} (x:fy G h) (k:qg G h h'):fy G h':=λb o e=>k b o (x b o e) λhm=>by
 obtain⟨q,hq,rfl⟩:=aP.mp hm
 rw[G.h0t q hq]at e
 cases e
theorem qg.refl {G:Gl} (h:ah):qg G h h:=λ_ _ e _=>e
theorem qg.trans {G:Gl} {a b c:ah} (x:qg G a b) (y:qg G b c):qg G a c:=λd o e n=>y d o (x d o e n) n
theorem qg.of {G:Gl} {h h':ah} (k: ∀b o,h.get? b=some o->h'.get? b=some o):qg G h h':=λb o e _=>k b o e
def aY (G:Gl) (h:ah):Prop:= ∀q∈G.tabs,CodeHd h q.1 q.2.1/\ ∃ps:Array aA,h.get? q.2.1=some (mo ps)/\TriplesOk ps.toList/\
 ∀pos cv,uA pos ps.toList=some cv->h.CodeRec cv q.2.2
theorem aY.keeps {G:Gl} {h h':ah} (T:aY G h) (k: ∀b o,h.get? b=some o->h'.get? b=some o):aY G h':=λq hq=>by
 obtain⟨a,ps,b,c,d⟩:=T q hq
 exact⟨a.keeps k,ps,k _ _ b,c,λpos cv e=>(d pos cv e).keeps k⟩
theorem aY.off {G:Gl} {h:ah} (T:aY G h) {a:aG} {o:db} (e:h.get? a=some o) (hc:o.cls≠ .none):a∉G.tb:=λhm=>by
 obtain⟨q,hq,rfl⟩:=aP.mp hm
 obtain⟨_,ps,b,_⟩:=T q hq
 rw[e]at b
 clear e;cases b
 exact hc rfl
theorem aY.off' {G:Gl} {h:ah} (T:aY G h) {a:aG} {o:db} (e:h.get? a=some o) (hc: ∀vs,o.data≠ .fields vs):a∉G.tb:=λhm=>by
 obtain⟨q,hq,rfl⟩:=aP.mp hm
 obtain⟨_,ps,b,_⟩:=T q hq
 rw[e]at b
 clear e;cases b
 exact hc _ rfl
structure cD (G:Gl) (s s':aD):Prop where
 ext:qg G s.heap s'.heap
 tabs:aY G s'.heap
 os:s'.os=s.os
 gens: ∃more,s'.gens=s.gens++more
 bare:jU s.gens->jU s'.gens
theorem cD.refl {G:Gl} {s:aD} (T:aY G s.heap):cD G s s:=⟨.refl _,T,rfl,⟨#[],by simp⟩,id⟩
theorem cD.trans {G:Gl} {a b c:aD} (x:cD G a b) (y:cD G b c):cD G a c:=by
 obtain⟨m,hm⟩:=x.gens
 obtain⟨m',hm'⟩:=y.gens
 exact⟨x.ext.trans y.ext,y.tabs,y.os.trans x.os,⟨m++m',by rw[hm',hm,g6]⟩,λz=>y.bare (x.bare z)⟩
theorem cD.tok {G:Gl} {s:aD} (T:aY G s.heap) (t:Nat):cD G s {s with toks:=t}:=⟨.refl _,T,rfl,⟨#[],by simp⟩,id⟩
theorem cD.of {G:Gl} {s:aD} (T:aY G s.heap) {h':ah} {t:Nat} (k: ∀b o,s.heap.get? b=some o->h'.get? b=some o):cD G s {s with heap:=h',toks:=t}:=
 ⟨.of k,T.keeps k,rfl,⟨#[],by simp⟩,id⟩
theorem cD.push {G:Gl} {s:aD} (T:aY G s.heap) (o:db) (t:Nat):cD G s {s with heap:=s.heap.push o,toks:=t}:=
 .of T (λ_ _ e=>aH o e)
noncomputable def gz (C d:aG):db:={cls:= .ref C,dict:=some d,data:= .plain}
structure HR (T:TE) (ps:List Nat) (body:PE) (caps:List Nat) (d:yU):Prop where
 plain:fN d.margs=true
 kind:d.mscope.kind= .function
 noc:nK d.mscope=true
 uq:ld (d.mscope.names.map (·.1))=true
 gen:d.mscope.isGenerator=false
 cor:d.mscope.isCoroutine=false
 par:b9 (pC T d.mscope) d.margs.args=some ps
 free: ∃sc,hA T sc d.mscope=some caps
 body: ∃n,cH T n d.mscope d.mbody=some body
def uy (G:Gl) (h:ah) (ps:List Nat) (body:PE) (caps:List Nat) (d:yU) (R:List (aN×aG)->Prop) (v:aA):Prop:=HR (G.Tl 0) ps body caps d/\ ∃a name qual clos pm c' ctv,v= .ref a/\h.get? a=some (kla_obj name qual d.margs d.mbody d.mscope clos pm c' ctv)/\h.CodeRec (.ref c') qual/\R clos
def JA (h:ah) (lo:Int) (n:Nat) (v:aA):Prop:= ∃r b t u w,v= .ref r/\IsRange h r lo b 1 t u w/\n=(b-lo).toNat/\ -(2^62)<lo/\lo<2^62/\ -(2^62)<b/\b<2^62
theorem uy.ref {G:Gl} {h:ah} {ps:List Nat} {body:PE} {caps:List Nat} {d:yU} {R:List (aN×aG)->Prop} {v:aA} (r:uy G h ps body caps d R v): ∃a,v= .ref a:=r.2.imp λ_ r=>obE61 r λ_ _ _ _ _ _ r=>r.1
theorem uy.mv {G:Gl} {h h':ah} {ps:List Nat} {body:PE} {caps:List Nat} {d:yU} {R R':List (aN×aG)->Prop} {v:aA} (r:uy G h ps body caps d R v) (k: ∀a o,h.get? a=some o->(∃f,o.data= .func f)->o.cls≠ .none->h'.get? a=some o) (kc: ∀cv q,h.CodeRec cv q->h'.CodeRec cv q) (kr: ∀c,R c->R' c):uy G h' ps body caps d R' v:=
 ⟨r.1,nk λcq=>by
  refine obE74 r.2 λa n q' c pm c' ct e o cr r=>?_
  exact cq ⟨a,n,q',c,pm,c',ct,e,k _ _ o ⟨_,rfl⟩ (λh=>aq h),kc _ _ cr,kr _ r⟩⟩
mutual
def VR (G:Gl) (P:aG->Prop) (h:ah):V->aA->Prop
 | .none,v=>v= .none
 | .bool b,v=>v= .bool b
 | .int i,v=> ∃t,v= .int i t
 | .str x,v=> ∃t,v= .str x t
 | .tup l,v=> ∃a items,v= .ref a/\h.IsTuple a items/\bh G P h l items.toList
 | .list l,v=> ∃a items,v= .ref a/\P a/\h.PlainList a items/\bh G P h l items.toList
 | .fn k,v=> ∃a,G.fa[k]?=some a/\v= .ref a
 | .clo ps body caps d l,v=>uy G h ps body caps d (λclos=>Bb G P h clos caps l) v
 | .inst ks l,v=> ∃a d m,v= .ref a/\h.get? a=some (gz G.cls d)/\P d/\h.Ns d m/\(∀x,(∀k∈ks,G.atn k≠x)->m x=none)/\lN G P h m ks l
 | .ndef _ _ _ _,_=>False
 | .range lo n,v=>JA h lo n v
 | .rev l,v=> ∃I a items,v= .ref I/\P a/\h.IsRevIter I a ((items.size:Int)-1)/\h.PlainList a items/\bh G P h l items.toList
def bh (G:Gl) (P:aG->Prop) (h:ah):List V->List aA->Prop
 | [],vs=>vs=[]
 |x::l,vs=> ∃y ys,vs=y::ys/\VR G P h x y/\bh G P h l ys
def Bb (G:Gl) (P:aG->Prop) (h:ah) (clos:List (aN×aG)):List Nat->List V->Prop
 |caps,[]=>caps=[]
 |caps,x::l=> ∃k ks c y,caps=k::ks/\clos.lookup (G.n k)=some c/\P c/\h.IsCell c (some y)/\VR G P h x y/\Bb G P h clos ks l
def lN (G:Gl) (P:aG->Prop) (h:ah) (m:aN->Option aA):List Nat->List V->Prop
 |ks,[]=>ks=[]
 |ks,x::l=> ∃k ks' y,ks=k::ks'/\m (G.atn k)=some y/\VR G P h x y/\lN G P h m ks' l
end
section
variable {G:Gl} {P P':aG->Prop} {h h':ah}
def rt (h h':ah):Prop:= ∀b o,h.get? b=some o->(o.cls≠ .none\/ ∃es n,o.data= .dict es n)->h'.get? b=some o
theorem qg.all (TO:aY G h) (k:qg G h h'):rt h h':=λb o e hc=>k b o e λhm=>by
 obtain⟨q,hq,rfl⟩:=aP.mp hm
 obtain⟨_,ps,b,_⟩:=TO q hq
 rw[e]at b
 clear e;cases b
 rcases hc with hc|⟨_,_,hc⟩
 ·exact hc rfl
 ·cases hc
end
noncomputable abbrev Gl.M (G:Gl):i6:=cK G.prog G.w
def Pm (f:Bool) (P:aG->Prop):aG->Prop:=λa=>f=true->P a
def Kg:aG->Prop:=λ_=>True
theorem Pm.of {P:aG->Prop} {f g:Bool} (h:g=true->f=true): ∀a,Pm f P a->Pm g P a:=λ_ x e=>x (h e)
def fz (P:aG->Prop) (h:ah):Prop:= ∀a,h.get? a=none->P a
theorem fz.new {P:aG->Prop} {h:ah} (x:fz P h):P h.objs.size:=x _ (bA (bC _))
theorem fz.pm {P:aG->Prop} {h:ah} (x:fz P h) (f:Bool):fz (Pm f P) h:=λa e _=>x a e
theorem cD.gone {G:Gl} {s s':aD} (T:aY G s.heap) (y:cD G s s') {a:aG} (e:s'.heap.get? a=none):s.heap.get? a=none:=by
 cases h:s.heap.get? a with
 |none=>rfl
 |some o=>
  by_cases hm:a∈G.tb
  ·clear h;obtain⟨q,hq,rfl⟩:=aP.mp hm
   obtain⟨_,ps,b,_⟩:=y.tabs q hq
   rw[b]at e;cases e
  ·rw[y.ext _ _ h hm]at e;cases e
theorem fz.up {G:Gl} {P:aG->Prop} {s s':aD} (x:fz P s.heap) (T:aY G s.heap) (y:cD G s s'):fz P s'.heap:=λa e=>x a (y.gone T e)
def fU (G:Gl) (P:aG->Prop) (s:aD) (x:V) (Q:aA->aD->Prop):Prop:= ∀v s',cD G s s'->VR G P s'.heap x v->Q v s'
section
variable {G:Gl} {P:aG->Prop} {h h':ah}
theorem rt.ns (k:rt h h') {a:aG} {m:aN->Option aA} (x:h.Ns a m):h'.Ns a m:=by
 refine obE33 x λo es ep e hd r=>?_
 exact⟨o,es,ep,k _ _ e (.inr ⟨es,ep,hd⟩),hd,r⟩
theorem FU {l:List aA} {q:aN} {t:Nat} (ht:TriplesOk l) (e:l[1]?=some (.str q t)):False:=by
 cases l with
 |nil=>exact cI e
 |cons a l=>cases l with
  |nil=>exact cI e
  |cons b l=>
   cases(aC e:b=_)
   clear e;cases a<;>exact ht
theorem aY.code (T:aY G h) {cd:aA} {q:aN} (x:h.CodeRec cd q) (k:qg G h h'):h'.CodeRec cd q:=by
 refine obE44 x λc o vs t e ho hd hv=>?_
 refine⟨c,o,vs,t,e,k _ _ ho λhm=>?_,hd,hv⟩
 clear e;obtain⟨r,hr,rfl⟩:=aP.mp hm
 obtain⟨_,ps,b,ht,_⟩:=T r hr
 replace b:=(ho)▸b
 cases b
 clear ho;cases hd
 have hv':vs.toList[1]?=some (vC q t):=by simpa using hv
 revert hv' ht
 generalize vs.toList=l
 intro ht hv'
 exact FU ht hv'
end
def dF (o:db):Prop:=o.cls≠ .none/\o.cls≠ .type "code" /\ ∀vs,o.data= .fields vs-> ∀q t,vs[1]?≠some (.str q t)
theorem dF.list (items:Array aA) (n:Nat):dF {cls:= .type "list",data:= .seq items n}:=⟨(λh=>aq h),by simp,(λ_=>aI)⟩
theorem tj {h h':ah} {a t:aG} {ps:Array aA} (x:CodeHd h a t) (hP:h.get? t=some (mo ps)) (k: ∀o vs,h.get? a=some o->o.cls= .type "code" ->o.data= .fields vs->h'.get? a=some o):CodeHd h' a t:=by
 have e:h.get? a=h'.get? a:=(x.tab hP).1.elim λo r=>r.elim λvs r=>r.1.trans (k o vs r.1 r.2.1 r.2.2.1).symm
 unfold CodeHd at x⊢
 rw[<-e];exact x
theorem aY.mv {G:Gl} {h h':ah} (T:aY G h) (k1: ∀a o vs,h.get? a=some o->o.cls= .type "code" ->o.data= .fields vs->h'.get? a=some o) (k2: ∀a ps,h.get? a=some (mo ps)->h'.get? a=some (mo ps)) (k3: ∀cv q,h.CodeRec cv q->h'.CodeRec cv q):aY G h':=λq hq=>
 (T q hq).elim λc r=>r.elim λps r=>⟨tj c r.1 (k1 _),ps,k2 _ _ r.1,r.2.1,λpos cv e=>k3 _ _ (r.2.2 pos cv e)⟩
theorem ix.but {h h':ah} {D:aG} {o:db} (hD:h.get? D=some o) (hn: ∀vs,o.data= .fields vs-> ∀q t,vs[1]?≠some (.str q t)) (k: ∀b o,b≠D->h.get? b=some o->h'.get? b=some o) {cv:aA} {q:aN} (x:h.CodeRec cv q):h'.CodeRec cv q:=by
 refine obE44 x λc o2 vs t e ho hd hv=>?_
 exact⟨c,o2,vs,t,e,k c o2 (λhc=>hn vs ((congrArg ik (aC (hD.symm.trans (hc▸ho)))).trans hd) q t hv) ho,hd,hv⟩
theorem nJ {h:ah} {D a:aG} {o o':db} (hD:h.get? D=some o) (e:h.get? a=some o') (n:o≠o'):a≠D:=λq=>n (aC (hD.symm.trans (q▸e)))
theorem aY.but {G:Gl} {h h':ah} (T:aY G h) {D:aG} {o:db} (hD:h.get? D=some o) (hn:dF o) (k: ∀b o,b≠D->h.get? b=some o->h'.get? b=some o):aY G h':=
 T.mv (λ_ _ _ e hc _=>k _ _ (nJ hD e λq=>hn.2.1 (q▸hc)) e) (λ_ _ e=>k _ _ (nJ hD e λq=>hn.1 (congrArg Obj.cls q)) e) λ_ _=>ix.but hD hn.2.2 k
theorem cD.but {G:Gl} {s s1:aD} (x:cD G s s1) {D:aG} {o:db} (hD:s1.heap.get? D=some o) (hn:dF o) (hf:s.heap.get? D=none) {h':ah} {t:Nat} (k: ∀b o,b≠D->s1.heap.get? b=some o->h'.get? b=some o):cD G s {s1 with heap:=h',toks:=t}:=
 ⟨λb o e ht=>k _ _ (λh=>by rw[h,hf]at e;cases e) (x.ext b o e ht),x.tabs.but hD hn k,x.os,x.gens,x.bare⟩
def ca (o:db):Prop:=(o.cls= .type "list" /\ ∃xs n,o.data= .seq xs n)\/(∃v,o.data= .cell v)\/ ∃es n,o.data= .dict es n
theorem ca.list (items:Array aA) (n:Nat):ca {cls:= .type "list",data:= .seq items n}:= .inl ⟨rfl,_,_,rfl⟩
section
variable {o:db}
theorem ca.tup (x:ca o) (hc:o.cls= .type "tuple") {xs:Array aA} {n:Nat} (hd:o.data= .seq xs n):False:=by
 rcases x with⟨h,_⟩|⟨_,h⟩|⟨_,_,h⟩
 ·rw[hc]at h;simp at h
 ·rw[hd]at h;cases h
 ·rw[hd]at h;cases h
theorem ca.func (x:ca o) {f:cV} (hd:o.data= .func f):False:=by
 rcases x with⟨_,_,_,h⟩|⟨_,h⟩|⟨_,_,h⟩<;>(rw[hd]at h;cases h)
theorem ca.fields (x:ca o) {f:Array aA} (hd:o.data= .fields f):False:=by
 rcases x with⟨_,_,_,h⟩|⟨_,h⟩|⟨_,_,h⟩<;>(rw[hd]at h;cases h)
theorem ca.plain (x:ca o) (hd:o.data= .plain):False:=by
 rcases x with⟨_,_,_,h⟩|⟨_,h⟩|⟨_,_,h⟩<;>(rw[hd]at h;cases h)
end
structure Mp (G:Gl) (b cl:Bool) (P P':aG->Prop) (h h':ah):Prop where
 list: ∀a i,P a->h.PlainList a i->P' a/\h'.PlainList a i
 ns: ∀a m (ks:List Nat),P a->h.Ns a m->(∀x,(∀k∈ks,G.atn k≠x)->m x=none)->P' a/\h'.Ns a m
 cell:cl=true-> ∀a v,P a->h.IsCell a v->P' a/\h'.IsCell a v
 hard: ∀a o,h.get? a=some o-> ¬ca o->o.cls≠ .none->(b=true\/ ∀vs,o.data≠ .fields vs)->h'.get? a=some o
 code: ∀cv q,b=true->h.CodeRec cv q->h'.CodeRec cv q
 bc:b=true->cl=true
section
variable {G:Gl} {b cl:Bool} {P P':aG->Prop} {h h':ah}
theorem Mp.at_ (soft: ∀a o,P a->h.get? a=some o->ca o->(cl=true\/ ∀w,o.data≠ .cell w)->P' a/\h'.get? a=some o) (hard: ∀a o,h.get? a=some o-> ¬ca o->o.cls≠ .none->(b=true\/ ∀vs,o.data≠ .fields vs)->h'.get? a=some o) (code: ∀cv q,b=true->h.CodeRec cv q->h'.CodeRec cv q) (bc:b=true->cl=true):Mp G b cl P P' h h':=
 ⟨λa i p x=>x.elim λn ho=>have q:=soft a _ p ho (.list _ _) (.inr (λ_=>aI));⟨q.1,n,q.2⟩,
  λa m _ p x _=>obE31 x λo es ep r=>have q:=soft a o p r.1 (.inr (.inr ⟨es,ep,r.2.1⟩)) (.inr λ_ e=>aI (r.2.1.symm.trans e));⟨q.1,o,es,ep,q.2,r.2⟩,
  λhc a v p x=>x.elim λo r=>have q:=soft a o p r.1 (.inr (.inl ⟨_,r.2⟩)) (.inl hc);⟨q.1,o,q.2,r.2⟩,hard,code,bc⟩
structure sP (G:Gl) (cl:Bool) (P P':aG->Prop) (h h':ah) (l:List V):Prop where
 s: ∀vs,bh G P h l vs->bh G P' h' l vs
 c:cl=true-> ∀c ks,Bb G P h c ks l->Bb G P' h' c ks l
 k: ∀m ks,lN G P h m ks l->lN G P' h' m ks l
theorem Mp.tup (m:Mp G b cl P P' h h') {a:aG} {i:Array aA} (x:h.IsTuple a i):h'.IsTuple a i:=by
 obtain⟨o,ho,hc,n,hd⟩:=x
 exact⟨o,m.hard a o ho (λs=>s.tup hc hd) (λe=>aq (hc.symm.trans e)) (.inr λ_ e=>aI (hd.symm.trans e)),hc,n,hd⟩
theorem sP.nil:sP G cl P P' h h' []:=⟨λ_ e=>e,λ_ _ _ e=>e,λ_ _ e=>e⟩
theorem sP.cons {x:V} {l:List V} (hx: ∀v,VR G P h x v->VR G P' h' x v) (hl:sP G cl P P' h h' l) (m:Mp G b cl P P' h h'):sP G cl P P' h h' (x::l):=by
 refine⟨λvs r=>?_,λhc c ks r=>?_,λf ks r=>?_⟩
 ·refine obE23 r λy ys e p q=>?_
  exact⟨y,ys,e,hx y p,hl.s ys q⟩
 ·refine nk λcq=>?_
  refine obE46 r λk ks a y e e2 p q r1 r=>?_
  refine cq ?_
  exact⟨k,ks,a,y,e,e2,(m.cell hc _ _ p q).1,(m.cell hc _ _ p q).2,hx y r1,hl.c hc c ks r⟩
 ·refine nk λcq=>?_
  refine obE34 r λk ks y e e2 r1 r=>?_
  refine cq ?_
  exact⟨k,ks,y,e,e2,hx y r1,hl.k f ks r⟩
theorem Ky {p:Prop} (h:b=true\/p) (n: ¬p):b=true:=h.elim id λq=>(n q).elim
theorem VR.all (m:Mp G b cl P P' h h') (x:V):(b=true\/x.firm=true)-> ∀v,VR G P h x v->VR G P' h' x v:=by
 refine V.rec (motive_1:=λx=>(b=true\/x.firm=true)-> ∀v,VR G P h x v->VR G P' h' x v) (motive_2:=λl=>(b=true\/bo l=true)->sP G cl P P' h h' l) ?_ ?_ ?_ ?_ ?_ ?_ ?_ ?_ ?_ ?_ ?_ ?_ ?_ ?_ x
 ·exact λ_ _ e=>e
 ·exact λ_ _ _ e=>e
 ·exact λ_ _ _ e=>e
 ·exact λ_ _ _ e=>e
 ·intro l ih hb v r
  refine obE23 r λa i e t r=>?_
  exact⟨a,i,e,m.tup t,(ih hb).s _ r⟩
 ·intro l ih hb v r
  refine obE24 r λa i e p t r=>?_
  exact⟨a,i,e,(m.list _ _ p t).1,(m.list _ _ p t).2,(ih hb).s _ r⟩
 ·exact λ_ _ _ e=>e
 ·intro ps body caps d l ih hb v r
  have hb':=Ky hb bR
  exact uy.mv r (λa o e hf hc=>m.hard a o e (λs=>hf.elim λ_ hf=>s.func hf) hc (.inl hb')) (λcv q=>m.code cv q hb') λ_=>(ih (.inl hb')).c (m.bc hb') _ _
 ·exact λ_ _ _ _ _ _ e=>e
 ·intro ks l ih hb v r
  refine nk λcq=>?_
  refine obE36 r λa d f e o p n z r=>?_
  refine cq ?_
  exact⟨a,d,f,e,m.hard _ _ o (λs=>s.plain rfl) (λh=>aq h) (.inr (λ_=>aI)),(m.ns _ _ ks p n z).1,(m.ns _ _ ks p n z).2,z,(ih hb).k _ _ r⟩
 ·intro lo n hb v r
  refine obE53 r λr b t u w e hr z=>?_
  exact⟨r,b,t,u,w,e,m.hard _ _ hr (λs=>s.fields rfl) (λh=>aq h) (.inl (Ky hb bR)),z⟩
 ·intro l ih hb v r
  refine obE31 r λI a i r=>?_
  obtain⟨e,p,⟨o',ho',hc',hd'⟩,t,r⟩:=r
  have hb':=Ky hb bR
  exact⟨I,a,i,e,(m.list _ _ p t).1,⟨o',m.hard _ _ ho' (λs=>s.fields hd') (λe=>aq (hc'.symm.trans e)) (.inl hb'),hc',hd'⟩,(m.list _ _ p t).2,(ih (.inl hb')).s _ r⟩
 ·exact λ_=> .nil
 ·exact λx l hx hl hb=> .cons (hx (hb.imp id λe=>(aJ.mp e).1)) (hl (hb.imp id λe=>(aJ.mp e).2)) m
theorem sP.all (m:Mp G b cl P P' h h') (l:List V):(b=true\/bo l=true)->sP G cl P P' h h' l:=by
 induction l with
 |nil=>exact λ_=> .nil
 |cons x l ih=>exact λhb=> .cons (VR.all m x (hb.imp id λe=>(aJ.mp e).1)) (ih (hb.imp id λe=>(aJ.mp e).2)) m
theorem Mp.mono (hp: ∀a,P a->P' a):Mp G true true P P' h h:= .at_ (λa _ p e _ _=>⟨hp a p,e⟩) (λ_ _ e _ _ _=>e) (λ_ _ _ e=>e) id
theorem VR.mono (hp: ∀a,P a->P' a) (x:V) (v:aA):VR G P h x v->VR G P' h x v:=VR.all (.mono hp) x (.inl rfl) v
theorem bh.mono (hp: ∀a,P a->P' a) (x:List V) (v:List aA):bh G P h x v->bh G P' h x v:=(sP.all (.mono hp) x (.inl rfl)).s v
theorem lN.mono (hp: ∀a,P a->P' a) (m:aN->Option aA) (ks:List Nat) (x:List V):lN G P h m ks x->lN G P' h m ks x:=(sP.all (.mono hp) x (.inl rfl)).k m ks
theorem Mp.ext (k:qg G h h') (T:aY G h):Mp G true true P P h h':= .at_ (λa o p e s _=>⟨p,k a o e (T.off' e λ_ hd=>s.fields hd)⟩) (λa o e _ hc _=>k a o e (T.off e hc)) (λ_ _ _ x=>T.code x k) id
theorem VR.ext (k:qg G h h') (T:aY G h) (x:V) (v:aA):VR G P h x v->VR G P h' x v:=VR.all (.ext k T) x (.inl rfl) v
theorem bh.ext (k:qg G h h') (T:aY G h) (x:List V) (v:List aA):bh G P h x v->bh G P h' x v:=(sP.all (.ext k T) x (.inl rfl)).s v
theorem Bb.ext (k:qg G h h') (T:aY G h) (c:List (aN×aG)) (ks:List Nat) (x:List V):Bb G P h c ks x->Bb G P h' c ks x:=(sP.all (.ext k T) x (.inl rfl)).c rfl c ks
theorem Mp.but {D:aG} {o:db} (hD:h.get? D=some o) (hs:ca o) (hP: ¬P D) (k: ∀b o,b≠D->h.get? b=some o->h'.get? b=some o):Mp G true true P P h h':=
 .at_ (λa _ p e _ _=>⟨p,k a _ (λq=>hP (q▸p)) e⟩) (λa _ e n _ _=>k a _ (nJ hD e λq=>n (q▸hs)) e) (λ_ _ _ x=>ix.but hD (λ_ e=>(hs.fields e).elim) k x) id
theorem VR.but {D:aG} {o:db} (hD:h.get? D=some o) (hs:ca o) (hP: ¬P D) (k: ∀b o,b≠D->h.get? b=some o->h'.get? b=some o) (x:V) (v:aA):VR G P h x v->VR G P h' x v:=VR.all (.but hD hs hP k) x (.inl rfl) v
theorem bh.but {D:aG} {o:db} (hD:h.get? D=some o) (hs:ca o) (hP: ¬P D) (k: ∀b o,b≠D->h.get? b=some o->h'.get? b=some o) (x:List V) (v:List aA):bh G P h x v->bh G P h' x v:=(sP.all (.but hD hs hP k) x (.inl rfl)).s v
theorem lN.but {D:aG} {o:db} (hD:h.get? D=some o) (hs:ca o) (hP: ¬P D) (k: ∀b o,b≠D->h.get? b=some o->h'.get? b=some o) (m:aN->Option aA) (ks:List Nat) (x:List V):lN G P h m ks x->lN G P h' m ks x:=(sP.all (.but hD hs hP k) x (.inl rfl)).k m ks
theorem Mp.refine (hl: ∀a o,P a->h.get? a=some o->ca o->P' a):Mp G true true P P' h h:= .at_ (λa o p e s _=>⟨hl a o p e s,e⟩) (λ_ _ e _ _ _=>e) (λ_ _ _ x=>x) id
theorem VR.refine (hl: ∀a o,P a->h.get? a=some o->ca o->P' a) (x:V) (v:aA):VR G P h x v->VR G P' h x v:=VR.all (.refine hl) x (.inl rfl) v
theorem bh.refine (hl: ∀a o,P a->h.get? a=some o->ca o->P' a) (x:List V) (v:List aA):bh G P h x v->bh G P' h x v:=(sP.all (.refine hl) x (.inl rfl)).s v
theorem lN.refine (hl: ∀a o,P a->h.get? a=some o->ca o->P' a) (m:aN->Option aA) (ks:List Nat) (x:List V):lN G P h m ks x->lN G P' h m ks x:=(sP.all (.refine hl) x (.inl rfl)).k m ks
theorem Mp.refineF (hl: ∀a o,P a->h.get? a=some o->(∀w,o.data≠ .cell w)->P' a):Mp G false false P P' h h:= .at_ (λa o p e _ c=>⟨hl a o p e (c.resolve_left bR),e⟩) (λ_ _ e _ _ _=>e) (λ_ _ e=>aL e) λe=>aL e
theorem VR.refineF (hl: ∀a o,P a->h.get? a=some o->(∀w,o.data≠ .cell w)->P' a) (x:V) (v:aA) (f:x.firm=true):VR G P h x v->VR G P' h x v:=VR.all (.refineF hl) x (.inr f) v
theorem bh.refineF (hl: ∀a o,P a->h.get? a=some o->(∀w,o.data≠ .cell w)->P' a) (x:List V) (v:List aA) (f:bo x=true):bh G P h x v->bh G P' h x v:=(sP.all (.refineF hl) x (.inr f)).s v
theorem Mp.butI {D:aG} {o:db} (hD:h.get? D=some o) (hs: ∃vs,o.data= .fields vs) (k: ∀b o,b≠D->h.get? b=some o->h'.get? b=some o):Mp G false true P P h h':=
 .at_ (λa _ p e s _=>⟨p,k a _ (nJ hD e λq=>hs.elim λ_ hd=>(q▸s).fields hd) e⟩) (λa _ e _ _ n=>k a _ (nJ hD e λq=>hs.elim λ_ hd=>n.elim aL λn=>n _ (q▸hd)) e) (λ_ _ e=>aL e) λ_=>rfl
theorem VR.butI {D:aG} {o:db} (hD:h.get? D=some o) (hs: ∃vs,o.data= .fields vs) (k: ∀b o,b≠D->h.get? b=some o->h'.get? b=some o) (x:V) (v:aA) (f:x.firm=true):VR G P h x v->VR G P h' x v:=VR.all (.butI hD hs k) x (.inr f) v
theorem bh.butI {D:aG} {o:db} (hD:h.get? D=some o) (hs: ∃vs,o.data= .fields vs) (k: ∀b o,b≠D->h.get? b=some o->h'.get? b=some o) (x:List V) (v:List aA) (f:bo x=true):bh G P h x v->bh G P h' x v:=(sP.all (.butI hD hs k) x (.inr f)).s v
theorem VR.butO {D:aG} {o:db} (hD:h.get? D=some o) (hs: ∃vs,o.data= .fields vs) (hn:dF o) (k: ∀b o,b≠D->h.get? b=some o->h'.get? b=some o) {x:V} {v:aA} (f:x.okV=true) (r:VR G P h x v):VR G P h' x v:=by
 cases x with
 |clo ps body caps d l=>
  exact uy.mv r (λa o e hf _=>k _ _ (nJ hD e λq=>hs.elim λ_ hd=>hf.elim λ_ hf=>aI (hf.symm.trans (q▸hd))) e) (λ_ _=>ix.but hD hn.2.2 k) λc=>(sP.all (.butI hD hs k) l (.inr f)).c rfl c caps
 |_=>exact VR.butI hD hs k _ v f r
end
end
section
open PySem.Spec PySem.Calls PyProof.Rows PySem.W
section
variable {G:Gl} {P P':aG->Prop} {h h':ah}
theorem bh.len: ∀{l:List V} {vs:List aA},bh G P h l vs->vs.length=l.length:=by
 intro zl
 induction zl with
 |nil=>
  intro _ e
  cases e;rfl
 |cons _ _ ih=>
  intro _ zz1
  obtain⟨_,_,e,_,r⟩:=zz1
  rw[e,bJ,bJ,ih r]
theorem bh.get: ∀{l:List V} {vs:List aA},bh G P h l vs-> ∀{k:Nat} {x:V},l[k]?=some x-> ∃v,vs[k]?=some v/\VR G P h x v:=by
 intro zl
 induction zl with
 |nil=>
  intro _ _ _ _ e
  simp at e
 |cons _ _ ih=>
  intro _ zz1 k x q
  obtain⟨y,ys,e,a,r⟩:=zz1
  subst e
  cases k with
  |zero=>simp at q;subst q;exact⟨y,rfl,a⟩
  |succ k=>simp at q;simpa using ih r q
theorem bh.getV {l:List V} {vs:List aA} (r:bh G P h l vs) {k:Nat} {v:aA} (e:vs[k]?=some v): ∃x,l[k]?=some x/\VR G P h x v:=by
 have hk:k<l.length:=by rw[<-r.len];exact(al.mp e).1
 refine nk λcq=>?_
 refine obE12 (r.get (aW hk)) λv' e' q=>?_
 rw[e]at e'
 cases e'
 refine cq ?_
 exact⟨_,aW hk,q⟩
theorem bh.of {l:List V} {vs:List aA} (e:vs.length=l.length) (H: ∀(k:Nat) (x:V) (v:aA),l[k]?=some x->vs[k]?=some v->VR G P h x v):bh G P h l vs:=by
 induction l generalizing vs with
 |nil=>exact ii e
 |cons x l ih=>
  cases vs with
  |nil=>cases e
  |cons v vs=>exact⟨v,vs,rfl,H 0 x v rfl rfl,ih (kR e) λk=>H (k+1)⟩
theorem bh.append {l l':List V} {vs vs':List aA} (a:bh G P h l vs) (b:bh G P h l' vs'):bh G P h (l++l') (vs++vs'):=by
 induction l generalizing vs with
 |nil=>subst a;exact b
 |cons x l ih=>
  obtain⟨y,ys,rfl,p,q⟩:=a
  exact⟨y,ys++vs',rfl,p,ih q⟩
theorem bh.one {x:V} {v:aA} (a:VR G P h x v):bh G P h [x] [v]:=⟨v,[],rfl,a,rfl⟩
theorem bh.take {l:List V} {vs:List aA} (a:bh G P h l vs) (n:Nat):bh G P h (l.take n) (vs.take n):=by
 refine .of (by simp[a.len]) λk x v e e'=>?_
 rw[List.getElem?_take]at e e'
 split at e
 ·rw[if_pos (by assumption)]at e'
  refine obE12 (a.get e) λv' q r=>?_
  rw[e']at q;cases q;exact r
 ·cases e
theorem bh.drop {l:List V} {vs:List aA} (a:bh G P h l vs) (n:Nat):bh G P h (l.drop n) (vs.drop n):=by
 refine .of (by simp[a.len]) λk x v e e'=>?_
 rw[B4]at e e'
 refine obE12 (a.get e) λv' q r=>?_
 rw[e']at q;cases q;exact r
theorem bh.reverse {l:List V} {vs:List aA} (a:bh G P h l vs):bh G P h l.reverse vs.reverse:=by
 induction l generalizing vs with
 |nil=>subst a;rfl
 |cons x l ih=>
  obtain⟨y,ys,rfl,p,q⟩:=a
  simp only[Bn,Bn]
  exact(ih q).append (.one p)
theorem bh.set {l:List V} {vs:List aA} (a:bh G P h l vs) {x:V} {v:aA} (b:VR G P h x v) (n:Nat):bh G P h (l.set n x) (vs.set n v):=by
 refine .of (by simp[a.len]) λk x' v' e e'=>?_
 rw[List.getElem?_set]at e e'
 split at e
 ·rename_i q
  rw[if_pos q]at e'
  split at e
  ·cases e
   split at e'
   ·cases e';exact b
   ·cases e'
  ·cases e
 ·rename_i q
  rw[if_neg q]at e'
  refine obE12 (a.get e) λw q r=>?_
  rw[e']at q;cases q;exact r
theorem bh.rep {l:List V} {vs:List aA} (a:bh G P h l vs): ∀n,bh G P h (qC l n) (qC vs n)
 |0=>rfl
 |n+1=>a.append (bh.rep a n)
theorem k8 {α:Type} (l:List α): ∀n,(bU n l).flatten=qC l n
 |0=>rfl
 |n+1=>by rw[nX,Bp,k8 l n];rfl
theorem zE {k:Nat} (h2:gc 2 k=false) (hl:gc 1 k=true-> ∀a xs n,h.get? a=some {cls:= .type "list",data:= .seq xs n}->P' a) (x:V): ∀(v:aA),x.lim k=true->VR G P h x v->VR G P' h x v:=by
 refine V.rec (motive_1:=λx=> ∀v,x.lim k=true->VR G P h x v->VR G P' h x v) (motive_2:=λl=> ∀vs,fC k l=true->bh G P h l vs->bh G P' h l vs) ?_ ?_ ?_ ?_ ?_ ?_ ?_ ?_ ?_ ?_ ?_ ?_ ?_ ?_ x
 ·exact λ_ _ e=>e
 ·exact λ_ _ _ e=>e
 ·exact λ_ _ _ e=>e
 ·exact λ_ _ _ e=>e
 ·exact λl ih _ f r=>r.imp λa r=>r.imp λi r=>⟨r.1,r.2.1,ih _ f r.2.2⟩
 ·exact λl ih _ f r=>gC f λf1 f=>r.imp λa r=>r.imp λi r=>⟨r.1,r.2.2.1.elim λn ho=>hl f1 _ _ _ ho,r.2.2.1,ih _ f r.2.2.2⟩
 ·exact λ_ _ _ e=>e
 ·exact λ_ _ _ _ _ _ _ f=>aL f
 ·exact λ_ _ _ _ _ _ e=>e
 ·exact λ_ _ _ _ f=>gC f λf _=>aL (h2.symm.trans f)
 ·exact λ_ _ _ f=>aL f
 ·exact λ_ _ _ f=>aL f
 ·exact λ_ _ e=>e
 ·exact λx l hx hl' _ f r=>gC f λf1 f2=>r.imp λy r=>r.imp λys r=>⟨r.1,hx y f1 r.2.1,hl' ys f2 r.2.2⟩
theorem VR.flat (P':aG->Prop) (x:V) (v:aA) (f:x.flat=true) (r:VR G P h x v):VR G P' h x v:=zE rfl (λh=>aL h) x v f r
theorem bh.flat (P':aG->Prop) (l:List V): ∀(vs:List aA),cj l=true->bh G P h l vs->bh G P' h l vs:=by
 induction l with
 |nil=>exact λ_ _ e=>e
 |cons x l ih=>exact λ_ f r=>gC f λf1 f2=>r.imp λy r=>r.imp λys r=>⟨r.1,VR.flat P' x y f1 r.2.1,ih ys f2 r.2.2⟩
theorem VR.flag {f:Bool} {x:V} {v:aA} (r:VR G (Pm f P) h x v):VR G (Pm (f||x.flat) P) h x v:=by
 cases hf:x.flat with
 |true=>exact VR.flat _ x v hf r
 |false=>rw[gS];exact r
end
section
variable {G:Gl} {A:aZ} {E:aA->aD->Prop} {P:aG->Prop} {s:aD} {Q:aA->aD->Prop}
theorem fU.int {i:Int} {t:ze} {tk:Nat} (T:aY G s.heap) (h:fU G P s (.int i) Q):Q (.int i t) {s with toks:=tk}:=h _ _ (cD.tok T tk) ⟨_,rfl⟩
theorem vm {a b:Int} (h:tT a b=true):IntMulOk a b:=by
 unfold tT at h
 simp only[ag,decide_eq_true_eq]at h
 have bits: ∀k:Int,k.natAbs<2^4096->iJ k<=2^20:=λk hk=>by
  unfold iJ
  split
  ·exact bj _
  ·have:k.natAbs.log2<4096:=by
    rcases Bm k.natAbs with h0|hp
    ·rw[h0];decide
    ·exact(sG (jX hp)).mpr hk
   lia
 exact .of_bits (bits a h.1) (bits b h.2)
theorem iS {a b:Int} (h:jO b=true):b≠0/\Builtin.divisionGoesByPylong a b=false:=by
 unfold jO at h
 simp only[ag,decide_eq_true_eq,dS,beq_eq_false_iff_ne,ne_eq]at h
 refine⟨h.1,PyProof.noPylong_of_log2 ?_⟩
 have:b.natAbs.log2<4096:=(sG (by lia)).mpr h.2
 lia
theorem fJ {a n:Int} (h:m9 a n=true):0<=n/\n<=1000000/\a.natAbs<2^64:=by
 unfold m9 at h
 simp only[ag,decide_eq_true_eq]at h
 exact⟨h.1.1,h.1.2,h.2⟩
theorem ny (items:Array Nat) (k:Nat):B5 (λx1 x2=>x1++x2) #[] (bU k items)=(bU k items.toList).flatten.toArray:=by
 have: ∀(k:Nat) (acc:Array Nat),B5 (λx1 x2=>x1++x2) acc (bU k items)=acc++(bU k items.toList).flatten.toArray:=λk=>by
  induction k with
  |zero=>intro acc;rfl
  |succ k ih=>intro acc;simp only[nX,lb,ih,nX,Bp];apply Array.ext';simp
 rw[this];simp
def mA (G:Gl) (P:aG->Prop) (s:aD) (x:V) (Q:aA->aD->Prop):Prop:= ∀v s',cD G s s'->VR G P s'.heap x v->(∀l,x= .list l-> ∀a,v= .ref a->s.heap.get? a=none)->Q v s'
theorem mA.t {x:V} (h:mA G P s x Q) (n: ∀l,x≠ .list l):fU G P s x Q:=λv s' X r=>h v s' X r λl e=>(n l e).elim
theorem VR.isInt {P:aG->Prop} {h:ah} {x:V} {v:aA} {i:Int} (r:VR G P h x v) (hi:x= .int i): ∃t,v= .int i t:=by subst hi;exact r
theorem VR.isStr {P:aG->Prop} {h:ah} {x:V} {v:aA} {i:aN} (r:VR G P h x v) (hi:x= .str i): ∃t,v= .str i t:=by subst hi;exact r
theorem ip {P P':aG->Prop} {op:kZ} {F:Int->Int->Option V} {x y z:V} {a b:aA} (e:pD F x y=some z) (ra:VR G P s.heap x a) (rb:VR G P' s.heap y b) (k: ∀i j t u,F i j=some z->aF G.M A (wy op (.int i t) (.int j u)) Q E s):aF G.M A (wy op a b) Q E s:=
 iP e λi hi e=>iP e λj hj e=>(ra.isInt hi).elim λt ht=>(rb.isInt hj).elim λu hu=>ht▸hu▸k i j t u e
theorem r5 {P:aG->Prop} {n:Int} {z:V} {tk:Nat} {t:ze} (e:some (V.int n)=some z) (T:aY G s.heap) (h:mA G P s z Q):Q (.int n t) {s with toks:=tk}:=fU.int T ((bb (C:=λz=>mA G P s z Q) e h).t nofun)
theorem Iy {x y z:V} {a b:aA} {f g:Bool} (T:aY G s.heap) (Fr:fz P s.heap) (e:K5 x y=some z) (ra:VR G (Pm f P) s.heap x a) (rb:VR G (Pm g P) s.heap y b)
  (h:mA G (Pm ((f&&g)||z.flat) P) s z Q):aF G.M A (wy .Add a b) Q E s:=by
 cases x<;>try exact cI e
 ·exact iP e λj hj e=>ra.elim λt ht=>(rb.isInt hj).elim λu hu=>ht▸hu▸PyProof.Rows.add_int (r5 e T h)
 ·refine vV e λj hj e=>aj e λhl e=>ra.elim λt ht=>(rb.isStr hj).elim λu hu=>ht▸hu▸sA (λt' tk=>?_) ?_
  ·exact bb (C:=λz=>mA G (Pm ((f&&g)||z.flat) P) s z Q) e h _ _ (cD.tok T tk) ⟨_,rfl⟩ nofun
  ·rw[bT];have:=of_decide_eq_true hl;lia
 ·rename_i l
  refine nk λcq=>?_
  refine j6 e λl' hj e1=>aj e1 λhl e2=>?_
  clear e;subst hj
  have h:=bb (C:=λz=>mA G (Pm ((f&&g)||z.flat) P) s z Q) e2 h
  have hl:=of_decide_eq_true hl
  obtain⟨a,ia,rfl,pa,⟨na,ha⟩,ra⟩:=ra
  obtain⟨b,ib,rfl,pb,⟨nb,hb⟩,rb⟩:=rb
  have e1:=ra.len
  have e2:=rb.len
  rw[aX]at e1 e2
  refine cq ?_
  refine PySem.P.add_list ha hb ?_ (by rw[bT];lia)
  have st:=cD.push (G:=G) T ({cls:= .type "list",data:= .seq (ia++ib)}:db) s.toks
  refine h _ _ st ⟨_,_,rfl,λ_=>Fr.new,⟨0,aS _ rfl⟩,?_⟩ λ_ _ a e=>by cases e;exact bA (bC _)
  rw[iz]
  refine bh.append (bh.ext st.ext T _ _ (bh.mono (Pm.of λq=>?_) _ _ ra)) (bh.ext st.ext T _ _ (bh.mono (Pm.of λq=>?_) _ _ rb))
  ·exact(aJ.mp ((gS _).symm.trans q)).1
  ·exact(aJ.mp ((gS _).symm.trans q)).2
theorem Hr {x y z:V} {a b:aA} {f g:Bool} (T:aY G s.heap) (Fr:fz P s.heap) (e:J7 x y=some z) (ra:VR G (Pm f P) s.heap x a) (rb:VR G (Pm g P) s.heap y b)
  (h:mA G (Pm ((f&&g)||z.flat) P) s z Q):aF G.M A (wy .Mult a b) Q E s:=by
 refine iP e λn hn e=>(rb.isInt hn).elim λu hu=>?_
 subst hu
 cases x<;>try exact cI e
 ·exact aj e λhc e=>ra.elim λt ht=>ht▸PyProof.Rows.mul_int (r5 e T h) (vm hc)
 ·rename_i x _
  refine aj e λhl e=>ra.elim λt ht=>?_
  subst ht
  have h:=bb (C:=λz=>mA G (Pm ((f&&g)||z.flat) P) s z Q) e h
  have hl:=aJ.mp hl
  have hz:x.length*n.toNat<=100000:=of_decide_eq_true (aJ.mp hl.1).1
  have ex:(⟨(qC x.cps.toList n.toNat).toArray⟩:aN)=Txt.mul x n:=by
   unfold Txt.mul
   split
   ·rename_i h1
    have:n.toNat=0:=by lia
    rw[this];rfl
   ·split
    ·rename_i h1 h2
     rcases cO.mp h2 with h2|h2
     ·have h2:=beq_iff_eq.mp h2
      clear hn rb e hl h hz h1;clear e hl;subst h2
      show(⟨(x.cps.toList++ []).toArray⟩:aN)=x
      rw[dU]
     ·have hx:x.cps= #[]:=Array.eq_empty_of_size_eq_zero (beq_iff_eq.mp h2)
      have: ∀k,qC (#[]:Array Nat).toList k=[]:=λk=>by
       induction k with
       |zero=>rfl
       |succ k ih=>exact ih
      rw[hx,this]
      cases x;cases hx;rfl
    ·have e0:=ny x.cps n.toNat
     simp only[e0,k8]
  rw[ex]at h
  have hp:n>0->(x.length:Int)<=100000:=λhn=>by
   have:x.length*1<=x.length*n.toNat:=nZ _ (by lia)
   lia
  have hq:n>0->(100000:Int)<=(2^63-1)/n:=λhn=>(Int.le_ediv_iff_mul_le hn).mpr (by lia)
  refine SB.mul ⟨?_,?_,?_⟩ λt' k=>h _ _ (cD.tok T k) ⟨_,rfl⟩ nofun
  ·simp;lia
  ·intro h1 _
   have:=hp (by lia)
   have:=hq (by lia)
   omega
  ·intro _ _
   have:x.length*n.toNat<=sT:=by rw[bT];lia
   simp[lS]
   omega
 ·rename_i l _
  refine nk λcq=>?_
  refine aj e λhl e=>?_
  have h:=bb (C:=λz=>mA G (Pm ((f&&g)||z.flat) P) s z Q) e h
  have hl:=aJ.mp hl
  have hl2:=of_decide_eq_true hl.2
  have hl1:=of_decide_eq_true (aJ.mp hl.1).2
  have hl0:=of_decide_eq_true (aJ.mp hl.1).1
  obtain⟨a,ia,rfl,pa,⟨na,ha⟩,ra⟩:=ra
  have e1:=ra.len
  rw[aX]at e1
  refine cq ?_
  refine wpAny_binaryOp_repeat_ref (T:= "list") (U:= "int") (by decide) ⟨_,ha,rfl⟩ (λs'=>wr s' n u) noFill_list_mul F.fills_int_mul F.slot_int_rmul repeat_list F.slot_int_index.lookup
   (ql F.slot_int_rmul (wr s n u) F.entry_int_rmul (F.args_int_rmul_2 _ _) (lm_int_rmul_list_any n u a ia na _ _)
    ⟨ha,rfl,⟨_,ha,rfl⟩,ql F.slot_list_mul ⟨_,ha,rfl⟩ F.entry_list_mul (F.args_list_mul_2 _ _)
     (lm_list_mul_any a ia na _ _ n u (by simp[iX];omega) (by lia) (by simp[Builtin.List.listTooLong,sT];lia))
     ⟨ha,?_⟩⟩)
  rw[listMul_foldl_if,k8]
  have st:=cD.push (G:=G) T ({cls:=sZ "list",data:=Data.seq (qC ia.toList n.toNat).toArray}:db) s.toks
  refine h _ _ st ⟨_,_,rfl,λ_=>Fr.new,⟨0,aS _ rfl⟩,?_⟩ λ_ _ a e=>by cases e;exact bA (bC _)
  exact bh.rep (bh.ext st.ext T _ _ (bh.mono (Pm.of λq=>(aJ.mp ((gS _).symm.trans q)).1) _ _ ra)) _
theorem Ii {op:kZ} {x y z:V} {a b:aA} {f g:Bool} (T:aY G s.heap) (Fr:fz P s.heap) (e:lz op x y=some z) (ra:VR G (Pm f P) s.heap x a) (rb:VR G (Pm g P) s.heap y b)
  (h:mA G (Pm ((f&&g)||z.flat) P) s z Q):aF G.M A (wy op a b) Q E s:=match op,e with
 | .Add,e=>Iy T Fr e ra rb h
 | .Sub,e=>ip e ra rb λi j t u e=>PyProof.Rows.sub_int (r5 e T h)
 | .Mult,e=>Hr T Fr e ra rb h
 | .FloorDiv,e=>ip e ra rb λi j t u e=>aj e λhc e=>PyProof.Rows.floordiv_int (iS (a:=0) hc).1 (r5 e T h) (.inl (iS hc).2)
 | .Mod,e=>ip e ra rb λi j t u e=>aj e λhc e=>PyProof.Rows.mod_int' (iS (a:=0) hc).1 (r5 e T h)
 | .Pow,e=>ip e ra rb λi j t u e=>aj e λhc e=>PyProof.Rows.pow_int_small (fJ hc).1 (fJ hc).2.1 (fJ hc).2.2 (r5 e T h)
 | .LShift,e=>ip e ra rb λi j t u e=>aj e λhc e=>PyProof.Rows.lshift_int_small (fJ hc).1 (fJ hc).2.1 (fJ hc).2.2 (r5 e T h)
 | .RShift,e=>ip e ra rb λi j t u e=>aj e λhc e=>PyProof.Rows.rshift_int hc (r5 e T h)
 | .BitAnd,e=>ip e ra rb λi j t u e=>PyProof.Rows.and_int (r5 e T h)
 | .BitOr,e=>ip e ra rb λi j t u e=>PyProof.Rows.or_int (r5 e T h)
 | .BitXor,e=>ip e ra rb λi j t u e=>PyProof.Rows.xor_int (r5 e T h)
 | .Div,e=>cI e
 | .MatMult,e=>cI e
end
end
section
open PySem.Spec PySem.Calls PyProof.Rows PySem.W
section
variable {G:Gl} {P:aG->Prop} {h:ah}
def Rd (h:ah) (n:Nat) (v:aA) (d:PyData):Prop:=(∃as,Reads h v d as)/\d.canLay0=true/\d.depth<=n
theorem mP {n:Nat} (ih: ∀x v d,GG n x=some d->VR G P h x v->Rd h n v d) (l:List V): ∀(vs:List aA) (d:List PyData),b9 (GG n) l=some d->bh G P h l vs->(∃as,ReadsAll h vs d as)/\oU d=true/\qI d<=n:=by
 induction l with
 |nil=>exact λvs d e r=>bb (C:=λd=>(∃as,ReadsAll h vs d as)/\oU d=true/\qI d<=n) e.symm ((show vs=[]from r)▸⟨⟨_,.nil⟩,rfl,bj _⟩)
 |cons x l il=>
  exact λvs d e r=>obE21 r λv vs' r=>bD e λb hb t ht e=>(ih x v b hb r.2.1).1.elim λas q=>(il vs' t ht r.2.2).1.elim λas' q'=>
   bb (C:=λd=>(∃as,ReadsAll h vs d as)/\oU d=true/\qI d<=n) e.symm (r.1▸⟨⟨_,.cons q q'⟩,aJ.mpr ⟨(ih x v b hb r.2.1).2.1,(il vs' t ht r.2.2).2.1⟩,Nat.max_le.mpr ⟨(ih x v b hb r.2.1).2.2,(il vs' t ht r.2.2).2.2⟩⟩)
theorem iH {n:Nat}: ∀(x:V) (v:aA) (d:PyData),GG n x=some d->VR G P h x v->Rd h n v d:=by
 induction n with
 |zero=>exact λ_ _ _ e=>cI e
 |succ n ih=>
  intro x v d e r
  cases x with
  |none=>exact lG (C:=Rd h (n+1) v) e ((show v= .none from r)▸⟨⟨_,.none⟩,rfl,bj _⟩)
  |bool b=>exact lG (C:=Rd h (n+1) v) e ((show v= .bool b from r)▸⟨⟨_,.bool b⟩,rfl,bj _⟩)
  |int i=>exact lG (C:=Rd h (n+1) v) e (r.elim λt q=>q▸⟨⟨_,.int i t⟩,rfl,bj _⟩)
  |tup l=>
   exact ac e λds hd e=>lG (C:=Rd h (n+1) v) e (obE21 r λa i r=>r.2.1.elim λo ho=>ho.2.2.elim λk hk=>(mP ih l _ ds hd r.2.2).1.elim λas q=>
    r.1▸⟨⟨_,.tuple ho.1 ho.2.1 hk q⟩,(mP ih l _ ds hd r.2.2).2.1,ez (mP ih l _ ds hd r.2.2).2.2⟩)
  |list l=>
   exact ac e λds hd e=>lG (C:=Rd h (n+1) v) e (obE21 r λa i r=>r.2.2.1.elim λk ho=>(mP ih l _ ds hd r.2.2.2).1.elim λas q=>
    r.1▸⟨⟨_,.list ho rfl rfl q⟩,(mP ih l _ ds hd r.2.2.2).2.1,ez (mP ih l _ ds hd r.2.2.2).2.2⟩)
  |_=>exact cI e
theorem Rd.shaped {v:aA} {d:PyData} {n:Nat} (hn:n<=64) (r:Rd h n v d):SeqAt.shaped d=true:=aJ.mpr ⟨r.2.1,decide_eq_true (aQ r.2.2 hn)⟩
theorem ua: ∀{l:List V} {ns:List Int} {vs:List aA},nP l=some ns->bh G P h l vs->pN vs ns:=by
 intro zl
 induction zl with
 |nil=>
  intro _ _ e r
  rw[show _=[]from r,<-aC e];exact .nil
 |cons x l ih=>
  intro ns vs e r
  exact iP e λi hi e=>ac e λl' hl e=>obE21 r λv vs' r=>(r.2.1.isInt hi).elim λt ht=>by
   rw[<-aC e,r.1,ht];exact .cons _ t (ih hl r.2.2)
end
structure cw (n:Nat) (A:aZ):Prop where
 handled:A.handled=none
 depth:A.depth+2*n<gN
 units:A.units+20*n+100<cLine
theorem cw.down {n m:Nat} {A:aZ} (x:cw n A) (h:m<=n):cw m A:=⟨x.handled,by have:=x.depth;lia,by have:=x.units;lia⟩
section
variable {G:Gl} {A:aZ} {E:aA->aD->Prop} {P P1 P₂:aG->Prop} {s:aD} {Q:aA->aD->Prop} {n:Nat}
theorem Jx {x y:V} {c:Bool} {Z:Prop} (e:JG x y=some c) (k: ∀i j,x= .str i->y= .str j->(i==j)=c->Z) (k': ∀d d',GG 8 x=some d->GG 8 y=some d'->d.eqv d'=c->Z):Z:=by
 unfold JG at e
 cases h:G6 x y with
 |some p=>rw[h]at e;exact vV h λi hi h=>vV h λj hj h=>k i j hi hj (by cases h;exact aC e)
 |none=>rw[h]at e;exact bD e λd hd d' hd' e=>k' d d' hd hd' (aC e)
theorem IZ {x y:V} {a b:aA} {c:Bool} (O:cw n A) (e:JG x y=some c) (ra:VR G P1 s.heap x a) (rb:VR G P₂ s.heap y b) (h:Q (.bool c) s):aF G.M A (ft .Eq a b) Q E s:=
 Jx e (λi j hi hj hc=>(ra.isStr hi).elim λt ht=>(rb.isStr hj).elim λu hu=>ht▸hu▸s7 (hc▸h)) λd d' hd hd' e=>
  (iH x a d hd ra).1.elim λas ra1=>(iH y b d' hd' rb).1.elim λbs rb1=>eq_dataH ra1 rb1 ((iH x a d hd ra).shaped (by decide)) ((iH y b d' hd' rb).shaped (by decide)) (by have:=O.units;lia) (e▸h)
theorem Hq {x y:V} {a b:aA} {c:Bool} (O:cw n A) (e:JG x y=some c) (ra:VR G P1 s.heap x a) (rb:VR G P₂ s.heap y b) (h:Q (.bool (!c)) s):aF G.M A (ft .NotEq a b) Q E s:=
 Jx e (λi j hi hj hc=>(ra.isStr hi).elim λt ht=>(rb.isStr hj).elim λu hu=>ht▸hu▸PyProof.Rows.ne_str (by clear e;subst hc;exact h)) λd d' hd hd' e=>
  (iH x a d hd ra).1.elim λas ra1=>(iH y b d' hd' rb).1.elim λbs rb1=>ne_dataH ra1 rb1 ((iH x a d hd ra).shaped (by decide)) ((iH y b d' hd' rb).shaped (by decide)) (by have:=O.units;lia) (e▸h)
theorem EJ {x y:V} {a b:aA} {c:Bool} {k:Nat} (hu:A.units+k<cLine) (e:Jw k x y=some c) (ra:VR G P1 s.heap x a) (rb:VR G P₂ s.heap y b):SeqAt.EqAt A s a b c:=
 ac e λd hd e=>ac e λd' hd' e prog w E Q h=>(iH x a d hd ra).1.elim λas ra1=>(iH y b d' hd' rb).1.elim λbs rb1=>
  SeqAt.eqBoolOverData _ _ _ _ _ _ _ _ _ _ _ _ ra1 rb1 (iH x a d hd ra).2.1 (iH y b d' hd' rb).2.1 (aV (BZ (aQ (Nat.min_le_left _ _) (iH x a d hd ra).2.2) _) hu) ((aC e:d.eqv d'=c)▸h)
noncomputable def vk:aA->Option (Option Bool)
 | .none=>some none
 | .bool b=>some (some b)
 |_=>none
noncomputable def J0:aA->Bool
 | .builtin _=>false
 |_=>true
theorem VR.kind {h:ah} {x:V} {v:aA} (r:VR G P h x v):nb x=vk v/\J0 v=true:=by
 cases x
 case none=>rw[show v= .none from r];exact⟨rfl,rfl⟩
 case bool b=>rw[show v= .bool b from r];exact⟨rfl,rfl⟩
 case int=>exact r.elim λt e=>e▸⟨rfl,rfl⟩
 case str=>exact r.elim λt e=>e▸⟨rfl,rfl⟩
 case tup=>exact obE21 r λa i r=>r.1▸⟨rfl,rfl⟩
 case list=>exact obE21 r λa i r=>r.1▸⟨rfl,rfl⟩
 case fn=>exact r.elim λa r=>r.2▸⟨rfl,rfl⟩
 case clo=>exact(uy.ref r).elim λ_ r=>r▸⟨rfl,rfl⟩
 case ndef=>exact r.elim
 case inst=>exact obE31 r λa _ _ r=>r.1▸⟨rfl,rfl⟩
 case range=>exact obE51 r λa _ _ _ _ r=>r.1▸⟨rfl,rfl⟩
 case rev=>exact obE31 r λa _ _ r=>r.1▸⟨rfl,rfl⟩
noncomputable def kv:Option Bool->aA
 |none=> .none
 |some b=> .bool b
theorem yf {a:aA} {x:Option Bool} (h:vk a=some x):a=kv x:=by
 cases a<;>first|exact cI h|(cases h;rfl)
theorem H5 (x:Option Bool) (b:aA) (hb:J0 b=true):Bg (kv x) b=dC ((vk b).elim false (x== ·)):=by
 cases x with
 |none=>cases b<;>first|exact(aL hb)|rfl
 |some p=>cases b<;>first|exact(aL hb)|(rename_i q;cases p<;>cases q<;>rfl)|(cases p<;>rfl)
theorem H0 (x:Option Bool) (b:aA) (hb:J0 b=true) (hv:vk b=none):Bg b (kv x)=dC false:=by
 cases x<;>cases b<;>first|exact(aL hb)|exact cI hv.symm|rfl
theorem AM (a b:aA) (c:Bool) (ha:J0 a=true) (hb:J0 b=true) (e:Lv (vk a) (vk b)=some c):Bg a b=dC c:=by
 cases h:vk a with
 |some x=>
  rw[yf h,H5 x b hb]
  rw[h]at e
  cases h2:vk b<;>rw[h2]at e<;>exact congrArg dC (aC e)
 |none=>
  rw[h]at e
  cases h2:vk b with
  |none=>rw[h2]at e;exact cI e
  |some y=>rw[h2]at e;rw[yf h2,H0 y a ha h];exact congrArg dC (aC e)
theorem DV {x y:V} {a b:aA} {c:Bool} (e:LK x y=some c) (ra:VR G P1 s.heap x a) (rb:VR G P₂ s.heap y b):Bg a b=dC c:=
 AM a b c ra.kind.2 rb.kind.2 (by rw[<-ra.kind.1,<-rb.kind.1];exact e)
end
end
section
open PySem.Spec PySem.Calls PyProof.Rows PySem.W
def K9 (A:aZ) (s:aD) (y x:aA) (b:Bool):Prop:= ∀(prog:PySem.Program) (w:dz) (E Q:aA->aD->Prop),Q (.bool b) s->aF (cK prog w) A (richCompare .Lt y x) Q E s
def wd (A:aZ) (R:l8->aD->Prop) (fin:Bool) (s:aD):List (aA×aA)->Prop
 | []=>R (.ok (.ret (.bool fin))) s
 |(y,x)::r=> ∃e,SeqAt.EqAt A.in1 s y x e/\(e=true->wd A R fin s r)/\(e=false-> ∃b,K9 A.in1 s y x b/\R (.ok (.ret (.bool b))) s)
theorem su (l b:aG) (items items2:Array aA) (n n2:Nat) (dd dd2:Option aG) (sl sl2:Array (Option aA)):
  Meets (Builtin.«tuple.__lt__» ⟨[.ref l,.ref b],[]⟩) (λA R s=>
   s.heap.get? l=some {cls:= .type "tuple",dict:=dd,data:= .seq items n,slots:=sl}/\s.heap.get? b=some {cls:= .type "tuple",dict:=dd2,data:= .seq items2 n2,slots:=sl2}/\
   wd A R (decide (items.size<items2.size)) s (items.toList.zip items2.toList)):= .of_wp λprog w A R s h=>by
 obtain⟨hp,g,d,tk,os⟩:=s;obtain⟨hl,hb,h⟩:=h
 have f2:=AutoSeq1.sub_tuple_tuple
 wp_walk using sM hl,sM hb,wpAny_forIn_list _ (λrest b s'=>b.1=none/\s'=⟨hp,g,d,tk,os⟩/\wd A R (decide (items.size<items2.size)) ⟨hp,g,d,tk,os⟩ rest) _
 case turn=>
  rintro ⟨y,x⟩ rest b s' ⟨hb',rfl,e,he,h1,h2⟩
  refine aE (he prog w _ _ ?_)
  clear he;cases e with
  |true=>wp_walk;exact⟨rfl,rfl,h1 rfl⟩
  |false=>
   refine obE12 (h2 rfl) λc hc hR=>?_
   refine aE (ml (aE (hc prog w _ _ ?_)))
   wp_walk
   exact⟨_,rfl,hR⟩
 case fin=>
  rintro ⟨b1,b2⟩ s' ⟨hb',rfl,hR⟩
  simp only at hb'
  subst hb'
  wp_walk
  exact⟨_,rfl,hR⟩
 case h=>exact⟨rfl,rfl,h⟩
theorem A8 {prog:PySem.Program} {w:dz} {A:aZ} {E:aA->aD->Prop} {s:aD} {l b:aG} {items items2:Array aA} {Q:aA->aD->Prop} {c:Bool} (hl:s.heap.IsTuple l items) (hb:s.heap.IsTuple b items2) (hu:A.units<cLine)
  (h: ∀R:l8->aD->Prop,R (.ok (.ret (.bool c))) s->wd A R (decide (items.size<items2.size)) s (items.toList.zip items2.toList)) (hQ:Q (.bool c) s):aF (cK prog w) A (richCompare .Lt (.ref l) (.ref b)) Q E s:=by
 refine nk λcq=>?_
 obtain⟨⟨cls,dd,data,sl⟩,ho,hc,n,hd⟩:=id hl
 obtain⟨⟨cls2,dd2,data2,sl2⟩,ho2,hc2,n2,hd2⟩:=id hb
 refine cq ?_
 simp only at hc hd hc2 hd2
 subst hc hd hc2 hd2
 exact richCompare_meets_room (op:= .Lt) ⟨_,ho,rfl⟩ ⟨_,ho2,rfl⟩ F.slot_tuple_lt F.entry_tuple_lt (F.args_tuple_lt_2 _ _) (su l b items items2 n n2 dd dd2 sl sl2)
  ⟨ho,ho2,h _ ⟨(λh=>aq h),hQ⟩⟩ hu
theorem cw.in1 {n:Nat} {A:aZ} (x:cw (n+1) A):cw n A.in1:=⟨x.handled,by have:=x.depth;show A.depth+_<_;lia,by have:=x.units;show A.units+1+_+_<_;lia⟩
section
variable {G:Gl} {P1 P₂:aG->Prop} {s:aD}
theorem cw.eq8 {n k:Nat} {A:aZ} (O:cw n A) (h:k<=8):A.units+k<cLine:=by have:=O.units;lia
theorem Ht {k:Nat}: ∀{x y:V} {c:Bool} {A:aZ} {a b:aA},Hu k x y=some c->k<=8->cw k A->VR G P1 s.heap x a->VR G P₂ s.heap y b->K9 A s a b c:=by
 induction k with
 |zero=>exact λe=>cI e
 |succ k ih=>
  intro x y c A a b e hk O ra rb prog w E Q h
  unfold Hu at e
  cases hp:Gq x y with
  |some p=>
   rw[hp]at e
   refine iP hp λi hi hp=>iP hp λj hj hp=>(ra.isInt hi).elim λt ht=>(rb.isInt hj).elim λu hu=>ht▸hu▸PyProof.Rows.lt_int ?_
   cases hp
   exact(aC e:decide (i<j)=c)▸h
  |none=>
   rw[hp]at e
   refine nk λcq=>?_
   refine zy e λl hl e=>zy e λr hr e=>?_
   have lex: ∀(l r:List V) (vs us:List aA) (R:l8->aD->Prop) (fin:Bool),F7 (Jw k) (Hu k) l r=some c->bh G P1 s.heap l vs->bh G P₂ s.heap r us->(l.length=r.length->fin=false)->R (.ok (.ret (.bool c))) s->wd A R fin s (vs.zip us):=by
    intro l
    induction l with
    |nil=>
     intro r vs us R fin e rl rr hf h
     refine aj e λhr e=>?_
     rw[show vs=[]from rl]
     show R (.ok (.ret (.bool fin))) s
     rw[hf (congrArg _ (bX.mp hr).symm),show false=c from aC e]
     exact h
    |cons x l il=>
     intro r vs us R fin e rl rr hf h
     cases r with
     |nil=>exact cI e
     |cons y r=>
     refine obE21 rl λv vs' rl=>obE21 rr λu us' rr=>ac e λq hq e=>?_
     rw[rl.1,rr.1]
     refine⟨q,EJ (O.in1.eq8 (kT hk)) hq rl.2.1 rr.2.1,λhq=>?_,λhq=>⟨c,ih ?_ (kT hk) O.in1 rl.2.1 rr.2.1,h⟩⟩
     ·rw[hq]at e
      exact il r vs' us' R fin e rl.2.2 rr.2.2 (λh=>hf (congrArg (· +1) h)) h
     ·rw[hq]at e;exact e
   rw[hl]at ra
   rw[hr]at rb
   refine obE21 ra λa' ia ra=>obE21 rb λb' ib rb=>?_
   refine cq ?_
   refine(ra.1)▸?_
   refine(rb.1)▸?_
   refine A8 ra.2.1 rb.2.1 (aV (bZ _ 0) (O.eq8 (bj _))) (c:=c) (λR hR=>lex l r _ _ R _ e ra.2.2 rb.2.2 (λq=>decide_eq_false ?_) hR) h
   show¬(ia.toList.length<ib.toList.length)
   simp only[ra.2.2.len,rb.2.2.len,q];exact ig _
theorem DH {G:Gl} {A:aZ} {E Q:aA->aD->Prop} {P1 P₂:aG->Prop} {s:aD} {n k:Nat} {x y:V} {a b:aA} {c:Bool} (O:cw n A) (hn:8<=n) (hk:k<=8) (e:Hu k x y=some c) (ra:VR G P1 s.heap x a) (rb:VR G P₂ s.heap y b) (h:Q (.bool c) s):aF G.M A (ft .Lt a b) Q E s:=
 Ht e hk (O.down (aQ hk hn)) ra rb _ _ _ _ h
end
end
section
open PySem.Spec PySem.Calls PyProof.Rows PySem.W
section
variable {G:Gl} {A:aZ} {E:aA->aD->Prop} {P P1 P₂:aG->Prop} {s:aD} {Q:aA->aD->Prop} {n:Nat}
theorem r6 {op:jp} {F:Int->Int->Bool} {x y:V} {a b:aA} {c:Bool} (e:zH F x y=some c) (ra:VR G P1 s.heap x a) (rb:VR G P₂ s.heap y b) (k: ∀i j t u,F i j=c->aF G.M A (ft op (.int i t) (.int j u)) Q E s):aF G.M A (ft op a b) Q E s:=
 iP e λi hi e=>iP e λj hj e=>(ra.isInt hi).elim λt ht=>(rb.isInt hj).elim λu hu=>ht▸hu▸k i j t u (aC e)
theorem D2 (i:Int): ∀(vs:List aA) (ns:List Int),pN vs ns->vs.any (λv=>match v with| .int j _=>j==i|_=>false)=ns.contains i:=λvs ns h=>by
 induction h with
 |nil=>rfl
 |cons n t h ih=>rw[List.any_cons,ih,fM];congr 1;exact Bool.beq_comm
theorem D0 {vs:List aA} {ns:List Int} (h:pN vs ns) {v:aA} (hv:v∈vs): ∃j u,v= .int j u:=by
 induction h with
 |nil=>cases hv
 |cons n t h ih=>
  rcases aO.mp hv with rfl|hv
  ·exact⟨_,_,rfl⟩
  ·exact ih hv
theorem IL {x y:V} {a b:aA} {c:Bool} (e:Lw x y=some c) (ra:VR G P1 s.heap x a) (rb:VR G P₂ s.heap y b) (h:Q (.bool c) s):aF G.M A (ft .In a b) Q E s:=by
 refine nk λcq=>?_
 refine iP e λi hi e1=>j6 e1 λl hl e2=>ac e2 λns hn e3=>(ra.isInt hi).elim λt ht=>?_
 clear ra e e1;subst ht hl
 obtain⟨b,ib,rfl,pb,hb,rb⟩:=rb
 refine cq ?_
 have hi:=ua hn rb
 refine SeqAt.in_listAt (λv=>match v with| .int j _=>j==i|_=>false) hb.isList (λv hv=>?_) ?_
 ·exact obE21 (D0 hi (xI.mpr hv)) λj u q=>q▸SeqAt.EqAt.int_int j u i t
 ·rw[<-Array.any_toList,D2 i _ _ hi,aC e3];exact h
theorem AZ {x y:V} {a b:aA} {c:Bool} (e:Cq x y=some c) (ra:VR G P1 s.heap x a) (rb:VR G P₂ s.heap y b) (h:Q (.bool c) s):aF G.M A (ft .NotIn a b) Q E s:=by
 refine vV e λx hx e=>vV e λy hy e=>aj e λh1 e=>(ra.isStr hx).elim λt ht=>(rb.isStr hy).elim λu hu=>?_
 subst ht hu
 have h:=bb (C:=λc=>Q (.bool c) s) e h
 obtain⟨cs⟩:=x
 obtain⟨l⟩:=cs
 match l,h1 with
 | [c],_=>
  refine PySem.P.notIn_str ?_
  rw[StrLaws.found_one]
  simpa [b8,List.elem_eq_contains] using h
theorem zQ {op:jp} {x y:V} {a b:aA} {c:Bool} (T:aY G s.heap) (O:cw n A) (hn:8<=n) (e:nU op x y=some c) (ra:VR G P1 s.heap x a) (rb:VR G P₂ s.heap y b) (h:Q (.bool c) s):aF G.M A (ft op a b) Q E s:=match op,e with
 | .Eq,e=>IZ O e ra rb h
 | .NotEq,e=>ac e λc' e h'=>Hq O e ra rb (bb (C:=λc=>Q (.bool c) s) h' h)
 | .Lt,e=>DH O hn (bC 8) e ra rb h
 | .Gt,e=>r6 e ra rb λi j t u e=>s6 (e▸h)
 | .LtE,e=>r6 e ra rb λi j t u e=>PyProof.Rows.le_int (e▸h)
 | .GtE,e=>r6 e ra rb λi j t u e=>PyProof.Rows.ge_int (e▸h)
 | .Is,e=>by
  show aF _ _ (do return .bool (<-Bg a b)) Q E s
  rw[DV e ra rb];exact aE (aK (aK h))
 | .IsNot,e=>by
  refine ac e λc' e h'=>?_
  show aF _ _ (do return .bool (!(<-Bg a b))) Q E s
  rw[DV e ra rb];exact aE (aK (aK (bb (C:=λc=>Q (.bool c) s) h' h)))
 | .In,e=>IL e ra rb h
 | .NotIn,e=>AZ e ra rb h
end
end
section
open PySem.Spec PySem.Calls PyProof.Rows PySem.W
section
variable {G:Gl} {A:aZ} {E:aA->aD->Prop} {P P1 P₂:aG->Prop} {s:aD} {Q:aA->aD->Prop} {n:Nat}
theorem td {P:aG->Prop} {h:ah} {l:List V} {items:Array aA} (r:bh G P h l items.toList):(!items.isEmpty)=!l.isEmpty:=by
 have:=r.len
 simp only[aX]at this
 cases l with
 |nil=>simp only[List.length_nil]at this;simp[Array.isEmpty,this]
 |cons x l=>simp only[bJ]at this;simp[Array.isEmpty,this]
theorem lr {n:Nat} (h:jK n=true):n<2^62:=of_decide_eq_true h
theorem pA {n:Nat} (h:jK n=true):(n:Int)<2^63:=di.mpr (cT (lr h) (by decide):n<2^63)
theorem qw {x:V} {a:aA} {b:Bool} {Q:Bool->aD->Prop} (T:aY G s.heap) (e:lf x=some b) (ra:VR G P s.heap x a) (h: ∀s',cD G s s'->Q b s'):aF G.M A (truthy a) Q E s:=by
 cases x<;>try exact cI e
 ·rw[show a= .none from ra];exact truthy_none (aC e▸h _ (.refl T))
 ·rw[show a= .bool _ from ra];exact gD (aC e▸h _ (.refl T))
 ·exact ra.elim λt ht=>ht▸PyProof.Rows.truthy_int (aC e▸h _ (.refl T))
 ·rename_i x
  refine aj e λhl e=>ra.elim λt ht=>ht▸PySem.P.truthy_str (Bq.mpr (pA hl)) ?_
  refine(show((x.length:Int) !=0)=(x.length !=0) by rw[Bool.eq_iff_iff];simp)▸?_
  exact aC e▸h _ (cD.tok T (s.toks+1+1))
 ·refine aj e λhl e=>obE21 ra λa ia r=>?_
  have e1:=r.2.2.len
  rw[aX]at e1
  rw[r.1]
  refine truthy_tuple r.2.1 (e1▸pA hl) ?_
  rw[td r.2.2]
  exact aC e▸h _ (cD.tok T (s.toks+1+1))
 ·refine aj e λhl e=>obE21 ra λa ia r=>?_
  have e1:=r.2.2.2.len
  rw[aX]at e1
  rw[r.1]
  refine wpAny_truthy_list r.2.2.1.isList (e1▸pA hl) ?_
  rw[td r.2.2.2]
  exact aC e▸h _ (cD.tok T (s.toks+1+1))
theorem rL {i:Int} {n k:Nat} (e:ma i n=some k):n<2^62/\ -(n:Int)<=i/\i<n/\(if 0<=i then i.toNat else(i+n).toNat)=k:=
 aj e λhc e=>mh hc λh1 h2 h3=>⟨lr h1,of_decide_eq_true h2,of_decide_eq_true h3,aC e⟩
theorem jA {i:Int} {n k:Nat} (e:ma i n=some k): -(2^63)<=i/\i<2^63:=
 have h:=rL e
 have q:(n:Int)<=2^63:=dj.mpr (jZ (cT h.1 (by decide)):n<=2^63)
 ⟨Int.le_trans (Int.neg_le_neg q) h.2.1,Int.lt_of_lt_of_le h.2.2.1 q⟩
theorem np {i:Int} {n k:Nat} (e:ma i n=some k):n<2^62/\k<n/\((0<=i/\i=k)\/(i<0/\i+n=k)):=by
 have h:=rL e
 by_cases hi:0<=i
 ·have hk:i=k:=(n3 hi).symm.trans (congrArg _ ((if_pos hi).symm.trans h.2.2.2))
  exact⟨h.1,di.mp (hk▸h.2.2.1),.inl ⟨hi,hk⟩⟩
 ·have hi':=Bq.mp hi
  have h0:0<=i+n:=Int.add_left_neg (n:Int)▸Int.add_le_add_right h.2.1 n
  have hk:i+n=k:=(n3 h0).symm.trans (congrArg _ ((if_neg hi).symm.trans h.2.2.2))
  exact⟨h.1,di.mp (hk▸(by have q:=Int.add_lt_add_right hi' n;rwa [Int.zero_add]at q)),.inr ⟨hi',hk⟩⟩
theorem pQ {i:Int} {n k:Nat} (e:ma i n=some k):seqIndex? i n=some k:=
 have h:=np e
 h.2.2.elim (λq=>q.2▸PySem.seqIndex_of (bI k) (di.mpr h.2.1)) λq=>(MeetsSeq.seqIndex_neg q.1 (q.2▸bI k)).trans (congrArg (λz:Int=>some z.toNat) q.2)
theorem HY {x y z:V} {a b:aA} (T:aY G s.heap) (e:vT x y=some z) (ra:VR G P s.heap x a) (rb:VR G P₂ s.heap y b) (h:fU G P s z Q):aF G.M A (mu a b) Q E s:=by
 refine iP e λi hi e=>(rb.isInt hi).elim λt ht=>?_
 refine(ht)▸?_
 cases x<;>try exact cI e
 ·refine bD e λk hk c hc e=>ra.elim λu hu=>?_
  have hp:=np hk
  rw[hu]
  refine PyProof.Rows.getItem_str (c:=c) ?_ ?_ (bb (C:=λz=>fU G P s z Q) e h _ _ (cD.tok T _) ⟨_,rfl⟩)
  ·exact ij.mpr ⟨decide_eq_false (o6.mpr (jA hk).1),decide_eq_false (Bq.mpr (jA hk).2)⟩
  ·rw[pQ hk];simpa using hc
 ·refine ac e λk hk e=>obE21 ra λa ia r=>?_
  refine obE12 (r.2.2.get e) λv hv rv=>?_
  have e1:=r.2.2.len
  simp only[aX]at e1
  have hp:=np hk
  rw[r.1]
  exact PyProof.Rows.getItem_tuple r.2.1 (jA hk).1 (jA hk).2 (by rw[e1];exact pQ hk) (bM.symm.trans hv) (h _ _ (.refl T) rv)
 ·refine ac e λk hk e=>obE21 ra λa ia r=>?_
  refine obE12 (r.2.2.2.get e) λv hv rv=>?_
  have e1:=r.2.2.2.len
  simp only[aX]at e1
  refine obE03 (np hk) λhl h1 h2=>?_
  have hv':ia[k]?=some v:=bM.symm.trans hv
  refine(r.1)▸?_
  refine nk λcq=>?_
  rcases h2 with⟨h2,h3⟩|⟨h2,h3⟩
  all_goals refine cq ?_
  ·exact wpAny_getItem_list r.2.2.1.isList h2 (jA hk).2 (by rw[h3];exact hv') (h _ _ (.refl T) rv)
  ·exact wpAny_getItem_list_neg r.2.2.1.isList h2 (by rw[e1];exact(rL hk).2.1) (jA hk).1 (by rw[e1,h3];exact hv') (h _ _ (.refl T) rv)
theorem Ea (i:Int) (n:Nat):yE i n=qk n i:=rfl
theorem EV {α:Type} (l:List α) (a b:Nat):ue l a b=(l.drop a).take (b-a):=by
 unfold ue
 rw[List.drop_take]
def jo (o:Option V) (v:aA):Prop:=match o with
 |none=>v= .none
 |some x=> ∃i t,x= .int i/\v= .int i t
theorem qS {d n:Nat} {o:Option V} {v:aA} {x:Nat} (e:nV d n o=some x) (p:jo o v): ∃i:Option (Int×ze),v=partValue i/\(i.map (·.1)).elim d (qk n)=x/\IsPart v (i.map (·.1)):=by
 cases o with
 |none=>exact⟨none,p,aC e,by rw[show v= .none from p];exact .none⟩
 |some w=>
  obtain⟨i,t,rfl,rfl⟩:=p
  exact aj e λ_ e=>⟨some (i,t),rfl,by simp only[<-aC e,Ea];rfl,.int _ _⟩
theorem xU {l:List V} {lo hi:Option V} {a:aG} {ia:Array aA} {sl:aG} {vl vu:aA} {x y:Nat} (T:aY G s.heap) (F:fz P s.heap) (el:nV 0 l.length lo=some x) (eh:nV l.length l.length hi=some y)
  (ha:s.heap.PlainList a ia) (ra:bh G P s.heap l ia.toList) (hsz:l.length<=sT) (hs:s.heap.IsSliceOf sl vl vu .none) (pl:jo lo vl) (pu:jo hi vu) (h:fU G P s (.list (ue l x y)) Q):
  aF G.M A (mu (.ref a) (.ref sl)) Q E s:=by
 have e1:=ra.len
 simp only[aX]at e1
 refine nk λcq=>?_
 refine obE13 (qS el pl) λi _ p i1=>?_
 refine obE13 (qS eh pu) λj _ q j1=>?_
 refine cq ?_
 refine z9 ha.isList hs i1 j1 .none (λh=>cI h) ?_ (by rw[e1];exact hsz)
 rw[show slicePick ia (i.map (·.1)) (j.map (·.1)) none=(ue ia.toList x y).toArray by rw[EV];refine kmk_pick_nat ia ?_;simp only[sliceBounds_plain,e1,p,q]]
 have st:=cD.push (G:=G) T ({cls:= .type "list",data:= .seq (ue ia.toList x y).toArray}:db) s.toks
 exact h _ _ st ⟨_,_,rfl,F.new,⟨0,aS _ rfl⟩,bh.ext st.ext T _ _ ((ra.take y).drop x)⟩
theorem v3 {l:List V} {a:aG} {ia:Array aA} {sl:aG} {t:ze} (T:aY G s.heap) (F:fz P s.heap) (ha:s.heap.PlainList a ia) (ra:bh G P s.heap l ia.toList) (hsz:l.length<=sT)
  (hs:s.heap.IsSliceOf sl .none .none (.int (-1) t)) (h:fU G P s (.list l.reverse) Q):aF G.M A (mu (.ref a) (.ref sl)) Q E s:=by
 have e1:=ra.len
 simp only[aX]at e1
 refine z9 ha.isList hs .none .none (.int (-1) t) (by decide) ?_ (by rw[e1];exact hsz)
 rw[krv_pick]
 have st:=cD.push (G:=G) T ({cls:= .type "list",data:= .seq ia.toList.reverse.toArray}:db) s.toks
 refine h _ _ st ⟨_,_,rfl,F.new,⟨0,aS _ rfl⟩,?_⟩
 exact bh.ext st.ext T _ _ ra.reverse
theorem rM {α:Type} (arr:Array α) (a:Nat): ∀k,((ak k).map (a+ ·)).filterMap (arr[·]?)=(arr.toList.drop a).take k
 |0=>by simp
 |k+1=>by
  rw[List.range_succ,fV,List.filterMap_append,rM arr a k,js]
  congr 1
  simp only[au,lY,zn,B6,B4]
  rw[bM]
  cases arr[a+k]?<;>rfl
theorem FA (n:Nat) (lo hi:Option Int):PySem.Builtin.Str.strSliceIndices lo hi 1 n=(ak (hi.elim n (qk n)-lo.elim 0 (qk n))).map (lo.elim 0 (qk n)+ ·):=by
 have e:PySem.Builtin.Str.strSliceIndices lo hi 1 n=sliceRange ((lo.elim 0 (qk n):Nat):Int) ((hi.elim n (qk n):Nat):Int) 1:=by
  simp only[PySem.Builtin.Str.strSliceIndices]
  cases lo<;>cases hi<;>simp[clipAt_cast]
 simp only[e,sliceRange_one]
theorem GK (x:Nat) (i:Option Int):i.elim x (qk x)<=x:=by
 cases i with
 |none=>exact bC _
 |some i=>exact dj.mp (clipAt_cast x i▸Int.max_le.mpr ⟨bI _,Int.min_le_right ..⟩)
theorem AK {x:aN} {t:ze} {lo hi:Option V} {sl:aG} {vl vu:aA} {p q:Nat} (T:aY G s.heap) (el:nV 0 x.length lo=some p) (eh:nV x.length x.length hi=some q)
  (hs:s.heap.IsSliceOf sl vl vu .none) (pl:jo lo vl) (pu:jo hi vu) (hsz:x.length<=sT) (h:fU G P s (.str ⟨(ue x.cps.toList p q).toArray⟩) Q):
  aF G.M A (mu (.str x t) (.ref sl)) Q E s:=by
 refine nk λcq=>?_
 obtain⟨i,rfl,e1,_⟩:=qS el pl
 obtain⟨j,rfl,e2,_⟩:=qS eh pu
 refine cq ?_
 have ep:slicePicked x i j none=(ak (q-p)).map (p+ ·):=by
  show PySem.Builtin.Str.strSliceIndices (i.map (·.1)) (j.map (·.1)) 1 x.length=_
  rw[FA,e1,e2]
 have hq:q<=x.length:=e2▸GK _ _
 have hl:x.cps.toList.length=x.length:=aX
 refine wpAny_getItem_str_slice (l:=i) (u:=j) (st:=none) hs (by rfl) ?_
 unfold sliceMade
 split
 ·rename_i hc
  have hn:=beq_iff_eq.mp (aJ.mp hc).2
  rw[ep,aR,dR]at hn
  have hx:ue x.cps.toList p q=x.cps.toList:=((List.drop_sublist ..).trans (List.take_sublist ..)).eq_of_length ((et ..).trans ((congrArg (· -p) (l3 (hl▸hq))).trans (hn.trans hl.symm)))
  refine h _ _ (.refl T) ⟨t,?_⟩
  rw[hx]
 ·rw[ep,rM,<-EV]
  refine⟨?_,h _ _ (cD.tok T _) ⟨_,rfl⟩⟩
  show(ue x.cps.toList p q).toArray.size<=_
  rw[cB]
  unfold ue
  rw[et,dm]
  exact aQ (Nat.sub_le ..) (aQ (Nat.min_le_right ..) (hl▸hsz))
end
end
section
open PySem.Spec PySem.Calls PyProof.Rows PySem.W
theorem wD {x:V} (h:DW x=true): ∃i,x= .int i:=by
 cases x with
 |int i=>exact⟨i,rfl⟩
 |_=>exact aL h
theorem yh {Q:V->Bool} (h0: ∀x,(∀y l,x≠ .tup (y::l))->Q x=false) {x:V} (h:Q x=true): ∃y l,x= .tup (y::l):=by
 refine qN λn=>?_
 rw[h0 x λy l e=>n ⟨y,l,e⟩]at h
 cases h
theorem wH (x:V) (n: ∀y l,x≠ .tup (y::l)):j7 x=false:=by
 cases x with
 |tup l=>cases l with
  |nil=>rfl
  |cons y l=>exact(n y l rfl).elim
 |_=>rfl
theorem vN (x:V) (n: ∀y l,x≠ .tup (y::l)):uM x=false:=by
 cases x with
 |tup l=>cases l with
  |nil=>rfl
  |cons y l=>exact(n y l rfl).elim
 |_=>rfl
theorem nQ {y:V} {l:List V} (h:j7 (.tup (y::l))=true): ∃i,y= .int i:=by
 cases y with
 |int i=>exact⟨i,rfl⟩
 |_=>exact aL h
theorem xM {y:V} {l:List V} (h:uM (.tup (y::l))=true): ∃l,y= .tup l:=by
 cases y with
 |tup i=>exact⟨i,rfl⟩
 |_=>exact aL h
theorem nw {x y:V} {b:Bool} (h:JF x y=some b):x≠ .none/\y≠ .none:=by
 refine⟨λe=>?_,λe=>?_⟩
 ·subst e
  exact cI h
 ·subst e
  cases x<;>exact cI h
section
variable {G:Gl} {A:aZ} {E:aA->aD->Prop} {P P1 P₂:aG->Prop} {s:aD} {n:Nat}
theorem tY {α:Type} {cmp:Nat->Nat->Option Bool} {ask:Nat->Nat->(Bool->aD->Prop)->aD->Prop} (hc: ∀i j b,cmp i j=some b-> ∀C:Bool->aD->Prop,C b s->ask i j C s) (t:KasT α):
  ∀(a:α),nN cmp t=some a-> ∀Q:α->aD->Prop,Q a s->t.kasWp ask Q s:=by
 induction t with
 |ret a=>exact λb e Q h=>show Q a s from aC e▸h
 |ask i j k ih=>
  intro a e Q h
  cases hb:cmp i j with
  |some b=>exact hc i j b hb _ (ih b a (by unfold nN at e;rw[hb]at e;exact e) Q h)
  |none=>exact cI (by unfold nN at e;rw[hb]at e;exact e:none=some a)
theorem Hv (O:cw n A) (hn:8<=n) {b fin:Bool} {Q:Bool->aD->Prop} {c:Bool} (x:List V): ∀(y:List V) (xs ys:List aA) (i:Nat),F7 (Jw 7) (Hu 7) x y=some c->
  (i=0->b=true->j7 (.tup x)=true/\j7 (.tup y)=true)->(x.length=y.length->fin=false)->bh G P1 s.heap x xs->bh G P₂ s.heap y ys->Q c s->KatLex G.prog G.w A b fin Q (xs.zip ys) i s:=by
 induction x with
 |nil=>
  intro y xs ys i e _ hf rx ry h
  refine aj e λhr e=>?_
  rw[show xs=[]from rx]
  refine kat_nil ?_
  rw[hf (congrArg _ (bX.mp hr).symm),aC e];exact h
 |cons x l ih=>
  intro y xs ys i e hb hf rx ry h
  refine nk λcq=>?_
  cases y with
  |nil=>refine cq ?_;exact cI e
  |cons y l'=>
  refine cq ?_
  refine nk λcq=>?_
  refine obE21 rx λv vs rx=>obE21 ry λu us ry=>ac e λq hq e=>?_
  refine cq ?_
  refine(rx.1)▸?_
  refine(ry.1)▸?_
  refine kat_cons (EJ (O.eq8 (n:=n) (k:=7) (by decide)) hq rx.2.1 ry.2.1 _ _ _ _ ?_)
  cases q with
  |true=>exact kat_yes (ih l' vs us (i+1) e (λh=>(Nat.succ_ne_zero _ h).elim) (λh1=>hf (congrArg (· +1) h1)) rx.2.2 ry.2.2 h)
  |false=>
   refine kat_no ?_
   by_cases hbi:(b&&i==0)=true
   ·rw[hbi]
    refine nk λcq=>?_
    refine gC hbi λh1 h2=>(nQ (hb (fQ h2) h1).1).elim λa ea=>(nQ (hb (fQ h2) h1).2).elim λa' ea'=>?_
    clear hb hf hq;subst ea ea'
    refine rx.2.1.elim λt ht=>ry.2.1.elim λt' ht'=>?_
    refine cq ?_
    refine(ht)▸?_
    refine(ht')▸?_
    exact oneLt_int ((aC e:decide (a<a')=c)▸h)
   ·rw[f5.mpr hbi]
    exact kat_one _ _ (DH O hn (by decide:7<=8) e rx.2.1 ry.2.1 h)
theorem Hx (O:cw n A) (hn:8<=n) {b:Bool} {Q:Bool->aD->Prop} {l l':List V} {u v:aA} {c:Bool} (e:JF (.tup l) (.tup l')=some c) (hb:b=true->j7 (.tup l)=true/\j7 (.tup l')=true) (ra:VR G P1 s.heap (.tup l) u) (rb:VR G P₂ s.heap (.tup l') v) (h:Q c s):
  aF G.M A (keyLt' (tuples' b) u v) Q E s:=
 obE21 ra λa ia ra=>obE21 rb λa' ia' rb=>ra.2.1.elim λo ho=>ho.2.2.elim λk hd=>rb.2.1.elim λo' ho'=>ho'.2.2.elim λk' hd'=>by
  rw[ra.1,rb.1]
  refine kat_lt ho.1 hd ho'.1 hd' (Hv O hn l l' _ _ 0 e (λ_=>hb) (λhl=>decide_eq_false ?_) ra.2.2 rb.2.2 h)
  show¬(ia.toList.length<ia'.toList.length)
  rw[ra.2.2.len,rb.2.2.len,hl];exact ig _
theorem bh.getD {l:List V} {vs:List aA} (r:bh G P s.heap l vs) (i:Nat):VR G P s.heap (l.getD i .none) (vs.getD i .none):=by
 by_cases h:i<l.length
 ·refine obE12 (r.get (aW h)) λv hv rv=>?_
  simp only[bn,bn,aW h,hv]
  exact rv
 ·rw[bn,bn,dx (i5 h),dx (by rw[r.len];exact i5 h)]
  exact rfl
theorem wK {l:List V} {i:Nat} (h:l.getD i .none≠ .none):l.getD i .none∈l:=by
 by_cases hi:i<l.length
 ·rw[bn,aW hi]
  exact iW hi
 ·rw[bn,dx (i5 hi)]at h
  exact(h rfl).elim
theorem Jp {Q:V->Bool} (hQ: ∀x,Q x=true-> ∃y l,x= .tup (y::l)) {T:aA} (hT: ∀y l v,Q (.tup (y::l))=true->VR G P s.heap y v->Looks G.M s.heap (typeOf v) T) (ks:List V): ∀(vs:List aA),ks.all Q=true->bh G P s.heap ks vs->
  ∃fs:List aA,fs.length=vs.length/\KatTups s.heap vs fs/\ ∀v∈fs,Looks G.M s.heap (typeOf v) T:=by
 induction ks with
 |nil=>
  intro vs _ r
  cases(show vs=[]from r)
  exact⟨[],rfl,KatTups.nil,λ_ h=>(aU h).elim⟩
 |cons x l ih=>
  intro vs e r
  refine nk λcq=>?_
  obtain⟨v,vs,rfl,rv,rl⟩:=r
  refine gC e λe1 e2=>obE21 (hQ x e1) λy l' q=>?_
  clear e;subst q
  obtain⟨a,ia,rfl,⟨o,ho,hc,k,hd⟩,r⟩:=rv
  refine obE23 r λw ws e3 rw1 _=>?_
  refine obE13 (ih vs e2 rl) λfs h0 h1 h2=>?_
  refine cq ?_
  exact⟨w::fs,congrArg (· +1) h0,KatTups.cons ho hc hd (by rw[<-bM,e3];rfl) h1,λz hz=>(aO.mp hz).elim (λe=>e▸hT y l' _ e1 rw1) (h2 z)⟩
theorem D1 (ks:List V): ∀{kv:List aA},ks.all DW=true->bh G P s.heap ks kv-> ∃ns,pN kv ns:=by
 induction ks with
 |nil=>exact λ_ r=>⟨[],(show _=[]from r)▸ .nil⟩
 |cons x l ih=>
  intro kv hk r
  obtain⟨v,vs,rfl,rv,rl⟩:=r
  refine gC hk λh1 h2=>(ih h2 rl).elim λns q=>(wD h1).elim λi e=>?_
  clear hk h1;subst e
  obtain⟨t,rfl⟩:=rv
  exact⟨_,.cons _ _ q⟩
theorem yg (O:cw n A) (hn:8<=n) {ks:List V} {kv:List aA} {m:Nat} {p:Array Nat} {Q:SortKind->aD->Prop} (hm:ks.length=m) (h2:2<=m) (r:bh G P s.heap ks kv) (e:nN (λi j=>JF (ks.getD i .none) (ks.getD j .none)) (kas_sort m)=some p)
  (h: ∀κ,(∀R:Array Nat->aD->Prop,R p s->(kas_sort m).kasWp (kas_ask G.prog G.w A κ kv) R s)->Q κ s) {Q':V->Bool} {T:aA} (hQ: ∀x,Q' x=true-> ∃y l,x= .tup (y::l)) (hT: ∀y l v,Q' (.tup (y::l))=true->VR G P s.heap y v->Looks G.M s.heap (typeOf v) T) (hT2:(T==T)=true) (hint:(T !=sZ "tuple")=true-> ∀x,Q' x=true->j7 x=true) (hall:ks.all Q'=true):aF G.M A (keyKind' kv.toArray) Q E s:=by
 refine obE13 (Jp hQ hT ks kv hall r) λfs h0 h1 h3=>?_
 refine kat_kind h1 (by simp only[h0,r.len,hm];exact cT Nat.zero_lt_two h2) h3 hT2 (h _ λR hR=>tY (λi j b hb C hC=>?_) _ _ e R hR)
 have hmem: ∀{k},ks.getD k .none≠ .none->Q' (ks.getD k .none)=true:=λhk=>aT.mp hall _ (wK hk)
 have q1:=hmem (nw hb).1
 have q2:=hmem (nw hb).2
 have r1:=r.getD i
 have r2:=r.getD j
 refine nk λcq=>?_
 refine obE21 (hQ _ q1) λy l e1=>?_
 refine obE21 (hQ _ q2) λy' l' e2=>?_
 rw[e1]at q1 r1 hb
 rw[e2]at q2 r2 hb
 refine cq ?_
 exact Hx O hn hb (λht=>⟨hint ht _ q1,hint ht _ q2⟩) r1 r2 hC
theorem Er (O:cw n A) (hn:8<=n) {ks:List V} {kv:List aA} {m:Nat} {p:Array Nat} {Q:SortKind->aD->Prop} (hm:ks.length=m) (h2:2<=m) (hk:DQ ks=true) (r:bh G P s.heap ks kv) (e:nN (λi j=>JF (ks.getD i .none) (ks.getD j .none)) (kas_sort m)=some p)
  (h: ∀κ,(∀R:Array Nat->aD->Prop,R p s->(kas_sort m).kasWp (kas_ask G.prog G.w A κ kv) R s)->Q κ s):aF G.M A (keyKind' kv.toArray) Q E s:=by
 refine(cO.mp hk).elim (λhk=>(cO.mp hk).elim (λhk=>?_) λhk=>?_) λhk=>?_
 ·refine(D1 ks hk r).elim λns hI=>?_
  have hl:2<=kv.length:=by rw[r.len,hm];exact h2
  cases kv with
  |nil=>exact(zi _ hl).elim
  |cons v₁ kv=>cases kv with
   |nil=>exact(zi _ (Nat.le_of_succ_le_succ hl)).elim
   |cons v₂ vs=>
    rw[keyKind_ints hI]
    refine aK (h _ λR hR=>tY (λi j b hb C hC=>?_) _ _ e R hR)
    have hmem: ∀{k},ks.getD k .none≠ .none-> ∃i,ks.getD k .none= .int i:=λhk'=>wD (aT.mp hk _ (wK hk'))
    have r1:=r.getD i
    have r2:=r.getD j
    refine nk λcq=>?_
    obtain⟨a,e1⟩:=hmem (nw hb).1
    obtain⟨a',e2⟩:=hmem (nw hb).2
    rw[e1]at r1 hb
    rw[e2]at r2 hb
    obtain⟨t,e3⟩:=r1
    obtain⟨t',e4⟩:=r2
    refine cq ?_
    show aF _ _ (keyLt' oneType' ((v₁::v₂::vs).getD i .none) ((v₁::v₂::vs).getD j .none)) _ _ _
    refine(e3)▸?_
    refine(e4)▸?_
    exact kat_lt_int ((aC hb:decide (a<a')=b)▸hC)
 ·exact yg O hn hm h2 r e h (T:= .type "int") (λx=>yh wH) (λy l v hy hv=>(nQ hy).elim λi e=>by subst e;exact hv.elim λt e=>e▸Looks.of_pure rfl) (by decide) (λ_ x hx=>hx) hk
 ·refine yg O hn hm h2 r e h (T:= .type "tuple") (λx=>yh vN) (λy l v hy hv=>(xM hy).elim λi e=>?_) (by decide) (λh=>absurd h (by decide)) hk
  subst e
  refine nk λcq=>?_
  obtain⟨a,ia,rfl,⟨o,ho,hc,k,hd⟩,r⟩:=hv
  refine cq ?_
  exact λA Q E s k q=>wpAny_typeOf_ref (k _ _ ho) (by rw[hc];exact q)
end
end
section
open PySem.Spec PySem.Calls PyProof.Rows PySem.W
section
variable {G:Gl} {A:aZ} {E:aA->aD->Prop} {P P1 P₂:aG->Prop} {s:aD} {n:Nat}
theorem DF (O:cw n A) (hn:8<=n) {ks l cL:List V} {kv vs:List aA} (r:bh G P s.heap ks kv) (hv:vs.length=l.length) (e:lF ks l=some cL):
  aF G.M A (if vs.toArray.size<2 then dC general' else keyKind' kv.toArray) (λκ s'=>s'=s/\ ∀Q':PUnit×SortSt->aD->Prop,(∀st ov,(arrOf st).map (·.2)=cF ov->ov.length=vs.length->failedOf st=none->(∀P h',bh G P h' l vs->bh G P h' cL ov)->Q' ((),st) s)->
   aF G.M A ((if vs.toArray.size<2 then dC ()else sortRuns').run (SortSt.mk' κ (kv.toArray.zip vs.toArray) #[] 7 none)) Q' E s) (λ_ _=>False) s:=by
 unfold lF at e
 refine aj e λh64 e=>?_
 simp only[ag,decide_eq_true_eq]at h64
 have hk:=r.len
 by_cases h2:vs.toArray.size<2
 ·rw[if_pos h2]
  replace h2:=(cB)▸h2
  rw[if_pos (by lia)]at e
  cases e
  refine aK ⟨rfl,λQ' h=>?_⟩
  rw[if_pos (by rw[cB];exact h2),StateT.run_pure]
  refine aK (h (SortSt.mk' general' (kv.toArray.zip vs.toArray) #[] 7 none) vs ?_ rfl rfl λP h' r=>r)
  show(kv.toArray.zip vs.toArray).map (·.2)=_
  apply qA.mp
  rw[Array.toList_map,ksk_zip]
  exact List.map_snd_zip (by simp;lia)
 ·rw[if_neg h2]
  replace h2:=(cB)▸h2
  rw[if_neg (by lia)]at e
  refine aj e λhko e=>?_
  rw[dZ]at e
  obtain⟨p,e3,rfl⟩:=e
  refine Er O hn h64.2 (by lia) hko r e3 λκ hw=>⟨rfl,λQ' h=>?_⟩
  rw[if_neg (by rw[cB];exact h2)]
  refine ay (kat_run (ks:=kv) (Q:=λst' s'=>s'=s/\p.size=vs.length/\arrOf st'=p.map (kas_item (kv.toArray.zip vs.toArray))/\failedOf st'=none) (G:=λp' s'=>p'=p/\s'=s) (by lia) (by lia) (by lia) (λp' st' s' a1 a2 a3 a4=>?_) ?_) ?_ λ_ _ x=>x
  ·clear e3 e r hw h;clear e;obtain⟨rfl,rfl⟩:=a4;exact⟨rfl,a1,a2,a3⟩
  ·rw[hv];exact hw _ ⟨rfl,rfl⟩
  ·clear r hw;rintro ⟨⟨⟩,st'⟩ s' ⟨rfl,hp,har,hf⟩
   refine h st' _ (kat_snds (by lia) har) (by simp only[aR,aX,hp]) hf λP' h' r'=>?_
   refine bh.of (by simp) λk x v e1 e2=>?_
   rw[bH,dZ]at e1 e2
   obtain⟨i,hi,rfl⟩:=e1
   obtain⟨i',hi',rfl⟩:=e2
   rw[hi]at hi'
   cases hi'
   exact bh.getD (s:={s' with heap:=h'}) r' i
theorem xR (O:cw n A) (hn:8<=n) {s₀:aD} (T:aY G s₀.heap) (X:cD G s₀ s) {D:aG} {k:Nat} {l cL:List V} {vs:List aA} {R:PySem.Fin->aD->Prop} (hD:s₀.heap.get? D=none) (ho:s.heap.get? D=some (bK "list" vs.toArray k)) (r:bh G P s₀.heap l vs) (e:lF l l=some cL)
  (h: ∀s' ov c,cD G s₀ s'->s'.heap.get? D=some (bK "list" (cF ov) c)->bh G P s'.heap cL ov->R (.done (.ret .none)) s'):aF G.M A (Builtin.«list.sort» ⟨[.ref D],[]⟩) R E s:=by
 have h64:l.length<64:=by
  unfold lF at e
  split at e
  ·rename_i h;rw[ag,decide_eq_true_eq]at h;exact h.1
  ·cases e
 have hl:=r.len
 obtain⟨e1,ho1⟩: ∃e1,(s.heap.update D (ad λ_=>(#[]:Array aA))).get? D=some (bK "list" #[] e1):=⟨_,h9 ho λ_=> #[]⟩
 rw[list_sort_plain]
 refine aE (Bf ho rfl ?_)
 refine aE (jT ho rfl ?_ (by rw[cB,bT];lia) (bj _))
 refine aE (vB ho1 rfl ?_)
 refine aE (wpAny_newTuple ?_ (by show vs.length<=_;rw[bT];lia))
 refine aE (l4 ?_ (bj _))
 refine ab ?_
 show aF G.M A _ R E {s with heap:=((s.heap.update D (ad λ_=>(#[]:Array aA))).push (bK "tuple" vs.toArray 0)).push (bK "list" #[] 0)}
 have X1:cD G s₀ {s with heap:=s.heap.update D (ad λ_=>(#[]:Array aA))}:=X.but ho (.list _ _) hD (λb o hb e=>by rw[cG _ _ _ _ hb];exact e)
 have X2:cD G s₀ {s with heap:=((s.heap.update D (ad λ_=>(#[]:Array aA))).push (bK "tuple" vs.toArray 0)).push (bK "list" #[] 0)}:=
  X1.trans ((cD.push X1.tabs _ _).trans (cD.push (cD.push (s:={s with heap:=s.heap.update D (ad λ_=>(#[]:Array aA))}) X1.tabs _ s.toks).tabs _ s.toks))
 have ho2:(((s.heap.update D (ad λ_=>(#[]:Array aA))).push (bK "tuple" vs.toArray 0)).push (bK "list" #[] 0)).get? D=some (bK "list" #[] e1):=aH _ (aH _ ho1)
 revert X2 ho2
 generalize ((s.heap.update D (ad λ_=>(#[]:Array aA))).push (bK "tuple" vs.toArray 0)).push (bK "list" #[] 0)=h2
 intro X2 ho2
 have rr:=bh.ext X2.ext T l vs r
 dsimp only
 have M:=DF (kv:=vs) (vs:=vs) (E:=E) O hn (s:={s with heap:=h2}) rr hl e
 by_cases hz:vs.toArray.size<2
 all_goals
  first
   |rw[if_pos hz]at M⊢
   |rw[if_neg hz]at M⊢
  refine aE (ay M (λκ s' hk=>?_) λ_ _ x=>x.elim)
  obtain⟨rfl,hk⟩:=hk
  refine aE (hk _ λst ov hov hlo hf hr=>?_)
  dsimp only
  refine(hov)▸?_
  refine nk λcq=>?_
  obtain⟨c2,hc2⟩: ∃c2,(h2.update D (ad λ_=>cF ov)).get? D=some (bK "list" (cF ov) c2):=⟨_,h9 ho2 λ_=>cF ov⟩
  refine cq ?_
  refine aE (vB ho2 rfl ?_)
  refine aE (jT ho2 rfl ?_ (bj _) (by show(cF ov).size<=_;rw[cB,bT];lia))
  rw[hf]
  simp only[bne_self_eq_false,gh,if_false]
  have X3:cD G s₀ {s with heap:=h2.update D (ad λ_=>cF ov)}:=X2.but ho2 (.list _ _) hD (λb o hb e=>by show(h2.update D _).get? b=_;rw[cG _ _ _ _ hb];exact e)
  exact aK (h _ ov c2 X3 hc2 (hr _ _ (bh.ext X3.ext T l vs r)))
end
end
section
open PySem.Spec PySem.Calls PyProof.Rows PySem.W
theorem xj {M:i6} {A:aZ} {E:aA->aD->Prop} {body:aA->PUnit->l6 (ForInStep PUnit)} (I:List aA->aD->Prop) (vs:List aA) (hb: ∀(i:Nat) x s kv,vs[i]?=some x->kv.length=i->I kv s->aF M A (body x ⟨⟩) (λr s'=>r= .yield ⟨⟩/\ ∃k,I (kv++ [k]) s') E s):
  ∀(r:List aA) (kv:List aA) (s:aD),r=vs.drop kv.length->kv.length<=vs.length->I kv s->aF M A (BS r PUnit.unit body) (λ_ s'=> ∃kv,kv.length=vs.length/\I kv s') E s:=by
 intro zl
 induction zl with
 |nil=>
  intro kv s hr hle h
  have:=congrArg jt hr
  simp at this
  rw[List.forIn_nil]
  exact aK ⟨kv,by lia,h⟩
 |cons x r ih=>
  intro kv s hr hle h
  have hx:vs[kv.length]?=some x:=by
   have:=congrArg (·[0]?) hr
   simpa using this.symm
  have hlt:kv.length<vs.length:=by
   apply f8
   intro hn
   rw[dx (by lia)]at hx
   cases hx
  rw[fW]
  refine aE (ay (hb _ x s kv hx rfl h) (λq s' hq=>?_) λ_ _ x=>x)
  obtain⟨rfl,k,hk⟩:=hq
  refine ih (kv++ [k]) s' ?_ (by simp;lia) hk
  have:=congrArg List.tail hr
  simp only[List.tail_cons,tF]at this
  simp only[bO,xE]
  exact this
section
variable {G:Gl} {A:aZ} {E:aA->aD->Prop} {P P1 P₂:aG->Prop} {s:aD} {n:Nat}
theorem Cr {s₀:aD} (T:aY G s₀.heap) {D:aG} (h:s₀.heap.get? D=none):D∉G.tb:=λhm=>by
 obtain⟨q,hq,rfl⟩:=aP.mp hm
 obtain⟨_,ps,b,_⟩:=T q hq
 rw[h]at b;cases b
theorem Ao {l:List V} (e:cj l=true) {i:Nat} (h:i<l.length):l[i].flat=true:=eW.mp e _ (iW h)
theorem xk {l:List V} (e:cj l=true) (n:Nat):cj (l.take n)=true:=oA (λ_=>fu) e
theorem xS (O:cw n A) (hn:8<=n) {s₀:aD} (T:aY G s₀.heap) (X:cD G s₀ s) {D:aG} {k:Nat} {f:aA} {ks l cL:List V} {vs:List aA} {R:PySem.Fin->aD->Prop} (hD:s₀.heap.get? D=none) (ho:s.heap.get? D=some (bK "list" vs.toArray k)) (r:bh G P s₀.heap l vs) (hfl:cj ks=true) (e:lF ks l=some cL)
  (hcall: ∀(i:Nat) x v y,l[i]?=some x->vs[i]?=some v->ks[i]?=some y-> ∀s1,cD G s₀ s1-> ∀Q:aA->aD->Prop,(∀u s2,cD G s1 s2->VR G Kg s2.heap y u->Q u s2)->aF G.M A (call f [v]) Q (λ_ _=>False) s1)
  (h: ∀s' ov c,cD G s₀ s'->s'.heap.get? D=some (bK "list" (cF ov) c)->bh G P s'.heap cL ov->R (.done (.ret .none)) s'):aF G.M A (ksk_tree D f false) R E s:=by
 have h64:l.length<64/\ks.length=l.length:=by
  unfold lF at e
  split at e
  ·rename_i h;simp only[ag,decide_eq_true_eq]at h;exact h
  ·cases e
 have hl:=r.len
 have ha:D<s.heap.objs.size:=br ho
 obtain⟨e1,ho1⟩: ∃e1,(s.heap.update D (ad λ_=>(#[]:Array aA))).get? D=some (bK "list" #[] e1):=⟨_,h9 ho λ_=> #[]⟩
 unfold ksk_tree
 refine aE (Bf ho rfl ?_)
 refine aE (jT ho rfl ?_ (by rw[cB,bT];lia) (bj _))
 refine aE (vB ho1 rfl ?_)
 refine aE (wpAny_newTuple ?_ (by show vs.length<=_;rw[bT];lia))
 refine aE (l4 ?_ (bj _))
 refine ab ?_
 have X1:cD G s₀ {s with heap:=s.heap.update D (ad λ_=>(#[]:Array aA))}:=X.but ho (.list _ _) hD (λb o hb e=>by rw[cG _ _ _ _ hb];exact e)
 have X2:cD G s₀ {s with heap:=((s.heap.update D (ad λ_=>(#[]:Array aA))).push (bK "tuple" vs.toArray 0)).push (bK "list" #[] 0)}:=
  X1.trans ((cD.push X1.tabs _ _).trans (cD.push (cD.push (s:={s with heap:=s.heap.update D (ad λ_=>(#[]:Array aA))}) X1.tabs _ s.toks).tabs _ s.toks))
 have ho2:(((s.heap.update D (ad λ_=>(#[]:Array aA))).push (bK "tuple" vs.toArray 0)).push (bK "list" #[] 0)).get? D=some (bK "list" #[] e1):=aH _ (aH _ ho1)
 have hk2:(((s.heap.update D (ad λ_=>(#[]:Array aA))).push (bK "tuple" vs.toArray 0)).push (bK "list" #[] 0)).get? ((s.heap.update D (ad λ_=>(#[]:Array aA))).push (bK "tuple" vs.toArray 0)).objs.size=some (bK "list" #[] 0):=aS _ rfl
 have hkz:((s.heap.update D (ad λ_=>(#[]:Array aA))).push (bK "tuple" vs.toArray 0)).objs.size=s.heap.objs.size+1:=by rw[size_push',qM]
 have hne:D≠((s.heap.update D (ad λ_=>(#[]:Array aA))).push (bK "tuple" vs.toArray 0)).objs.size:=by rw[hkz];exact am (iD ha)
 have hkf:s₀.heap.get? ((s.heap.update D (ad λ_=>(#[]:Array aA))).push (bK "tuple" vs.toArray 0)).objs.size=none:=by rw[hkz];exact X.gone T (bA (mx _))
 show aF G.M A (ksk_rest D f false vs.toArray e1 (.ref ((s.heap.update D (ad λ_=>(#[]:Array aA))).push (bK "tuple" vs.toArray 0)).objs.size)) R E {s with heap:=((s.heap.update D (ad λ_=>(#[]:Array aA))).push (bK "tuple" vs.toArray 0)).push (bK "list" #[] 0)}
 revert X2 ho2 hk2 hne hkf
 generalize ((s.heap.update D (ad λ_=>(#[]:Array aA))).push (bK "tuple" vs.toArray 0)).objs.size=kS
 generalize ((s.heap.update D (ad λ_=>(#[]:Array aA))).push (bK "tuple" vs.toArray 0)).push (bK "list" #[] 0)=h2
 intro X2 ho2 hk2 hne hkf
 have ntD:=Cr T hD
 have ntk:=Cr T hkf
 unfold ksk_rest
 refine aE (ml ?_)
 rw[List.forIn_toArray]
 refine aE (ay (xj (λkv s'=>cD G s₀ s'/\s'.heap.get? D=some (bK "list" #[] e1)/\(∃c,s'.heap.get? kS=some (bK "list" (cF kv) c))/\bh G Kg s'.heap (ks.take kv.length) kv) vs (λi x s' kv hx hi hI=>?_) vs [] _ rfl (bj _) ⟨X2,ho2,⟨_,hk2⟩,rfl⟩) (λ_ s' hd=>?_) λ_ _ x=>x)
 ·refine nk λcq=>?_
  obtain⟨Y,hd,⟨c,hc⟩,hr⟩:=hI
  refine cq ?_
  have hil:i<l.length:=by
   apply f8
   intro hn
   rw[dx (by lia)]at hx
   cases hx
  refine aE (za (ay (hcall i l[i] x ks[i] (aW hil) hx (aW _) s' Y _ (λu s2 Z ru=>?_)) (λu s2 hu=>hu) λ_ _ hF=>hF.elim))
  have hd':=Z.ext _ _ hd ntD
  have hc':=Z.ext _ _ hc ntk
  obtain⟨c2,hc2⟩: ∃c2,(s2.heap.update kS (ad (·.push u))).get? kS=some (bK "list" (cF (kv++ [u])) c2):=⟨_,by rw[<-show(cF kv).push u=cF (kv++ [u]) by simp];exact h9 hc' (·.push u)⟩
  try dsimp only
  refine aE (jT hc' rfl ?_ (by rw[cB,bT];lia) (aQ (xC (Array.size_push ..)) (by rw[cB,bT];lia)))
  have Y2:cD G s₀ {s2 with heap:=s2.heap.update kS (ad (·.push u))}:=(Y.trans Z).but hc' (.list _ _) hkf (λb o hb e=>by rw[cG _ _ _ _ hb];exact e)
  refine aK ⟨rfl,u,Y2,?_,⟨c2,hc2⟩,?_⟩
  ·show(s2.heap.update kS _).get? D=_
   rw[cG _ _ _ _ hne];exact hd'
  ·have e3:ks.take (kv++ [u]).length=ks.take kv.length++ [ks[i]]:=by
    rw[bO,xE,hi,js,aW (by lia)];rfl
   rw[e3]
   have f1:cj (ks.take kv.length)=true:=xk hfl _
   have f2:(ks[i]'(by lia)).flat=true:=Ao hfl _
   have q1:bh G (λa=>a≠kS) s2.heap (ks.take kv.length) kv:=bh.flat _ _ _ f1 (bh.ext Z.ext Y.tabs _ _ hr)
   have q2:bh G (λa=>a≠kS) s2.heap [ks[i]] [u]:=bh.one (VR.flat _ _ _ f2 ru)
   have k2: ∀b o,b≠kS->s2.heap.get? b=some o->(s2.heap.update kS (ad (·.push u))).get? b=some o:=λb o hb e=>by rw[cG _ _ _ _ hb];exact e
   exact bh.append (bh.mono (λ_ _=>trivial) _ _ (bh.but hc' (.list _ _) (λh=>h rfl) k2 _ _ q1)) (bh.mono (λ_ _=>trivial) _ _ (bh.but hc' (.list _ _) (λh=>h rfl) k2 _ _ q2))
 ·obtain⟨kv,hkl,Y,hd,⟨c,hc⟩,hr⟩:=hd
  rw[hkl,lX (by lia)]at hr
  try dsimp only
  refine aE (Bf hc rfl ?_)
  unfold ksk_end
  have M:=DF (kv:=kv) (vs:=vs) (E:=E) O hn hr hl e
  dsimp only[gh,if_false]
  have fin: ∀st ov,(arrOf st).map (·.2)=cF ov->ov.length=vs.length->failedOf st=none->(∀P h',bh G P h' l vs->bh G P h' cL ov)->aF G.M A (ksk_tail D false e1 (.ref kS) st) R E s':=λst ov hov hlo hf hr2=>by
   unfold ksk_tail
   rw[hov]
   obtain⟨ck,hck⟩: ∃ck,(s'.heap.update kS (ad λ_=>(#[]:Array aA))).get? kS=some (bK "list" #[] ck):=⟨_,h9 hc λ_=> #[]⟩
   have hd2:(s'.heap.update kS (ad λ_=>(#[]:Array aA))).get? D=some (bK "list" #[] e1):=by rw[cG _ _ _ _ hne];exact hd
   have Y2:cD G s₀ {s' with heap:=s'.heap.update kS (ad λ_=>(#[]:Array aA))}:=Y.but hc (.list _ _) hkf (λb o hb e=>by rw[cG _ _ _ _ hb];exact e)
   refine aE (jT hc rfl ?_ (by rw[cB,bT];lia) (bj _))
   refine aE (wpAny_letGo ?_)
   refine aE (vB hd2 rfl ?_)
   refine aE (jT hd2 rfl ?_ (bj _) (by show(cF ov).size<=_;rw[cB,bT];lia))
   rw[hf]
   simp only[bne_self_eq_false,gh,if_false]
   obtain⟨c2,hc2⟩: ∃c2,((s'.heap.update kS (ad λ_=>(#[]:Array aA))).update D (ad λ_=>cF ov)).get? D=some (bK "list" (cF ov) c2):=⟨_,h9 hd2 λ_=>cF ov⟩
   have Y3:cD G s₀ {s' with heap:=(s'.heap.update kS (ad λ_=>(#[]:Array aA))).update D (ad λ_=>cF ov)}:=Y2.but hd2 (.list _ _) hD (λb o hb e=>by show((s'.heap.update kS _).update D _).get? b=_;rw[cG _ _ _ _ hb];exact e)
   exact aK (h _ ov c2 Y3 hc2 (hr2 _ _ (bh.ext Y3.ext T l vs r)))
  by_cases hz:vs.toArray.size<2
  all_goals
   first
    |rw[if_pos hz]at M⊢
    |rw[if_neg hz]at M⊢
   refine aE (ay M (λκ s'' hk=>?_) λ_ _ x=>x.elim)
   clear hd hr hc M;obtain⟨rfl,hk⟩:=hk
   exact aE (hk _ λst ov hov hlo hf hr=>fin st ov hov hlo hf hr)
end
end
section
open PySem.Spec PySem.Calls PyProof.Rows PySem.W
section
variable {G:Gl} {A:aZ} {E:aA->aD->Prop} {P P1 P₂:aG->Prop} {s:aD} {n:Nat}
theorem cw.in2 {n:Nat} {A:aZ} (x:cw (n+2) A):cw n A.in1.in1:=x.in1.in1
theorem AI (O:cw (n+2) A) (hn:8<=n) (T:aY G s.heap) (F:fz P s.heap) {l cL:List V} {v:aA} {Q:aA->aD->Prop} (r:VR G P s.heap (.list l) v) (e:lF l l=some cL) (h:fU G P s (.list cL) Q):
  aF G.M A (call (.builtin "sorted") [v]) Q E s:=by
 refine nk λcq=>?_
 obtain⟨a,ia,rfl,pa,ha,ra⟩:=r
 obtain⟨vs,rfl⟩: ∃vs:List aA,ia=vs.toArray:=⟨ia.toList,by simp⟩
 refine cq ?_
 have ra':bh G P s.heap l vs:=by simpa using ra
 have h64:l.length<64:=by
  unfold lF at e
  split at e
  ·rename_i h;rw[ag,decide_eq_true_eq]at h;exact h.1
  ·cases e
 have hl:=ra'.len
 refine Calls.call_function_entry kind_sorted plain_sorted entry_sorted (args_sorted1 _) ?_
 simp only[Builtin.«sorted»]
 refine aE (m:=checkCount "sorted" 1 1 _) (aK ?_)
 refine aE (collect_list ha.isList ?_ (by rw[bT];lia))
 refine aE (l4 ?_ (by rw[bT];lia))
 have hsz:((s.heap.push (bK "list" #[] 0)).update s.heap.objs.size (ad (· ++vs.toArray))).objs.size=s.heap.objs.size+1:=by
  rw[qM,size_push']
 have keep: ∀b o,s.heap.get? b=some o->(((s.heap.push (bK "list" #[] 0)).update s.heap.objs.size (ad (· ++vs.toArray))).push (bK "list" vs.toArray 0)).get? b=some o:=λb o q=>by
  have hlt:b<s.heap.objs.size:=br q
  rw[ju _ _ _ (by rw[hsz];exact am (iD hlt)),cG _ _ _ _ (am hlt),ju _ _ _ (am hlt)]
  exact q
 have hD:s.heap.get? ((s.heap.push (bK "list" #[] 0)).update s.heap.objs.size (ad (· ++vs.toArray))).objs.size=none:=bA (by rw[hsz];exact mx _)
 have hoL:(((s.heap.push (bK "list" #[] 0)).update s.heap.objs.size (ad (· ++vs.toArray))).push (bK "list" vs.toArray 0)).get? ((s.heap.push (bK "list" #[] 0)).update s.heap.objs.size (ad (· ++vs.toArray))).objs.size=some (bK "list" vs.toArray 0):=aS _ rfl
 refine aE (ab (gX slot_list_sort ⟨_,hoL,rfl⟩ entry_list_sort ?body (args_list_sort _)))
 case body=>
  refine xR (s:={s with heap:=((s.heap.push (bK "list" #[] 0)).update s.heap.objs.size (ad (· ++vs.toArray))).push (bK "list" vs.toArray 0)}) O.in2 hn T (cD.of T keep) hD hoL ra' e λs' ov c X ho r=>?_
  exact⟨_,rfl,aK ⟨_,rfl,h _ _ X ⟨_,_,rfl,F _ hD,⟨c,ho⟩,by simpa using r⟩⟩⟩
theorem xQ (O:cw (n+2) A) (hn:8<=n) (T:aY G s.heap) (F:fz P s.heap) {l ks cL:List V} {v:aA} {q:aG} {Q:aA->aD->Prop} (r:VR G P s.heap (.list l) v) (hfl:cj ks=true) (e:lF ks l=some cL)
  (hcall: ∀(i:Nat) x v y,l[i]?=some x->ks[i]?=some y-> ∀s1,cD G s s1->VR G P s1.heap x v-> ∀Q:aA->aD->Prop,(∀u s2,cD G s1 s2->VR G Kg s2.heap y u->Q u s2)->aF G.M A.in1.in1 (call (.ref q) [v]) Q (λ_ _=>False) s1)
  (h:fU G P s (.list cL) Q):aF G.M A (call (.builtin "sorted") [v] [(fS "key",.ref q)]) Q E s:=by
 refine nk λcq=>?_
 obtain⟨a,ia,rfl,pa,ha,ra⟩:=r
 obtain⟨vs,rfl⟩: ∃vs:List aA,ia=vs.toArray:=⟨ia.toList,by simp⟩
 refine cq ?_
 have ra':bh G P s.heap l vs:=by simpa using ra
 have h64:l.length<64:=by
  unfold lF at e
  split at e
  ·rename_i h;simp only[ag,decide_eq_true_eq]at h;exact h.1
  ·cases e
 have hl:=ra'.len
 refine call_function_entry_kw kind_sorted plain_sorted entry_sorted (ksk_s1 _ _) ?_
 simp only[Builtin.«sorted»]
 refine aE (m:=checkCount "sorted" 1 1 _) (aK ?_)
 refine aE (collect_list ha.isList ?_ (by rw[bT];lia))
 refine aE (l4 ?_ (by rw[bT];lia))
 have hsz:((s.heap.push (bK "list" #[] 0)).update s.heap.objs.size (ad (· ++vs.toArray))).objs.size=s.heap.objs.size+1:=by
  rw[qM,size_push']
 have keep: ∀b o,s.heap.get? b=some o->(((s.heap.push (bK "list" #[] 0)).update s.heap.objs.size (ad (· ++vs.toArray))).push (bK "list" vs.toArray 0)).get? b=some o:=λb o q=>by
  have hlt:b<s.heap.objs.size:=br q
  rw[ju _ _ _ (by rw[hsz];exact am (iD hlt)),cG _ _ _ _ (am hlt),ju _ _ _ (am hlt)]
  exact q
 have hD:s.heap.get? ((s.heap.push (bK "list" #[] 0)).update s.heap.objs.size (ad (· ++vs.toArray))).objs.size=none:=bA (by rw[hsz];exact mx _)
 have hoL:(((s.heap.push (bK "list" #[] 0)).update s.heap.objs.size (ad (· ++vs.toArray))).push (bK "list" vs.toArray 0)).get? ((s.heap.push (bK "list" #[] 0)).update s.heap.objs.size (ad (· ++vs.toArray))).objs.size=some (bK "list" vs.toArray 0):=aS _ rfl
 refine aE (ab (wpAny_call_entry_kw slot_list_sort ⟨_,hoL,rfl⟩ entry_list_sort ?body (ksk_l1 _ _)))
 case body=>
  simp only[ksk_t1]
  refine xS (s:={s with heap:=((s.heap.push (bK "list" #[] 0)).update s.heap.objs.size (ad (· ++vs.toArray))).push (bK "list" vs.toArray 0)}) O.in2 hn T (cD.of T keep) hD hoL ra' hfl e (λi x v y e1 e2 e3 s1 X Q' hQ=>?_) λs' ov c X ho r=>?_
  ·refine nk λcq=>?_
   refine obE12 ((bh.ext X.ext T _ _ ra').get e1) λv' hv' rv=>?_
   rw[e2]at hv'
   cases hv'
   refine cq ?_
   exact hcall i x v y e1 e3 s1 X rv Q' hQ
  ·exact⟨_,rfl,aK ⟨_,rfl,h _ _ X ⟨_,_,rfl,F _ hD,⟨c,ho⟩,by simpa using r⟩⟩⟩
end
end
section
open PySem.Spec PySem.Calls PyProof.Rows PySem.W
noncomputable def pH:Bi->aA
 | .len=> .builtin "len"
 | .max2=> .builtin "max"
 | .maxL=> .builtin "max"
 | .sorted=> .builtin "sorted"
 | .listOf=> .type "list"
 | .tupleOf=> .type "tuple"
 | .divmod=> .builtin "divmod"
section
variable {G:Gl} {A:aZ} {E:aA->aD->Prop} {P P1 P₂:aG->Prop} {s:aD} {n:Nat} {Q:aA->aD->Prop}
theorem bh.two {x y:V} {as:List aA} (r:bh G P s.heap [x,y] as): ∃a b,as=[a,b]/\VR G P s.heap x a/\VR G P s.heap y b:=by
 refine nk λcq=>?_
 obtain⟨a,l,rfl,ra,b,l',rfl,rb,rfl⟩:=r
 refine cq ?_
 exact⟨a,b,rfl,ra,rb⟩
theorem bh.uno {x:V} {as:List aA} (r:bh G P s.heap [x] as): ∃a,as=[a]/\VR G P s.heap x a:=by
 obtain⟨a,l,rfl,ra,rfl⟩:=r
 exact⟨a,rfl,ra⟩
theorem bh.two' {l:List V} {x y:V} {as:List aA} (r:bh G P s.heap l as) (h:l=[x,y]): ∃a b,as=[a,b]/\VR G P s.heap x a/\VR G P s.heap y b:=by subst h;exact r.two
theorem bh.uno' {l:List V} {x:V} {as:List aA} (r:bh G P s.heap l as) (h:l=[x]): ∃a,as=[a]/\VR G P s.heap x a:=by subst h;exact r.uno
theorem lw (ns:List Int) (hne:0<ns.length): ∀k,k<ns.length->ns.getD (wj (λi j=>decide (ns.getD j 0<ns.getD i 0)) k) 0=(ns.tail.take k).foldl max (ns.headD 0)/\wj (λi j=>decide (ns.getD j 0<ns.getD i 0)) k<=k
 |0,_=>by
  match ns,hne with
  |x::r,_=>exact⟨rfl,bC _⟩
 |k+1,hk=>by
  obtain⟨ih,hle⟩:=lw ns hne k (by lia)
  have e1:(ns.tail.take (k+1)).foldl max (ns.headD 0)=max ((ns.tail.take k).foldl max (ns.headD 0)) (ns.getD (k+1) 0):=by
   have h1:k<ns.tail.length:=by rw[List.length_tail];lia
   simp only[js,aW h1,Bo]
   simp only[Option.toList_some,lb,List.foldl_nil,List.getElem_tail]
   simp only[bn,aW hk,Option.getD_some]
  rw[e1,<-ih]
  rw[show wj (λi j=>decide (ns.getD j 0<ns.getD i 0)) (k+1)=if decide (ns.getD (wj (λi j=>decide (ns.getD j 0<ns.getD i 0)) k) 0<ns.getD (k+1) 0)then k+1 else wj (λi j=>decide (ns.getD j 0<ns.getD i 0)) k from rfl]
  split
  ·rename_i hc
   simp only[decide_eq_true_eq]at hc
   exact⟨by lia,bC _⟩
  ·rename_i hc
   simp only[decide_eq_true_eq]at hc
   exact⟨by lia,by lia⟩
theorem xc: ∀{l:List V} {ns:List Int},nP l=some ns->ns.length=l.length:=by
 intro zl
 induction zl with
 |nil=>
  intro _ e
  cases e;rfl
 |cons x l ih=>
  intro ns e
  exact iP e λi hi e=>ac e λr hr e=>by rw[<-aC e,bJ,ih hr];rfl
theorem xd {vs:List aA} {ns:List Int} (H:pN vs ns) {i:Nat} {v:aA} (e:vs[i]?=some v): ∃t,v= .int (ns.getD i 0) t:=by
 induction H generalizing i with
 |nil=>exact cI (List.getElem?_nil.symm.trans e)
 |cons n t _ ih=>
  cases i with
  |zero=>clear ih;cases e;exact⟨t,rfl⟩
  |succ i=>exact ih e
def oR (G:Gl) (P:aG->Prop) (s:aD) (b:Bi) (x:V) (Q:aA->aD->Prop):Prop:= ∀v s',cD G s s'->VR G P s'.heap x v->(b= .listOf-> ∀a,v= .ref a->s.heap.get? a=none)->Q v s'
theorem oR.t {b:Bi} {x:V} (h:oR G P s b x Q) (n:b≠ .listOf):fU G P s x Q:=λv s' X r=>h v s' X r λe=>(n e).elim
theorem VR.isList {h:ah} {x:V} {v:aA} {l:List V} (r:VR G P h x v) (hx:x= .list l): ∃a ia,v= .ref a/\h.PlainList a ia/\ia.size=l.length/\bh G P h l ia.toList:=by
 subst hx
 exact obE21 r λa ia r=>⟨a,ia,r.1,r.2.2.1,aX.symm.trans r.2.2.2.len,r.2.2.2⟩
theorem Hw {x:V} {a:aA} {z:V} {Q:aA->aD->Prop} {P':aG->Prop} (T:aY G s.heap) (e:(x.len?.bind λn=>if jK n then some (.int n)else none)=some z) (ra:VR G P s.heap x a) (h:fU G P' s z Q):aF G.M A (call (.builtin "len") [a]) Q E s:=by
 cases x<;>try exact cI e
 ·exact aj e λhl e=>ra.elim λt ht=>ht▸PyProof.Rows.len_str (by have:=lr hl;lia) (fU.int T (bb (C:=λz=>fU G P' s z Q) e h))
 ·refine aj e λhl e=>obE21 ra λl ia r=>?_
  have e1:=r.2.2.len
  simp only[aX]at e1
  refine(r.1)▸?_
  refine PyProof.Rows.len_tuple (t:=l) (items:=ia) r.2.1 (by have:=lr hl;lia) ?_
  rw[e1];exact fU.int T (bb (C:=λz=>fU G P' s z Q) e h)
 ·refine nk λcq=>?_
  refine aj e λhl e=>obE21 (ra.isList rfl) λa ia r=>?_
  refine cq ?_
  refine(r.1)▸?_
  refine call_len_list r.2.1.isList (by have:=lr hl;have:=r.2.2.1;lia) ?_
  rw[r.2.2.1];exact fU.int T (bb (C:=λz=>fU G P' s z Q) e h)
theorem Hs {P':aG->Prop} {a:aG} {ia:Array aA} {ns:List Int} {z:V} (T:aY G s.heap) (O:A.handled=none) (ha:s.heap.PlainList a ia) (hl2:ia.size=ns.length) (hI:pN ia.toList ns) (e:Gh ns=some z) (h:fU G P' s z Q):aF G.M A (call (.builtin "max") [.ref a]) Q E s:=by
 refine nk λcq=>?_
 cases ns with
 |nil=>refine cq ?_;exact cI e
 |cons x r=>
  refine cq ?_
  have h:=bb (C:=λz=>fU G P' s z Q) e h
  have hsz:(s.heap.push ({cls:= .type "list_iterator",data:= .fields #[.ref a,.int 0 0]}:db)).objs.size=s.heap.objs.size+1:=ch ..
  have hlt:a<s.heap.objs.size:=ha.elim λ_ ho=>br ho
  refine call_max_walk (wpAny_pyIter_list ha.isList ?_)
  refine⟨_,[_,a],[_],_,_,_,λi j=>decide ((x::r).getD j 0<(x::r).getD i 0),rfl,Walks.list (A:=A.in1) O s.heap.objs.size a (am hlt) ia,⟨⟨_,aS _ rfl,rfl,rfl⟩,?_⟩,?_,by rw[hl2];exact xA _,?_,?_⟩
  ·exact ha.elim λc ho=>⟨_,aH _ ho,rfl,c,rfl⟩
  ·intro b hb
   show b<(s.heap.push _).objs.size
   rw[hsz]
   rcases aO.mp hb with rfl|hb
   ·exact gF _
   ·rw[ao.mp hb];exact iD hlt
  ·intro i j vi vj s' Q' E' hi hj hq
   obtain⟨t,rfl⟩:=xd hI (i:=i) (v:=vi) (bM.trans hi)
   obtain⟨u,rfl⟩:=xd hI (i:=j) (v:=vj) (bM.trans hj)
   exact s6 hq
  ·intro v h' tk hv hk
   have b1:=(lw (x::r) (xA _) r.length (gF _)).1
   rw[hl2]at hv
   obtain⟨t,rfl⟩:=xd hI (i:=wj (λi j=>decide ((x::r).getD j 0<(x::r).getD i 0)) r.length) (v:=v) (by rw[bM];exact hv)
   rw[b1]
   have X:=cD.of (G:=G) (s:=s) (h':=h') (t:=tk) T λb o e=>hk b o (λhm=>absurd (ao.mp hm▸br e) (ig _)) (aH _ e)
   exact h _ _ X ⟨t,by simp⟩
theorem Bz {P':aG->Prop} {f:aA} {F:Int->Int->Option V} {x y:V} {a b:aA} {z:V} (e:pD F x y=some z) (ra:VR G P' s.heap x a) (rb:VR G P' s.heap y b) (k: ∀i j t u,F i j=some z->aF G.M A (call f [.int i t,.int j u]) Q E s):aF G.M A (call f [a,b]) Q E s:=
 iP e λi hi e=>iP e λj hj e=>(ra.isInt hi).elim λt ht=>(rb.isInt hj).elim λu hu=>ht▸hu▸k i j t u e
theorem Ab {f:Bool} {x:V} {a:aA} {z:V} (T:aY G s.heap) (F:fz P s.heap) (O:A.handled=none) (e:(x.range?.bind λp=>if cR p.2 then some (.list ((ak p.2).map λk=> .int (p.1+(k:Nat))))else none)=some z) (ra:VR G (Pm f P) s.heap x a)
  (h:oR G (Pm (f||z.flat) P) s .listOf z Q):aF G.M A (call (.type "list") [a]) Q E s:=by
 refine nk λcq=>?_
 refine Hb e λlo m hx e=>aj e λhok e=>?_
 have h:=bb (C:=λz=>oR G (Pm (f||z.flat) P) s .listOf z Q) e h
 have hok:m<=100000:=of_decide_eq_true hok
 rw[hx]at ra
 clear hx e;clear e;obtain⟨r,b,t,u,w,rfl,hr,rfl,b1,b2,b3,b4⟩:=ra
 refine cq ?_
 refine call_list_range (n:=(b-lo).toNat) O hr ?_ ?_ (by lia) λh' tk acc' c' k hD hI=>?_
 ·exact small_one (by lia) b2 (by lia) b4
 ·unfold jE
  rw[if_pos (by decide),Int.ediv_one]
  split<;>lia
 ·refine h _ _ (cD.of T k) ⟨_,acc',rfl,λ_=>F.new,⟨c',hD⟩,?_⟩ λ_ a e=>by cases e;exact bA (bC _)
  refine bh.of (by simp only[aX,hI.1,aR,dR]) λi x v e1 e2=>?_
  rw[bM]at e2
  obtain⟨t',rfl⟩:=hI.2 i v e2
  rw[bH]at e1
  refine u5 e1 λj hj hx=>hx▸?_
  obtain⟨h1,h2⟩:=al.mp hj
  rw[B3]at h2
  exact h2▸⟨t',by simp⟩
theorem KR {b:Bi} {xs:List V} {as:List aA} {z:V} {f:Bool} (T:aY G s.heap) (F:fz P s.heap) (O:cw (n+2) A) (hn:8<=n) (e:Ij b xs=some z) (ra:bh G (Pm f P) s.heap xs as)
  (h:oR G (Pm (f||z.flat) P) s b z Q):aF G.M A (call (pH b) as) Q E s:=by
 have on: ∀{g:V->Option V},qT xs g=some z->(∀x a,VR G (Pm f P) s.heap x a->g x=some z->aF G.M A (call (pH b) [a]) Q E s)->aF G.M A (call (pH b) as) Q E s:=λe k=>
  uY e λx hx e=>(ra.uno' hx).elim λa q=>q.1▸k x a q.2 e
 have tw: ∀{g:V->V->Option V},Kb xs g=some z->(∀x y a c,VR G (Pm f P) s.heap x a->VR G (Pm f P) s.heap y c->g x y=some z->aF G.M A (call (pH b) [a,c]) Q E s)->aF G.M A (call (pH b) as) Q E s:=λe k=>
  Ki e λx y hx e=>obE21 (ra.two' hx) λa c q=>q.1▸k x y a c q.2.1 q.2.2 e
 cases b
 ·exact on e λx a ra e=>Hw T e ra (h.t nofun)
 ·refine tw e λx y a b ra rb e=>Bz e ra rb λi j t u e=>?_
  have h:=(bb (C:=λz=>oR G (Pm (f||z.flat) P) s .max2 z Q) e h).t nofun
  refine PySem.Flt.max_two_num O.handled (.int _ _) (.int _ _) λh' tk k=>h _ _ (cD.of T k) ?_
  show∃t',(if decide (i<j)=true then Bj j u else Bj i t)=Bj (if i<j then j else i) t'
  by_cases hij:i<j
  ·rw[if_pos hij,if_pos (decide_eq_true hij)];exact⟨_,rfl⟩
  ·rw[if_neg hij,if_neg λq=>hij (of_decide_eq_true q)];exact⟨_,rfl⟩
 ·exact on e λx a ra e=>j6 e λl hl e=>ac e λns hn e=>obE21 (ra.isList hl) λb ia r=>r.1▸Hs T O.handled r.2.1 (r.2.2.1.trans (xc hn).symm) (ua hn r.2.2.2) e (h.t nofun)
 ·exact on e λx a ra e=>j6 e λl hl e=>ac e λl' hs e=>AI O hn T (F.pm f) (hl▸ra) hs λv s' X r=>(bb (C:=λz=>oR G (Pm (f||z.flat) P) s .sorted z Q) e h).t nofun v s' X (VR.flag r)
 ·exact on e λx a ra e=>Ab T F O.handled e ra h
 ·refine on e λx a ra e=>j6 e λl hl e=>aj e λhok e=>obE21 (ra.isList hl) λb ia r=>?_
  have h:=bb (C:=λz=>oR G (Pm (f||z.flat) P) s .tupleOf z Q) e h
  have hok:l.length<=100000:=of_decide_eq_true hok
  refine(r.1)▸?_
  refine call_tuple_list r.2.1.isList (λh' k=>?_) (by rw[r.2.2.1,bT];lia)
  have X:=cD.of (G:=G) (s:=s) (h':=h'.push {cls:= .type "tuple",data:= .seq ia}) (t:=s.toks) T λb o e=>aH _ (k b o e)
  exact h.t nofun _ _ X (VR.flag ⟨_,ia,rfl,⟨_,aS _ rfl,rfl,0,rfl⟩,bh.ext X.ext T _ _ r.2.2.2⟩)
 ·refine tw e λx y a b ra rb e=>Bz e ra rb λx y t u e=>aj e λhd e=>?_
  have h:=(bb (C:=λz=>oR G (Pm (f||z.flat) P) s .divmod z Q) e h).t nofun
  refine PyProof.Rows.divmod_int (iS (a:=x) hd).1 ?_ (.inl (iS hd).2)
  have X:=cD.push (G:=G) T ({cls:= .type "tuple",data:= .seq #[.int (x.fdiv y) s.toks,.int (x.fmod y) (s.toks+1)]}:db) (s.toks+1+1)
  exact h _ _ X ⟨_,_,rfl,⟨_,aS _ rfl,rfl,0,rfl⟩,_,_,rfl,⟨_,rfl⟩,_,_,rfl,⟨_,rfl⟩,rfl⟩
end
end
section
open PySem.Spec PySem.Calls PyProof.Rows PySem.W
section
variable {G:Gl} {A:aZ} {E:aA->aD->Prop} {P P1 P₂:aG->Prop} {s:aD} {n:Nat} {Q:aA->aD->Prop}
theorem Ca {xs:List V} {as:List aA} {z:V} (T:aY G s.heap) (e:xX xs=some z) (ra:bh G P1 s.heap xs as) (h:fU G P s z Q):aF G.M A (call (.type "range") as) Q E s:=by
 cases xs with
 |nil=>exact cI e
 |cons x r=>refine iP e λa ha e=>?_;cases r with
  |nil=>
   refine aj e λhc e=>ra.uno.elim λv q=>(q.2.isInt ha).elim λt ht=>?_
   refine(q.1)▸?_
   refine(ht)▸?_
   exact call_range_1 (bb (C:=λz=>fU G P s z Q) e h _ _ (cD.push T _ _) ⟨_,_,_,_,_,rfl,aS _ rfl,by simp,by decide,by decide,hc.2,hc.1⟩)
  |cons y r=>refine iP e λb hb e=>?_;cases r with
   |cons=>exact cI e
   |nil=>
    refine nk λcq=>?_
    refine aj e λhc e=>obE21 ra.two λv w q=>(q.2.1.isInt ha).elim λt ht=>(q.2.2.isInt hb).elim λu hu=>?_
    refine cq ?_
    refine(q.1)▸?_
    refine(ht)▸?_
    refine(hu)▸?_
    exact call_range_2 (bb (C:=λz=>fU G P s z Q) e h _ _ (cD.push T _ _) ⟨_,_,_,_,_,rfl,aS _ rfl,rfl,hc.2.2.2,hc.2.2.1,hc.2.1,hc.1⟩)
theorem H8 {l:List V} {a:aA} (T:aY G s.heap) (ra:VR G P s.heap (.list l) a) (h: ∀v s',cD G s s'->VR G P s'.heap (.rev l) v->(∀b,v= .ref b->s.heap.get? b=none)->Q v s'):aF G.M A (call (.type "reversed") [a]) Q E s:=by
 refine nk λcq=>?_
 obtain⟨b,ia,rfl,pb,hb,ra⟩:=ra
 refine cq ?_
 have X:=cD.push (G:=G) T (revObj b ((ia.size:Int)-1)) s.toks
 exact call_reversed_list hb.isList (h _ _ X ⟨_,b,ia,rfl,pb,⟨_,aS _ rfl,rfl,rfl⟩,by obtain⟨c,ho⟩:=hb;exact⟨c,aH _ ho⟩,bh.ext X.ext T _ _ ra⟩ λb e=>by cases e;exact bA (bC _))
theorem BF {i:Int} {t:ze} (T:aY G s.heap) (h:fU G P s (.int (jQ i)) Q):aF G.M A (call (.builtin "int.bit_length") [.int i t]) Q E s:=by
 refine call_gives F.slot_int_bit_length (wr s i t) F.entry_int_bit_length (F.args_int_bit_length_1 _) (AutoIntG2.int_bit_length_int_0 i t) ?_
 have e:((iJ i:Nat):Int)=jQ i:=by
  unfold iJ jQ
  by_cases h:i=0<;>simp[h]
 rw[e]
 exact fU.int T h
theorem Ax (c:Nat): ∀l:List Nat,cnt c l=(l.count c:Nat):=by
 intro zl
 induction zl with
 |nil=>
  exact rfl
 |cons x l ih=>
  rw[cnt_cons,ih,List.count_cons]
  split<;>simp_all<;>lia
theorem wR {l:List V} {ns:List Int} {i:Int} {a:aA} {t:ze} (T:aY G s.heap) (e:nP l=some ns) (ra:VR G P1 s.heap (.list l) a) (h:fU G P s (.int (ns.count i)) Q):aF G.M A (call (.builtin "list.count") [a,.int i t]) Q E s:=by
 refine nk λcq=>?_
 obtain⟨b,ia,rfl,pb,hb,ra⟩:=ra
 refine cq ?_
 refine count_list_ints (vs:=ia.toList) (by simpa using hb.isList) (ua e ra) (fU.int T h)
theorem yB {x y:aN} {t u:ze} (T:aY G s.heap) (hy:y.length=1) (h:fU G P s (.int (x.cps.toList.count (y.cps.toList.headD 0))) Q):aF G.M A (call (.builtin "str.count") [.str x t,.str y u]) Q E s:=by
 obtain⟨⟨l⟩⟩:=y
 match l,hy with
 | [c],_=>
  refine call_gives F.slot_str_count (wq s x t) F.entry_str_count (F.args_str_count_2 _ _) (gives_str_count x _ t u) ?_
  have e:((Builtin.Str.occurrences x ⟨⟨[c]⟩⟩ 0 x.length (x.length+1)).length:Int)=(x.cps.toList.count c:Nat):=by
   have:=count_is x c
   rw[show countIn (.str ⟨#[c]⟩) (x.cps.toList.map λn=>PyData.str ⟨#[n]⟩)=cnt c x.cps.toList from rfl,Ax]at this
   exact this
  rw[e]
  exact fU.int T h
theorem Ez: ∀{l:List V} {ss:List aN} {vs:List aA},k7 l=some ss->bh G P s.heap l vs-> ∃p:List (aN×ze),strValues p=vs/\p.map (·.1)=ss:=by
 intro zl
 induction zl with
 |nil=>
  intro _ _ e r
  exact⟨[],Eq.symm r,aC e⟩
 |cons x l ih=>
  intro ss vs e r
  exact vV e λi hi e=>ac e λl' hl e=>obE21 r λv vs' r=>(r.2.1.isStr hi).elim λt ht=>(ih hl r.2.2).elim λp q=>
  ⟨(i,t)::p,by rw[r.1,ht,<-q.1];rfl,by rw[<-aC e,<-q.2];rfl⟩
theorem tZ (ss:List aN) (s0:aN) (h:s0.length=0):mV s0 ss=⟨(ss.flatMap λt=>t.cps.toList).toArray⟩:=by
 obtain⟨⟨l⟩⟩:=s0
 match l,h with
 | [],_=>
  unfold mV
  have key: ∀(ss:List aN) (acc:Array Nat),ss.foldl (λacc p=>acc++(#[]:Array Nat)++p.cps) acc=acc++(ss.flatMap λt=>t.cps.toList).toArray:=by
   intro ss
   induction ss with
   |nil=>intro acc;rfl
   |cons x r ih=>
    intro acc
    simp only[lb,ih]
    apply qA.mp
    simp
  match ss with
  | []=>rfl
  |x::r=>
   show(⟨r.foldl _ x.cps⟩:aN)=_
   rw[key]
   congr 1
   apply qA.mp
   simp
theorem DR {x:aN} {l:List V} {ss:List aN} {a:aA} {t:ze} (T:aY G s.heap) (e:k7 l=some ss) (hx:x.length=0) (hl:cR ((ss.map je).sum)=true) (ra:VR G P1 s.heap (.list l) a)
  (h:fU G P s (.str ⟨(ss.flatMap λt=>t.cps.toList).toArray⟩) Q):aF G.M A (call (.builtin "str.join") [.str x t,a]) Q E s:=by
 refine nk λcq=>?_
 obtain⟨b,ia,rfl,pb,hb,ra⟩:=ra
 obtain⟨p,hp,rfl⟩:=Ez e ra
 refine cq ?_
 unfold cR at hl
 rw[decide_eq_true_eq]at hl
 have hlong:lS ((p.map (·.1)).toArray.foldl (· + ·.length+x.length) 0)=false:=by
  rw[StrLaws.joinTotal,hx]
  unfold lS
  rw[bT]
  have:(List.map (λx=>x.length) (List.map (λx=>x.fst) p)).sum=((p.map (·.1)).map je).sum:=rfl
  exact decide_eq_false (by rw[this];lia)
 have hgl:(mV x (p.map (·.1))).length<=sT:=by
  rw[tZ _ x hx,bT]
  show zr _<=_
  rw[cB,List.length_flatMap]
  exact aQ hl (by decide)
 refine ql F.slot_str_join (wq s x t) F.entry_str_join (F.args_str_join_2 _ _) (meets_str_join_list x t b p hlong) ⟨by rw[hp];simpa using hb.isList,?_⟩
 rw[<-tZ _ x hx]at h
 match p,hgl,h with
 | [],hgl,h=>exact⟨hgl,h _ _ (cD.tok T _) ⟨_,rfl⟩⟩
 | [q],_,h=>exact h _ _ (cD.refl T) ⟨_,rfl⟩
 |q::q'::r,hgl,h=>exact⟨hgl,h _ _ (cD.tok T _) ⟨_,rfl⟩⟩
end
end
section
open PySem.Spec PySem.Calls PyProof.Rows PySem.W
theorem kD {x:aN}: ∀{l:List aN} {k i:Nat},Jn l x k=some i->k<=i/\l[i-k]?=some x:=by
 intro zl
 induction zl with
 |nil=>
  intro _ _ e
  cases e
 |cons y r ih=>
  intro k i e
  refine fF (c:=(y==x)=true) e (λh e=>?_) λh e=>?_
  ·cases e
   exact⟨bC _,by rw[Nat.sub_self];exact congrArg some (beq_iff_eq.mp h)⟩
  ·have q:=ih e
   rw[show i-k=i-(k+1)+1 from(Nat.succ_pred_eq_of_pos (Nat.sub_pos_of_lt q.1)).symm]
   exact⟨kT q.1,q.2⟩
theorem Gl.n_id {G:Gl} {x:aN} {i:Nat} (e:G.T.id x=some i):G.n i=x:=by
 have:=(kD e).2
 unfold Gl.n
 rw[la]at this
 rw[this];rfl
theorem Gl.at_id {G:Gl} {x:aN} {i:Nat} (e:G.T.at x=some i):G.atn i=x:=by
 have:=(kD e).2
 unfold Gl.atn
 rw[la]at this
 rw[this];rfl
def iV (env:cg) (m:aN->Option aA) (h:ah) (x:aN) (v:aA):Prop:=
 (env.kindOf x=some .local/\m x=some v)\/((env.kindOf x=some .cell\/(env.kindOf x=some .free/\(x==("__classdict__" :aN))=false))/\ ∃c,env.cells.lookup x=some c/\h.IsCell c (some v))
structure Em (T:TE) (x:Nat) (ps:List Nat) (body:List PS) (caps:List Nat) (d:pM):Prop where
 plain:fN d.margs=true
 kind:d.mscope.kind= .function
 noc:nK d.mscope=true
 uq:ld (d.mscope.names.map (·.1))=true
 gen:d.mscope.isGenerator=false
 cor:d.mscope.isCoroutine=false
 par:b9 (pC T d.mscope) d.margs.args=some ps
 free: ∃sc fr,hA T sc d.mscope=some fr/\x∈fr/\caps=fr.filter (·!=x)
 body: ∃n,body=qx T [] n d.mscope d.mbody
noncomputable abbrev xz (name qual:aN) (params:jF) (body:List ed) (scope:bE) (clos:List (aN×aG)) (pm cv ctv doc:aA):db:=
 {cls:= .type "function",data:= .func {name,qualname:=qual,params,body:= .stmts body,scope,globals:=bk,closure:=clos,defaults:= .none,kwdefaults:= .none,doc,pyModule:=pm,annotations:=none,code:=cv,closureTuple:=ctv,builtins:=cU}}
structure JI where
 c:aG
 a:aG
 qual:aN
 clos:List (aN×aG)
 pm:aA
 cv:aA
 ctv:aA
 doc:aA
structure tC (G:Gl) (env:cg) (h:ah) (x:Nat) (ps:List Nat) (bd:List PS) (cps:List Nat) (d:pM) (q:JI):Prop where
 dok:Em (G.Tl 0) x ps bd cps d
 kd:env.kindOf (G.n x)=some .cell\/env.kindOf (G.n x)=some .free
 ncd:(G.n x==("__classdict__" :aN))=false
 cell:env.cells.lookup (G.n x)=some q.c
 isc:h.IsCell q.c (some (.ref q.a))
 obj:h.get? q.a=some (xz d.dname q.qual d.margs d.mbody d.mscope q.clos q.pm q.cv q.ctv q.doc)
 code:h.CodeRec q.cv q.qual
 self:q.clos.lookup (G.n x)=some q.c
 caps: ∀y∈cps,∃c',env.cells.lookup (G.n y)=some c'/\q.clos.lookup (G.n y)=some c'/\env.kindOf (G.n y)≠some .local
 only: ∀y c',q.clos.lookup y=some c'->y=G.n x\/ ∃z∈cps,G.n z=y
def BO (G:Gl) (env:cg) (h:ah) (x:Nat):V->Prop
 | .ndef ps body caps d=> ∃q,tC G env h x ps body caps d q
 |_=>False
theorem tC.map {G:Gl} {env:cg} {h h':ah} {x:Nat} {ps:List Nat} {body:List PS} {caps:List Nat} {d:pM} {q:JI} (N:tC G env h x ps body caps d q) (h1: ∀w,env.cells.lookup (G.n x)=some q.c->h.IsCell q.c w->h'.IsCell q.c w) (h2: ∀o f,h.get? q.a=some o->o.data= .func f->o.cls≠ .none->h'.get? q.a=some o) (h3:h.CodeRec q.cv q.qual->h'.CodeRec q.cv q.qual):tC G env h' x ps body caps d q:=
 ⟨N.dok,N.kd,N.ncd,N.cell,h1 _ N.cell N.isc,h2 _ _ N.obj rfl (λh=>aq h),h3 N.code,N.self,N.caps,N.only⟩
theorem BO.map {G:Gl} {env:cg} {h h':ah} {x:Nat} {v:V} (N:BO G env h x v) (h1: ∀c w,env.cells.lookup (G.n x)=some c->h.IsCell c w->h'.IsCell c w) (h2: ∀a o f,h.get? a=some o->o.data= .func f->o.cls≠ .none->h'.get? a=some o) (h3: ∀cv q,h.CodeRec cv q->h'.CodeRec cv q):BO G env h' x v:=by
 cases v with
 |ndef ps body caps d=>exact N.imp λq N=>N.map (h1 q.c) (h2 q.a) (h3 _ _)
 |_=>exact N
def jc (G:Gl) (env:cg) (m:aN->Option aA) (h:ah) (x:Nat) (sl:cA) (R:aA->Prop):Prop:=
 G.T.id (G.n x)=some x/\if sl.k= .nd then BO G env h x sl.v else∃v,iV env m h (G.n x) v/\R v
section
variable {G:Gl} {env:cg} {m m':aN->Option aA} {h h':ah} {x:Nat} {sl:cA} {R R':aA->Prop}
theorem jc.el (H:jc G env m h x sl R) (hk:sl.k≠ .nd): ∃v,iV env m h (G.n x) v/\R v:=by
 have:=H.2
 rw[if_neg hk]at this
 exact this
theorem jc.nd (H:jc G env m h x sl R) (hk:sl.k= .nd):BO G env h x sl.v:=by
 have:=H.2
 rw[if_pos hk]at this
 exact this
theorem jc.at_ (hi:G.T.id (G.n x)=some x) (hk:sl.k≠ .nd) {v:aA} (H:iV env m h (G.n x) v) (r:R v):jc G env m h x sl R:=⟨hi,by rw[if_neg hk];exact⟨v,H,r⟩⟩
theorem jc.ndef (hi:G.T.id (G.n x)=some x) (hk:sl.k= .nd) (N:BO G env h x sl.v):jc G env m h x sl R:=⟨hi,by rw[if_pos hk];exact N⟩
structure zY (G:Gl) (env:cg) (m m':aN->Option aA) (h h':ah) (x:Nat):Prop where
 loc: ∀v,m (G.n x)=some v->m' (G.n x)=some v
 cell: ∀c w,env.cells.lookup (G.n x)=some c->h.IsCell c w->h'.IsCell c w
 fn: ∀a o f,h.get? a=some o->o.data= .func f->o.cls≠ .none->h'.get? a=some o
 code: ∀cv q,h.CodeRec cv q->h'.CodeRec cv q
theorem zY.refl:zY G env m m h h x:=⟨λ_ e=>e,λ_ _ _ e=>e,λ_ _ _ e _ _=>e,λ_ _ e=>e⟩
theorem zY.holds (M:zY G env m m' h h' x) {v:aA} (H:iV env m h (G.n x) v):iV env m' h' (G.n x) v:=
 H.imp (And.imp_right (M.loc v)) (And.imp_right λe=>e.imp λc q=>⟨q.1,M.cell c _ q.1 q.2⟩)
theorem jc.map (M:zY G env m m' h h' x) (hR:sl.k≠ .nd-> ∀v,R v->R' v) (H:jc G env m h x sl R):jc G env m' h' x sl R':=by
 by_cases hk:sl.k= .nd
 ·exact .ndef H.1 hk ((H.nd hk).map M.cell M.fn M.code)
 ·exact(H.el hk).elim λv q=> .at_ H.1 hk (M.holds q.1) (hR hk v q.2)
end
def pK (G:Gl) (P:aG->Prop) (env:cg) (m:aN->Option aA) (h:ah) (x:Nat) (sl:cA):Prop:=
 jc G env m h x sl λv=>sl.v.okV=true/\VR G (Pm (decide (sl.k= .safe)) P) h sl.v v
def yT (G:Gl) (env:cg):Prop:= ∃c tb,env.code= .ref c/\(c,tb,env.qual++("<lambda>" :aN))∈G.tabs
structure g9 (G:Gl) (md:Nat) (P:aG->Prop) (env:cg) (st:St) (h:ah):Prop where
 kind:env.scope.kind= .function
 globals:env.globals=bk
 builtins:env.builtins=cU
 base:fy G h
 tabs:aY G h
 fresh:fz P h
 ns: ∃m,h.Ns env.locals m/\ ∀x sl,st.get x=some sl->pK G P env m h x sl
 lam:md=1->yT G env/\ ∀x c,env.cells.lookup x=some c->P c
noncomputable def gB:List (aN×aA):=[("len",.builtin "len"),("max",.builtin "max"),("sorted",.builtin "sorted"),("divmod",.builtin "divmod"),
 ("list",.type "list"),("tuple",.type "tuple"),("range",.type "range"),("reversed",.type "reversed")]
structure GOk (G:Gl):Prop where
 g:G.h0.Ns bk G.mg
 b:G.h0.Ns cU G.mb
 fns: ∀x k,G.T.fns.lookup x=some k-> ∃a,G.fa[k]?=some a/\G.mg x=some (.ref a)
 gi: ∀x i,G.T.gi.lookup x=some i-> ∃t,G.mg x=some (.int i t)
 bi: ∀x v,(x,v)∈gB->G.mg x=none/\G.mb x=some v
 cls:G.mg G.T.cls=some (.ref G.cls)
section
variable {G:Gl} {A:aZ} {E:aA->aD->Prop} {P P':aG->Prop} {s s':aD} {env:cg} {m:aN->Option aA} {h h':ah} {md:Nat} {st:St}
theorem iV.ext (k:qg G h h') (T:aY G h) {x:aN} {v:aA} (H:iV env m h x v):iV env m h' x v:=by
 refine nk λcq=>?_
 rcases H with H|⟨hk,c,hc,o,ho,hd⟩
 all_goals refine cq ?_
 ·exact .inl H
 ·exact .inr ⟨hk,c,hc,o,k _ _ ho (T.off' ho (by rw[hd];exact λ_=>aI)),hd⟩
theorem oM (T:aY G h) {c:aG} {w:Option aA} {o:db} (ho:h.get? c=some o) (hd:o.data= .cell w):c∉G.tb:=T.off' ho λ_ e=>aI (hd.symm.trans e)
theorem kK (k:qg G h h') (T:aY G h) {c:aG} {w:Option aA} (H:h.IsCell c w):h'.IsCell c w:=H.imp λ_ q=>⟨k _ _ q.1 (oM T q.1 q.2),q.2⟩
theorem zY.ext (k:qg G h h') (T:aY G h) {x:Nat}:zY G env m m h h' x:=⟨λ_ e=>e,λ_ _ _=>kK k T,λ_ _ _ e _ hc=>k.all T _ _ e (.inl hc),λ_ _ e=>T.code e k⟩
theorem zY.soft {Z:aG} {o:db} {m':aN->Option aA} (hZ:h.get? Z=some o) (hs:ca o) (k: ∀b o,b≠Z->h.get? b=some o->h'.get? b=some o) {x:Nat} (hm: ∀v,m (G.n x)=some v->m' (G.n x)=some v) (hc: ∀c w,env.cells.lookup (G.n x)=some c->h.IsCell c w->c≠Z):zY G env m m' h h' x:=
 ⟨hm,λc w e r=>r.imp λ_ q=>⟨k _ _ (hc c w e r) q.1,q.2⟩,λ_ _ _ e hd _=>k _ _ (nJ hZ e λq=>hs.func (q▸hd)) e,λ_ _=>ix.but hZ (λ_ e=>(hs.fields e).elim) k⟩
theorem zY.it {Z:aG} {o:db} (hZ:h.get? Z=some o) (hs: ∃vs,o.data= .fields vs) (hn:dF o) (k: ∀b o,b≠Z->h.get? b=some o->h'.get? b=some o) {x:Nat}:zY G env m m h h' x:=
 ⟨λ_ e=>e,λ_ _ _ r=>r.imp λ_ q=>⟨k _ _ (nJ hZ q.1 λe=>hs.elim λ_ hs=>aI (hs.symm.trans (e▸q.2))) q.1,q.2⟩,λ_ _ _ e hd _=>k _ _ (nJ hZ e λq=>hs.elim λ_ hs=>aI (hs.symm.trans (q▸hd))) e,λ_ _=>ix.but hZ hn.2.2 k⟩
theorem pK.ext (k:qg G h h') (T:aY G h) {x:Nat} {sl:cA} (H:pK G P env m h x sl):pK G P env m h' x sl:=H.map (.ext k T) λ_ _ r=>⟨r.1,VR.ext k T _ _ r.2⟩
theorem g9.up (F:g9 G md P env st s.heap) (X:cD G s s'):g9 G md P env st s'.heap where
 kind:=F.kind
 globals:=F.globals
 builtins:=F.builtins
 base:=F.base.ext X.ext
 tabs:=X.tabs
 fresh:=F.fresh.up F.tabs X
 ns:=by
  refine obE12 F.ns λm a b=>?_
  exact⟨m,(X.ext.all F.tabs).ns a,λx sl e=>(b x sl e).ext X.ext F.tabs⟩
 lam:=F.lam
theorem g9.mg (GO:GOk G) (F:g9 G md P env st h):h.Ns bk G.mg:=GO.g.keeps F.base
theorem g9.mb (GO:GOk G) (F:g9 G md P env st h):h.Ns cU G.mb:=GO.b.keeps F.base
theorem mK (GO:GOk G) (F:g9 G md P env st s.heap) {x:aN} {v:aA} {Q:aA->aD->Prop} (hk:env.kindOf x=some .globalImplicit) (hv:G.mg x=some v\/(G.mg x=none/\G.mb x=some v)) (h:Q v s):aF G.M A (loadName env x) Q E s:=by
 rw[oT F.kind hk]
 unfold loadGlobal
 refine(F.globals)▸?_
 refine(F.builtins)▸?_
 refine aE (oW (F.mg GO) ?_)
 rcases hv with hv|⟨h1,h2⟩
 ·rw[hv];exact aK h
 ·refine(h1)▸?_
  refine aE (oW (F.mb GO) ?_)
  rw[h2];exact aK h
theorem j8 (F:g9 G md P env st s.heap) {m:aN->Option aA} (hm:s.heap.Ns env.locals m) {x:aN} {v:aA} {Q:aA->aD->Prop} (H:iV env m s.heap x v) (h:Q v s):aF G.M A (loadName env x) Q E s:=by
 refine nk λcq=>?_
 rcases H with⟨hl,hv⟩|⟨hk,c,hc,hv⟩
 all_goals refine cq ?_
 ·exact wpAny_loadName_local F.kind hl hm hv h
 ·rcases hk with hk|⟨hk,hn⟩
  ·exact wpAny_loadName_cell F.kind hk hc hv h
  ·exact wpAny_loadName_free F.kind hk hc hv h hn
theorem Bx (F:g9 G md P env st s.heap) {x:Nat} {vb:VB} {Q:aA->aD->Prop} (e:(st.get x).bind cA.get=some vb) (h: ∀v,VR G (Pm vb.2 P) s.heap vb.1 v->Q v s):aF G.M A (loadName env (G.n x)) Q E s:=
 ac e λsl h1 e=>wB e λhk e=>F.ns.elim λ_ H=>((H.2 x sl h1).el hk).elim λv r=>j8 F H.1 r.1 (h v (aC e▸r.2.2.flag))
end
end
section
open PySem.Spec PySem.Calls PyProof.Rows PySem.W
theorem om {i:PE} (h:oC i=true):freshPE i=true:=by
 unfold freshPE
 rw[Nat.eq_of_beq_eq_true h];rfl
def xg (p:PE) (v:V):Prop:=oC p=true\/ ∃l,v= .list l
def mj (G:Gl) (P:aG->Prop) (s:aD) (pe:PE) (vb:VB) (Q:aA->aD->Prop):Prop:=
 ∀v s',cD G s s'->VR G (Pm vb.2 P) s'.heap vb.1 v->(freshPE pe=true->xg pe vb.1-> ∀a,v= .ref a->s.heap.get? a=none)->Q v s'
def cC (G:Gl) (n:Nat) (r:Ev):Prop:=
 ∀(md:Nat) (P:aG->Prop) (env:cg) (st:St) (A:aZ) (E:aA->aD->Prop) (s:aD) (Q:aA->aD->Prop) (m:Nat) (ex:Expr) (pe:PE) (vb:VB),
  cH (G.Tl md) m env.scope ex=some pe->r.e st pe=some vb->g9 G md P env st s.heap->cw n A->mj G P s pe vb Q->aF G.M A (cW ex env) Q E s
def lO (G:Gl) (n:Nat) (r:Ev):Prop:=
 ∀(md:Nat) (P:aG->Prop) (env:cg) (st:St) (A:aZ) (E:aA->aD->Prop) (s:aD) (Q:Bool->aD->Prop) (m:Nat) (ex:Expr) (pe:PE) (b:Bool),
  cH (G.Tl md) m env.scope ex=some pe->r.t st pe=some b->g9 G md P env st s.heap->cw n A->(∀s',cD G s s'->Q b s')->aF G.M A (isTrue ex env (cW ex env)) Q E s
def jW (G:Gl) (P:aG->Prop) (h:ah):List VB->List aA->Prop
 | [],vs=>vs=[]
 |b::l,vs=> ∃v r,vs=v::r/\VR G (Pm b.2 P) h b.1 v/\jW G P h l r
structure wn (G:Gl) (P:aG->Prop) (h:ah):Prop where
 base:fy G h
 tabs:aY G h
 fresh:fz P h
def lD (G:Gl) (n:Nat) (r:Ev):Prop:=
 ∀(P:aG->Prop) (A:aZ) (E:aA->aD->Prop) (s:aD) (Q:aA->aD->Prop) (f:VB) (args:List VB) (kns:List Nat) (kvs:List VB) (vb:VB) (fv:aA) (as ks:List aA),
  r.call f.1 args kns kvs=some vb->wn G P s.heap->VR G (Pm f.2 P) s.heap f.1 fv->jW G P s.heap args as->jW G P s.heap kvs ks->cw n A->
  (∀v s',cD G s s'->VR G (Pm vb.2 P) s'.heap vb.1 v->Q v s')->aF G.M A (call fv as ((kns.map G.n).zip ks)) Q E s
section
variable {G:Gl} {A:aZ} {E:aA->aD->Prop} {P P':aG->Prop} {s s':aD} {env:cg} {m:aN->Option aA} {h h':ah} {md n:Nat} {st:St} {r:Ev}
theorem g9.wld (F:g9 G md P env st h):wn G P h:=⟨F.base,F.tabs,F.fresh⟩
theorem jW.ext (k:qg G h h') (T:aY G h) {l:List VB}: ∀{vs:List aA},jW G P h l vs->jW G P h' l vs:=by
 induction l with
 |nil=>exact λe=>e
 |cons b l ih=>exact λr=>r.imp λv r=>r.imp λ_ r=>⟨r.1,VR.ext k T _ _ r.2.1,ih r.2.2⟩
theorem jW.len {l:List VB}: ∀{vs:List aA},jW G P h l vs->vs.length=l.length:=by
 induction l with
 |nil=>exact λe=>congrArg jt (show _=[]from e)
 |cons b l ih=>exact λr=>obE21 r λv _ r=>(congrArg jt r.1).trans (congrArg (· +1) (ih r.2.2))
theorem jW.vrs {l:List VB}: ∀{vs:List aA},jW G P h l vs->bh G (Pm (fx l) P) h (fT l) vs:=by
 induction l with
 |nil=>exact λe=>e
 |cons b l ih=>exact λr=>r.imp λv r=>r.imp λ_ r=>⟨r.1,VR.mono (Pm.of λq=>(aJ.mp q).1) _ _ r.2.1,bh.mono (Pm.of λq=>(aJ.mp q).2) _ _ (ih r.2.2)⟩
theorem qO {T:TE} {sc:bE} {m:Nat} {e:Expr} {p:PE} (h:cH T m sc e=some p) (rest:List Expr) (env:cg):gM (e::rest) env=(false,cW e env)::gM rest env:=by
 cases e with
 |Starred x p=>cases m<;>exact cI h
 |_=>rfl
theorem fh {α β:Type} {f:α->Option β} {a:α} {l:List α} {r:List β} (h:b9 f (a::l)=some r): ∃b t,r=b::t/\f a=some b/\b9 f l=some t:=
 bD h λb hb t ht h=>⟨b,t,(aC h).symm,hb,ht⟩
theorem re {r:St->PE->Option VB} {st:St} {p:PE} {ps:List PE} {l:List VB} (h:iQ r st (p::ps)=some l): ∃b t,l=b::t/\r st p=some b/\iQ r st ps=some t:=
 bD h λb hb t ht h=>⟨b,t,(aC h).symm,hb,ht⟩
theorem qe (IH:cC G n r) {k:Nat} {pos:dM} (es:List Expr): ∀(ps:List PE) (vbs:List VB) (s:aD) (Q:List aA->aD->Prop),b9 (cH (G.Tl md) k env.scope) es=some ps->iQ r.e st ps=some vbs->g9 G md P env st s.heap->cw n A->
  (∀vs s',cD G s s'->jW G P s'.heap vbs vs->Q vs s')->aF G.M A (wi (mw pos (gM es env))) Q E s:=by
 induction es with
 |nil=>
  intro ps vbs s Q e e2 F O h
  cases e
  cases e2
  exact vA (h [] s (.refl F.tabs) rfl)
 |cons ex es ih=>
  intro ps vbs s Q e e2 F O h
  refine nk λcq=>?_
  refine bD e λp hp t ht e=>?_
  cases e
  refine bD e2 λb hb bt hbt e2=>?_
  cases e2
  refine cq ?_
  rw[qO hp]
  exact jr (IH md P env st A E s _ k ex p b hp hb F O λv s1 X rv _=>ih t bt s1 _ ht hbt (F.up X) O λvs s2 Y rvs=>h _ s2 (X.trans Y) ⟨v,vs,rfl,VR.ext Y.ext X.tabs _ _ rv,rvs⟩)
theorem x9 (IH:cC G n r) {k:Nat} {pos:dM} (kws:List cQ): ∀(ps:List PE) (vbs:List VB) (s:aD) (Q:List aA->aD->Prop),b9 (λ(x:cQ)=>cH (G.Tl md) k env.scope x.value) kws=some ps->iQ r.e st ps=some vbs->g9 G md P env st s.heap->cw n A->
  (∀vs s',cD G s s'->jW G P s'.heap vbs vs->Q vs s')->aF G.M A (evalAll ((kY pos (gO kws env)).map (·.2))) Q E s:=by
 induction kws with
 |nil=>
  intro ps vbs s Q e e2 F O h
  cases e
  cases e2
  exact lU (h [] s (.refl F.tabs) rfl)
 |cons kw es ih=>
  intro ps vbs s Q e e2 F O h
  refine nk λcq=>?_
  obtain⟨nm,ex,kp⟩:=kw
  refine bD e λp hp t ht e=>?_
  cases e
  refine bD e2 λb hb bt hbt e2=>?_
  cases e2
  refine cq ?_
  exact wpAny_evalAll_cons (aE (IH md P env st A E s _ k ex p b hp hb F O λv s1 X rv _=>aE (bG (aK (ih t bt s1 _ ht hbt (F.up X) O λvs s2 Y rvs=>h _ s2 (X.trans Y) ⟨v,vs,rfl,VR.ext Y.ext X.tabs _ _ rv,rvs⟩)))))
end
end
section
open PySem.Spec PySem.Calls PyProof.Rows PySem.W
section
variable {G:Gl} {A:aZ} {E:aA->aD->Prop} {P P':aG->Prop} {s s':aD} {env:cg} {h h':ah} {md n:Nat} {st:St} {r:Ev} {Q:aA->aD->Prop}
theorem mY {W:cY} {pe' pe:PE} {vb:VB} {Z:Prop} (e:some pe'=some pe) (e2:(step W r).e st pe=some vb) (hq:mj G P s pe vb Q) (k:(step W r).e st pe'=some vb->mj G P s pe' vb Q->Z):Z:=by cases e;exact k e2 hq
theorem mj.of {pe:PE} {vb vb':VB} (hq:mj G P s pe vb Q) (e:some vb'=some vb):mj G P s pe vb' Q:=bb (C:=λvb=>mj G P s pe vb Q) e hq
theorem EX {c:Const} {k:Nat} {pos:dM} {pe:PE} {vb:VB} {W:cY} (e:Lr c=some pe) (e2:(step W r).e st pe=some vb) (F:g9 G md P env st s.heap) (hq:mj G P s pe vb Q):aF G.M A (cW (.Constant c k pos) env) Q E s:=by
 cases c<;>first|exact cI e|skip
 ·exact mY e e2 hq λe2 hq=>(λh=>λ_ _ _=>h:Q .none s->aF G.M A (cW (.Constant .none k pos) env) Q E s) (hq.of e2 _ _ (.refl F.tabs) rfl nofun)
 ·exact mY e e2 hq λe2 hq=>(λh=>λ_ _ _=>h:Q (.bool _) s->aF G.M A (cW (.Constant (.bool _) k pos) env) Q E s) (hq.of e2 _ _ (.refl F.tabs) rfl nofun)
 ·exact mY e e2 hq λe2 hq=>qj (hq.of e2 _ _ (.tok F.tabs _) ⟨_,rfl⟩ nofun)
 ·exact mY e e2 hq λe2 hq=>sm (hq.of e2 _ _ (.tok F.tabs _) ⟨_,rfl⟩ nofun)
theorem d6 {x:aN} (h:dD x=true):(x==("__debug__" :aN))=false/\(x==("__classdict__" :aN))=false:=by
 unfold dD at h
 simp only[ag,dS]at h
 exact h
theorem gW {x:aN} {env:cg} (h:eY env.scope x=true):env.kindOf x=some .globalImplicit:=by
 unfold eY at h
 unfold i7
 split at h
 ·assumption
 ·exfalso;cases h
theorem FY (GO:GOk G) {k:Nat} {x:aN} {pos:dM} {pe:PE} {vb:VB} {W:cY} (e:cH (G.Tl md) (k+1) env.scope (.Name x pos)=some pe) (e2:(step W r).e st pe=some vb) (F:g9 G md P env st s.heap) (hq:mj G P s pe vb Q):
  aF G.M A (cW (.Name x pos) env) Q E s:=by
 refine aj e λhok e=>dg ?_ (d6 hok).1
 refine fF e (λhv e=>ac e λi hi e=>mY e e2 hq λe2 hq=>Gl.n_id (G:=G) hi▸Bx F e2 λv rv=>hq v s (.refl F.tabs) rv nofun) λhv e=>aj e λhg e=>?_
 unfold jM at e
 cases hf:(G.Tl md).fns.lookup x with
 |some kk=>
  rw[hf]at e
  refine mY e e2 hq λe2 hq=>(GO.fns _ _ hf).elim λa ha=>mK GO F (gW hg) (.inl ha.2) (hq.of e2 _ s (.refl F.tabs) ⟨a,ha.1,rfl⟩ nofun)
 |none=>
  rw[hf]at e
  exact ac e λi hi e=>mY e e2 hq λe2 hq=>(GO.gi _ _ hi).elim λt hm=>mK GO F (gW hg) (.inl hm) (hq.of e2 _ s (.refl F.tabs) ⟨t,rfl⟩ nofun)
theorem Ec (IH:cC G n r) {k:Nat} {l rr:Expr} {op:kZ} {pos:dM} {pe:PE} {vb:VB} {W:cY} (e:cH (G.Tl md) (k+1) env.scope (.BinOp l op rr pos)=some pe) (e2:(step W r).e st pe=some vb) (F:g9 G md P env st s.heap) (O:cw n A) (hq:mj G P s pe vb Q):
  aF G.M A (cW (.BinOp l op rr pos) env) Q E s:=
 bD e λa ha b hb e=>mY e e2 hq λe2 hq=>bD e2 λx hx y hy e2=>ac e2 λz hz e2=>
 wpAny_BinOp (IH md P env st A E s _ k l a x ha hx F O λv1 s1 X1 r1 _=>
  IH md P env st A E s1 _ k rr b y hb hy (F.up X1) O λv2 s2 X2 r2 _=>
  Ii X2.tabs ((F.up X1).up X2).fresh hz (VR.ext X2.ext X1.tabs _ _ r1) r2 λv s3 X3 r3 f3=>hq.of e2 v s3 ((X1.trans X2).trans X3) r3 λ_ fv a ea=>fv.elim (λh=>aL h) λe=>e.elim λl el=>(X1.trans X2).gone F.tabs (f3 l el a ea))
theorem D5 (IH:cC G n r) (IT:lO G n r) {k:Nat} {c a b:Expr} {pos:dM} {pe:PE} {vb:VB} {W:cY} (e:cH (G.Tl md) (k+1) env.scope (.IfExp c a b pos)=some pe) (e2:(step W r).e st pe=some vb) (F:g9 G md P env st s.heap) (O:cw n A) (hq:mj G P s pe vb Q):
  aF G.M A (cW (.IfExp c a b pos) env) Q E s:=
 dX e λc' hc a' ha b' hb e=>mY e e2 hq λe2 hq=>ac e2 λt ht e2=>
 wpAny_IfExp (IT md P env st A E s _ k c c' t hc ht F O λs1 X1=>match t,e2 with
  |false,e2=>IH md P env st A E s1 _ k b b' vb hb e2 (F.up X1) O λv s2 X2 r2 _=>hq v s2 (X1.trans X2) r2 nofun
  |true,e2=>IH md P env st A E s1 _ k a a' vb ha e2 (F.up X1) O λv s2 X2 r2 _=>hq v s2 (X1.trans X2) r2 nofun)
theorem By (IH:cC G n r) {k:Nat} {x:Expr} {op:UnaryOp} {pos:dM} {pe:PE} {vb:VB} {W:cY} (e:cH (G.Tl md) (k+1) env.scope (.UnaryOp op x pos)=some pe) (e2:(step W r).e st pe=some vb) (F:g9 G md P env st s.heap) (O:cw n A) (hq:mj G P s pe vb Q):
  aF G.M A (cW (.UnaryOp op x pos) env) Q E s:=by
 refine ac e λa ha e=>?_
 have JT: ∀y,r.e st a=some y->(∀v1 s1,cD G s s1->VR G (Pm y.2 P) s1.heap y.1 v1->aF G.M A (unaryOp op v1) Q E s1)->aF G.M A (cW (.UnaryOp op x pos) env) Q E s:=λy hy k2=>
  wpAny_UnaryOp (IH md P env st A E s _ k x a y ha hy F O λv1 s1 X1 r1 _=>k2 v1 s1 X1 r1)
 cases op
 ·exact mY e e2 hq λe2 hq=>ac e2 λy hy e2=>iP e2 λi hi e2=>JT y hy λv1 s1 X1 r1=>(r1.isInt hi).elim λt ht=>ht▸PyProof.Rows.invert_int (hq.of e2 _ _ (X1.trans (.tok X1.tabs _)) ⟨_,rfl⟩ nofun)
 ·exact mY e e2 hq λe2 hq=>bD e2 λy hy b hb e2=>JT y hy λv1 s1 X1 r1=>not_value (qw X1.tabs hb r1 λs2 X2=>hq.of e2 _ _ (X1.trans X2) rfl nofun)
 ·exact cI e
 ·exact mY e e2 hq λe2 hq=>ac e2 λy hy e2=>iP e2 λi hi e2=>JT y hy λv1 s1 X1 r1=>(r1.isInt hi).elim λt ht=>ht▸PySem.P.neg_int (hq.of e2 _ _ (X1.trans (.tok X1.tabs _)) ⟨_,rfl⟩ nofun)
noncomputable def bw:BoolOp->Bool
 | .And=>true
 | .Or=>false
theorem ky {env:cg}: ∀{es:List Expr} {ps:List PE} {f:Expr->Option PE},b9 f es=some ps->(mS es env).isEmpty=ps.isEmpty:=by
 intro zl
 induction zl with
 |nil=>
  intro ps f e
  rw[<-aC e];rfl
 |cons _ _ ih=>
  intro ps f e
  exact bD e λb hb t ht e=>by rw[<-aC e];rfl
theorem E8 {M:i6} {op:BoolOp} {x:l6 aA} {rest:List (l6 aA)} {pos:dM} (h:rest.isEmpty=false->aF M A x (λv s1=>aF M A (truthy v) (λb s2=>if(b==bw op)=true then aF M A (boolOp pos op rest) Q E s2 else Q v s2) E s1) E s) (h2:rest.isEmpty=true->aF M A x Q E s):aF M A (boolOp pos op (x::rest)) Q E s:=by
 cases rest with
 |nil=>exact h2 rfl
 |cons y rest=>
  refine aE (ay (h rfl) (λv s1 h=>aE (bG (aE (ab (ay h (λb s2 h=>?_) λ_ _ x=>x))))) λ_ _ x=>x)
  cases op<;>cases b<;>first|exact aK h|exact h
theorem BE (IH:cC G n r) {k:Nat} {pos:dM} {vb:VB} {op:BoolOp}: ∀(es:List Expr) (ps:List PE) (s:aD),b9 (cH (G.Tl md) k env.scope) es=some ps->lx r.e (bw op) st ps=some vb->g9 G md P env st s.heap->cw n A->
  (∀v s',cD G s s'->VR G (Pm vb.2 P) s'.heap vb.1 v->Q v s')->aF G.M A (boolOp pos op (mS es env)) Q E s:=by
 intro zl
 induction zl with
 |nil=>
  intro ps s e e2 F O h
  exact cI (bb (C:=λps=>lx r.e (bw op) st ps=some vb) e e2)
 |cons ex es ih=>
  intro ps s e e2 F O h
  exact bD e λp hp t ht e=>by
   have e2:=bb (C:=λps=>lx r.e (bw op) st ps=some vb) e e2
   have hz:=ky (env:=env) ht
   refine E8 (rest:=mS es env) (λhr=>?_) λhr=>?_<;>rw[hz]at hr
   ·refine fF e2 (λhc _=>(nomatch hr.symm.trans hc)) λ_ e2=>bD e2 λv1 hv1 b hb e2=>?_
    refine IH md P env st A E s _ k ex p v1 hp hv1 F O λv s1 X rv _=>qw X.tabs hb rv λs2 Y=>fF e2 (λhc e2=>?_) λhc e2=>?_
    ·rw[if_pos hc];exact ih t s2 ht e2 (F.up (X.trans Y)) O λv s3 Z rv=>h v s3 ((X.trans Y).trans Z) rv
    ·rw[if_neg hc];exact h v s2 (X.trans Y) (lG (C:=λvb:VB=>VR G (Pm vb.2 P) s2.heap vb.1 v) e2 (VR.ext Y.ext X.tabs _ _ rv))
   ·refine fF e2 (λ_ e2=>IH md P env st A E s _ k ex p vb hp e2 F O λv s1 X rv _=>h v s1 X rv) λhc _=>(hc hr).elim
theorem BD (IH:cC G n r) {k:Nat} {vs:List Expr} {op:BoolOp} {pos:dM} {pe:PE} {vb:VB} {W:cY} (e:cH (G.Tl md) (k+1) env.scope (.BoolOp op vs pos)=some pe) (e2:(step W r).e st pe=some vb) (F:g9 G md P env st s.heap) (O:cw n A) (hq:mj G P s pe vb Q):
  aF G.M A (cW (.BoolOp op vs pos) env) Q E s:=by
 refine ac e λl hl e=>mY e e2 hq λe2 hq=>?_
 simp only[arm_eval_BoolOp]
 clear e;clear e;cases op<;>exact BE IH vs l s hl e2 F O λv s1 X rv=>hq v s1 X rv nofun
theorem pT (ops:List jp) (es:List Expr) (h:es.all Cs=true):lastMarks ops es=false:=by
 induction es generalizing ops with
 |nil=>
  cases ops with
  |nil=>rfl
  |cons o r=>cases r<;>rfl
 |cons e es ih=>
  cases ops with
  |nil=>rfl
  |cons o r=>
   refine gC h λh1 h2=>?_
   cases r with
   |nil=>
    clear ih h2;cases es with
    |nil=>clear h;cases e<;>first|rfl|exact aL h1
    |cons=>rfl
   |cons o2 r=>exact ih (o2::r) h2
theorem BA {M:i6} {op:jp} {ops:List jp} {left:aA} {x:l6 aA} {rs:List (l6 aA)} {pos:dM} (h:aF M A x (λrv s1=>aF M A (ft op left rv) (λc s2=>if(ops.isEmpty&&rs.isEmpty)=true then Q c s2 else∃b,c= .bool b/\if b=true then aF M A (sU pos rv ops rs) Q E s2 else Q c s2) E s1) E s):
  aF M A (sU pos left (op::ops) (x::rs)) Q E s:=by
 have other:(ops.isEmpty&&rs.isEmpty)=false->aF M A (do let rv <-hV [left] x;jq pos;let c <-hV [left,rv] (ft op left rv);release [left,rv] [c];if<-hV [c,rv] (truthy c)then sU pos rv ops rs else dC c) Q E s:=λhz=>by
  rw[hz]at h
  refine aE (ab (ay h (λrv s1 h=>aE (bG (aE (ab (ay h (λc s2 h=>h.elim λb h=>?_) λ_ _ x=>x))))) λ_ _ x=>x))
  refine(h.1)▸?_
  refine aE (z7 (aE (ab (gD ?_))))
  have h2:=h.2
  rw[h.1]at h2
  clear h;cases b
  ·exact aK h2
  ·exact h2
 cases ops with
 |cons=>exact other rfl
 |nil=>cases rs with
  |cons=>exact other rfl
  |nil=>exact aE (ab (ay h (λrv s1 h=>aE (bG (jd h))) λ_ _ x=>x))
theorem CM {M:i6} {op:jp} {ops:List jp} {left:aA} {x:l6 aA} {rs:List (l6 aA)} {pos:dM} {Q:Bool->aD->Prop} (h:aF M A x (λrv s1=>aF M A (ft op left rv) (λc s2=> ∃b,c= .bool b/\if(ops.isEmpty&&rs.isEmpty)=true then Q b s2 else if b=true then aF M A (tx pos rv ops rs) Q E s2 else Q b s2) E s1) E s):
  aF M A (tx pos left (op::ops) (x::rs)) Q E s:=by
 have other:(ops.isEmpty&&rs.isEmpty)=false->aF M A (do let rv <-hV [left] x;jq pos;let c <-hV [left,rv] (ft op left rv);release [left,rv] [c];if<-hV [c,rv] (truthy c)then tx pos rv ops rs else dC false) Q E s:=λhz=>by
  rw[hz]at h
  refine aE (ab (ay h (λrv s1 h=>aE (bG (aE (ab (ay h (λc s2 h=>h.elim λb h=>?_) λ_ _ x=>x))))) λ_ _ x=>x))
  refine(h.1)▸?_
  refine aE (z7 (aE (ab (gD ?_))))
  have h2:=h.2
  clear h;cases b
  ·exact aK h2
  ·exact h2
 cases ops with
 |cons=>exact other rfl
 |nil=>cases rs with
  |cons=>exact other rfl
  |nil=>exact aE (ab (ay h (λrv s1 h=>aE (bG (aE (jd (ay h (λc s2 h=>h.elim λb h=>h.1▸ab (gD h.2)) λ_ _ x=>x))))) λ_ _ x=>x))
theorem E3 (IH:cC G n r) (hn:8<=n) {k:Nat} {pos:dM} {b:Bool}: ∀(es:List Expr) (ops:List jp) (ps:List PE) (a:V) (av:aA) (P1:aG->Prop) (s:aD),b9 (cH (G.Tl md) k env.scope) es=some ps->iR r.e st a ops ps=some b->VR G P1 s.heap a av->g9 G md P env st s.heap->cw n A->
  (∀s',cD G s s'->Q (.bool b) s')->aF G.M A (sU pos av ops (mS es env)) Q E s:=by
 intro es
 induction es with
 |nil=>
  intro ops ps a av P1 s e e2 ra F O h
  cases ops with
  |nil=>exact cI e2
  |cons=>exact cI (bb (C:=λps=>iR r.e st a _ ps=some b) e e2)
 |cons ex es ih=>
  intro ops ps a av P1 s e e2 ra F O h
  cases ops with
  |nil=>exact cI e2
  |cons op ops=>
  refine bD e λp hp t ht e=>?_
  have e2:=bb (C:=λps=>iR r.e st a (op::ops) ps=some b) e e2
  have hz:=ky (env:=env) ht
  refine bD e2 λv1 hv1 c hc e2=>BA (rs:=mS es env) ?_
  rw[hz]
  refine IH md P env st A E s _ k ex p v1 hp hv1 F O λv s1 X rv _=>zQ X.tabs O hn hc (VR.ext X.ext F.tabs _ _ ra) rv (fF e2 (λhl e2=>?_) λhl e2=>?_)
  ·rw[if_pos hl];exact aC e2▸h s1 X
  ·rw[if_neg hl]
   clear hc;cases c
   ·exact⟨false,rfl,bb (C:=λb=>Q (.bool b) s1) e2 (h s1 X)⟩
   ·exact⟨true,rfl,ih ops t v1.1 v _ s1 ht e2 rv (F.up X) O λs2 Y=>h s2 (X.trans Y)⟩
theorem Ey (IH:cC G n r) (hn:8<=n) {k:Nat} {pos:dM} {b:Bool} {Q:Bool->aD->Prop}: ∀(es:List Expr) (ops:List jp) (ps:List PE) (a:V) (av:aA) (P1:aG->Prop) (s:aD),b9 (cH (G.Tl md) k env.scope) es=some ps->iR r.e st a ops ps=some b->VR G P1 s.heap a av->g9 G md P env st s.heap->cw n A->
  (∀s',cD G s s'->Q b s')->aF G.M A (tx pos av ops (mS es env)) Q E s:=by
 intro es
 induction es with
 |nil=>
  intro ops ps a av P1 s e e2 ra F O h
  cases ops with
  |nil=>exact cI e2
  |cons=>exact cI (bb (C:=λps=>iR r.e st a _ ps=some b) e e2)
 |cons ex es ih=>
  intro ops ps a av P1 s e e2 ra F O h
  cases ops with
  |nil=>exact cI e2
  |cons op ops=>
  refine bD e λp hp t ht e=>?_
  have e2:=bb (C:=λps=>iR r.e st a (op::ops) ps=some b) e e2
  have hz:=ky (env:=env) ht
  refine bD e2 λv1 hv1 c hc e2=>CM (rs:=mS es env) ?_
  rw[hz]
  refine IH md P env st A E s _ k ex p v1 hp hv1 F O λv s1 X rv _=>zQ X.tabs O hn hc (VR.ext X.ext F.tabs _ _ ra) rv ⟨c,rfl,fF e2 (λhl e2=>?_) λhl e2=>?_⟩
  ·rw[if_pos hl];exact aC e2▸h s1 X
  ·rw[if_neg hl]
   clear hc;cases c
   ·exact bb (C:=λb=>Q b s1) e2 (h s1 X)
   ·exact ih ops t v1.1 v _ s1 ht e2 rv (F.up X) O λs2 Y=>h s2 (X.trans Y)
theorem yC (IH:cC G n r) (hn:8<=n) {k:Nat} {l:Expr} {ops:List jp} {cs:List Expr} {pos:dM} {pe:PE} {vb:VB} {W:cY} (e:cH (G.Tl md) (k+1) env.scope (.Compare l ops cs pos)=some pe) (e2:(step W r).e st pe=some vb) (F:g9 G md P env st s.heap) (O:cw n A) (hq:mj G P s pe vb Q):
  aF G.M A (cW (.Compare l ops cs pos) env) Q E s:=by
 refine nk λcq=>?_
 refine aj e λhs e=>bD e λa ha b hb e=>mY e e2 hq λe2 hq=>bD e2 λx hx c hc e2=>?_
 refine cq ?_
 rw[arm_eval_Compare,markedEach_of_false _ _ _ (pT ops cs hs)]
 exact aE (IH md P env st A E s _ k l a x ha hx F O λv1 s1 X1 r1 _=>E3 IH hn cs ops b x.1 v1 _ s1 hb hc r1 (F.up X1) O λs2 X2=>hq.of e2 _ s2 (X1.trans X2) rfl nofun)
theorem F5 (IH:cC G n r) {k:Nat} {es:List Expr} {pos:dM} {pe:PE} {vb:VB} {W:cY} (e:cH (G.Tl md) (k+1) env.scope (.List es pos)=some pe) (e2:(step W r).e st pe=some vb) (F:g9 G md P env st s.heap) (O:cw n A) (hq:mj G P s pe vb Q):
  aF G.M A (cW (.List es pos) env) Q E s:=by
 refine nk λcq=>?_
 refine ac e λl hl e=>mY e e2 hq λe2 hq=>ac e2 λas has e2=>aj e2 λhc e2=>?_
 refine cq ?_
 have hc:as.length<=100000:=of_decide_eq_true (aJ.mp hc).2
 refine wpAny_List (qe IH es l as s _ hl has F O λvs s1 X rv=>?_)
 have hlen:=rv.len
 refine⟨by rw[bT];lia,?_⟩
 have Y:=cD.push (G:=G) X.tabs ({cls:= .type "list",data:= .seq vs.toArray}:db) s1.toks
 exact hq.of e2 _ _ (X.trans Y) ⟨_,vs.toArray,rfl,λ_=>(F.up X).fresh.new,⟨0,aS _ rfl⟩,bh.ext Y.ext X.tabs _ _ rv.vrs⟩ λ_ _ a ea=>qm ea▸X.gone F.tabs (bA (bC _))
theorem CC (IH:cC G n r) {k c:Nat} {es:List Expr} {pos:dM} {pe:PE} {vb:VB} {W:cY} (e:cH (G.Tl md) (k+1) env.scope (.Tuple es c pos)=some pe) (e2:(step W r).e st pe=some vb) (F:g9 G md P env st s.heap) (O:cw n A) (hq:mj G P s pe vb Q):
  aF G.M A (cW (.Tuple es c pos) env) Q E s:=by
 refine nk λcq=>?_
 refine ac e λl hl e=>mY e e2 hq λe2 hq=>ac e2 λas has e2=>aj e2 λhc e2=>?_
 refine cq ?_
 have hc:as.length<=100000:=of_decide_eq_true (aJ.mp hc).2
 refine wpAny_Tuple (qe IH es l as s _ hl has F O λvs s1 X rv=>?_)
 have hlen:=rv.len
 refine⟨by rw[bT];lia,?_⟩
 have Y:=cD.push (G:=G) X.tabs ({cls:= .type "tuple",data:= .seq vs.toArray}:db) s1.toks
 exact hq.of e2 _ _ (X.trans Y) (VR.flag ⟨_,vs.toArray,rfl,⟨_,aS _ rfl,rfl,0,rfl⟩,bh.ext Y.ext X.tabs _ _ rv.vrs⟩) nofun
end
end
section
open PySem.Spec PySem.Calls PyProof.Rows PySem.W
noncomputable def qP (p:PE):Bool:=gc 9 p.tag
noncomputable def lh:Expr->Bool
 | .UnaryOp .Not _ _| .BoolOp .. | .IfExp .. | .Compare .. =>true
 |_=>false
noncomputable def isVarPE (p:PE):Bool:=Nat.beq p.tag 6
noncomputable def Kz (p:PE):Bool:=qP p||isVarPE p
theorem uZ {T:TE} {sc:bE} {f:aN} {k:Nat} {kws:List cQ} {as:List PE} {kns:List Nat} {kvs:List PE}:sQ (Kz · =false) (jI T sc f k kws as kns kvs):=by
 refine .ite (.ite (.ite (.ite (.bind λ_=> .some rfl) .none) (.bind λ_=> .some rfl)) (.ite ?_ .none)) .none
 unfold kE
 cases T.fns.lookup f with
 |some k=>exact .some rfl
 |none=>exact .ite (.ite (.one λ_=> .some rfl) (.ite (.some rfl) (.ite (.one λ_=> .some rfl) (.bind λb=> .some (by cases b<;>rfl))))) (.one λ_=> .one λ_=> .ite (.some rfl) .none)
theorem Ls {T:TE} {m:Nat} {sc:bE} {ex:Expr} (hx:lh ex=false) (hn:(lJ ex).isSome=false):sQ (Kz · =false) (cH T (m+1) sc ex):=by
 cases ex<;>try exact .none
 case Constant c k p=>clear hx hn;cases c<;>first|exact .none|exact .some rfl
 case UnaryOp op x p=>exact .bind λa=>match op,hx with
  | .USub,_=> .some rfl
  | .Invert,_=> .some rfl
  | .UAdd,_=> .none
 case BinOp=>exact .bind λ_=> .bind λ_=> .some rfl
 case List=>exact .bind λ_=> .some rfl
 case Tuple=>exact .bind λ_=> .some rfl
 case Lambda=>exact .ite (.bind λ_=> .bind λ_=> .bind λ_=> .some rfl) .none
 case ListComp elt gens _ _=>clear hx hn;cases gens with
  |nil=>exact .none
  |cons=>exact .ite (.bind λ_=> .bind λ_=> .bind λ_=> .bind λ_=> .some rfl) .none
 case Attribute o a p=>exact .ite (.bind λ_=> .some rfl) (.ite (.bind λ_=> .bind λ_=> .some rfl) .none)
 case Subscript o sl p=>
  have go:sQ (Kz · =false) ((cH T m sc o).bind λa=>(cH T m sc sl).bind λi=>some (.sub a i)):= .bind λ_=> .bind λ_=> .some rfl
  clear hx hn;cases sl<;>try exact go
  exact .ite (.bind λ_=> .some rfl) (.ite (.bind λ_=> .bind λ_=> .bind λ_=> .some rfl) .none)
 case Call f args kws p=>
  clear hx hn;cases f<;>try exact .none
  ·exact .ite (.bind λ_=> .bind λ_=> .ite (.ite (.some rfl) .none) (.ite (.one λ_=> .some rfl) (.ite (.one λ_=> .some rfl) (.bind λb=> .some (by cases b<;>rfl))))) .none
  ·exact .bind λ_=> .bind λ_=> .bind λ_=>uZ
 case Name=>exact(aL hn)
 all_goals exfalso;cases hx
theorem xO {T:TE} {m:Nat} {sc:bE} {ex:Expr} {pe:PE} (h:cH T m sc ex=some pe) (hx:lh ex=false):qP pe=false:=by
 cases m with
 |zero=>exact cI h
 |succ m=>
  cases hn:(lJ ex).isSome with
  |false=>exact(ij.mp (Ls hx hn pe h)).1
  |true=>
   cases ex<;>try exact(aL hn)
   rename_i x p
   have:sQ (qP · =false) (cH T (m+1) sc (.Name x p)):=by
    refine .ite (.ite (.bind λ_=> .some rfl) (.ite ?_ .none)) .none
    unfold jM
    cases T.fns.lookup x with
    |some k=>exact .some rfl
    |none=>exact .bind λ_=> .some rfl
   exact this pe h
theorem zz {T:TE} {m:Nat} {sc:bE} {ex:Expr} {pe:PE} (h:cH T m sc ex=some pe) (hn:(lJ ex).isSome=false):isVarPE pe=false:=by
 cases m with
 |zero=>exact cI h
 |succ m=>
  cases hx:lh ex with
  |false=>exact(ij.mp (Ls hx hn pe h)).2
  |true=>
   have:sQ (isVarPE · =false) (cH T (m+1) sc ex):=by
    cases ex<;>try exact(aL (show false=true from hx))
    case UnaryOp op _ _=>clear hn h hx;cases op<;>first|exact .bind λ_=> .some rfl|exact .bind λ_=> .none
    case BoolOp op _ _=>clear hn h hx;cases op<;>exact .bind λ_=> .some rfl
    case IfExp=>exact .bind λ_=> .bind λ_=> .bind λ_=> .some rfl
    case Compare=>exact .ite (.bind λ_=> .bind λ_=> .some rfl) .none
   exact this pe h
theorem u8 {ex:Expr} {env:cg} {whole:l6 aA} (h:lh ex=false):isTrue ex env whole=(do let v <-whole;jq ex.pos;hV [v] (truthy v)):=by
 cases ex<;>try rfl
 case UnaryOp op x p=>cases op<;>first|rfl|exfalso;cases h
 all_goals exfalso;cases h
theorem uP {W:cY} {r:Ev} {st:St} {pe:PE} (h:qP pe=false):(step W r).t st pe=(r.e st pe).bind λx=>lf x.1:=by
 cases pe<;>first|rfl|exfalso;cases h
section
variable {G:Gl} {A:aZ} {E:aA->aD->Prop} {P P':aG->Prop} {s s':aD} {env:cg} {h h':ah} {md n:Nat} {st:St} {r:Ev} {Q:Bool->aD->Prop}
theorem GV (IT:lO G n r) {k:Nat} {b:Bool} {op:BoolOp}: ∀(es:List Expr) (ps:List PE) (s:aD),b9 (cH (G.Tl md) k env.scope) es=some ps->lg r.t (bw op) st ps=some b->g9 G md P env st s.heap->cw n A->(∀s',cD G s s'->Q b s')->aF G.M A (allTrue op es env) Q E s:=by
 intro zl
 induction zl with
 |nil=>
  intro ps s e e2 F O h
  have h:=bb (C:=λb=> ∀s',cD G s s'->Q b s') (bb (C:=λps=>lg r.t (bw op) st ps=some b) e e2) h
  clear e2;cases op<;>exact aK (h s (.refl F.tabs))
 |cons ex es ih=>
  intro ps s e e2 F O h
  exact bD e λp hp t ht e=>by
   have e2:=bb (C:=λps=>lg r.t (bw op) st ps=some b) e e2
   refine ac e2 λc hc e2=>?_
   show aF G.M A (do match op,<-isTrue ex env (cW ex env)with| .And,false=>dC false| .Or,true=>dC true|_,_=>allTrue op es env) Q E s
   refine aE (IT md P env st A E s _ k ex p c hp hc F O λs1 X=>?_)
   have go:(c==bw op)=true->aF G.M A (allTrue op es env) Q E s1:=λhc=>fF e2 (λ_ e2=>ih t s1 ht e2 (F.up X) O λs2 Y=>h s2 (X.trans Y)) λhn _=>(hn hc).elim
   have stop:(c==bw op)=false->aF G.M A (dC c) Q E s1:=λhc=>aK (fF e2 (λhn _=>(nomatch hc.symm.trans hn)) λ_ e2=>bb (C:=λb=>Q b s1) e2 (h s1 X))
   clear ih;cases op<;>(clear hc e2;cases c)<;>first|exact go rfl|exact stop rfl
theorem CD {W:cY} (IH:cC G n r) (IT:lO G n r) (hn:8<=n):lO G (n+4) (step W r):=λmd P env st A E s Q m ex pe b e e2 F O h=>by
 have O:cw n A:=O.down (bZ n 4)
 have sub: ∀{pe':PE},some pe'=some pe->(step W r).t st pe'=some b:=λe=>bb (C:=λpe=>(step W r).t st pe=some b) e e2
 cases hx:lh ex with
 |false=>
  rw[u8 hx]
  rw[uP (xO e hx)]at e2
  exact ac e2 λx hx' hb=>aE (IH md P env st A E s _ m ex pe x e hx' F O λv s1 X rv _=>aE (bG (ab (qw X.tabs hb rv λs2 Y=>h s2 (X.trans Y)))))
 |true=>
  cases m with
  |zero=>exact cI e
  |succ k=>
  cases ex<;>try exact aL (show false=true from hx)
  case UnaryOp op x p=>
   cases op<;>try exact aL (show false=true from hx)
   refine ac e λa ha e=>ac (sub e) λc hc e2=>?_
   show aF G.M A (do return !(<-isTrue x env (cW x env))) Q E s
   exact aE (IT md P env st A E s _ k x a c ha hc F O λs1 X=>aK (bb (C:=λb=>Q b s1) e2 (h s1 X)))
  case BoolOp op vs p=>
   refine ac e λl hl e=>?_
   cases op<;>exact GV IT vs l s hl (sub e) F O h
  case IfExp c a b' p=>
   refine dX e λc' hc a' ha b2 hb e=>ac (sub e) λt ht e2=>?_
   show aF G.M A (do if<-PySem.isTrue c env (cW c env)then PySem.isTrue a env (cW a env)else PySem.isTrue b' env (cW b' env)) Q E s
   refine aE (IT md P env st A E s _ k c c' t hc ht F O λs1 X1=>?_)
   cases t
   ·exact IT md P env st A E s1 _ k b' b2 b hb e2 (F.up X1) O λs2 X2=>h s2 (X1.trans X2)
   ·exact IT md P env st A E s1 _ k a a' b ha e2 (F.up X1) O λs2 X2=>h s2 (X1.trans X2)
  case Compare l ops cs p=>
   refine aj e λhs e=>bD e λa ha b' hb e=>ac (sub e) λx hx hc=>?_
   show aF G.M A (do tx p (<-cW l env) ops (markedEach ops cs (mS cs env))) Q E s
   rw[markedEach_of_false _ _ _ (pT ops cs hs)]
   exact aE (IH md P env st A E s _ k l a x ha hx F O λv1 s1 X1 r1 _=>Ey IH hn cs ops b' x.1 v1 _ s1 hb hc r1 (F.up X1) O λs2 X2=>h s2 (X1.trans X2))
end
end
section
open PySem.Spec PySem.Calls PyProof.Rows PySem.W
section
variable {G:Gl} {A:aZ} {E:aA->aD->Prop} {P P':aG->Prop} {s s':aD} {env:cg} {h h':ah} {md n:Nat} {st:St} {r:Ev} {Q:aA->aD->Prop}
theorem qz {M:i6} {slice:Expr} {o i:aA} (h:aF M A (mu o i) Q E s):aF M A (subscripted slice false o i) Q E s:=by
 have e:subscripted slice false o i=operate [o,i] (mu o i)\/subscripted slice false o i=operate [i,o] (mu o i):=by
  cases slice with
  |Slice _ _ st _=>cases st with
   |none=>exact .inr rfl
   |some _=>exact .inl rfl
  |_=>exact .inl rfl
 exact e.elim (λe=>e▸jd h) λe=>e▸jd h
theorem nF {value slice:Expr} {pos:dM} (h:aF G.M A (cW value env) (λo s₁=>aF G.M A (cW slice env) (λi s₂=>SubscriptOn G.M A o i Q E s₂) E s₁) E s):aF G.M A (cW (.Subscript value slice pos) env) Q E s:=by
 simp only[arm_eval_Subscript]
 refine aE (ay h (λo s₁ h₁=>aE (ab (ay h₁ (λi s₂ h₂=>aE (bG ?_)) λ_ _ x=>x))) λ_ _ x=>x)
 refine nk λcq=>?_
 refine obE23 h₂ λT id hl hT hg=>?_
 refine cq ?_
 refine aE ?_
 refine(getitemInPython_of_ne hT.not_modules)▸?_
 refine aE (wpAny_specialOf hT hl ?_)
 refine aK (aE (qz (ay hg (λr s₃ h₃=>?_) λ_ _ x=>x)))
 exact aE (oY (aK h₃))
theorem CO {x:V} {a i:aA} (hx:x.len?.isSome=true) (ra:VR G P s.heap x a) (h:aF G.M A (mu a i) Q E s):SubscriptOn G.M A a i Q E s:=by
 cases x<;>try exact(aL hx)
 ·exact ra.elim λt e=>e▸⟨"str",_,PySem.F.slot_str_getitem.lookup,wq _ _ _,e▸h⟩
 ·exact obE21 ra λb ia r=>r.2.1.elim λo q=>r.1▸⟨"tuple",_,PySem.F.slot_tuple_getitem.lookup,⟨_,q.1,q.2.1⟩,r.1▸h⟩
 ·exact obE21 ra λb ia r=>r.2.2.1.elim λo q=>r.1▸⟨"list",_,PySem.F.slot_list_getitem.lookup,⟨_,q,rfl⟩,r.1▸h⟩
theorem AF {x y z:V} (e:vT x y=some z):x.len?.isSome=true:=iP e λi _ e=>by
 cases x<;>first|rfl|exact cI e
theorem vY {x z:V} {a b:Option V} (e:jG x a b=some z):x.len?.isSome=true:=by
 cases x<;>first|rfl|exact cI e
theorem AL {x z:V} {lo hi:Option V} {a:aA} {sl:aG} {vl vu:aA} (T:aY G s.heap) (F:fz P s.heap) (e:jG x lo hi=some z) (ra:VR G P s.heap x a) (hs:s.heap.IsSliceOf sl vl vu .none) (pl:jo lo vl) (pu:jo hi vu) (h:fU G P s z Q):
  aF G.M A (mu a (.ref sl)) Q E s:=by
 cases x<;>try exact cI e
 ·refine aj e λhl e=>bD e λp hp q hq e=>ra.elim λt ht=>ht▸AK T hp hq hs pl pu ?_ (bb (C:=λz=>fU G P s z Q) e h)
  have:=of_decide_eq_true hl
  rw[bT];lia
 ·refine aj e λhl e=>bD e λp hp q hq e=>obE21 (ra.isList rfl) λb ia r=>r.1▸xU T F hp hq r.2.1 r.2.2.2 ?_ hs pl pu (bb (C:=λz=>fU G P s z Q) e h)
  have:=of_decide_eq_true hl
  rw[bT];lia
def GX (o:Option V):Prop:= ∀y,o=some y-> ∃i,y= .int i
theorem yq (IH:cC G n r) {k:Nat} {x:Option Expr} {p:Option PE} {v:Option V} {Q:aA->aD->Prop} (e2:rQ r.e st p=some v)
  (e:HU (cH (G.Tl md) k env.scope) x=some p) (hk:GX v) (F:g9 G md P env st s.heap) (O:cw n A) (h: ∀w s',cD G s s'->jo v w->Q w s'):
  aF G.M A (valueOrNone (evalOpt x env)) Q E s:=by
 cases x with
 |none=>exact aK (h _ s (.refl F.tabs) (lG (C:=λv=>jo v gZ) (bb (C:=λp=>rQ r.e st p=some v) e e2) rfl))
 |some x=>
  refine ac e λq hq e=>ac (bb (C:=λp=>rQ r.e st p=some v) e e2) λy hy e2=>(hk y.1 (aC e2).symm).elim λi hi=>?_
  exact IH md P env st A E s _ k x q y hq hy F O λw s1 X rv _=>h w s1 X (lG (C:=λv=>jo v w) e2 ((rv.isInt hi).elim λt ht=>⟨i,t,hi,ht⟩))
theorem wG {d n p:Nat} {o:Option V} (e:nV d n o=some p):GX o:=λy hy=>iP (f:=λi=>if i.natAbs<2^62 then some (yE i n)else none) (show(y.int?.bind _)=some p by rw[hy]at e;exact e) λi hi _=>⟨i,hi⟩
theorem rD {x z:V} {a b:Option V} (e:jG x a b=some z):GX a/\GX b:=by
 cases x<;>first|exact cI e|exact aj e λ_ e=>bD e λp hp q hq e=>⟨wG hp,wG hq⟩
theorem Jc {st:Expr} {env:cg} (h:Fh st=true) {Q:aA->aD->Prop} {s:aD} (hq: ∀t tk,Q (.int (-1) t) {s with toks:=tk}):aF G.M A (cW st env) Q E s:=by
 have hi: ∀x,DX x=true-> ∃c p,x= .Constant (.int 1) c p:=λx h=>by
  cases x<;>try exact(aL h)
  rename_i c k p
  cases c<;>try exact(aL h)
  rename_i i
  exact⟨k,p,by rw[show i=1 from beq_iff_eq.mp h]⟩
 cases st<;>try exact(aL h)
 rename_i op x p
 cases op<;>try exact(aL h)
 refine obE21 (hi x h) λk p e=>?_
 rw[e,arm_eval_UnaryOp]
 exact aE (qj (aE (bG (ab (PySem.P.neg_int (hq _ _))))))
theorem wF {lo hi st:Option Expr} (h:xb lo hi st=true): ∃e,lo=none/\hi=none/\st=some e/\Fh e=true:=by
 refine mh h λh1 h2 h3=>?_
 cases st with
 |none=>exact(aL h3)
 |some e=>exact⟨e,bY.mp h1,bY.mp h2,rfl,h3⟩
theorem AQ (IH:cC G n r) {k:Nat} {o yj:Expr} {pos:dM} {pe:PE} {vb:VB} {W:cY} (hm:Fh yj=true) (e:((cH (G.Tl md) k env.scope o).bind λp=>some (.rslice p))=some pe) (e2:(step W r).e st pe=some vb) (F:g9 G md P env st s.heap) (O:cw n A) (hq:mj G P s pe vb Q) {p:dM}:
  aF G.M A (cW (.Subscript o (.Slice none none (some yj) p) pos) env) Q E s:=by
 refine nF (ac e λa ha e=>mY e e2 hq λe2 hq=>ac e2 λx hx e2=>j6 e2 λl hl e2=>aj e2 λhok e2=>?_)
 have hok:l.length<=100000:=of_decide_eq_true hok
 refine IH md P env st A E s _ k o a x ha hx F O λv1 s1 X1 r1 _=>?_
 simp only[arm_eval_Slice]
 show aF G.M A (do let l <-dC gZ;let u <-hV [l] (dC gZ);let s <-hV [l,u] (cW yj env);newFields "slice" [l,u,s]) _ E s1
 refine aE (aK (aE (ab (aK (aE (ab (Jc hm λt tk=>?_)))))))
 refine dc ?_ (by size_fits)
 have Y:=(cD.tok (G:=G) X1.tabs tk).trans (cD.push (s:={s1 with toks:=tk}) X1.tabs ({cls:= .type "slice",data:= .fields #[.none,.none,.int (-1) t]}:db) tk)
 have r1':=VR.ext Y.ext X1.tabs _ _ r1
 simp only[hl]at r1'
 refine CO (x:= .list l) rfl r1' (obE21 (r1'.isList rfl) λb ia r=>r.1▸?_)
 exact v3 Y.tabs (((F.up X1).up Y).fresh.pm _) r.2.1 r.2.2.2 (by rw[bT];lia) (sL _ _ _ _) λv s3 X3 r3=>hq.of e2 v s3 ((X1.trans Y).trans X3) r3 nofun
theorem CT (IH:cC G n r) {k:Nat} {o:Expr} {lo hi:Option Expr} {pos:dM} {pe:PE} {vb:VB} {W:cY} (e:((cH (G.Tl md) k env.scope o).bind λa=>(HU (cH (G.Tl md) k env.scope) lo).bind λl=>(HU (cH (G.Tl md) k env.scope) hi).bind λh=>some (.slice a l h))=some pe) (e2:(step W r).e st pe=some vb) (F:g9 G md P env st s.heap) (O:cw n A) (hq:mj G P s pe vb Q) {p:dM}:
  aF G.M A (cW (.Subscript o (.Slice lo hi none p) pos) env) Q E s:=by
 refine nF (dX e λa ha l hl u hu e=>mY e e2 hq λe2 hq=>yJ e2 λx hx vl hvl vu hvu z hz e2=>?_)
 refine IH md P env st A E s _ k o a x ha hx F O λv1 s1 X1 r1 _=>?_
 simp only[arm_eval_Slice]
 refine aE (yq IH hvl hl (rD hz).1 (F.up X1) O λw1 s2 X2 p1=>?_)
 refine aE (ab (yq IH hvu hu (rD hz).2 ((F.up X1).up X2) O λw2 s3 X3 p2=>?_))
 refine aE (ab (aK (dc ?_ (by size_fits))))
 have Y:=cD.push (G:=G) X3.tabs ({cls:= .type "slice",data:= .fields #[w1,w2,.none]}:db) s3.toks
 have Z:=((X2.trans X3).trans Y)
 have r1':=VR.ext Z.ext X1.tabs _ _ r1
 exact CO (vY hz) r1' (AL Z.tabs (((F.up X1).up Z).fresh.pm _) hz r1' (sL _ _ _ _) p1 p2 λv s4 X4 r4=>hq.of e2 v s4 ((X1.trans Z).trans X4) (VR.flag r4) nofun)
theorem Ff (IH:cC G n r) {k:Nat} {o sl:Expr} {pos:dM} {pe:PE} {vb:VB} {W:cY} (e:((cH (G.Tl md) k env.scope o).bind λa=>(cH (G.Tl md) k env.scope sl).bind λi=>some (.sub a i))=some pe) (e2:(step W r).e st pe=some vb) (F:g9 G md P env st s.heap) (O:cw n A) (hq:mj G P s pe vb Q):
  aF G.M A (cW (.Subscript o sl pos) env) Q E s:=by
 refine nF (bD e λa ha i hi e=>mY e e2 hq λe2 hq=>dX e2 λx hx y hy z hz e2=>?_)
 refine IH md P env st A E s _ k o a x ha hx F O λv1 s1 X1 r1 _=>IH md P env st A E s1 _ k sl i y hi hy (F.up X1) O λv2 s2 X2 r2 _=>?_
 have r1':=VR.ext X2.ext X1.tabs _ _ r1
 exact CO (AF hz) r1' (HY X2.tabs hz r1' r2 λv s3 X3 r3=>hq.of e2 v s3 ((X1.trans X2).trans X3) (VR.flag r3) nofun)
theorem AE (IH:cC G n r) {k:Nat} {o sl:Expr} {pos:dM} {pe:PE} {vb:VB} {W:cY} (e:cH (G.Tl md) (k+1) env.scope (.Subscript o sl pos)=some pe) (e2:(step W r).e st pe=some vb) (F:g9 G md P env st s.heap) (O:cw n A) (hq:mj G P s pe vb Q):
  aF G.M A (cW (.Subscript o sl pos) env) Q E s:=by
 cases sl<;>try exact Ff IH e e2 F O hq
 refine fF e (λhb e1=>?_) λhb e1=>aj e1 λhs e3=>?_
 ·clear e;obtain⟨yj,rfl,rfl,rfl,hm⟩:=wF hb
  exact AQ IH hm e1 e2 F O hq
 ·have hs:=bY.mp hs
  clear e hb e1;subst hs
  exact CT IH e3 e2 F O hq
end
end
section
open PySem.Spec PySem.Calls PyProof.Rows PySem.W
noncomputable def nM (G:Gl) (k:cQ):Option Nat:=Ah G.T k
structure GOk2 (G:Gl):Prop extends GOk G where
 fob: ∀(k:Nat) (a:aG),G.fa[k]?=some a-> ∃(o:db) (fd:cV),G.h0.get? a=some o/\o.data= .func fd
 keep: ∀(A:aZ) (E:aA->aD->Prop) (s:aD) (Q:qq->aD->Prop),fy G s.heap->(∀κ,Q κ s)->aF G.M A (iY (.ref G.cls)) Q E s
 cat: ∀(A:aZ) (E:aA->aD->Prop) (s:aD) (Q:aA->aD->Prop) (x v:aN),fy G s.heap->G.T.cat.lookup x=some v->(∀t tk,Q (.str v t) {s with toks:=tk})->aF G.M A (getAttr (.ref G.cls) x true) Q E s
 attr: ∀(A:aZ) (E:aA->aD->Prop) (s:aD) (Q:aA->aD->Prop) (a d:aG) (m:aN->Option aA) (x:aN) (v:aA),fy G s.heap->s.heap.get? a=some (gz G.cls d)->s.heap.Ns d m->x∈G.T.an->m x=some v->(∀i,v≠ .builtin i)->
  (∀tk,Q v {s with toks:=tk})->aF G.M A (getAttr (.ref a) x true) Q E s
 meth: ∀(A:aZ) (E:aA->aD->Prop) (s:aD) (Q:aA×List aA->aD->Prop) (a d:aG) (m:aN->Option aA) (x:aN) (k:Nat) (pl:l6 Bool),fy G s.heap->s.heap.get? a=some (gz G.cls d)->s.heap.Ns d m->m x=none->G.T.meths.lookup x=some k->
  (∀f tk,G.fa[k]?=some f->Q (.ref f,[.ref a]) {s with toks:=tk})->aF G.M A (getMethod (.ref a) x pl) Q E s
 mnot: ∀x k,G.T.meths.lookup x=some k->x∉G.T.an/\x≠bz
 clsn:(G.T.cls==("__debug__" :aN))=false
 make: ∀(A:aZ) (E:aA->aD->Prop) (s:aD) (Q:aA->aD->Prop) (v:aA),fy G s.heap->aY G s.heap->A.handled=none->
  (∀s',cD G s s'->s'.heap=(s.heap.push mT).push (gz G.cls s.heap.objs.size)-> ∀f,G.fa[G.W.init]?=some f->ec G.M (A.under (.builtin "type.__call__" ⟨[.ref G.cls,v],[]⟩)) (.call (.ref f) ⟨[.ref (s.heap.objs.size+1),v],[]⟩)
   (λr s''=>r= .ok (.ret .none)/\Q (.ref (s.heap.objs.size+1)) s'') s')->aF G.M A (call (.ref G.cls) [v]) Q E s
section
variable {G:Gl} {A:aZ} {E:aA->aD->Prop} {P P':aG->Prop} {s s':aD} {env:cg} {h h':ah} {md n:Nat} {st:St} {r:Ev} {Q:aA->aD->Prop}
theorem VR.noBuiltin {G:Gl} {P:aG->Prop} {h:ah} {x:V} {v:aA} (r:VR G P h x v): ∀i,v≠ .builtin i:=λi e=>by
 subst e
 cases x
 case none=>cases r
 case bool=>cases r
 case int=>obtain⟨_,e⟩:=r;cases e
 case str=>obtain⟨_,e⟩:=r;cases e
 case tup=>obtain⟨_,_,e,_⟩:=r;cases e
 case list=>obtain⟨_,_,e,_⟩:=r;cases e
 case fn=>obtain⟨_,_,e⟩:=r;cases e
 case clo=>obtain⟨_,_,_,_,_,_,_,_,e,_⟩:=r;cases e
 case inst=>obtain⟨_,_,_,e,_⟩:=r;cases e
 case ndef=>exact r
 case range=>obtain⟨_,_,_,_,_,e,_⟩:=r;cases e
 case rev=>obtain⟨_,_,_,e,_⟩:=r;cases e
theorem lC {M:i6} {pos:dM} {f:aA} {first:List aA} {args:List (Bool×l6 aA)} {keywords:List (Option aN×l6 aA)} (hplain:args.any (·.1)=false) (hkw:keywords.any (·.1.isNone)=false)
  (h:aF M A (evalArgs f true args keywords) (λa s₁=>(∀Q:qq->aD->Prop,(∀κ,Q κ s₁)->aF M A (iY f) Q E s₁)/\aF M A (call f (first++a.pos) a.kw) Q E s₁) E s):
  aF M A (callWith pos f first args keywords) Q E s:=by
 unfold callWith
 refine aE (ab (ay h (λx s₁ h₁=>aE (bG ?_)) λ_ _ x=>x))
 have tail: ∀{t:l6 aA},aF M A t Q E s₁->aF M A (t>>=λr=>hV [r] point>>=λ_=>dC r) Q E s₁:=
  λht=>aE (ay ht (λr s₂ hr=>aE (ab (wpAny_point (aK hr)))) λ_ _ x=>x)
 rw[hplain,hkw,gS]
 refine aE (h₁.1 _ λκ=>?_)
 cases κ
 ·dsimp only
  split
  ·exact tail h₁.2
  ·exact tail (wpAny_keep h₁.2)
 ·dsimp only
  split
  ·exact tail h₁.2
  ·exact tail (wpAny_keep h₁.2)
 ·exact tail h₁.2
 ·exact tail (jd h₁.2)
theorem gy {M:i6} {id:String} {Q:qq->aD->Prop} (h: ∀κ,Q κ s):aF M A (iY (.builtin id)) Q E s:=aK (h _)
theorem pY {M:i6} {id:String} {Q:qq->aD->Prop} (h: ∀κ,Q κ s):aF M A (iY (.type id)) Q E s:=aK (h _)
theorem gU {M:i6} {a:aG} {o:db} {fd:cV} {Q:qq->aD->Prop} (ho:s.heap.get? a=some o) (hd:o.data= .func fd) (h: ∀κ,Q κ s):aF M A (iY (.ref a)) Q E s:=by
 unfold iY
 refine aE (wo ho ?_)
 refine(hd)▸?_
 exact aK (h _)
theorem rZ (GO:GOk2 G) (B:fy G s.heap) {x:V} {v:aA} (rv:VR G P s.heap x v) (hx:(∃k,x= .fn k)\/ ∃a b c d e,x= .clo a b c d e) {Q:qq->aD->Prop} (h: ∀κ,Q κ s):aF G.M A (iY v) Q E s:=by
 rcases hx with⟨k,rfl⟩|⟨a,b,c,d,e,rfl⟩
 ·obtain⟨a,ha,rfl⟩:=rv
  refine obE22 (GO.fob k a ha) λo fd ho hd=>?_
  exact gU (B _ _ ho) hd h
 ·refine nk λcq=>?_
  obtain⟨_,a',_,_,_,_,_,_,rfl,ho,_⟩:=rv
  refine cq ?_
  exact gU ho rfl h
theorem rA {T:TE} {sc:bE} {m:Nat} {pos:dM} {env:cg}: ∀{es:List Expr} {ps:List PE},b9 (cH T m sc) es=some ps->(mw pos (gM es env)).any (·.1)=false/\(mw pos (gM es env)).all (λx=>!x.1)=true:=by
 intro zl
 induction zl with
 |nil=>
  intro _ _
  exact⟨rfl,rfl⟩
 |cons e es ih=>
  intro _ h
  obtain⟨p,t,rfl,hp,ht⟩:=fh h
  obtain⟨h1,h2⟩:=ih ht
  rw[qO hp]
  unfold mw at h1 h2⊢
  rw[au,List.any_cons,fY,h1,h2]
  exact⟨rfl,rfl⟩
theorem zG {pos:dM} {env:cg} (kws:List cQ): ∀{kns:List Nat},b9 (nM G) kws=some kns->(kY pos (gO kws env)).all (·.1.isSome)=true/\(kY pos (gO kws env)).any (·.1.isNone)=false/\(kY pos (gO kws env)).filterMap (·.1)=kns.map G.n:=by
 induction kws with
 |nil=>exact λh=>(aC h)▸⟨rfl,rfl,rfl⟩
 |cons kw kws ih=>
  intro kns h
  obtain⟨a,e,p⟩:=kw
  refine bD h λb hb t ht e3=>?_
  clear h;cases a with
  |none=>exact cI hb
  |some x=>
   refine⟨(ih ht).1,(ih ht).2.1,(congrArg (x:: ·) (ih ht).2.2).trans ?_⟩
   simp only[<-aC e3,au,Gl.n_id (G:=G) hb]
theorem da (IH:cC G n r) {k:Nat} {pos:dM} {f:aA} {first:List aA} {args:List Expr} {kws:List cQ} {ps qs:List PE} {kns:List Nat} {as ks:List VB} (ea:b9 (cH (G.Tl md) k env.scope) args=some ps) (en:b9 (nM G) kws=some kns)
  (ek:b9 (λ(x:cQ)=>cH (G.Tl md) k env.scope x.value) kws=some qs) (va:iQ r.e st ps=some as) (vk:iQ r.e st qs=some ks) (F:g9 G md P env st s.heap) (O:cw n A)
  (h: ∀vs us s',cD G s s'->jW G P s'.heap as vs->jW G P s'.heap ks us->(∀Q:qq->aD->Prop,(∀κ,Q κ s')->aF G.M A (iY f) Q E s')/\aF G.M A (call f (first++vs) ((kns.map G.n).zip us)) Q E s'):
  aF G.M A (callWith pos f first (mw pos (gM args env)) (kY pos (gO kws env))) Q E s:=by
 refine obE03 (zG (pos:=pos) (env:=env) _ en) λh1 h2 h3=>?_
 refine lC (rA ea).1 h2 ?_
 have key:aF G.M A (wi (mw pos (gM args env))) (λvs s₁=>aF G.M A (evalAll ((kY pos (gO kws env)).map (·.2))) (λus s₂=>(∀Q:qq->aD->Prop,(∀κ,Q κ s₂)->aF G.M A (iY f) Q E s₂)/\aF G.M A (call f (first++vs) ((kns.map G.n).zip us)) Q E s₂) E s₁) E s:=
  qe IH args ps as s _ ea va F O λvs s1 X rv=>x9 IH kws qs ks s1 _ ek vk (F.up X) O λus s2 Y ru=>h vs us s2 (X.trans Y) (rv.ext Y.ext X.tabs) ru
 rw[<-h3]at key
 match args,ea,key with
 | [],ea,key=>
  cases ea;cases va
  refine evalArgs_kw_nil h1 (x9 IH kws qs ks s _ ek vk F O λus s2 Y ru=>?_)
  refine(h3)▸?_
  exact h [] us s2 Y rfl ru
 |e::es,ea,key=>
  clear va;obtain⟨p,t,rfl,hp,ht⟩:=fh ea
  rw[qO hp]at key⊢
  exact evalArgs_kw h1 key
end
end
section
open PySem.Spec PySem.Calls PyProof.Rows PySem.W
def uz (r:Ev):Prop:= ∀f args kns kvs vb,r.call f args kns kvs=some vb->(∃k,f= .fn k)\/ ∃a b c d e,f= .clo a b c d e
def uu (G:Gl) (n:Nat) (r:Ev):Prop:=
 ∀(P:aG->Prop) (A:aZ) (E:aA->aD->Prop) (s:aD) (Q:aA->aD->Prop) (x z:V) (f:Bool) (v:aA),
  r.init x=some z->wn G P s.heap->VR G (Pm f P) s.heap x v->cw n A->(∀w s',cD G s s'->VR G P s'.heap z w->Q w s')->aF G.M A (call (.ref G.cls) [v]) Q E s
section
variable {G:Gl} {A:aZ} {E:aA->aD->Prop} {P P':aG->Prop} {s s':aD} {env:cg} {h h':ah} {md n:Nat} {st:St} {r:Ev} {Q:aA->aD->Prop}
theorem mj.t {pe:PE} {vb:VB} (h:mj G P s pe vb Q) (hf:freshPE pe=false) {v:aA} {s':aD} (X:cD G s s') (rv:VR G (Pm vb.2 P) s'.heap vb.1 v):Q v s':=h v s' X rv λe=>by rw[hf]at e;cases e
theorem GI {x:V} {v:aA} (hx:Go x=true) (rv:VR G P h x v): ∃q,v= .ref q:=by
 cases x<;>try exact(aL hx)
 ·exact rv.elim λa q=>⟨a,q.2⟩
 ·exact rv.elim λ_ r=>r.elim λa r=>r.elim λ_ r=>r.elim λ_ r=>r.elim λ_ r=>r.elim λ_ r=>r.elim λ_ r=>r.elim λ_ r=>⟨a,r.1⟩
theorem wT (GO:GOk2 G) (IH:cC G n r) (IC:lD G n r) (IF:uz r) {k:Nat} {f:aN} {fp pos:dM} {args:List Expr} {kws:List cQ} {g:PE} {ps qs:List PE} {kns:List Nat} {vb:VB} {W:cY} (eg:cH (G.Tl md) 1 env.scope (.Name f fp)=some g)
  (ea:b9 (cH (G.Tl md) k env.scope) args=some ps) (en:b9 (nM G) kws=some kns) (ek:b9 (λ(x:cQ)=>cH (G.Tl md) k env.scope x.value) kws=some qs)
  (e2:(step W r).e st (.call g ps kns qs)=some vb) (F:g9 G md P env st s.heap) (O:cw n A) (hq:mj G P s (.call g ps kns qs) vb Q):aF G.M A (cW (.Call (.Name f fp) args kws pos) env) Q E s:=by
 refine nk λcq=>?_
 refine dX e2 λgv hg as has ks hks e2=>?_
 refine cq ?_
 refine dA (IH md P env st A E s _ 1 _ g gv eg hg F O λfv s1 X1 rf _=>?_)
 refine da IH ea en ek has hks (F.up X1) O λvs us s2 X2 rv ru=>?_
 have rf':=VR.ext X2.ext X1.tabs _ _ rf
 have hfn:=IF _ _ _ _ _ e2
 refine⟨λQ' h'=>rZ GO ((F.up X1).up X2).base rf' hfn h',?_⟩
 exact IC P A E s2 Q gv as kns ks vb fv vs us e2 ((F.up X1).up X2).wld rf' rv ru O λv s3 X3 r3=>hq.t rfl ((X1.trans X2).trans X3) r3
theorem BI {f:aN} {n:Nat} {b:Bi} (h:KS f n=some b):(f,pH b)∈gB:=by
 have go: ∀{x:aN} {o o':Option Bi},(if(f==x)=true then o else o')=some b->(∀b,o=some b->(x,pH b)∈gB)->(o'=some b->(f,pH b)∈gB)->(f,pH b)∈gB:=λh k k'=>fF h (λhc h=>beq_iff_eq.mp hc▸k _ h) λ_ h=>k' h
 have qT: ∀{c:Prop} [Decidable c] {x:aN} {b0:Bi} {o:Option Bi},(x,pH b0)∈gB->(∀b,o=some b->(x,pH b)∈gB)-> ∀b,(if c then some b0 else o)=some b->(x,pH b)∈gB:=λhm k b h=>fF h (λ_ h=>aC h▸hm) λ_ h=>k b h
 have no: ∀{x:aN} (b:Bi),none=some b->(x,pH b)∈gB:=λb h=>cI h
 exact go h (qT (.head _) no) λh=>go h (qT (.tail _ (.head _)) (qT (.tail _ (.head _)) no)) λh=>go h (qT (.tail _ (.tail _ (.head _))) no) λh=>go h (qT (.tail _ (.tail _ (.tail _ (.tail _ (.head _))))) no) λh=>go h (qT (.tail _ (.tail _ (.tail _ (.tail _ (.tail _ (.head _)))))) no) λh=>go h (qT (.tail _ (.tail _ (.tail _ (.head _)))) no) cI
theorem wY (GO:GOk G) (F:g9 G md P env st s.heap) {f:aN} {fp:dM} {v:aA} (hf:dD f=true) (hg:eY env.scope f=true) (hb:(f,v)∈gB) (h:Q v s):aF G.M A (cW (.Name f fp) env) Q E s:=
 dg (mK GO F (gW hg) (.inr (GO.bi _ _ hb)) h) (d6 hf).1
theorem jW.uno {vb:VB} {vs:List aA} (x:jW G P h [vb] vs): ∃v,vs=[v]/\VR G (Pm vb.2 P) h vb.1 v:=by
 obtain⟨v,r,rfl,a,rfl⟩:=x
 exact⟨v,rfl,a⟩
theorem ui (GO:GOk2 G) (IH:cC G n r) {k:Nat} {f:aN} {fp pos:dM} {args:List Expr} {ps:List PE} {as:List VB} {v:aA} (hok:dD f=true) (hg:eY env.scope f=true) (hb:(f,v)∈gB) (ea:b9 (cH (G.Tl md) k env.scope) args=some ps) (va:iQ r.e st ps=some as)
  (F:g9 G md P env st s.heap) (O:cw n A) (h: ∀vs s',cD G s s'->jW G P s'.heap as vs->aF G.M A (call v vs) Q E s'):aF G.M A (cW (.Call (.Name f fp) args [] pos) env) Q E s:=by
 refine dA (wY GO.toGOk F hok hg hb ?_)
 refine da (kws:=[]) (kns:=[]) (qs:=[]) (ks:=[]) IH ea rfl rfl va rfl F O λvs us s2 X2 rv ru=>⟨λQ' h'=>?_,h vs s2 X2 rv⟩
 have key: ∀q∈gB,(∃id,q.2= .builtin id)\/ ∃id,q.2= .type id:=by
  unfold gB
  simp only[List.forall_mem_cons]
  exact⟨.inl ⟨_,rfl⟩,.inl ⟨_,rfl⟩,.inl ⟨_,rfl⟩,.inl ⟨_,rfl⟩,.inr ⟨_,rfl⟩,.inr ⟨_,rfl⟩,.inr ⟨_,rfl⟩,.inr ⟨_,rfl⟩,(λ_ h=>(aU h).elim)⟩
 rcases key _ hb with⟨id,e⟩|⟨id,e⟩
 ·rw[show v=_ from e];exact gy h'
 ·rw[show v=_ from e];exact pY h'
theorem ir {r:St->PE->Option VB} {a:PE} {x:VB} (h:r st a=some x):iQ r st [a]=some [x]:=by rw[iQ,h];rfl
theorem rV {α β:Type} {f:α->Option β} {l:List α} (h:b9 f l=some []):l=[]:=by
 cases l with
 |nil=>rfl
 |cons a t=>exact bD h λ_ _ _ _ h=>(nomatch h)
theorem rU {α β:Type} {f:α->Option β} {l:List α} {b:β} (h:b9 f l=some [b]): ∃a,l=[a]/\f a=some b:=by
 cases l with
 |nil=>exfalso;cases h
 |cons a t=>exact bD h λb' hb t' ht h=>⟨a,by rw[show t=[]from rV (ht.trans (congrArg some (j0 (aC h)).2))],hb.trans (congrArg some (j0 (aC h)).1)⟩
theorem Ci (GO:GOk2 G) (IH:cC G n r) (II:uu G n r) (hn:10<=n) {k:Nat} {f:aN} {fp pos:dM} {args:List Expr} {as:List PE} {pe:PE} {vb:VB} {W:cY} (hok:dD f=true) (hg:eY env.scope f=true) (ea:b9 (cH (G.Tl md) k env.scope) args=some as) (e:ox (G.Tl md) f as=some pe) (e2:(step W r).e st pe=some vb)
  (F:g9 G md P env st s.heap) (O:cw n A) (hq:mj G P s pe vb Q):aF G.M A (cW (.Call (.Name f fp) args [] pos) env) Q E s:=by
 refine fF e (λhc e=>uY e λa ha e=>mY e e2 hq λe2 hq=>bD e2 λx hx z hz e2=>?_) λ_ e=>fF e (λhc e=>mY e e2 hq λe2 hq=>bD e2 λl hl z hz e2=>?_) λ_ e=>fF e (λhc e=>uY e λa ha e=>mY e e2 hq λe2 hq=>ac e2 λx hx e2=>j6 e2 λl hl e2=>?_) λ_ e=>ac e λb hb e=>mY e e2 hq λe2 hq=>bD e2 λl hl z hz e2=>?_
 ·rw[ha]at ea
  refine dA (dg (mK GO.toGOk F (gW hg) (.inl (beq_iff_eq.mp hc▸GO.cls)) ?_) (d6 hok).1)
  refine da (as:=[x]) (kws:=[]) (kns:=[]) (qs:=[]) (ks:=[]) IH ea rfl rfl (ir hx) rfl F O λvs us s2 X2 rv ru=>⟨λQ' h'=>GO.keep A E s2 Q' ((F.up X2).base) h',(jW.uno rv).elim λv q=>?_⟩
  refine(q.1)▸?_
  exact II P A E s2 Q x.1 z x.2 v hz (F.up X2).wld q.2 O λw s3 X3 r3=>(hq.of e2).t rfl (X2.trans X3) (VR.mono (λ_ h _=>h) _ _ r3)
 ·rw[beq_iff_eq.mp hc]at hok hg⊢
  exact ui GO IH hok hg (v:= .type "range") (.tail _ (.tail _ (.tail _ (.tail _ (.tail _ (.tail _ (.head _))))))) ea hl F O λvs s2 X2 rv=>Ca X2.tabs hz rv.vrs λv s3 X3 r3=>(hq.of e2).t rfl (X2.trans X3) r3
 ·rw[ha]at ea
  rw[beq_iff_eq.mp hc]at hok hg⊢
  refine ui GO IH hok hg (v:= .type "reversed") (.tail _ (.tail _ (.tail _ (.tail _ (.tail _ (.tail _ (.tail _ (.head _)))))))) ea (as:=[x]) (ir hx) F O λvs s2 X2 rv=>(jW.uno rv).elim λv q=>?_
  have rv:=q.2
  rw[hl]at rv
  refine(q.1)▸?_
  exact H8 X2.tabs rv λv s3 X3 r3 f3=>hq.of e2 v s3 (X2.trans X3) r3 λ_ _ a ea=>X2.gone F.tabs (f3 a ea)
 ·refine ui GO IH hok hg (BI hb) ea hl F O λvs s2 X2 rv=>?_
  refine KR (n:=n-2) X2.tabs (F.up X2).fresh (O.down (by lia)) (by lia) hz rv.vrs λv s3 X3 r3 f3=>hq.of e2 v s3 (X2.trans X3) r3 λhfr _ a ea'=>X2.gone F.tabs (f3 ?_ a ea')
  clear hb e hq hz f3;cases b<;>first|rfl|exact(aL hfr)
theorem Fc {y z:V}: ∀{l ks:List V} {i:Nat} {f:V->Option VB},b9 (λv=>(f v).map (·.1)) l=some ks->l[i]?=some y->ks[i]?=some z-> ∃vb,f y=some vb/\vb.1=z:=by
 intro zl
 induction zl with
 |nil=>
  intro _ i f _ h _
  exact cI h
 |cons a t ih=>
  intro ks i f hm h1 h2
  exact bD hm λb hb t' ht hm=>by
   have h2:=bb (C:=λks=>ks[i]?=some z) hm h2
   cases i with
   |zero=>exact u5 hb λvb hvb e=>⟨vb,bb (C:=λy=>f y=some vb) h1.symm hvb,e.trans (aC h2)⟩
   |succ i=>exact ih ht h1 h2
theorem vX (GO:GOk2 G) (IH:cC G n r) (IC:lD G n r) (hn:10<=n) {k:Nat} {f:aN} {fp pos:dM} {args:List Expr} {kws:List cQ} {as kvs:List PE} {kns:List Nat} {pe:PE} {vb:VB} {W:cY} (hok:dD f=true) (hg:eY env.scope f=true) (ea:b9 (cH (G.Tl md) k env.scope) args=some as)
  (en:b9 (nM G) kws=some kns) (ek:b9 (λ(x:cQ)=>cH (G.Tl md) k env.scope x.value) kws=some kvs) (e:rC f kws as kvs=some pe) (e2:(step W r).e st pe=some vb)
  (F:g9 G md P env st s.heap) (O4:cw (n+4) A) (hq:mj G P s pe vb Q):aF G.M A (cW (.Call (.Name f fp) args kws pos) env) Q E s:=by
 refine uY e λkp hkp e=>uY e λa ha e=>aj e λhc e=>gC hc λhs hkey=>mY e e2 hq λe2 hq=>bD e2 λx hx kx hkx e2=>j6 e2 λl hl e2=>aj e2 λhfn e2=>ac e2 λks hks e2=>aj e2 λhfl e2=>ac e2 λl' hl' e2=>?_
 have O:cw n A:=O4.down (bZ n 4)
 replace ek:=(hkp)▸ek
 rw[ha]at ea
 clear hc;obtain⟨kw,rfl,ek1⟩:=rU ek
 rw[beq_iff_eq.mp hs]at hok hg⊢
 have hkey:kw.arg=some ("key" :aN):=(j0 (beq_iff_eq.mp hkey)).1
 refine ac en λq hq1 _=>?_
 have en':b9 (nM G) [kw]=some [q]:=by show(nM G kw).bind _=_;rw[hq1];rfl
 have hq':G.n q=("key" :aN):=by
  unfold nM Ah at hq1
  rw[hkey]at hq1
  exact Gl.n_id (G:=G) hq1
 refine dA (wY GO.toGOk F hok hg (v:= .builtin "sorted") (.tail _ (.tail _ (.head _))) ?_)
 refine da (as:=[x]) (ks:=[kx]) (kns:=[q]) IH ea en' ek (ir hx) (ir hkx) F O λvs us s2 X2 rv ru=>⟨λQ' h'=>gy h',(jW.uno rv).elim λv q1=>(jW.uno ru).elim λu q2=>(GI hfn q2.2).elim λqa hqa=>?_⟩
 have rv:=q1.2
 have ru:=q2.2
 rw[hl]at rv
 rw[hqa]at ru
 refine(q1.1)▸?_
 refine(q2.1)▸?_
 refine(hqa)▸?_
 show aF G.M A (call (.builtin "sorted") [v] [(G.n q,.ref qa)]) Q E s2
 refine(hq')▸?_
 refine xQ (n:=n-2) (P:=Pm x.2 P) (O.down (by omega)) (by lia) X2.tabs ((F.up X2).fresh.pm _) rv hfl hl' (λi y w z e3 e4 s3 X3 rw' Q' hQ=>?_) λw s3 X3 r3=>(hq.of e2).t rfl (X2.trans X3) r3
 refine(Fc (f:=λy=>r.call kx.1 [(y,x.2||y.flat)] [] []) hks e3 e4).elim λvb q=>?_
 have X':=X2.trans X3
 refine IC P A.in1.in1 _ s3 Q' kx [(y,x.2||y.flat)] [] [] vb (.ref qa) [w] [] q.1 (F.up X').wld (VR.ext X3.ext X2.tabs _ _ ru) ⟨w,[],rfl,VR.flag rw',rfl⟩ rfl ?_ λu s4 X4 r4=>hQ u s4 X4 (q.2▸VR.mono (λ_ _=>trivial) _ _ r4)
 exact(O4.down (by lia:n+2<=n+4)).in2
theorem wS (GO:GOk2 G) (IH:cC G n r) (IC:lD G n r) (IF:uz r) (II:uu G n r) (hn:10<=n) {k:Nat} {f:aN} {fp pos:dM} {args:List Expr} {kws:List cQ} {pe:PE} {vb:VB} {W:cY} (e:cH (G.Tl md) (k+1) env.scope (.Call (.Name f fp) args kws pos)=some pe) (e2:(step W r).e st pe=some vb)
  (hN: ∀i as,pe≠ .callN i as) (F:g9 G md P env st s.heap) (O4:cw (n+4) A) (hq:mj G P s pe vb Q):aF G.M A (cW (.Call (.Name f fp) args kws pos) env) Q E s:=by
 have O:cw n A:=O4.down (bZ n 4)
 refine dX e λas ea kns en kvs ek e=>aj e λhc e=>?_
 have hok:=(aJ.mp (aJ.mp hc).1).1
 have nm:cH (G.Tl md) 1 env.scope (.Name f fp)=(if lK env.scope f then((G.Tl md).id f).bind λi=>some (.var i)else if eY env.scope f then jM (G.Tl md) f else none):=by
  show(if dD f=true then _ else none)=_
  rw[if_pos hok]
 refine fF e (λhv e=>fF e (λ_ e=>aj e λ_ e=>ac e λi _ e=>(hN _ _ (aC e).symm).elim) λ_ e=>ac e λi hi e=>mY e e2 hq λe2 hq=>?_) λhv e=>aj e λhg e=>?_
 ·exact wT GO IH IC IF (k:=k) (by rw[nm,if_pos hv,hi];rfl) ea en ek e2 F O hq
 ·unfold kE at e
  cases hf:(G.Tl md).fns.lookup f with
  |some kk=>
   rw[hf]at e
   refine mY e e2 hq λe2 hq=>wT GO IH IC IF (k:=k) ?_ ea en ek e2 F O hq
   rw[nm,if_neg hv,if_pos hg]
   unfold jM
   rw[hf]
  |none=>
   replace e:=(hf)▸e
   refine fF e (λhz e1=>?_) λ_ e1=>vX GO IH IC hn hok hg ea en ek e1 e2 F O4 hq
   have hkw:=rV (ek.trans (congrArg some (bX.mp hz)))
   clear e en ek hc;clear e;clear e;clear e;clear e;subst hkw
   exact Ci GO IH II hn hok hg ea e1 e2 F O hq
end
end
section
open PySem.Spec PySem.Calls PyProof.Rows PySem.W
section
variable {G:Gl} {A:aZ} {E:aA->aD->Prop} {P P':aG->Prop} {s s':aD} {env:cg} {h h':ah} {md n:Nat} {st:St} {r:Ev} {Q:aA->aD->Prop}
theorem jR {o:Expr} {a:aN} {env:cg} {whole:l6 aA} (h:iK o=true):attributeBase o a env whole=whole:=by
 cases o with
 |Call _ _ _ _=>exact aL h
 |_=>rfl
theorem xp {T:TE} {sc:bE} {m:Nat} {pos:dM} {env:cg} {args:List Expr} {ps:List PE} (ea:b9 (cH T m sc) args=some ps) (hl:args.length<=8):
  ((mw pos (gM args env)).all (λx=>!x.1)&&(kY pos (gO [] env)).all (λx=>x.1.isSome)&&decide (args.length+([]:List cQ).length+(if([]:List cQ).isEmpty then 0 else 1)<30))=true:=by
 rw[(rA ea).2]
 have:decide (args.length+([]:List cQ).length+(if([]:List cQ).isEmpty then 0 else 1)<30)=true:=by
  simp;lia
 rw[this]
 rfl
theorem qV (IH:cC G n r) {k:Nat} {o:Expr} {nm:aN} {ap pos:dM} {args:List Expr} {a:PE} {ps:List PE} {x:VB} {as:List VB} {T id:String} (ho:cH (G.Tl md) k env.scope o=some a) (hx:r.e st a=some x) (ea:b9 (cH (G.Tl md) k env.scope) args=some ps) (va:iQ r.e st ps=some as)
  (hb:iK o=true) (hl:args.length<=8) (hline:(ap.endLine==pos.line)=true) (pa:PlainAttrs T) (slot:PySem.Slot T nm id) (hty:typeOf (.builtin id)=dC (.type "method_descriptor"))
  (hT: ∀(h:ah) (v:aA),VR G (Pm x.2 P) h x.1 v->(∀s:aD,s.heap=h->s.TypeIs v T)/\ ∀a,v= .ref a-> ∃ob,h.get? a=some ob/\ob.dict=none) (F:g9 G md P env st s.heap) (O:cw n A)
  (h: ∀v vs s',cD G s s'->VR G (Pm x.2 P) s'.heap x.1 v->jW G P s'.heap as vs->aF G.M A (call (.builtin id) (v::vs)) Q E s'):aF G.M A (cW (.Call (.Attribute o nm ap) args [] pos) env) Q E s:=by
 refine Be (jR hb) (xp ea hl) hline rfl ?_
 refine IH md P env st A E s _ k o a x ho hx F O λv s1 X1 r1 _=>?_
 obtain⟨t1,t2⟩:=hT s1.heap v r1
 refine⟨T,id,pa,slot,hty,t1 s1 rfl,t2,?_⟩
 exact da (first:=[v]) (kws:=[]) (kns:=[]) (qs:=[]) (ks:=[]) IH ea rfl rfl va rfl (F.up X1) O λvs us s2 X2 rv ru=>⟨λQ' h'=>gy h',h v vs s2 (X1.trans X2) (VR.ext X2.ext X1.tabs _ _ r1) rv⟩
theorem HW {x:V} {i:Int} {P:aG->Prop} (hx:x= .int i): ∀(h:ah) (v:aA),VR G P h x v->(∀s:aD,s.heap=h->s.TypeIs v "int")/\ ∀a,v= .ref a-> ∃ob,h.get? a=some ob/\ob.dict=none:=λh v r=>(r.isInt hx).elim λt e=>e▸⟨λs _=>wr _ _ _,nofun⟩
theorem CK {x:V} {i:aN} {P:aG->Prop} (hx:x= .str i): ∀(h:ah) (v:aA),VR G P h x v->(∀s:aD,s.heap=h->s.TypeIs v "str")/\ ∀a,v= .ref a-> ∃ob,h.get? a=some ob/\ob.dict=none:=λh v r=>(r.isStr hx).elim λt e=>e▸⟨λs _=>wq _ _ _,nofun⟩
theorem Ex {x:V} {l:List V} {P:aG->Prop} (hx:x= .list l): ∀(h:ah) (v:aA),VR G P h x v->(∀s:aD,s.heap=h->s.TypeIs v "list")/\ ∀a,v= .ref a-> ∃ob,h.get? a=some ob/\ob.dict=none:=λh v r=>by
 subst hx
 exact obE21 r λa ia r=>r.2.2.1.elim λc ho=>r.1▸⟨λs hs=>⟨_,by rw[hs];exact ho,rfl⟩,λb hb=>qm hb▸⟨_,ho,rfl⟩⟩
theorem Ix (GO:GOk2 G) {nm:aN} {kk i:Nat} (hm:G.T.meths.lookup nm=some kk):G.atn i≠nm:=λe=>by
 obtain⟨h1,h2⟩:=GO.mnot nm kk hm
 unfold Gl.atn at e
 cases hi:G.T.an[i]? with
 |none=>rw[hi]at e;exact h2 e.symm
 |some y=>
  rw[hi]at e
  exact h1 (by rw[<-e];exact az hi)
theorem A7 (GO:GOk2 G) (IH:cC G n r) (IC:lD G n r) {k:Nat} {o:Expr} {nm:aN} {ap pos:dM} {args:List Expr} {a:PE} {ps:List PE} {x:VB} {as:List VB} {vb:VB} {kk:Nat} {ks:List Nat} {l:List V} (ho:cH (G.Tl md) k env.scope o=some a) (hx:r.e st a=some x) (ea:b9 (cH (G.Tl md) k env.scope) args=some ps) (va:iQ r.e st ps=some as)
  (hb:iK o=true) (hl:args.length<=8) (hline:(ap.endLine==pos.line)=true) (hm:G.T.meths.lookup nm=some kk) (hi:x.1= .inst ks l) (hc:r.call (.fn kk) (x::as) [] []=some vb) (F:g9 G md P env st s.heap) (O:cw n A)
  (h: ∀v s',cD G s s'->VR G (Pm vb.2 P) s'.heap vb.1 v->Q v s'):aF G.M A (cW (.Call (.Attribute o nm ap) args [] pos) env) Q E s:=by
 rw[arm_eval_Call,jR hb]
 refine aE (IH md P env st A E s _ k o a x ho hx F O λv s1 X1 r1 _=>aE (bG ?_))
 have r1':=r1
 rw[hi]at r1'
 refine nk λcq=>?_
 obtain⟨b,d,m,rfl,hob,pd,hns,hz,rk⟩:=r1'
 refine cq ?_
 have hform:methodCallForm (args.length+([]:List cQ).length) (mw pos (gM args env)) (kY pos (gO [] env))=true:=xp ea hl
 have hpos:methodCallPos true o env ap pos=dC pos:=by unfold methodCallPos;simp[hline]
 unfold methodCall
 refine(hform)▸?_
 refine aE (ab (GO.meth A E s1 _ b d m nm kk _ (F.up X1).base hob hns (hz nm λi _=>Ix GO hm) hm λf tk hf=>?_))
 refine aE (oV hpos ?_)
 have Y:=cD.tok (G:=G) X1.tabs tk
 refine da (first:=[.ref b]) (kws:=[]) (kns:=[]) (qs:=[]) (ks:=[]) IH ea rfl rfl va rfl ((F.up X1).up Y) O λvs us s2 X2 rv ru=>⟨λQ' h'=>?_,?_⟩
 ·refine nk λcq=>?_
  refine obE22 (GO.fob kk f hf) λo' fd h1 h2=>?_
  refine cq ?_
  exact gU ((((F.up X1).up Y).up X2).base _ _ h1) h2 h'
 ·exact IC P A E s2 Q (.fn kk,true) (x::as) [] [] vb (.ref f) (.ref b::vs) [] hc (((F.up X1).up Y).up X2).wld ⟨f,hf,rfl⟩ ⟨_,_,rfl,VR.ext (Y.trans X2).ext X1.tabs _ _ r1,rv⟩ rfl O λv s3 X3 r3=>h v s3 ((X1.trans (Y.trans X2)).trans X3) r3
theorem EW (IH:cC G n r) {k:Nat} {o:Expr} {ap pos:dM} {args:List Expr} {a b:PE} {x y vb:VB} (ha:cH (G.Tl md) k env.scope o=some a) (hx:r.e st a=some x) (hs:b9 (cH (G.Tl md) k env.scope) args=some [b]) (hy:r.e st b=some y)
  (hb:iK o=true) (hl:args.length<=8) (hline:(ap.endLine==pos.line)=true) (e:uf x.1 y.1=some vb) (F:g9 G md P env st s.heap) (O:cw n A) (h:fU G (Pm vb.2 P) s vb.1 Q):aF G.M A (cW (.Call (.Attribute o ("count" :aN) ap) args [] pos) env) Q E s:=by
 unfold uf at e
 split at e<;>try exact cI e
 ·rename_i l h1
  refine iP e λi h2 e=>ac e λns hns e=>qV (as:=[y]) IH ha hx hs (ir hy) hb hl hline PySem.F.plainAttrs_list PySem.F.slot_list_count PySem.F.type_list_count (Ex h1) F O λv vs s1 X1 r1 rv=>(jW.uno rv).elim λu q=>(q.2.isInt h2).elim λt ht=>?_
  refine(q.1)▸?_
  refine(ht)▸?_
  exact wR X1.tabs hns (h1▸r1) λv s2 X2 r2=>bb (C:=λvb:VB=>fU G (Pm vb.2 P) s vb.1 Q) e h v s2 (X1.trans X2) r2
 ·rename_i sx h1
  refine vV e λsy h2 e=>aj e λhlen e=>qV (as:=[y]) IH ha hx hs (ir hy) hb hl hline PySem.F.plainAttrs_str PySem.F.slot_str_count PySem.F.type_str_count (CK h1) F O λv vs s1 X1 r1 rv=>(jW.uno rv).elim λu q=>(q.2.isStr h2).elim λt ht=>(r1.isStr h1).elim λt' ht'=>?_
  refine(q.1)▸?_
  refine(ht)▸?_
  refine(ht')▸?_
  exact yB X1.tabs hlen λv s2 X2 r2=>bb (C:=λvb:VB=>fU G (Pm vb.2 P) s vb.1 Q) e h v s2 (X1.trans X2) r2
theorem Fe (IH:cC G n r) {k:Nat} {o:Expr} {ap pos:dM} {args:List Expr} {a b:PE} {vb:VB} {W:cY} (ha:cH (G.Tl md) k env.scope o=some a) (hs:b9 (cH (G.Tl md) k env.scope) args=some [b])
  (hb:iK o=true) (hl:args.length<=8) (hline:(ap.endLine==pos.line)=true) (e2:(step W r).e st (.join a b)=some vb) (F:g9 G md P env st s.heap) (O:cw n A) (hq:mj G P s (.join a b) vb Q):aF G.M A (cW (.Call (.Attribute o ("join" :aN) ap) args [] pos) env) Q E s:=by
 refine bD e2 λx hx y hy e2=>vV e2 λsx h1 e2=>j6 e2 λl h2 e2=>ac e2 λss hss e2=>aj e2 λhlen e2=>qV (as:=[y]) IH ha hx hs (ir hy) hb hl hline PySem.F.plainAttrs_str PySem.F.slot_str_join PySem.F.type_str_join (CK h1) F O λv vs s1 X1 r1 rv=>(jW.uno rv).elim λu q=>(r1.isStr h1).elim λt' ht'=>?_
 have hlen:=aJ.mp hlen
 refine(q.1)▸?_
 refine(ht')▸?_
 exact DR X1.tabs hss (of_decide_eq_true hlen.1) hlen.2 (h2▸q.2) λv s2 X2 r2=>(hq.of e2).t rfl (X1.trans X2) r2
theorem A6 (GO:GOk2 G) (IH:cC G n r) (IC:lD G n r) {k:Nat} {o:Expr} {nm:aN} {ap pos:dM} {args:List Expr} {kws:List cQ} {pe:PE} {vb:VB} {W:cY} (e:cH (G.Tl md) (k+1) env.scope (.Call (.Attribute o nm ap) args kws pos)=some pe) (e2:(step W r).e st pe=some vb) (F:g9 G md P env st s.heap) (O:cw n A) (hq:mj G P s pe vb Q):
  aF G.M A (cW (.Call (.Attribute o nm ap) args kws pos) env) Q E s:=by
 refine aj e λhc e1=>oQ hc λhline hl hb hkw=>?_
 have hl:=of_decide_eq_true hl
 have hkw:=bX.mp hkw
 clear e hc;subst hkw
 refine bD e1 λa ha as hs e=>fF e (λhn e=>?_) λ_ e=>fF e (λhn e=>?_) λ_ e=>fF e (λhn e=>?_) λ_ e=>ac e λkk hk e=>?_
 ·refine aj e λhz e=>mY e e2 hq λe2 hq=>ac e2 λx hx e2=>iP e2 λi hi e2=>?_
  have hz:=bX.mp hz
  subst hz
  rw[beq_iff_eq.mp hn]
  refine qV (as:=[]) IH ha hx hs rfl hb hl hline PySem.F.plainAttrs_int PySem.F.slot_int_bit_length PySem.F.type_int_bit_length (HW hi) F O λv vs s1 X1 r1 rv=>(r1.isInt hi).elim λt ht=>?_
  refine(show vs=[]from rv)▸?_
  refine(ht)▸?_
  exact BF X1.tabs λv s2 X2 r2=>(hq.of e2).t rfl (X1.trans X2) r2
 ·refine nk λcq=>?_
  refine uY e λb hz e=>mY e e2 hq λe2 hq=>bD e2 λx hx y hy e2=>?_
  refine cq ?_
  refine(beq_iff_eq.mp hn)▸?_
  exact EW IH ha hx (hz▸hs) hy hb hl hline e2 F O λv s1 X1 r1=>hq.t rfl X1 r1
 ·refine uY e λb hz e=>mY e e2 hq λe2 hq=>?_
  rw[beq_iff_eq.mp hn]
  exact Fe IH ha (hz▸hs) hb hl hline e2 F O hq
 ·exact mY e e2 hq λe2 hq=>bD e2 λx hx vs hvs e2=>Gr e2 λks l hi e2=>A7 GO IH IC ha hx hs hvs hb hl hline hk hi e2 F O λv s1 X1 r1=>hq.t rfl X1 r1
theorem lN.look {m:aN->Option aA} {l:List V} {ks:List Nat} {i:Nat} {v:V} (H:lN G P h m ks l) (hl:(ks.zip l).lookup i=some v): ∃y,m (G.atn i)=some y/\VR G P h v y:=by
 induction l generalizing ks with
 |nil=>rw[fL]at hl;exact cI hl
 |cons x l ih=>
  refine obE34 H λk ks y e0 e r rk=>?_
  clear H;cases e0
  exact LJ hl (λe1 e2=>⟨y,e1▸e,e2▸r⟩) (ih rk)
theorem Ek (GO:GOk2 G) (IH:cC G n r) {k:Nat} {o:Expr} {nm:aN} {pos:dM} {a:PE} {i:Nat} {vb:VB} {W:cY} (ho:cH (G.Tl md) k env.scope o=some a) (hi:G.T.at nm=some i) (hb:iK o=true) (e2:(step W r).e st (.attr a i)=some vb) (F:g9 G md P env st s.heap) (O:cw n A) (hq:mj G P s (.attr a i) vb Q):
  aF G.M A (cW (.Attribute o nm pos) env) Q E s:=by
 refine nk λcq=>?_
 refine ac e2 λx hx e2=>Gr e2 λks l hl e2=>ac e2 λv hv e2=>?_
 refine cq ?_
 rw[arm_eval_Attribute,jR hb]
 refine aE (IH md P env st A E s _ k o a x ho hx F O λw s1 X1 r1 _=>aE (bG ?_))
 rw[hl]at r1
 refine nk λcq=>?_
 obtain⟨b,d,m,rfl,hob,pd,hns,hz,rk⟩:=r1
 refine(lN.look rk hv).elim λy hy=>?_
 rw[Gl.at_id hi]at hy
 refine cq ?_
 refine aE (ab (GO.attr A E s1 _ b d m nm y (F.up X1).base hob hns (az (kD hi).2) hy.1 hy.2.noBuiltin λtk=>?_))
 exact aE (oY (aK ((hq.of e2).t rfl (X1.trans (.tok X1.tabs tk)) (VR.flag hy.2))))
theorem xa {T:TE} {sc:bE} {o:Expr} (h:T.isCls sc o=true): ∃p,o= .Name T.cls p/\eY sc T.cls=true:=by
 cases o<;>try exact(aL h)
 exact gC h λh1 h2=>⟨_,by rw[beq_iff_eq.mp h2],beq_iff_eq.mp h2▸h1⟩
theorem uk (GO:GOk2 G) (IH:cC G n r) {k:Nat} {o:Expr} {nm:aN} {pos:dM} {pe:PE} {vb:VB} {W:cY} (e:cH (G.Tl md) (k+1) env.scope (.Attribute o nm pos)=some pe) (e2:(step W r).e st pe=some vb) (F:g9 G md P env st s.heap) (O:cw n A) (hq:mj G P s pe vb Q):
  aF G.M A (cW (.Attribute o nm pos) env) Q E s:=by
 refine fF e (λhcl e=>ac e λv hv e=>mY e e2 hq λe2 hq=>(xa hcl).elim λp hp=>?_) λ_ e=>aj e λhc e=>bD e λa ha i hi e=>mY e e2 hq λe2 hq=>Ek GO IH ha hi (aJ.mp hc).1 e2 F O hq
 rw[hp.1,arm_eval_Attribute,jR rfl]
 have hd:((G.Tl md).cls==("__debug__" :aN))=false:=GO.clsn
 refine aE (dg (mK GO.toGOk F (gW hp.2) (.inl GO.cls) ?_) hd)
 refine aE (bG (aE (ab (GO.cat A E s _ nm v F.base hv λt tk=>?_))))
 exact aE (oY (aK ((hq.of e2).t rfl (.tok F.tabs tk) ⟨t,rfl⟩)))
end
end
section
open PySem.Spec PySem.Calls PyProof.Rows PySem.W
theorem kI {pos:dM} {a b:Int} {c v:aA}: ∀(l:List aA),TriplesOk l->uA pos (l++ [mr a,mr b,c])=some v->uA pos l=some v\/v=c
 | [],_,h=>fF h (λ_ h=> .inr (aC h).symm) λ_ h=> .inl h
 | .int x t:: .int y u::d::r,ok,h=>fF h (λhc h=> .inl ((if_pos hc).trans h)) λhc h=>(kI r ok h).imp (λh=>(if_neg hc).trans h) id
structure GOk3 (G:Gl):Prop extends GOk2 G where
 tabsU: ∀q∈G.tabs,∀q'∈G.tabs,q.2.1=q'.2.1->q=q'
 tabM: ∀q∈G.tabs,bk≠q.2.1
 bat: ∀h,fy G h-> ∀q∈G.tabs,h.BuiltinsAt G.mg q.2.1
 nolimit: ∀h,fy G h->h.NoLimit
section
variable {G:Gl} {A:aZ} {E:aA->aD->Prop} {P P':aG->Prop} {s s':aD} {env:cg} {h h':ah} {md n:Nat} {st:St} {r:Ev} {Q:aA->aD->Prop}
theorem aY.grow (GO:GOk3 G) (T:aY G h) {c tb c':aG} {q:aN} {ps:Array aA} {a b:Int} (hq:(c,tb,q)∈G.tabs) (hP:h.get? tb=some (mo ps)) (k:jx tb h h') (hnew:h'.get? tb=some (mo (ps++ #[mr a,mr b,.ref c'])))
  (hrec:h'.CodeRec (.ref c') q):aY G h':=λp hp=>by
 refine nk λcq=>(T p hp).elim λchd r=>r.elim λps' r=>cq ?_
 have hrecs: ∀cv q',h.CodeRec cv q'->h'.CodeRec cv q':=λ_ _=>ix.but hP (λvs e q' t h1=>by
  cases e
  refine(T (c,tb,q) hq).elim λ_ r=>r.elim λps2 r=>?_
  cases hP.symm.trans r.1
  exact triples_no_str r.2.1 q' t ((bM ..).trans h1)) k
 have hhd:CodeHd h' p.1 p.2.1:=tj chd r.1 λo vs e e2 _=>k _ _ (nJ hP e λq=>aq ((congrArg Obj.cls q).trans e2)) e
 by_cases hpt:p.2.1=tb
 ·have:p=(c,tb,q):=GO.tabsU p hp _ hq hpt
  clear hp cq chd hpt;subst this
  cases hP.symm.trans r.1
  refine⟨hhd,_,hnew,iz▸TriplesOk_snoc a b (.ref c') _ r.2.1,λpos cv hc=>?_⟩
  rw[iz]at hc
  exact(kI _ r.2.1 hc).elim (λh1=>hrecs _ _ (r.2.2 pos cv h1)) λe=>e▸hrec
 ·exact⟨hhd,ps',k _ _ hpt r.1,r.2.1,λpos cv hc=>hrecs _ _ (r.2.2 pos cv hc)⟩
noncomputable def fK (env:cg):List (aN×eG)->List (aN×aG)->List (aN×aG)
 | [],acc=>acc
 |(x,k)::r,acc=>fK env r (if k== .free then(x,(env.cells.lookup x).getD 0)::acc else acc)
theorem lB {env:cg} {x:aN} {c:aG} (hx:env.cells.lookup x=some c): ∀(names:List (aN×eG)) (acc:List (aN×aG)),((acc.lookup x=some c)\/x∈(names.filter λp=>p.2== .free).map (·.1))->(fK env names acc).lookup x=some c:=by
 intro zl
 induction zl with
 |nil=>
  intro acc h
  rcases h with h|h
  ·exact h
  ·simp at h
 |cons zh r ih=>
  obtain⟨y,k⟩:=zh
  intro acc h
  unfold fK
  refine ih _ ?_
  by_cases hk:(k== .free)=true
  ·rw[if_pos hk]
   by_cases hy:x=y
   ·clear h;subst hy
    left
    simp[aM,hx]
   ·rcases h with h|h
    ·left
     rw[aM]
     have:(x==y)=false:=beq_eq_false_iff_ne.mpr hy
     rw[this];exact h
    ·right
     rw[eu,if_pos hk,au,aO]at h
     rcases h with h|h
     ·exact(hy h).elim
     ·exact h
  ·rw[if_neg hk]
   rcases h with h|h
   ·exact .inl h
   ·right
    rw[eu,if_neg hk]at h
    exact h
theorem jn {scope:bE} {env:cg} (h: ∀x∈(scope.names.filter λp=>p.2== .free).map (·.1),∃c,env.cells.lookup x=some c):closureFor scope env=dC (fK env scope.names []):=by
 unfold closureFor
 have key: ∀(names:List (aN×eG)) (acc:List (aN×aG)),(∀x∈(names.filter λp=>p.2== .free).map (·.1),∃c,env.cells.lookup x=some c)->
   (BS names acc (λ(p:aN×eG) (r:List (aN×aG))=>match p with|(name,kind)=>(if(kind==bV)=true then(do let __do_lift <-cellOf env name;dC (dq ((name,__do_lift)::r)))else(dC (dq r)):l6 (ForInStep (List (aN×aG))))):l6 (List (aN×aG)))=dC (fK env names acc):=by
  intro names
  induction names with
  |nil=>intro acc _;rfl
  |cons p r ih=>
   intro acc h
   obtain⟨x,k⟩:=p
   rw[fW]
   unfold fK
   by_cases hk:(k== .free)=true
   ·obtain⟨c,hc⟩:=h x (by rw[eu,if_pos hk];exact .head _)
    dsimp only
    rw[if_pos hk,if_pos hk]
    have e:cellOf env x=dC c:=by unfold cellOf;rw[hc]
    rw[e]
    simp only[pure_bind]
    rw[ih _ λy hy=>h y (by rw[eu,if_pos hk];exact .tail _ hy),hc]
    rfl
   ·dsimp only
    rw[if_neg hk,if_neg hk]
    exact ih _ λy hy=>h y (by rw[eu,if_neg hk];exact hy)
 have:=key scope.names [] h
 exact(bind_pure_comp _ _).trans (by simpa using this)
theorem rm {env:cg} {x:aN} (h:kC env.scope x=true) {m:aN->Option aA} {hp:ah} {v:aA} (H:iV env m hp x v): ∃c,env.cells.lookup x=some c/\hp.IsCell c (some v):=by
 rcases H with⟨hl,_⟩|⟨_,r⟩
 ·unfold kC at h
  unfold i7 at hl
  replace h:=(hl)▸h
  exfalso;cases h
 ·exact r
theorem GN {m:aN->Option aA} (hs: ∀x sl,st.get x=some sl->pK G P env m h x sl) (hc: ∀x c,env.cells.lookup x=some c->P c): ∀(xs:List aN) (caps:List Nat) (vs:List VB),b9 (λx=>if kC env.scope x then G.T.id x else none) xs=some caps->b9 (λx=>(st.get x).bind cA.get) caps=some vs->
  (∀x∈xs,∃c,env.cells.lookup x=some c)/\ ∀(cl:List (aN×aG)) (f:Bool),(fx vs=false->f=false)->(∀x∈xs,∀c,env.cells.lookup x=some c->cl.lookup x=some c)->Bb G (Pm f P) h cl caps (fT vs):=by
 intro xs
 induction xs with
 |nil=>
  intro caps vs e e2
  cases e;cases e2
  exact⟨(λ_ h=>(aU h).elim),λ_ _ _ _=>rfl⟩
 |cons x xs ih=>
  intro caps vs e e2
  refine nk λcq=>?_
  obtain⟨i,t,rfl,hi,ht⟩:=fh e
  obtain⟨b,bt,rfl,hb,hbt⟩:=fh e2
  have h12:=ih t bt ht hbt
  refine aj hi λhbox hi=>ac hb λsl g1 g2=>wB g2 λhk g2=>((hs i sl g1).el hk).elim λv H=>?_
  have hn:G.n i=x:=Gl.n_id hi
  have HH:=H.1
  rw[hn]at HH
  refine cq ?_
  refine(rm hbox HH).elim λc C=>⟨λy hy=>(aO.mp hy).elim (λe=>⟨c,e▸C.1⟩) (h12.1 y),λcl f hf hlk=>⟨i,t,c,v,rfl,by rw[hn];exact hlk x (.head _) c C.1,λ_=>hc x c C.1,C.2,?_,h12.2 cl f (λh0=>hf ?_) λy hy=>hlk y (.tail _ hy)⟩⟩
  ·have r:VR G (Pm sl.read.2 P) h sl.read.1 v:=H.2.2.flag
   rw[aC g2]at r
   refine VR.mono (λa (q:Pm b.2 P a) hf'=>q ?_) _ _ r
   cases hb2:b.2 with
   |true=>rfl
   |false=>rw[hf (by unfold fx;simp only[fY,hb2];rfl)]at hf';cases hf'
  ·unfold fx at h0⊢
   simp only[fY,h0,tH]
theorem gw {a:jF} (h:fN a=true): ∃as,a=⟨[],as,none,[],[],none,[]⟩:=by
 obtain⟨po,as,va,ko,kd,kw,df⟩:=a
 unfold fN at h
 simp only[ag,bX,bY]at h
 obtain⟨⟨⟨⟨⟨⟨rfl,rfl⟩,rfl⟩,rfl⟩,rfl⟩,rfl⟩,_⟩:=h
 exact⟨as,rfl⟩
theorem tB {as:List Arg} (h:fN ⟨[],as,none,[],[],none,[]⟩=true) (env:cg):annotationsOf as env=[]:=by
 unfold fN at h
 rw[ag]at h
 have h2:=h.2
 clear h
 induction as with
 |nil=>rfl
 |cons a as ih=>
  simp only[fY,ag,bY]at h2
  obtain⟨n,an,p⟩:=a
  have h3:an=none:=h2.1
  subst h3
  exact ih h2.2
theorem Ag (GO:GOk3 G) {k:Nat} {args:jF} {body:Expr} {scope:bE} {pos:dM} {pe:PE} {vb:VB} {W:cY} (e:cH (G.Tl md) (k+1) env.scope (.Lambda args body scope pos)=some pe) (e2:(step W r).e st pe=some vb) (F:g9 G md P env st s.heap) (hq:mj G P s pe vb Q):
  aF G.M A (cW (.Lambda args body scope pos) env) Q E s:=by
 refine nk λcq=>?_
 refine aj e λhc e=>oQ hc λhc hu hg hco=>oQ hc λhlam hpl hk hnc=>dX e λps hps caps hcaps b hb e=>mY e e2 hq λe2 hq=>ac e2 λvs hvs e2=>aj e2 λ_ e2=>?_
 have hq:=hq.of e2
 have hk:=beq_iff_eq.mp hk
 have hg:=dS _▸hg
 have hco:=dS _▸hco
 have hmd:md=1:=beq_iff_eq.mp (show(md==1)=true from hlam)
 subst hmd
 refine cq ?_
 refine(F.lam rfl).1.elim λc q=>q.elim λtb q=>?_
 have hcode:=q.1
 have htab:=q.2
 refine F.ns.elim λm q=>?_
 obtain⟨q1,q2⟩:=GN q.2 (F.lam rfl).2 _ caps vs hcaps hvs
 have hcl:=jn (scope:=scope) (env:=env) q1
 have hvc:=q2 (fK env scope.names []) (fx vs) (λh=>h) λx hx c' hc'=>lB hc' scope.names [] (.inr hx)
 clear cq e e2 hc;clear e e2 hc;clear e e2;obtain⟨as,rfl⟩:=gw hpl
 have LO:HR (G.Tl 0) ps b caps ⟨⟨[],as,none,[],[],none,[]⟩,body,scope⟩:=⟨hpl,hk,hnc,hu,hg,hco,hps,⟨env.scope,hcaps⟩,k,hb⟩
 show aF G.M A (do let dv <-evalAll [];let kdv <-hV dv (evalAllOpt []);makeFunction "<lambda>" (env.qual++("<lambda>" :aN)) ⟨[],as,none,[],[],none,[]⟩ (.expr body) scope env dv kdv [] pos pos.line) Q E s
 refine aE (lU (aE (ab (aK ?_))))
 refine nk λcq=>?_
 obtain⟨CH,tps,htp,hto,hrec⟩:=F.tabs _ htab
 refine cq ?_
 have hbt:=GO.bat s.heap F.base _ htab
 cases hca:uA pos tps.toList with
 |none=>
  refine kla_makeFunction hcl F.globals (F.mg GO.toGOk) hcode CH htp hto hca (GO.tabM _ htab) hbt λc' ctv h' tk kx hge hlt hrc hnew=>?_
  have X:cD G s {s with heap:=h'.push (kla_obj "<lambda>" (env.qual++("<lambda>" :aN)) ⟨[],as,none,[],[],none,[]⟩ body scope (fK env scope.names []) ((G.mg "__name__").getD .none) c' ctv),toks:=tk}:=
   ⟨λb o eb hnt=>aH _ (kx b o (λhbt=>hnt (by rw[hbt];exact aP.mpr ⟨_,htab,rfl⟩)) eb),(F.tabs.grow GO htab htp kx hnew hrc).keeps λb o eb=>aH _ eb,rfl,⟨#[],by rfl⟩,id⟩
  exact hq.t rfl X ⟨LO,_,_,_,_,_,c',ctv,rfl,aS _ rfl,hrc.push _,Bb.ext X.ext F.tabs _ _ _ hvc⟩
 |some cv=>
  refine kla_makeFunctionHit hcl F.globals (F.mg GO.toGOk) hcode CH htp hto hca hbt λctv h' tk kx hge=>?_
  refine nk λcq=>?_
  obtain⟨c',o',vs',t',rfl,r1,r2,r3⟩:=hrec pos cv hca
  refine cq ?_
  have X:cD G s {s with heap:=h'.push (kla_obj "<lambda>" (env.qual++("<lambda>" :aN)) ⟨[],as,none,[],[],none,[]⟩ body scope (fK env scope.names []) ((G.mg "__name__").getD .none) c' ctv),toks:=tk}:=
   .of F.tabs λb o eb=>aH _ (kx b o eb)
  exact hq.t rfl X ⟨LO,_,_,_,_,_,c',ctv,rfl,aS _ rfl,⟨c',o',vs',t',rfl,aH _ (kx _ _ r1),r2,r3⟩,Bb.ext X.ext F.tabs _ _ _ hvc⟩
end
end
section
open PySem.Spec PySem.Calls PyProof.Rows PySem.W
theorem AC {T:TE} {sc sc':bE} (hv: ∀x,lK sc x=lK sc' x) (hg: ∀x,eY sc x=eY sc' x) (hb: ∀x,kC sc x=kC sc' x): ∀m,cH T m sc=cH T m sc':=by
 intro m
 induction m with
 |zero=>exact funext λ_=>rfl
 |succ n ih=>
  funext e
  have hf: ∀inner,hA T sc inner=hA T sc' inner:=λinner=>congrArg (λf:aN->Option Nat=>b9 f _) (funext λx=>congrArg (λb=>if b=true then T.id x else none) (hb x))
  cases e<;>try rfl
  case Name x p=>exact(congrArg (λb=>if dD x=true then(if b=true then(T.id x).bind λi=>some (PE.var i)else if eY sc x=true then jM T x else none)else none) (hv x)).trans (congrArg (λb=>if dD x=true then(if lK sc' x=true then(T.id x).bind λi=>some (PE.var i)else if b=true then jM T x else none)else none) (hg x))
  case BinOp l op r _=>exact congrArg (λF:Expr->Option PE=>(F l).bind λa=>(F r).bind λb=>some (PE.bin op a b)) ih
  case UnaryOp op x _=>exact congrArg (λF:Expr->Option PE=>(F x).bind λa=>JK a op) ih
  case BoolOp op vs _=>exact congrArg (λF:Expr->Option PE=>(b9 F vs).bind λl=>some (E9 l op)) ih
  case Compare l ops cs _=>exact congrArg (λF:Expr->Option PE=>if cs.all Cs then(F l).bind λa=>(b9 F cs).bind λb=>some (PE.cmp a ops b)else none) ih
  case IfExp c a b _=>exact congrArg (λF:Expr->Option PE=>(F c).bind λc=>(F a).bind λa=>(F b).bind λb=>some (PE.ite c a b)) ih
  case List l _=>exact congrArg (λF:Expr->Option PE=>(b9 F l).bind λas=>some (PE.list as)) ih
  case Tuple l _ _=>exact congrArg (λF:Expr->Option PE=>(b9 F l).bind λas=>some (PE.tup as)) ih
  case Call f args kws pos=>
   cases f<;>try rfl
   case Name f _=>
    have hn:jI T sc f=jI T sc' f:=by
     funext k kws as kns kvs
     unfold jI
     rw[hv,hg]
    exact(congrArg (λF:Expr->Option PE=>(b9 F args).bind λas=>(b9 (Ah T) kws).bind λkns=>(b9 (λ(k:cQ)=>F k.value) kws).bind λkvs=>jI T sc f args.length kws as kns kvs) ih).trans (congrArg (λN:Nat->List cQ->List PE->List Nat->List PE->Option PE=>(b9 (cH T n sc') args).bind λas=>(b9 (Ah T) kws).bind λkns=>(b9 (λ(k:cQ)=>cH T n sc' k.value) kws).bind λkvs=>N args.length kws as kns kvs) hn)
   case Attribute o m ap=>exact congrArg (λF:Expr->Option PE=>if ap.endLine==pos.line&&decide (args.length<=8)&&iK o&&kws.isEmpty then(F o).bind λa=>(b9 F args).bind λas=>vn T m a as else none) ih
  case Attribute o a _=>
   have h1:T.isCls sc o=T.isCls sc' o:=by
    cases o<;>first|rfl|exact congrArg (· &&_) (hg _)
   have h2:ku sc o=ku sc' o:=by
    clear h1;cases o<;>first|rfl|exact hg _
   exact(congrArg (λF:Expr->Option PE=>if T.isCls sc o then(T.cat.lookup a).bind λs=>some (PE.cstr s)else if iK o&&!ku sc o then(F o).bind λp=>(T.at a).bind λi=>some (PE.attr p i)else none) ih).trans (by rw[h1,h2];rfl)
  case Subscript o s _=>
   cases s<;>try exact congrArg (λF:Expr->Option PE=>(F o).bind λa=>(F _).bind λi=>some (PE.sub a i)) ih
   case Slice lo hi st _=>exact congrArg (λF:Expr->Option PE=>if xb lo hi st then(F o).bind λp=>some (PE.rslice p)else if st.isNone then(F o).bind λa=>(HU F lo).bind λl=>(HU F hi).bind λh=>some (PE.slice a l h)else none) ih
  case ListComp elt gens scope p=>
   cases gens with
   |nil=>rfl
   |cons g rest=>exact(congrArg (λF:Expr->Option PE=>if scope.kind== .function&&ld (scope.names.map (·.1))then(hA T sc scope).bind λfree=>(cH T n scope elt).bind λel=>(AB T (cH T n scope) F scope g).bind λg'=>(b9 (AB T (cH T n scope) (cH T n scope) scope) rest).bind λr=>some (PE.comp el (g'::r) free)else none) ih).trans (by rw[hf])
  case Lambda args body scope _=>exact congrArg (λF:Option (List Nat)=>if T.lam&&fN args&&scope.kind== .function&&nK scope&&ld (scope.names.map (·.1))&&!scope.isGenerator&&!scope.isCoroutine then(b9 (pC T scope) args.args).bind λps=>F.bind λcaps=>(cH {T with lam:=false} n scope body).bind λb=>some (PE.lam ps b caps ⟨args,body,scope⟩)else none) (hf scope)
theorem lp {env:cg}: ∀(names:List (aN×eG)) (x:aN),
  (names.map λ(n,k)=>if(k==bV&&env.scope.kind== .function&&env.kindOf n==some .cell)then(n,gE)else(n,k)).lookup x=(names.lookup x).map λk=>if(k==bV&&env.scope.kind== .function&&env.kindOf x==some .cell)then gE else k
 :=by
 intro names x
 induction names with
 |nil=>rfl
 |cons q r ih=>
  obtain⟨n,k⟩:=q
  rw[au]
  by_cases hx:x=n
  ·subst hx
   show fH x ((if(k==bV&&env.scope.kind== .function&&env.kindOf x==some .cell)=true then(x,gE)else(x,k))::_)=_
   by_cases hc:(k==bV&&env.scope.kind== .function&&env.kindOf x==some .cell)=true
   ·rw[if_pos hc,aM,aM,beq_self_eq_true]
    simp only[gP,if_pos hc]
   ·rw[if_neg hc,aM,aM,beq_self_eq_true]
    simp only[gP,if_neg hc]
  ·have hb:(x==n)=false:=beq_eq_false_iff_ne.mpr hx
   show fH x ((if(k==bV&&env.scope.kind== .function&&env.kindOf n==some .cell)=true then(n,gE)else(n,k))::_)=_
   by_cases hc:(k==bV&&env.scope.kind== .function&&env.kindOf n==some .cell)=true
   ·rw[if_pos hc,aM,aM,hb];exact ih
   ·rw[if_neg hc,aM,aM,hb];exact ih
theorem oq (scope:bE) (env:cg) (x:aN) {f:Option eG->Bool} (h:f (some .cell)=f (some .free)):f ((mq scope env).names.lookup x)=f (scope.names.lookup x):=by
 unfold mq
 simp only[lp]
 cases scope.names.lookup x with
 |none=>rfl
 |some k=>
  by_cases hc:(k==bV&&env.scope.kind== .function&&env.kindOf x==some .cell)=true
  ·rw[gP,if_pos hc,beq_iff_eq.mp (aJ.mp (aJ.mp hc).1).1,h]
  ·rw[gP,if_neg hc]
theorem FM (scope:bE) (env:cg) (x:aN):lK (mq scope env) x=lK scope x:=oq scope env x (f:=λo=>match o with|some .local|some .cell|some .free=>true|_=>false) rfl
theorem FN (scope:bE) (env:cg) (x:aN):kC (mq scope env) x=kC scope x:=oq scope env x (f:=λo=>match o with|some .cell|some .free=>true|_=>false) rfl
theorem C8 (scope:bE) (env:cg) (x:aN):eY (mq scope env) x=eY scope x:=oq scope env x (f:=λo=>match o with|some .globalImplicit=>true|_=>false) rfl
theorem Et (T:TE) (scope:bE) (env:cg) (m:Nat):cH T m (mq scope env)=cH T m scope:=AC (FM scope env) (C8 scope env) (FN scope env) m
end
section
open PySem.Spec PySem.Calls PyProof.Rows PySem.W
noncomputable def rO (T:String):Bool:=["enumerate","zip","dict_itemiterator","dict_reverseitemiterator","odict_iterator","itertools.zip_longest","itertools.pairwise"].contains T
structure rz (G:Gl) (P:aG->Prop) (l:List V) (I:aG) (fp:List aG) (St:Nat->ah->Prop):Prop where
 item: ∀(A:aZ) (E:aA->aD->Prop) (s:aD) (Q:Option aA->aD->Prop) (i:Nat) (x:V),A.handled=none->l[i]?=some x->St i s.heap->
  (∀v h' tk,de I s.heap h'->St (i+1) h'->VR G P h' x v->Q (some v) {s with heap:=h',toks:=tk})->aF G.M A (ms (.ref I)) Q E s
 done: ∀(A:aZ) (E:aA->aD->Prop) (s:aD) (Q:Option aA->aD->Prop),A.handled=none->St l.length s.heap->(∀h',jx I s.heap h'->Q none {s with heap:=h'})->aF G.M A (ms (.ref I)) Q E s
 frame: ∀i h h',St i h->(∀b∈fp,∀o,h.get? b=some o->h'.get? b=some o)->(∀vs,bh G P h l vs->bh G P h' l vs)->St i h'
 obj: ∀i h,St i h-> ∃o T vs,h.get? I=some o/\o.cls= .type T/\o.data= .fields vs/\rO T=false/\dF o
 self: ∀(A:aZ) (E:aA->aD->Prop) (s:aD) (Q:aA->aD->Prop) (i:Nat),St i s.heap->Q (.ref I) s->aF G.M A (wt (.ref I)) Q E s
 firm:bo l=true
 own:I∈fp
section
variable {G:Gl} {A:aZ} {E:aA->aD->Prop} {P P':aG->Prop} {s s':aD} {h h':ah}
theorem mM {l:List V} (f:bo l=true) {i:Nat} {x:V} (e:l[i]?=some x):x.firm=true:=eW.mp f x (az e)
theorem mN {a b:List V} (h:bo a=true) (h':bo b=true):bo (a++b)=true:=DK h h'
theorem pE {l:List V} (h:bo l=true):bo l.reverse=true:=vw h
theorem t9 {α:Type} {f:α->V} (h: ∀a,(f a).firm=true) (l:List α):bo (l.map f)=true:=eW.mpr λv hv=>(aP.mp hv).elim λa q=>q.2▸h a
theorem letgo_ok {M:i6} {l:List V} {I:aG} {fp:List aG} {St:Nat->ah->Prop} (W:rz G P l I fp St) {i:Nat} (hs:St i s.heap) {target:Expr} {v:aA} {Q:Unit->aD->Prop} (h:Q () s):aF M A (ff target (.ref I) v) Q E s:=by
 refine obE35 (W.obj i _ hs) λo T vs ho hc hd hn _=>?_
 have go:aF M A (do
  let(.ref r,.ref a):=(vD I,v)|return
  let o <-load r
  match o.cls,o.data with
  | .type n,.fields vs=>
   if["enumerate","zip","dict_itemiterator","dict_reverseitemiterator","odict_iterator","itertools.zip_longest","itertools.pairwise"].contains n&&vs[0]?==some (mr a)then
    rule "for.unpacks-the-owned-tuple"
    updateField r 0 .none
  |_,_=>dC ()) Q E s:=by
  cases v<;>try exact aK h
  refine aE (wo ho ?_)
  refine(hc)▸?_
  refine(hd)▸?_
  unfold rO at hn
  dsimp only
  rw[hn,tG]
  exact aK h
 cases target<;>first|exact go|exact aK h
theorem Fg {l:List V} {ax:aG} {items:Array aA} (I:aG) (hne:ax≠I) (f:bo l=true):rz G P l I [I,ax] (λi h=>h.IsListIter I ax i/\h.PlainList ax items/\bh G P h l items.toList) where
 item:=λA E s Q i x hh hx st hQ=>by
  refine obE03 st λh1 h2 h3=>?_
  refine obE12 (h3.get hx) λv hv rv=>?_
  have hv':items[i]?=some v:=by rw[<-bM];exact hv
  refine wpAny_pyNext_list_item h1 h2.isList hv' λh' hit hs=>?_
  refine obE13 h1 λo ho hc hd=>?_
  have k: ∀b o,b≠I->s.heap.get? b=some o->h'.get? b=some o:=λb o hb e=>hs.extBut b o hb e
  obtain⟨n,hn⟩:=h2
  exact hQ v h' s.toks hs ⟨hit,⟨n,k _ _ hne hn⟩,bh.butI ho ⟨_,hd⟩ k _ _ f h3⟩ (VR.butI ho ⟨_,hd⟩ k _ _ (mM f hx) rv)
 done:=λA E s Q hh st hQ=>by
  refine obE03 st λh1 h2 h3=>?_
  have:=h3.len
  rw[aX]at this
  exact wpAny_pyNext_list_end hh h1 h2.isList (by rw[<-this];simp) hQ
 frame:=λi h h' st hk hv=>⟨st.1.at λo e=>hk I (by simp) o e,by obtain⟨n,hn⟩:=st.2.1;exact⟨n,hk ax (by simp) _ hn⟩,hv _ st.2.2⟩
 obj:=λi h st=>by
  obtain⟨⟨o,ho,hc,hd⟩,_⟩:=st
  exact⟨o,_,_,ho,hc,hd,by decide,by rw[hc];exact λh=>aq h,by rw[hc];simp,λvs e q t=>by rw[hd]at e;cases e;simp⟩
 self:=λA E s Q i st hQ=>wpAny_pyIter_listiter st.1 hQ
 firm:=f
 own:= .head _
theorem DT {l:List V} {ax:aG} {items:Array aA} (I:aG) (hne:ax≠I) (f:bo l=true):rz G P l I [I,ax] (λi h=>h.IsTupleIter I ax i/\h.IsTuple ax items/\bh G P h l items.toList) where
 item:=λA E s Q i x hh hx st hQ=>by
  refine obE03 st λh1 h2 h3=>?_
  refine obE12 (h3.get hx) λv hv rv=>?_
  have hv':items[i]?=some v:=by rw[<-bM];exact hv
  refine wpAny_pyNext_tuple_item h1 h2 hv' λh' hit hs=>?_
  refine obE13 h1 λo ho hc hd=>?_
  have k: ∀b o,b≠I->s.heap.get? b=some o->h'.get? b=some o:=λb o hb e=>hs.extBut b o hb e
  refine obE12 h2 λo2 ho2 r2=>?_
  exact hQ v h' s.toks hs ⟨hit,⟨o2,k _ _ hne ho2,r2⟩,bh.butI ho ⟨_,hd⟩ k _ _ f h3⟩ (VR.butI ho ⟨_,hd⟩ k _ _ (mM f hx) rv)
 done:=λA E s Q hh st hQ=>by
  refine obE03 st λh1 h2 h3=>?_
  have:=h3.len
  rw[aX]at this
  exact wpAny_pyNext_tuple_end hh h1 h2 (by rw[<-this];simp) hQ
 frame:=λi h h' st hk hv=>⟨st.1.at λo e=>hk I (by simp) o e,by obtain⟨o,ho,r⟩:=st.2.1;exact⟨o,hk ax (by simp) _ ho,r⟩,hv _ st.2.2⟩
 obj:=λi h st=>by
  obtain⟨⟨o,ho,hc,hd⟩,_⟩:=st
  exact⟨o,_,_,ho,hc,hd,by decide,by rw[hc];exact λh=>aq h,by rw[hc];simp,λvs e q t=>by rw[hd]at e;cases e;simp⟩
 self:=λA E s Q i st hQ=>wpAny_pyIter_tupleiter st.1 hQ
 firm:=f
 own:= .head _
theorem DU {lo:Int} {n:Nat} (I:aG):rz G P ((ak n).map λk=> .int (lo+(k:Nat))) I [I] (λi h=>IsRangeIter h I (lo+(i:Nat)*1) ((n:Int)-(i:Nat)) 1) where
 item:=λA E s Q i x hh hx st hQ=>by
  rw[bH,dZ]at hx
  obtain⟨j,hj,rfl⟩:=hx
  obtain⟨hj1,hj2⟩:=al.mp hj
  rw[B3]at hj2
  clear hj;subst hj2
  rw[dR]at hj1
  refine wpAny_pyNext_range_item st (by lia) λh' hit hs=>?_
  refine hQ _ h' _ hs ?_ ⟨_,by rw[zp]⟩
  have e1:lo+((i+1:Nat):Int)*1=lo+(i:Int)*1+1:=by push_cast;lia
  have e2:(n:Int)-((i+1:Nat):Int)=(n:Int)-(i:Int)-1:=by push_cast;lia
  rw[e1,e2];exact hit
 done:=λA E s Q hh st hQ=>by
  rw[aR,dR]at st
  exact wpAny_pyNext_range_end hh st (by lia) hQ
 frame:=λi h h' st hk _=>hk I (by simp) _ st
 obj:=λi h st=>⟨_,_,_,st,rfl,rfl,by decide,(λh=>aq h),by simp,λvs e q t=>by cases e;simp[mr]⟩
 self:=λA E s Q i st hQ=>wpAny_pyIter_rangeiter st hQ
 firm:=by exact t9 (λ_=>rfl) _
 own:= .head _
theorem wM (l:List Nat):bo (l.map λc=>V.str ⟨#[c]⟩)=true:=t9 (λ_=>rfl) l
theorem ID {x:aN} {t:ze} (I:aG):rz G P (x.cps.toList.map λc=> .str ⟨#[c]⟩) I [I] (λi h=>h.IsStrIter I (bW x) x t i) where
 item:=λA E s Q i z hh hx st hQ=>by
  rw[bH,dZ]at hx
  obtain⟨c,hc,rfl⟩:=hx
  rw[bM]at hc
  unfold bW at st
  split at st
  ·exact wpAny_pyNext_ascii_item st hc λh' hit hs=>hQ _ h' _ hs (by unfold bW;rw[if_pos (by assumption)];exact hit) ⟨_,rfl⟩
  ·exact wpAny_pyNext_wide_item st hc λh' hit hs=>hQ _ h' _ hs (by unfold bW;rw[if_neg (by assumption)];exact hit) ⟨_,rfl⟩
 done:=λA E s Q hh st hQ=>by
  rw[aR,aX]at st
  unfold bW at st
  split at st
  ·exact wpAny_pyNext_ascii_end hh st (by simp) hQ
  ·exact wpAny_pyNext_wide_end hh st (by simp) hQ
 frame:=λi h h' st hk _=>by
  refine obE12 st λo ho r=>?_
  exact⟨o,hk I (by simp) _ ho,r⟩
 obj:=λi h st=>by
  refine obE13 st λo ho hc hd=>?_
  refine⟨o,_,_,ho,hc,hd,?_,by rw[hc];exact λh=>aq h,?_,λvs e q t=>by rw[hd]at e;cases e;simp⟩
  ·unfold bW;split<;>decide
  ·rw[hc];unfold bW;split<;>simp
 self:=λA E s Q i st hQ=>by
  unfold bW at st
  split at st
  ·exact wpAny_pyIter_striter_ascii st hQ
  ·exact wpAny_pyIter_striter_wide st hQ
 firm:=wM _
 own:= .head _
theorem IE {l:List V} {ax:aG} {items:Array aA} (I:aG) (hne:ax≠I) (f:bo l=true):rz G P l.reverse I [I,ax] (λi h=>h.IsRevIter I ax ((items.size:Int)-1-(i:Nat))/\h.PlainList ax items/\bh G P h l.reverse items.toList.reverse) where
 item:=λA E s Q i x hh hx st hQ=>by
  refine obE03 st λh1 h2 h3=>?_
  refine obE12 (h3.get hx) λv hv rv=>?_
  have hf:bo l.reverse=true:=pE f
  have hlt:i<items.size:=by
   have:=(al.mp hv).1
   simpa using this
  have hv':items[items.size-1-i]?=some v:=by
   rw[List.getElem?_reverse (by simpa using hlt)]at hv
   rw[<-bM]
   exact hv
  have h1':s.heap.IsRevIter I ax ((items.size-1-i:Nat):Int):=by
   have:((items.size-1-i:Nat):Int)=(items.size:Int)-1-(i:Nat):=by omega
   rw[this];exact h1
  refine wpAny_pyNext_rev_item h1' h2.isList hv' λh' hit hs=>?_
  refine nk λcq=>?_
  refine obE13 h1 λo ho hc hd=>?_
  have k: ∀b o,b≠I->s.heap.get? b=some o->h'.get? b=some o:=λb o hb e=>hs.extBut b o hb e
  obtain⟨n,hn⟩:=h2
  refine cq ?_
  refine hQ v h' s.toks hs ⟨?_,⟨n,k _ _ hne hn⟩,bh.butI ho ⟨_,hd⟩ k _ _ hf h3⟩ (VR.butI ho ⟨_,hd⟩ k _ _ (mM hf hx) rv)
  have:((items.size-1-i:Nat):Int)-1=(items.size:Int)-1-((i+1:Nat):Int):=by omega
  rw[<-this];exact hit
 done:=λA E s Q hh st hQ=>by
  refine obE03 st λh1 h2 h3=>?_
  have:=h3.len
  simp only[jD,aX]at this h1
  refine wpAny_pyNext_rev_end hh (l:=ax) ?_ hQ
  have e:(items.size:Int)-1-(l.length:Nat)= -1:=by rw[this];lia
  rw[<-e];exact h1
 frame:=λi h h' st hk hv=>⟨by obtain⟨o,ho,r⟩:=st.1;exact⟨o,hk I (by simp) _ ho,r⟩,by obtain⟨n,hn⟩:=st.2.1;exact⟨n,hk ax (by simp) _ hn⟩,hv _ st.2.2⟩
 obj:=λi h st=>by
  refine nk λcq=>?_
  obtain⟨⟨o,ho,hc,hd⟩,_⟩:=st
  refine cq ?_
  exact⟨o,_,_,ho,hc,hd,by decide,by rw[hc];exact λh=>aq h,by rw[hc];decide,λvs e q t=>by rw[hd]at e;cases e;simp[mr]⟩
 self:=λA E s Q i st hQ=>wpAny_pyIter_revIter st.1 hQ
 firm:=pE f
 own:= .head _
def G3 (P:aG->Prop) (h:ah) (I b:aG):Prop:=b=I\/(P b/\ ∃n,h.PlainList b n)\/ ∃n,h.IsTuple b n
theorem xi {I a:aG} (k:G3 P h I a): ∀b∈ [I,a],G3 P h I b:=λ_ hb=>(aO.mp hb).elim .inl λhb=>ao.mp hb▸k
theorem De {I:aG}: ∀b∈ [I],G3 P h I b:=λ_ hb=> .inl (ao.mp hb)
theorem u6 {x:V} {l:List V} {v:aA} {Q:aA->aD->Prop} (T:aY G s.heap) (e:gR x=some l) (rv:VR G P s.heap x v)
  (h: ∀I fp St s',cD G s s'->rz G P l I fp St->St 0 s'.heap->(s.heap.get? I=none\/(v= .ref I/\ ∃l',x= .rev l'))->(∀b∈fp,G3 P s.heap I b)->Q (.ref I) s'):aF G.M A (wt v) Q E s:=by
 have fresh: ∀{o:db},s.heap.get? s.heap.objs.size=none:=λ{_}=>bA (bC _)
 cases x with
 |list l0=>
  refine aj e λhf e=>?_
  cases e
  obtain⟨a,ia,rfl,pa,ha,ra⟩:=rv
  have X:=cD.push (G:=G) T ({cls:= .type "list_iterator",data:= .fields #[.ref a,.int 0 0]}:db) s.toks
  have hlt:a<s.heap.objs.size:=ha.elim λ_ ho=>br ho
  refine wpAny_pyIter_list ha.isList (h _ _ _ _ X (Fg (ax:=a) (items:=ia) s.heap.objs.size (am hlt) hf) ⟨⟨_,aS _ rfl,rfl,rfl⟩,?_,bh.ext X.ext T _ _ ra⟩ (.inl (fresh (o:=default))) (xi (.inr (.inl ⟨pa,_,ha⟩))))
  exact ha.imp λn hn=>aH _ hn
 |tup l0=>
  refine nk λcq=>?_
  refine aj e λhf e=>?_
  cases e
  obtain⟨a,ia,rfl,ha,ra⟩:=rv
  refine cq ?_
  have X:=cD.push (G:=G) T ({cls:= .type "tuple_iterator",data:= .fields #[.ref a,.int 0 0]}:db) s.toks
  have hlt:a<s.heap.objs.size:=ha.elim λ_ ho=>br ho.1
  refine wpAny_pyIter_tuple ha (h _ _ _ _ X (DT (ax:=a) (items:=ia) s.heap.objs.size (am hlt) hf) ⟨⟨_,aS _ rfl,rfl,rfl⟩,?_,bh.ext X.ext T _ _ ra⟩ (.inl (fresh (o:=default))) (xi (.inr (.inr ⟨_,ha⟩))))
  exact ha.imp λo q=>⟨aH _ q.1,q.2⟩
 |str z=>
  cases e
  obtain⟨t,rfl⟩:=rv
  have X:=cD.push (G:=G) T ({cls:= .type (bW z),data:= .fields #[.str z t,.int 0 0]}:db) s.toks
  exact wpAny_pyIter_strU (h _ _ _ _ X (ID (t:=t) s.heap.objs.size) ⟨_,aS _ rfl,rfl,rfl⟩ (.inl (fresh (o:=default))) De)
 |range lo n=>
  cases e
  refine nk λcq=>?_
  obtain⟨r,b,t,u,w,rfl,hr,hn,b1,b2,b3,b4⟩:=rv
  refine cq ?_
  refine wpAny_pyIter_range hr (small_one (by lia) b2 (by lia) b4) ?_
  have X:=cD.push (G:=G) T ({cls:= .type "range_iterator",data:= .fields #[mr lo,mr (jE lo b 1),mr 1]}:db) s.toks
  refine h _ _ _ _ X (DU s.heap.objs.size) ?_ (.inl (fresh (o:=default))) De
  have e1:jE lo b 1=(n:Int)-(0:Nat):=by
   rw[rangeSize_one,hn];split<;>lia
  have e2:lo+((0:Nat):Int)*1=lo:=Int.add_zero lo
  simp only[e2,<-e1]
  exact aS _ rfl
 |rev l0=>
  refine aj e λhf e=>?_
  cases e
  obtain⟨I,a,ia,rfl,pa,hI,ha,ra⟩:=rv
  have hne:a≠I:=λhh=>by
   obtain⟨_,ho⟩:=ha
   refine obE13 hI λo ho' hc _=>?_
   replace ho:=(ho')▸(hh)▸ho
   clear ho';cases ho
   simp at hc
  have st:s.heap.IsRevIter I a ((ia.size:Int)-1-(0:Nat)):=(Int.sub_zero _).symm▸hI
  refine wpAny_pyIter_revIter hI (h _ _ _ _ (.refl T) (IE (ax:=a) (items:=ia) I hne hf) ⟨st,ha,ra.reverse⟩ (.inr ⟨rfl,_,rfl⟩) (xi (.inr (.inl ⟨pa,_,ha⟩))))
 |_=>exact cI e
end
end
section
open PySem.Spec PySem.Calls PyProof.Rows PySem.W
theorem E4 {x:aN}: ∀(names:List (aN×eG)) (n:Nat) (acc:List (aN×aG)),(∀k,(x,k)∈names->k≠ .cell)->(dP n names acc).lookup x=acc.lookup x:=by
 intro zl
 induction zl with
 |nil=>
  intro _ _ _
  exact rfl
 |cons zh r ih=>
  obtain⟨y,k⟩:=zh
  intro n acc h
  unfold dP
  by_cases hk:(k== .cell)=true
  ·rw[if_pos hk,ih _ _ λk' hm=>h k' (.tail _ hm),aM]
   have hne:x≠y:=λe=>by
    subst e
    rw[beq_iff_eq]at hk
    exact h k (.head _) hk
   rw[show(x==y)=false from beq_eq_false_iff_ne.mpr hne]
  ·rw[if_neg hk]
   exact ih _ _ λk' hm=>h k' (.tail _ hm)
theorem GM {x:aN}: ∀(names:List (aN×eG)) (n lo:Nat) (acc:List (aN×aG)),lo<=n->(∃c,acc.lookup x=some c/\lo<=c)-> ∃c,(dP n names acc).lookup x=some c/\lo<=c:=by
 intro zl
 induction zl with
 |nil=>
  intro _ _ _ _ h
  exact h
 |cons zh r ih=>
  obtain⟨y,k⟩:=zh
  intro n lo acc hl h
  unfold dP
  split
  ·refine ih _ lo _ (by lia) ?_
   by_cases hx:x=y
   ·subst hx;exact⟨n,by simp,hl⟩
   ·refine obE12 h λc hc h2=>?_
    exact⟨c,by rw[aM,show(x==y)=false from beq_eq_false_iff_ne.mpr hx];exact hc,h2⟩
  ·exact ih _ lo _ hl h
theorem qc {x:aN}: ∀(names:List (aN×eG)) (n:Nat) (acc:List (aN×aG)),(x,.cell)∈names-> ∃c,(dP n names acc).lookup x=some c/\n<=c:=by
 intro zl
 induction zl with
 |nil=>
  intro _ _ h
  cases h
 |cons zh r ih=>
  obtain⟨y,k⟩:=zh
  intro n acc h
  unfold dP
  rcases aO.mp h with e|h
  ·clear h;cases e
   rw[if_pos (by rfl)]
   exact GM r _ n _ (by lia) ⟨n,by simp,bC _⟩
  ·split
   ·refine obE12 (ih (n+1) ((y,n)::acc) h) λc hc hl=>?_
    exact⟨c,hc,by lia⟩
   ·exact ih n acc h
theorem Ig {lo:Nat}: ∀(names:List (aN×eG)) (n:Nat) (acc:List (aN×aG)),(∀p∈acc,p.2<n)->(∀p∈acc,∀q∈acc,lo<=p.2->p.2=q.2->p.1=q.1)-> ∀p∈dP n names acc,∀q∈dP n names acc,lo<=p.2->p.2=q.2->p.1=q.1:=by
 intro zl
 induction zl with
 |nil=>
  intro _ _ _ h
  exact h
 |cons zh r ih=>
  obtain⟨y,k⟩:=zh
  intro n acc hlt h
  unfold dP
  split
  ·refine ih (n+1) _ (λp hp=>?_) λp hp q hq hl he=>?_
   ·rcases aO.mp hp with rfl|hp
    ·exact gF _
    ·exact iD (hlt p hp)
   ·rcases aO.mp hp with rfl|hp<;>rcases aO.mp hq with rfl|hq
    ·rfl
    ·have h1:q.2<n:=hlt q hq
     have h2:n=q.2:=he
     exact(ig _ (h2▸h1)).elim
    ·have h1:p.2<n:=hlt p hp
     have h2:p.2=n:=he
     exact(ig _ (h2▸h1)).elim
    ·exact h p hp q hq hl he
  ·exact ih n acc hlt h
theorem KO: ∀(names:List (aN×eG)) (h:ah) (acc:List (aN×aG)),∀p∈dP h.objs.size names acc,p∈acc\/(h.objs.size<=p.2/\(fP h names).IsCell p.2 none):=by
 intro zl
 induction zl with
 |nil=>
  intro _ _ p hp
  exact .inl hp
 |cons zh r ih=>
  obtain⟨y,k⟩:=zh
  intro h acc p hp
  unfold dP at hp
  unfold fP
  split at hp
  ·rename_i hk
   rw[if_pos hk]
   have:=ih (h.push {cls:= .type "cell",data:= .cell none}) ((y,h.objs.size)::acc) p (by rw[ch];exact hp)
   rcases this with hm|⟨h1,h2⟩
   ·rcases aO.mp hm with rfl|hm
    ·exact .inr ⟨bC _,_,pushCells_keeps _ _ _ _ (aS _ rfl),rfl⟩
    ·exact .inl hm
   ·rw[ch]at h1
    exact .inr ⟨by lia,h2⟩
  ·rename_i hk
   rw[if_neg hk]
   exact ih h acc p hp
theorem vg {M:i6} {A:aZ} {E:aA->aD->Prop} {s:aD} {scope:bE} {g:aG} {cl:List (aN×aG)} {qual:aN} {outer:cg} {bl:aG} {Q:cg->aD->Prop}
  (h:Q (newEnv scope s.heap.objs.size g (dP (s.heap.objs.size+1) scope.names cl) qual none .none (some outer) bl) {s with heap:=fP (s.heap.push {cls:= .type "dict",data:= .dict #[]}) scope.names}):
  aF M A (newFunctionEnv scope g cl [] qual none .none (some outer) bl) Q E s:=by
 unfold newFunctionEnv
 simp only[Option.isSome_some,if_true]
 refine aE (wpAny_alloc ?_)
 refine aE (wpAny_layCells _ (λname kind cells=>by cases hkc:kind==gE<;>simp[hkc]) _ _ _ _ ?_)
 refine(show({s with heap:=s.heap.push {cls:= .type "dict",data:= .dict #[]}}:aD).heap.objs.size=s.heap.objs.size+1 from ch ..)▸?_
 simp only[List.forIn_nil]
 exact aE (aK (aK h))
end
section
open PySem.Spec PySem.Calls PyProof.Rows PySem.W
section
variable {G:Gl} {A:aZ} {E:aA->aD->Prop} {P P':aG->Prop} {s s':aD} {env:cg} {h h':ah} {T:TE} {sc:bE}
theorem eD {e:Expr} {es:List Expr} {xs:List Nat} (h:dW T sc (e::es)=some xs): ∃x p i t,e= .Name x p/\xs=i::t/\eX sc x=true/\T.id x=some i/\dW T sc es=some t:=by
 exact bD h λi hi t ht h=>tS hi λx p he hi=>aj hi λho hi=>⟨x,p,i,t,he,(aC h).symm,ho,hi,ht⟩
theorem nr: ∀{es:List Expr} {xs:List Nat},dW T sc es=some xs->(fZ es env).length=xs.length/\(fZ es env).findIdx? (·.1)=none:=by
 intro zl
 induction zl with
 |nil=>
  intro xs h
  cases h;exact⟨rfl,rfl⟩
 |cons e es ih=>
  intro xs h
  obtain⟨x,p,i,t,rfl,rfl,_,_,ht⟩:=eD h
  obtain⟨h1,h2⟩:=ih ht
  refine⟨congrArg (· +1) h1,?_⟩
  show List.findIdx? (·.1) ((false,assign (.Name x p) env)::fZ es env)=none
  rw[List.findIdx?_cons,h2]
  rfl
theorem xe {M:i6} (J:Nat->aD->Prop) {Q:Unit->aD->Prop} (nx:List Nat) (nv:List aA) (step: ∀k s x v,J k s->nx[k]?=some x->nv[k]?=some v-> ∀nm,T.id nm=some x->eX sc nm=true->aF M A (jB env nm v) (λ_ s'=>J (k+1) s') E s) (hQ: ∀s',J nx.length s'->Q () s'):
  ∀(es:List Expr) (xs:List Nat) (vs:List aA) (k:Nat) (s:aD),dW T sc es=some xs->xs=nx.drop k->vs=nv.drop k->k<=nx.length->nv.length=nx.length->J k s->aF M A (qH ((fZ es env).map (·.2)) vs) Q E s:=by
 intro zl
 induction zl with
 |nil=>
  intro xs vs k s e hx hv hk hl h
  cases e
  have h1:=congrArg jt hx
  simp at h1
  have hkk:k=nx.length:=by lia
  clear hk hx h1;subst hkk
  have:vs=[]:=by rw[hv,<-hl,qL]
  clear hv;subst this
  exact l5 (hQ s h)
 |cons e es ih=>
  intro xs vs k s en hx hv hk hl h
  obtain⟨x,p,i,t,rfl,rfl,ho,hi,ht⟩:=eD en
  have hlt:k<nx.length:=by
   apply f8
   intro hn
   rw[wl (by lia)]at hx
   cases hx
  have hxk:nx[k]?=some i:=by
   have:=congrArg (·[0]?) hx
   simpa using this.symm
  obtain⟨v,hvk⟩: ∃v,nv[k]?=some v:=⟨nv[k]'(by lia),aW _⟩
  have hvs:vs=v::nv.drop (k+1):=by
   rw[hv,eF (by lia)]
   have:=al.mp hvk
   rw[this.2]
  clear hv;subst hvs
  show aF M A (qH (assign (.Name x p) env::(fZ es env).map (·.2)) (v::nv.drop (k+1))) Q E s
  refine hH (cz (ay (step k s i v h hxk hvk x hi ho) (λ_ s' h'=>?_) λ_ _ x=>x))
  refine ih t _ (k+1) s' ht ?_ rfl (by lia) hl h'
  have:=congrArg List.tail hx
  simpa [tF] using this
theorem zx {es:List Expr} {xs:List Nat} {c:Nat} {pos:dM} {t:aG} {items:Array aA} (hh:A.handled=none) (ht:s.heap.IsTuple t items) (hn:dW T sc es=some xs) (hl:items.size=xs.length) (J:Nat->aD->Prop) {Q:Unit->aD->Prop}
  (h0: ∀h',(∀b o,s.heap.get? b=some o->h'.get? b=some o)->J 0 {s with heap:=h'})
  (step: ∀k s x v,J k s->xs[k]?=some x->items.toList[k]?=some v-> ∀nm,T.id nm=some x->eX sc nm=true->aF G.M A (jB env nm v) (λ_ s'=>J (k+1) s') E s) (hQ: ∀s',J xs.length s'->Q () s'):
  aF G.M A (assign (.Tuple es c pos) env (.ref t)) Q E s:=by
 obtain⟨h1,h2⟩:=nr (env:=env) hn
 refine qi hh ht (by simp only[h1,hl]) h2 λh' hk=>?_
 exact xe J xs items.toList step hQ es xs items.toList 0 _ hn (by rfl) (by simp) (bj _) (by simp[hl]) (h0 h' λb o e=>hk b o (am (br e)) e)
end
end
section
open PySem.Spec PySem.Calls PyProof.Rows PySem.W
theorem St.get_put (st:St) (x:Nat) (sl:cA) (y:Nat):(st.put x sl).get y=if y=x then some sl else st.get y:=by
 induction st with
 |nil=>
  simp only[St.put,St.get,aM,List.lookup_nil]
  by_cases h:y=x
  ·simp[h]
  ·simp[h,beq_eq_false_iff_ne.mpr h]
 |cons p r ih=>
  obtain⟨z,s⟩:=p
  simp only[St.put]
  by_cases hz:z=x
  ·rw[if_pos hz]
   clear ih;subst hz
   simp only[St.get,aM]
   by_cases h:y=z
   ·simp[h]
   ·simp[h,beq_eq_false_iff_ne.mpr h]
  ·rw[if_neg hz]
   simp only[St.get,aM]at ih⊢
   by_cases h:y=z
   ·subst h
    simp[hz]
   ·refine(beq_eq_false_iff_ne.mpr h)▸?_
    exact ih
structure CS (G:Gl) (md:Nat) (P:aG->Prop) (s₀:aD) (C D:aG) (scope:bE) (cenv:cg):Prop where
 tabs:aY G s₀.heap
 base:fy G s₀.heap
 fresh:fz P s₀.heap
 kind:cenv.scope.kind= .function
 globals:cenv.globals=bk
 builtins:cenv.builtins=cU
 loc:cenv.locals=C
 cNew:s₀.heap.get? C=none
 dNew:s₀.heap.get? D=none
 inj: ∀x y c,cenv.cells.lookup x=some c->cenv.cells.lookup y=some c->s₀.heap.get? c=none->x=y
 own: ∀x,eX scope x=true->cenv.kindOf x=some .local\/(cenv.kindOf x=some .cell/\ ∃c,cenv.cells.lookup x=some c/\s₀.heap.get? c=none)
 lam:md=1->yT G cenv/\ ∀x c,cenv.cells.lookup x=some c->P c
 tr: ∀m,cH (G.Tl md) m cenv.scope=cH (G.Tl md) m scope
def wc (s₀:aD) (C D:aG) (cenv:cg) (a:aG):Prop:=a≠C/\a≠D/\ ∀x,cenv.cells.lookup x=some a->s₀.heap.get? a≠none
def HQ (G:Gl) (P:aG->Prop) (s₀:aD) (C D:aG) (cenv:cg) (m:aN->Option aA) (h:ah) (x:Nat) (sl:cA):Prop:=
 jc G cenv m h x sl λv=>sl.v.okV=true/\VR G (λa=>(sl.k= .safe->P a)/\wc s₀ C D cenv a) h sl.v v
structure CI (G:Gl) (P:aG->Prop) (s₀:aD) (C D:aG) (cenv:cg) (st:St) (acc:List V) (s:aD):Prop where
 X:cD G s₀ s
 ns: ∃m,s.heap.Ns C m/\ ∀x sl,st.get x=some sl->HQ G P s₀ C D cenv m s.heap x sl
 accl: ∃items,s.heap.PlainList D items/\bh G (λa=>P a/\wc s₀ C D cenv a) s.heap acc items.toList
 firm:bo acc=true
 cells: ∀x c,cenv.cells.lookup x=some c->s₀.heap.get? c=none-> ∃v,s.heap.IsCell c v
 cd: ∃o,s.heap.get? C=some o/\ ∃es n,o.data= .dict es n
section
variable {G:Gl} {A:aZ} {E:aA->aD->Prop} {P P':aG->Prop} {s₀ s s':aD} {cenv:cg} {C D:aG} {h h':ah} {md n:Nat} {st:St} {r:Ev} {acc:List V} {scope:bE}
theorem CI.notC (I:CI G P s₀ C D cenv st acc s) {c:aG} {w:Option aA} (hc:s.heap.IsCell c w):c≠C:=λe=>
 hc.elim λ_ q=>I.cd.elim λ_ q'=>obE21 q'.2 λ_ _ r=>aI (r.symm.trans ((congrArg ik (aC (q'.1.symm.trans (e▸q.1)))).trans q.2))
theorem CI.notD (I:CI G P s₀ C D cenv st acc s) {c:aG} {o:db} (ho:s.heap.get? c=some o) (hd: ∀xs n,o.data≠ .seq xs n):c≠D:=λe=>
 I.accl.elim λ_ q=>q.1.elim λ_ r=>hd _ _ (congrArg ik (aC (ho.symm.trans (e▸r))))
theorem CI.fre (S:CS G md P s₀ C D scope cenv) (I:CI G P s₀ C D cenv st acc s):g9 G md (λa=>P a/\a≠C/\a≠D) cenv st s.heap where
 kind:=S.kind
 globals:=S.globals
 builtins:=S.builtins
 base:=S.base.ext I.X.ext
 tabs:=I.X.tabs
 fresh:=λa ha=>⟨S.fresh a (I.X.gone S.tabs ha),λhc=>I.cd.elim λo q=>cI (ha.symm.trans (hc▸q.1)),λhd=>I.accl.elim λ_ q=>q.1.elim λn ho=>cI (ha.symm.trans (hd▸ho))⟩
 ns:=I.ns.imp λm H=>⟨by rw[S.loc];exact H.1,λx sl e=>(H.2 x sl e).map .refl λ_ v r=>⟨r.1,VR.mono (λa q hf=>⟨q.1 (of_decide_eq_true hf),q.2.1,q.2.2.1⟩) _ _ r.2⟩⟩
 lam:=λhm=>(S.lam hm).imp_right λh2 x c hc=>⟨h2 x c hc,λe=>(I.cells x c hc (e▸S.cNew)).elim λv q=>I.notC q e,λe=>obE21 (I.cells x c hc (e▸S.dNew)) λv o q=>I.notD q.1 (λ_ _ e=>aI (q.2.symm.trans e)) e⟩
theorem CI.up (S:CS G md P s₀ C D scope cenv) (I:CI G P s₀ C D cenv st acc s) (Y:cD G s s'):CI G P s₀ C D cenv st acc s':=
 ⟨I.X.trans Y,I.ns.imp λm H=>⟨(Y.ext.all I.X.tabs).ns H.1,λx sl e=>(H.2 x sl e).map (.ext Y.ext I.X.tabs) λ_ v r=>⟨r.1,VR.ext Y.ext I.X.tabs _ _ r.2⟩⟩,
  I.accl.imp λ_ q=>⟨q.1.imp λ_ ho=>Y.ext _ _ ho (I.X.tabs.off' ho (λ_=>aI)),bh.ext Y.ext I.X.tabs _ _ q.2⟩,I.firm,λx c hc hn=>(I.cells x c hc hn).imp λ_=>kK Y.ext I.X.tabs,
  I.cd.imp λ_ q=>⟨Y.ext _ _ q.1 (I.X.tabs.off' q.1 λ_ e=>obE21 q.2 λ_ _ r=>aI (r.symm.trans e)),q.2⟩⟩
theorem CI.sub {st':St} (I:CI G P s₀ C D cenv st' acc s) (hs: ∀x sl,st.get x=some sl->st'.get x=some sl):CI G P s₀ C D cenv st acc s:=
 ⟨I.X,by obtain⟨m,hm,h⟩:=I.ns;exact⟨m,hm,λx sl e=>h x sl (hs x sl e)⟩,I.accl,I.firm,I.cells,I.cd⟩
end
end
section
open PySem.Spec PySem.Calls PyProof.Rows PySem.W
theorem fm {x:V} (h:x.firm=true):x.okV=true:=by cases x<;>first|exact h|exact aL h
theorem aY.butS {G:Gl} {h h':ah} (T:aY G h) {D:aG} {o:db} (hD:h.get? D=some o) (hs:ca o) (k: ∀b o,b≠D->h.get? b=some o->h'.get? b=some o):aY G h':=
 T.mv (λ_ _ _ e _ hd=>k _ _ (nJ hD e λq=>hs.fields (q▸hd)) e) (λ_ _ e=>k _ _ (nJ hD e λq=>hs.fields (congrArg ik q)) e) λ_ _=>ix.but hD (λ_ e=>(hs.fields e).elim) k
theorem cD.butS {G:Gl} {s s1:aD} (x:cD G s s1) {D:aG} {o:db} (hD:s1.heap.get? D=some o) (hn:ca o) (hf:s.heap.get? D=none) {h':ah} {t:Nat} (k: ∀b o,b≠D->s1.heap.get? b=some o->h'.get? b=some o):cD G s {s1 with heap:=h',toks:=t}:=
 ⟨λb o e ht=>k _ _ (λh=>by rw[h,hf]at e;cases e) (x.ext b o e ht),x.tabs.butS hD hn k,x.os,x.gens,x.bare⟩
section
variable {G:Gl} {A:aZ} {E:aA->aD->Prop} {P P':aG->Prop} {s₀ s s':aD} {cenv:cg} {C D:aG} {h h':ah} {md n:Nat} {st:St} {r:Ev} {acc:List V} {scope:bE}
def z6 (s₀:aD) (C:aG) (cenv:cg) (Z:aG):Prop:=Z=C\/ ∃x,cenv.cells.lookup x=some Z/\s₀.heap.get? Z=none
theorem z6.off {Z:aG} (hz:z6 s₀ C cenv Z): ¬wc s₀ C D cenv Z:=λh=>hz.elim h.1 λe=>e.elim λx q=>h.2.2 x q.1 q.2
theorem CI.chg (S:CS G md P s₀ C D scope cenv) (I:CI G P s₀ C D cenv st acc s) {Z:aG} (hz:z6 s₀ C cenv Z): ∃o,s.heap.get? Z=some o/\ca o/\s₀.heap.get? Z=none/\Z≠D:=
 hz.elim (λe=>I.cd.imp λo q=>obE21 q.2 λes m r=>e▸⟨q.1,.inr (.inr ⟨es,m,r⟩),S.cNew,I.notD q.1 λ_ _ e=>aI (r.symm.trans e)⟩)
  λe=>e.elim λx q=>(I.cells x Z q.1 q.2).elim λv r=>r.imp λo r=>⟨r.1,.inr (.inl ⟨v,r.2⟩),q.2,I.notD r.1 λ_ _ e=>aI (r.2.symm.trans e)⟩
theorem xT {vv:V} {f:Bool} {R:aG->Prop} {v:aA} (rv:VR G (λa=>(f=true->P a)/\R a) h vv v):VR G (λa=>((ai vv f).k= .safe->P a)/\R a) h vv v:=by
 by_cases hfl:vv.flat=true
 ·exact VR.flat _ _ _ hfl rv
 ·refine VR.mono (λa q=>⟨λe=>q.1 ?_,q.2⟩) _ _ rv
  clear rv q;cases f with
  |true=>rfl
  |false=>
   unfold ai at e
   replace e:=(f5.mpr hfl)▸e
   cases e
theorem CI.turned (S:CS G md P s₀ C D scope cenv) (I:CI G P s₀ C D cenv st acc s) {x:Nat} {nm:aN} {vv:V} {v:aA} {f:Bool} (hid:G.T.id nm=some x) (hf:vv.firm=true) (rv:VR G (λa=>(f=true->P a)/\wc s₀ C D cenv a) s.heap vv v) {m m':aN->Option aA} (hs: ∀x sl,st.get x=some sl->HQ G P s₀ C D cenv m s.heap x sl)
  {h':ah} {tk:Nat} {Z:aG} (hz:z6 s₀ C cenv Z) (hsb:de Z s.heap h') (hm':h'.Ns C m') (hmo: ∀y,y≠nm->m' y=m y) (hh:iV cenv m' h' nm v) (hnz: ∀y c w,y≠nm->cenv.cells.lookup y=some c->s.heap.IsCell c w->c≠Z)
  (hcn: ∀c,cenv.cells.lookup nm=some c->s₀.heap.get? c=none-> ∃w,h'.IsCell c w) (hcd: ∃o,h'.get? C=some o/\ ∃es n,o.data= .dict es n):CI G P s₀ C D cenv (st.put x (ai vv f)) acc {s with heap:=h',toks:=tk}:=by
 have hnx:G.n x=nm:=Gl.n_id hid
 refine obE14 (I.chg S hz) λo hZ hso hZn hZD=>?_
 have k: ∀b o,b≠Z->s.heap.get? b=some o->h'.get? b=some o:=λb o hb e=>(hsb.2 b hb).trans e
 have hoff: ¬wc s₀ C D cenv Z:=hz.off
 refine⟨I.X.butS hZ hso hZn k,⟨m',hm',λy sl e=>?_⟩,I.accl.imp λ_ q=>⟨q.1.imp λ_ hdl=>k _ _ (dE hZD) hdl,bh.but hZ hso (λq=>hoff q.2) k _ _ q.2⟩,I.firm,λy c hc hcn'=>?_,hcd⟩
 ·rw[St.get_put]at e
  refine fF e (λhy e'=>?_) λhy e=>?_
  ·clear e;subst hy
   rw[<-aC e']
   exact .at_ (by rw[hnx];exact hid) (by unfold ai;dsimp only;split<;>nofun) (v:=v) (by rw[hnx];exact hh) ⟨fm hf,VR.but hZ hso (λq=>hoff q.2) k _ _ (xT rv)⟩
  ·have hne:G.n y≠nm:=λe'=>hy (aC ((hs y sl e).1.symm.trans (by rw[e'];exact hid)))
   exact(hs y sl e).map (.soft hZ hso k (λw e=>(hmo _ hne).trans e) λc w=>hnz _ c w hne) λ_ w r=>⟨r.1,VR.but hZ hso (λq=>hoff q.2) k _ _ r.2⟩
 ·by_cases hy:y=nm
  ·cases hy;exact hcn c hc hcn'
  ·exact(I.cells y c hc hcn').imp λw hw=>hw.imp λ_ q=>⟨k _ _ (hnz y c w hy hc hw) q.1,q.2⟩
theorem CI.store (S:CS G md P s₀ C D scope cenv) (I:CI G P s₀ C D cenv st acc s) {x:Nat} {nm:aN} {vv:V} {v:aA} {f:Bool} {Q:Unit->aD->Prop} (hid:G.T.id nm=some x) (ho:eX scope nm=true) (hf:vv.firm=true) (rv:VR G (λa=>(f=true->P a)/\wc s₀ C D cenv a) s.heap vv v)
  (h: ∀h' tk Z,z6 s₀ C cenv Z->de Z s.heap h'->CI G P s₀ C D cenv (st.put x (ai vv f)) acc {s with heap:=h',toks:=tk}->Q () {s with heap:=h',toks:=tk}):aF G.M A (jB cenv nm v) Q E s:=by
 refine obE12 I.ns λm hm hs=>?_
 refine(S.own nm ho).elim (λhl=>?_) λe=>e.2.elim λc q=>(I.cells nm c q.1 q.2).elim λw hw=>?_
 ·refine nY (hp:=(S.kind)▸rfl) hl (by rw[S.loc];exact hm) λh' hns hsb=>?_
  rw[S.loc]at hns hsb
  refine h h' _ C (.inl rfl) hsb (I.turned S hid hf rv hs (.inl rfl) hsb hns (λy hy=>if_neg hy) (.inl ⟨hl,if_pos rfl⟩) (λy c w _ _ hw=>I.notC hw) (λc hc hcn=>(I.cells nm c hc hcn).imp λw r=>r.imp λ_ q=>⟨(hsb.2 c (I.notC r)).trans q.1,q.2⟩) ?_)
  refine obE33 hns λo es ep h1 h2 _=>?_
  exact⟨o,h1,es,ep,h2⟩
 ·have hcC:c≠C:=I.notC hw
  refine wpAny_storeName_cell S.kind e.1 q.1 hw λh' hcell hsb=>h h' _ c (.inr ⟨nm,q⟩) hsb (I.turned S hid hf rv hs (.inr ⟨nm,q⟩) hsb ?_ (λ_ _=>rfl) (.inr ⟨.inl e.1,c,q.1,hcell⟩) (λy c' w' hy hc' _ e=>hy (S.inj _ _ _ hc' (e▸q.1) (e▸q.2))) (λc' h1 _=>aC (q.1.symm.trans h1)▸⟨_,hcell⟩) (I.cd.imp λo r=>⟨(hsb.2 C (dE hcC)).trans r.1,r.2⟩))
  refine obE32 hm λo es ep h1 h2=>?_
  exact⟨o,es,ep,(hsb.2 C (dE hcC)).trans h1,h2⟩
end
end
section
open PySem.Spec PySem.Calls PyProof.Rows PySem.W
theorem xP: ∀(st:St) (x:Nat),(qy st).get x=(st.get x).map λsl=>if sl.k= .nd then sl else⟨.safe,sl.v⟩:=by
 intro zl
 induction zl with
 |nil=>
  intro _
  exact rfl
 |cons zh r ih=>
  obtain⟨y,s⟩:=zh
  intro x
  have ih:=ih x
  simp only[qy,St.get,au,aM]at ih⊢
  cases h:x==y
  ·exact ih
  ·rfl
section
variable {G:Gl} {A:aZ} {E:aA->aD->Prop} {P P':aG->Prop} {s₀ s s' s'':aD} {cenv:cg} {C D:aG} {h h':ah} {md n:Nat} {st:St} {r:Ev} {acc:List V} {scope:bE} {J:aG->Prop}
theorem CI.it (S:CS G md P s₀ C D scope cenv) (I:CI G P s₀ C D cenv st acc s) {b:aG} {o:db} (hb:s.heap.get? b=some o) (hs: ∃vs,o.data= .fields vs) (hn:dF o) (hf:s₀.heap.get? b=none) {h':ah} {tk:Nat} (k: ∀c o,c≠b->s.heap.get? c=some o->h'.get? c=some o):CI G P s₀ C D cenv st acc {s with heap:=h',toks:=tk}:=by
 have k2: ∀c o',s.heap.get? c=some o'->(∀vs,o'.data≠ .fields vs)->h'.get? c=some o':=λc o' e hne=>k _ _ (nJ hb e λq=>hs.elim λ_ hs=>hne _ (q▸hs)) e
 have kd: ∀{c o' es ep},s.heap.get? c=some o'->o'.data= .dict es ep->h'.get? c=some o':=λe hd=>k2 _ _ e λ_ q=>aI (hd.symm.trans q)
 exact⟨I.X.but hb hn hf k,I.ns.imp λm H=>⟨H.1.imp λ_ e=>e.imp λes e=>e.imp λep e=>⟨kd e.1 e.2.1,e.2⟩,λx sl e=>(H.2 x sl e).map (.it hb hs hn k) λ_ w r=>⟨r.1,VR.butO hb hs hn k r.1 r.2⟩⟩,
  I.accl.imp λ_ q=>⟨q.1.imp λ_ ho=>k2 _ _ ho (λ_=>aI),bh.butI hb hs k _ _ I.firm q.2⟩,I.firm,λx c hc hcn=>(I.cells x c hc hcn).imp λw e=>e.imp λ_ q=>⟨k2 _ _ q.1 λ_ e=>aI (q.2.symm.trans e),q.2⟩,I.cd.imp λ_ q=>⟨obE21 q.2 λ_ _ r=>kd q.1 r,q.2⟩⟩
structure Mv (G:Gl) (s₀:aD) (C D:aG) (cenv:cg) (J:aG->Prop) (s s':aD):Prop where
 keep: ∀b o,s.heap.get? b=some o->b≠D-> ¬z6 s₀ C cenv b->b∉G.tb-> ¬J b->s'.heap.get? b=some o
 val: ∀(P':aG->Prop) x v,x.okV=true->VR G (λa=>P' a/\wc s₀ C D cenv a) s.heap x v->VR G (λa=>P' a/\wc s₀ C D cenv a) s'.heap x v
theorem Mv.refl:Mv G s₀ C D cenv J s s:=⟨λ_ _ e _ _ _ _=>e,λ_ _ _ _ e=>e⟩
theorem Mv.trans (x:Mv G s₀ C D cenv J s s') (y:Mv G s₀ C D cenv J s' s''):Mv G s₀ C D cenv J s s'':=
 ⟨λb o e h1 h2 h3 h4=>y.keep b o (x.keep b o e h1 h2 h3 h4) h1 h2 h3 h4,λP' v w ok e=>y.val P' v w ok (x.val P' v w ok e)⟩
theorem Mv.weak {J':aG->Prop} (x:Mv G s₀ C D cenv J s s') (h: ∀a,J a->J' a):Mv G s₀ C D cenv J' s s':=
 ⟨λb o e h1 h2 h3 h4=>x.keep b o e h1 h2 h3 λq=>h4 (h b q),x.val⟩
theorem Mv.stp (T:aY G s.heap) (X:cD G s s'):Mv G s₀ C D cenv J s s':=
 ⟨λb o e _ _ h3 _=>X.ext b o e h3,λ_ _ _ _ e=>VR.ext X.ext T _ _ e⟩
theorem Mv.soft {Z:aG} {o:db} {tk:Nat} (hZ:s.heap.get? Z=some o) (hs:ca o) (hc:Z=D\/z6 s₀ C cenv Z) (k: ∀b o,b≠Z->s.heap.get? b=some o->h'.get? b=some o):Mv G s₀ C D cenv J s {s with heap:=h',toks:=tk}:=by
 refine⟨λb o e h1 h2 _ _=>k b o (λhh=>?_) e,λP' x v _ rv=>VR.but hZ hs (λq=>?_) k _ _ rv⟩
 ·rcases hc with hc|hc
  ·exact h1 (hh.trans hc)
  ·exact h2 (hh▸hc)
 ·rcases hc with hc|hc
  ·exact q.2.2.1 hc
  ·exact hc.off q.2
theorem Mv.it {b:aG} {o:db} {tk:Nat} (hb:s.heap.get? b=some o) (hs: ∃vs,o.data= .fields vs) (hn:dF o) (hj:J b) (k: ∀c o,c≠b->s.heap.get? c=some o->h'.get? c=some o):Mv G s₀ C D cenv J s {s with heap:=h',toks:=tk}:=
 ⟨λc o e _ _ _ h4=>k c o (λhh=>h4 (hh▸hj)) e,λ_ _ _ ok rv=>VR.butO hb hs hn k ok rv⟩
theorem Mv.vals {P':aG->Prop} (M:Mv G s₀ C D cenv J s s') {l:List V}: ∀{vs:List aA},bo l=true->bh G (λa=>P' a/\wc s₀ C D cenv a) s.heap l vs->bh G (λa=>P' a/\wc s₀ C D cenv a) s'.heap l vs:=by
 induction l with
 |nil=>exact λ_ e=>e
 |cons x l ih=>exact λf r=>gC f λf1 f2=>r.imp λy r=>r.imp λys r=>⟨r.1,M.val P' _ _ (fm f1) r.2.1,ih f2 r.2.2⟩
def Pd (f:Bool) (P:aG->Prop) (s₀:aD) (C D:aG) (cenv:cg):aG->Prop:=λa=>(f=true->P a)/\wc s₀ C D cenv a
def wh (G:Gl) (s₀:aD) (C D:aG) (cenv:cg) (b:aG):Prop:=b≠D/\ ¬z6 s₀ C cenv b/\b∉G.tb
theorem rz.mv {P':aG->Prop} {l:List V} {I:aG} {fp:List aG} {S:Nat->ah->Prop} (W:rz G (λa=>P' a/\wc s₀ C D cenv a) l I fp S) (ap: ∀b∈fp,wh G s₀ C D cenv b) (M:Mv G s₀ C D cenv J s s') (hj: ∀b∈fp,¬J b) {i:Nat} (hs:S i s.heap):S i s'.heap:=
 W.frame i _ _ hs (λb hb o e=>M.keep b o e (ap b hb).1 (ap b hb).2.1 (ap b hb).2.2 (hj b hb)) λ_ rv=>M.vals W.firm rv
theorem CI.storeM (S:CS G md P s₀ C D scope cenv) (I:CI G P s₀ C D cenv st acc s) {x:Nat} {nm:aN} {vv:V} {v:aA} {f:Bool} {Q:Unit->aD->Prop} (hid:G.T.id nm=some x) (ho:eX scope nm=true) (hf:vv.firm=true) (rv:VR G (Pd f P s₀ C D cenv) s.heap vv v)
  (h: ∀s',CI G P s₀ C D cenv (st.put x (ai vv f)) acc s'->Mv G s₀ C D cenv (λ_=>False) s s'->Q () s'):aF G.M A (jB cenv nm v) Q E s:=by
 refine I.store S hid ho hf rv λh' tk Z hz hsb I'=>h _ I' ?_
 refine nk λcq=>?_
 refine obE14 (I.chg S hz) λo hZ hso _ _=>?_
 refine cq ?_
 exact Mv.soft hZ hso (.inr hz) λb o hb e=>(hsb.2 b hb).trans e
theorem CI.app (S:CS G md P s₀ C D scope cenv) (I:CI G P s₀ C D cenv st acc s) {vv:V} {v:aA} {Q:aA->aD->Prop} (hf:vv.firm=true) (hl:cR (acc.length+1)=true) (rv:VR G (λa=>P a/\wc s₀ C D cenv a) s.heap vv v)
  (h: ∀s',CI G P s₀ C D cenv st (acc++ [vv]) s'->Mv G s₀ C D cenv (λ_=>False) s s'->Q .none s'):aF G.M A (call (.builtin "list.append") [.ref D,v]) Q E s:=by
 refine obE12 I.accl λitems hpl racc=>?_
 have hlen:items.size=acc.length:=aX.symm.trans racc.len
 have hl':acc.length+1<=100000:=of_decide_eq_true hl
 refine BP hpl (hsz:=by rw[hlen];size_fits) λh' hpl' hsb=>?_
 obtain⟨n0,hD⟩:=hpl
 have k: ∀b o,b≠D->s.heap.get? b=some o->h'.get? b=some o:=λb o hb e=>(hsb.2 b hb).trans e
 have hso:ca {cls:= .type "list",data:= .seq items n0}:= .list _ _
 have kd: ∀{c o' es ep},s.heap.get? c=some o'->o'.data= .dict es ep->h'.get? c=some o':=λe hd=>k _ _ (I.notD e λ_ _ q=>aI (hd.symm.trans q)) e
 have nc: ∀{c w},s.heap.IsCell c w->c≠D:=λr=>r.elim λ_ q=>I.notD q.1 λ_ _ e=>aI (q.2.symm.trans e)
 refine h {s with heap:=h'} ⟨I.X.butS (t:=s.toks) hD hso S.dNew k,I.ns.imp λm H=>⟨H.1.imp λ_ e=>e.imp λes e=>e.imp λep e=>⟨kd e.1 e.2.1,e.2⟩,λx sl e=>(H.2 x sl e).map (.soft hD hso k (λ_ e=>e) λc w _ r=>nc r) λ_ w r=>⟨r.1,VR.but hD hso (λq=>q.2.2.1 rfl) k _ _ r.2⟩⟩,⟨_,hpl',?_⟩,mN I.firm ((Bool.and_true _).trans hf),λx c hc hcn=>(I.cells x c hc hcn).imp λw e=>e.imp λ_ q=>⟨k _ _ (nc e) q.1,q.2⟩,I.cd.imp λ_ q=>⟨obE21 q.2 λ_ _ r=>kd q.1 r,q.2⟩⟩ (Mv.soft (tk:=s.toks) hD hso (.inl rfl) k)
 rw[o9]
 exact bh.but hD hso (λq=>q.2.2.1 rfl) k _ _ (racc.append (bh.one rv))
theorem CI.notCell (I:CI G P s₀ C D cenv st acc s) {a:aG} {o:db} (ho:s.heap.get? a=some o) (hd: ∀w,o.data≠ .cell w) (y:aN) (hy:cenv.cells.lookup y=some a):s₀.heap.get? a≠none:=λhn=>
 obE21 (I.cells y a hy hn) λw _ q=>hd w ((congrArg ik (aC (ho.symm.trans q.1))).trans q.2)
theorem CI.off (S:CS G md P s₀ C D scope cenv) (I:CI G P s₀ C D cenv st acc s) {f:Bool} {x:V} {v:aA} (hf:x.firm=true) (rv:VR G (λa=>(f=true->P a)/\a≠C/\a≠D) s.heap x v):VR G (Pd f P s₀ C D cenv) s.heap x v:=
 VR.refineF (λa o p ho hd=>⟨p.1,p.2.1,p.2.2,I.notCell ho hd⟩) x v hf rv
theorem CI.offI (S:CS G md P s₀ C D scope cenv) (I:CI G P s₀ C D cenv st acc s) {f:Bool} {x:V} {v:aA} {l:List V} (hf:gR x=some l) (rv:VR G (λa=>(f=true->P a)/\a≠C/\a≠D) s.heap x v):VR G (Pd f P s₀ C D cenv) s.heap x v:=by
 unfold gR at hf
 split at hf
 ·exact aj hf λhf _=>I.off S hf rv
 ·exact aj hf λhf _=>I.off S hf rv
 ·exact rv
 ·exact rv
 ·refine nk λcq=>?_
  refine aj hf λhf2 hf=>?_
  obtain⟨b,a,ia,e,pa,hI,⟨n,ha⟩,ra⟩:=rv
  refine cq ?_
  exact⟨b,a,ia,e,⟨pa.1,pa.2.1,pa.2.2,I.notCell ha (λ_=>aI)⟩,hI,⟨n,ha⟩,bh.refineF (λa o p ho hd=>⟨p.1,p.2.1,p.2.2,I.notCell ho hd⟩) _ _ hf2 ra⟩
 ·exact cI hf
end
end
section
open PySem.Spec PySem.Calls PyProof.Rows PySem.W
noncomputable def EM (elt:Expr) (acc:aA) (env:cg):l6 Unit:=do let _ <-call (.builtin "list.append") [acc,<-cW elt env]
noncomputable def lu (elt:Expr) (gens:List cE) (scope:bE) (pos:dM) (d:Nat) (acc:aA) (env:cg) (k:l6 Fin):l6 Fin:=match gens[d]? with
 |some g'=>do
  let x <-cW g'.iter env
  jq g'.iter.pos
  let x <-lV g'.iter env x
  let _ <-runOwn (.compStart (.ListComp elt gens scope pos) d (<-hV [x] (wt x)) acc env) env
  k
 |none=>do
  EM elt acc env
  k
noncomputable def HE (elt:Expr) (gens:List cE) (scope:bE) (pos:dM) (d:Nat) (it acc:aA) (env:cg) (g:cE) (v:aA):l6 Fin:=do
 ff g.target it v
 assign g.target env v
 let mut ok:=true
 for c in g.ifs do
  if ok then ok <-isTrue c env (cW c env)
 if ok then
  lu elt gens scope pos (d+1) acc env (BW (.compLoop (.ListComp elt gens scope pos) d it acc env))
 else
  BW (.compLoop (.ListComp elt gens scope pos) d it acc env)
theorem ug {elt gens scope pos d it acc env g} (hg:gens[d]?=some g) (ha: ∀g∈gens,g.is_async=0):compTurn (.ListComp elt gens scope pos) d it acc env=(do
   jq g.iter.pos
   match<-ms it with
   |none=>dC (.done .next)
   |some v=>HE elt gens scope pos d it acc env g v):=by
 have h0:g.is_async=0:=ha g (az hg)
 obtain⟨t,i,fs,a⟩:=g
 simp only at h0
 subst h0
 delta compTurn
 dsimp only
 rw[hg]
 delta HE lu EM
 dsimp only
 cases h1:gens[d+1]? with
 |none=>rfl
 |some g'=>
  have h2:g'.is_async=0:=ha g' (az h1)
  simp only[h2]
  rfl
theorem iT {prog:g5} {w:dz} {A:aZ} {R:l8->aD->Prop} {s:aD} {elt gens scope pos it acc env d g} (hg:gens[d]?=some g) (ha:g.is_async=0)
  (h0:ec (cK prog w) A (.compLoop (.ListComp elt gens scope pos) d it acc env) R s)
  (h:aF (cK prog w) A (wt it) (λit' s'=>ec (cK prog w) A (.compLoop (.ListComp elt gens scope pos) d it' acc env) R s')
   (notedBy (cK prog w) A env λx s'=>R (.error x) s') s):
  ec (cK prog w) A (.compStart (.ListComp elt gens scope pos) d it acc env) R s:=by
 refine codeAny_of_tree ?_
 show aF _ _ ((compStart (.ListComp elt gens scope pos) d it acc env).onRaise (λx=>do tz x env;jq theWindowsPlace)) _ _ s
 refine wpAny_notedAt ?_
 unfold compStart
 have hc:((clausesOf (.ListComp elt gens scope pos))[d]?).elim false (·.is_async !=0)=false:=by
  show(gens[d]?).elim false _=false
  rw[hg];simp[ha]
 simp only[hc,gh,if_false]
 have hc2:(clausesOf (.ListComp elt gens scope pos))[d]?=some g:=hg
 refine aE (wpAny_askSetting (wpAny_ite ?_))
 split
 ·exact aK (And.intro rfl h0)
 ·refine aE (ml ?_)
  rw[hc2]
  exact aE (bG (aE (ay h (λit' s' h'=>aK (And.intro rfl h')) λ_ _ x=>x)))
theorem qU {e:Expr} {T:TE} {m:Nat} {sc:bE} {p:PE} (h:cH T m sc e=some p) (env:cg) (x:aA):lV e env x=dC x:=by
 cases e<;>try rfl
 cases m<;>exact cI h
noncomputable abbrev Lq (T:TE) (m:Nat) (sc:bE):cE->Option (Tg×PE×List PE):=AB T (cH T m sc) (cH T m sc) sc
section
variable {G:Gl} {A:aZ} {E:aA->aD->Prop} {P P':aG->Prop} {s₀ s s' s'':aD} {cenv:cg} {C D:aG} {h h':ah} {md n:Nat} {st:St} {r:Ev} {acc:List V} {scope:bE} {J:aG->Prop}
theorem oi {T:TE} {fi fo:Expr->Option PE} {sc:bE} {g:cE} {q:Tg×PE×List PE} (e:AB T fi fo sc g=some q):g.is_async=0/\ ∃t i cs,q=(t,i,cs)/\mX T sc g.target=some t/\fo g.iter=some i/\b9 fi g.ifs=some cs:=
 aj e λh e=>dX e λt h1 i h2 cs h3 e=>⟨beq_iff_eq.mp h,t,i,cs,(aC e).symm,h1,h2,h3⟩
theorem vP {T:TE} {m:Nat} {sc:bE} {g:cE} {q:Tg×PE×List PE} (e:Lq T m sc g=some q):g.is_async=0/\ ∃t i cs,q=(t,i,cs)/\mX T sc g.target=some t/\cH T m sc g.iter=some i/\b9 (cH T m sc) g.ifs=some cs:=oi e
theorem GQ (S:CS G md P s₀ C D scope cenv) (I:CI G P s₀ C D cenv st acc s) (hh:A.handled=none) {tg:Expr} {t:Tg} {st':St} {f:Bool} {x:V} {v:aA} {Q:Unit->aD->Prop} (ht:mX (G.Tl md) scope tg=some t) (hb:tq st t x f=some st') (rv:VR G (Pd f P s₀ C D cenv) s.heap x v)
  (h: ∀s',CI G P s₀ C D cenv st' acc s'->Mv G s₀ C D cenv (λ_=>False) s s'->Q () s'):aF G.M A (assign tg cenv v) Q E s:=by
 cases tg<;>try exact cI ht
 case Name nm p=>
  refine nk λcq=>?_
  refine aj ht λho ht=>ac ht λi hi ht=>aj (bb (C:=λt=>tq st t x f=some st') ht hb) λhf hb=>?_
  refine cq ?_
  exact cz (I.storeM S hi ho hf rv (bb (C:=λst'=> ∀s',CI G P s₀ C D cenv st' acc s'->Mv G s₀ C D cenv (λ_=>False) s s'->Q () s') hb h))
 case Tuple es c p=>
  refine nk λcq=>?_
  refine aj ht λhu ht=>ac ht λxs hxs ht=>zy (bb (C:=λt=>tq st t x f=some st') ht hb) λl hx hb=>aj hb λhl hb=>?_
  have h:=bb (C:=λst'=> ∀s',CI G P s₀ C D cenv st' acc s'->Mv G s₀ C D cenv (λ_=>False) s s'->Q () s') hb h
  have hl:=aJ.mp hl
  have hl1:=of_decide_eq_true hl.1
  rw[hx]at rv
  obtain⟨a,items,rfl,hit,rvs⟩:=rv
  refine cq ?_
  have hsz:items.size=xs.length:=aX.symm.trans (rvs.len.trans hl1)
  refine zx (T:=G.Tl md) (sc:=scope) hh hit hxs hsz (λk s1=>CI G P s₀ C D cenv (((xs.zip l).take k).foldl (λst p=>st.put p.1 (ai p.2 f)) st) acc s1/\Mv G s₀ C D cenv (λ_=>False) s s1) (λh' hk=>?_) (λk s1 x v q hx hv nm hid ho=>?_) λs1 q=>?_
  ·have Y:cD G s {s with heap:=h'}:=cD.of (t:=s.toks) I.X.tabs hk
   exact⟨I.up S Y,.stp I.X.tabs Y⟩
  ·refine(rvs.getV hv).elim λy hy=>?_
   have hfy:=mM hl.2 hy.1
   refine q.1.storeM S hid ho hfy (q.2.val _ _ _ (fm hfy) hy.2) λs2 I2 M2=>⟨?_,q.2.trans M2⟩
   simp only[js,uF (z:=(x,y))|>.mpr ⟨hx,hy.1⟩,Bo]
   exact I2
  ·have I1:=q.1
   rw[lX (by rw[List.length_zip];exact Nat.min_le_left _ _)]at I1
   exact h s1 I1 q.2
theorem CL (IH:lO G n r) {m:Nat} {env:cg}: ∀(ifs:List Expr) (ps:List PE) (b:Bool) (s:aD) (Q:Bool->aD->Prop),b9 (cH (G.Tl md) m env.scope) ifs=some ps->Al r.t st ps=some b->g9 G md P env st s.heap->cw n A->(∀s',cD G s s'->Q b s')->
  aF G.M A (BS ifs true λc r=>if r=true then do let ok <-isTrue c env (cW c env);dC (dq ok)else dC (dq r)) Q E s:=by
 intro zl
 induction zl with
 |nil=>
  intro ps b s Q e e2 F O h
  exact aK (bb (C:=λb=> ∀s',cD G s s'->Q b s') (bb (C:=λps=>Al r.t st ps=some b) e e2) h s (.refl F.tabs))
 |cons c ifs ih=>
  intro ps b s Q e e2 F O h
  exact bD e λp hp t ht e=>ac (bb (C:=λps=>Al r.t st ps=some b) e e2) λb1 hb1 e2=>by
   rw[fW,if_pos rfl]
   refine aE (aE (IH md P env st A E s _ m c p b1 hp hb1 F O λs1 X=>aK ?_))
   cases b1 with
   |true=>exact ih t b s1 Q ht e2 (F.up X) O λs2 Y=>h s2 (X.trans Y)
   |false=>
    have hf: ∀l:List Expr,aF G.M A (BS l false λc r=>if r=true then do let ok <-isTrue c env (cW c env);dC (dq ok)else dC (dq r)) Q E s1:=by
     intro l
     induction l with
     |nil=>exact aK (bb (C:=λb=>Q b s1) e2 (h s1 X))
     |cons a l ih=>
      rw[fW,if_neg bR]
      exact aE (aK ih)
    exact hf ifs
def BM (st st':St):Prop:= ∀x sl,st.get x=some sl->st'.get x=some sl
theorem BM.put {tg:Tg} (hn:kB st tg=true) {q:St} {y:Nat} {sl:cA} (hy:y∈tg.names) (hq:BM st q):BM st (q.put y sl):=λz sl' e=>by
 rw[St.get_put]
 split
 ·rename_i hz;subst hz
  have:=aT.mp hn _ hy
  rw[e]at this;exact(aL this)
 ·exact hq z sl' e
theorem tn {stq st':St} {tg:Tg} {x:V} {f:Bool} (hn:kB st tg=true) (hs:BM st stq) (hb:tq stq tg x f=some st'):BM st st':=by
 cases tg with
 |n y=>exact aj hb λ_ hb=>lG (C:=BM st) hb (hs.put hn (.head _))
 |t xs=>
  refine zy hb λl _ hb=>aj hb λ_ hb=>lG (C:=BM st) hb ?_
  have: ∀(z:List (Nat×V)) (q:St),(∀p∈z,p.1∈xs)->BM st q->BM st (z.foldl (λst p=>st.put p.1 (ai p.2 f)) q):=by
   intro z
   induction z with
   |nil=>intro q _ hq;exact hq
   |cons p z ih=>intro q hz hq;exact ih _ (λp hp=>hz p (.tail _ hp)) (hq.put (tg:= .t xs) hn (hz p (.head _)))
  exact this _ _ (λp hp=>(cN hp).1) hs
variable {elt:Expr} {gens:List cE} {sc0:bE} {pos:dM}
noncomputable def CA (t:St->PE->Option Bool) (inner:St->List V×Bool->Option (List V×Bool)) (tg:Tg) (ifs:List PE) (f:Bool) (q:St×(List V×Bool)) (v:V):Option (St×(List V×Bool)):=do
 let st' <-tq q.1 tg v f
 let b <-Al t st' ifs
 if b then do
  let acc' <-inner st' q.2
  some (st',acc')
 else some (st',q.2)
theorem DI {R:l8->aD->Prop} {d:Nat} {it acc:aA} {g:cE} (hg:gens[d]?=some g) (ha: ∀g∈gens,g.is_async=0) (V:Nat->aD->Prop)
  (turn: ∀j s,V j s-> ∀(E:aA->aD->Prop) (K:Fin->aD->Prop) (B:Option aA->aD->Prop) (b2:Bool->l6 Fin),(∀m s,m<j->V m s->K (.again (.compLoop (.ListComp elt gens sc0 pos) d it acc cenv)) s)->
   (∀v s,aF G.M A (ff g.target it v) (λ_ s=>aF G.M A (assign g.target cenv v) (λ_ s=>aF G.M A (BS g.ifs true λc r=>if r=true then do let ok <-isTrue c cenv (cW c cenv);dC (dq ok)else dC (dq r)) (λb s=>aF G.M A (b2 b) K E s) E s) E s) E s->B (some v) s)->
   (b2 true=lu elt gens sc0 pos (d+1) acc cenv (BW (.compLoop (.ListComp elt gens sc0 pos) d it acc cenv)))->(b2 false=BW (.compLoop (.ListComp elt gens sc0 pos) d it acc cenv))->
   (∀s,R (.ok .next) s->B none s)->aF G.M A (ms it) B E s)
  (n:Nat) (h:V n s):ec G.M A (.compLoop (.ListComp elt gens sc0 pos) d it acc cenv) R s:=by
 refine codeAny_loop rfl V (λj s H=>?_) n h
 show aF _ A ((compTurn (.ListComp elt gens sc0 pos) d it acc cenv).onRaise (λx=>do tz x cenv;nW x)) _ _ s
 refine wpAny_noted ?_
 rw[ug hg ha]
 exact aE (bG (aE (turn j s H _ _ _ (λb=>if b=true then lu elt gens sc0 pos (d+1) acc cenv (BW (.compLoop (.ListComp elt gens sc0 pos) d it acc cenv))else BW (.compLoop (.ListComp elt gens sc0 pos) d it acc cenv)) (λm _ hm h=>⟨rfl,m,hm,h⟩)
  (λv s h=>aE (ay h (λ_ _ h=>aE (ay h (λ_ _ h=>aE h) λ_ _ h=>h)) λ_ _ h=>h)) rfl rfl λ_ h=>aK h)))
theorem zB (S:CS G md P s₀ C D scope cenv) (IHt:lO G n r) (O:cw n A) {d m:Nat} {g:cE} (hg:gens[d]?=some g) (ha: ∀g∈gens,g.is_async=0) {t:Tg} {pifs:List PE} (hT:mX (G.Tl md) scope g.target=some t) (hI:b9 (cH (G.Tl md) m cenv.scope) g.ifs=some pifs)
  {inn:St->List V×Bool->Option (List V×Bool)}
  (inner: ∀st acc acc' s Q E K,inn st acc=some acc'->CI G P s₀ C D cenv st acc.1 s->(∀s',CI G P s₀ C D cenv st acc'.1 s'->Mv G s₀ C D cenv (λ_=>False) s s'->aF G.M A K Q E s')->aF G.M A (lu elt gens sc0 pos (d+1) (.ref D) cenv K) Q E s)
  {l:List V} {I:aG} {fp:List aG} {Sx:Nat->ah->Prop} {f:Bool} {P1:aG->Prop} (hP1: ∀a,P1 a->f=true->P a) (W:rz G (λa=>P1 a/\wc s₀ C D cenv a) l I fp Sx) (ap: ∀b∈fp,wh G s₀ C D cenv b) (hI0:s₀.heap.get? I=none)
  (hnew:kB st t=true) {acc0:List V×Bool} {q:St×(List V×Bool)} (e:qv r.t inn t pifs f l st acc0=some q) (I0:CI G P s₀ C D cenv st acc0.1 s) (hs:Sx 0 s.heap) {R:l8->aD->Prop}
  (h: ∀s',CI G P s₀ C D cenv st q.2.1 s'->Mv G s₀ C D cenv (· =I) s s'->R (.ok .next) s'):
  ec G.M A (.compLoop (.ListComp elt gens sc0 pos) d (.ref I) (.ref D) cenv) R s:=by
 refine(show∃V:Nat->aD->Prop,∀k s1,V k s1↔ ∃i stq accq,i+k=l.length/\wP (CA r.t inn t pifs f) (stq,accq) (l.drop i)=some q/\BM st stq/\CI G P s₀ C D cenv stq accq.1 s1/\Sx i s1.heap/\Mv G s₀ C D cenv (· =I) s s1 from⟨_,λ_ _=> .rfl⟩).elim λV iv=>?_
 refine DI hg ha V (λk s1 H E2 K B b2 kn ks bt bf k0=>?_) l.length ((iv ..).mpr ⟨0,st,acc0,pw _,e,λ_ _ z=>z,I0,hs,.refl⟩)
 refine obE36 ((iv ..).mp H) λi stq accq hik he hsub I1 hs1 M1=>?_
 refine obE34 (W.obj _ _ hs1) λo T vs ho hc hd H=>?_
 have step:=λh' tk k=>And.intro (I1.it (h':=h') (tk:=tk) S ho ⟨_,hd⟩ H.2 hI0 k) (Mv.it (G:=G) (s₀:=s₀) (C:=C) (D:=D) (cenv:=cenv) (J:=(· =I)) (s:=s1) (h':=h') (tk:=tk) ho ⟨_,hd⟩ H.2 rfl k)
 by_cases hlt:i<l.length
 ·refine zP hlt λx hx hdr=>ac (hdr▸he) λq1 hq1 he=>bD hq1 λst' hb1 b hb2 hq1=>?_
  refine W.item A _ s1 _ i x O.handled hx hs1 λv h' tk hsb hst rv=>?_
  obtain⟨I2,M2⟩:=step h' tk λc o hb e=>(hsb.2 c hb).trans e
  refine ks v _ (letgo_ok W (s:={s1 with heap:=h',toks:=tk}) hst (GQ S I2 O.handled hT hb1 (VR.mono (λa q=>⟨hP1 a q.1,q.2⟩) _ _ rv) λs3 I3 M3=>?_))
  have hs3:Sx (i+1) s3.heap:=W.mv ap M3 (λ_ _=>id) hst
  refine CL IHt g.ifs pifs b s3 _ hI hb2 (I3.fre S) O λs4 X4=>?_
  have I4:=I3.up S X4
  have M4:Mv G s₀ C D cenv (λ_=>False) s3 s4:= .stp I3.X.tabs X4
  have hs4:Sx (i+1) s4.heap:=W.mv ap M4 (λ_ _=>id) hs3
  have M14:Mv G s₀ C D cenv (· =I) s s4:=((M1.trans M2).trans (M3.weak λ_=>si)).trans (M4.weak λ_=>si)
  cases b with
  |true=>
   refine ac hq1 λacc' ha' hq1=>?_
   have he:=bb (C:=λq1=>wP (CA r.t inn t pifs f) q1 (l.drop (i+1))=some q) hq1 he
   rw[bt]
   exact inner st' accq acc' s4 _ _ _ ha' I4 λs5 I5 M5=>aK (kn (k-1) s5 (HM hik hlt).1 ((iv ..).mpr ⟨i+1,st',acc',(HM hik hlt).2,he,tn hnew hsub hb1,I5,W.mv ap M5 (λ_ _=>id) hs4,M14.trans (M5.weak λ_=>si)⟩))
  |false=>
   have he:=bb (C:=λq1=>wP (CA r.t inn t pifs f) q1 (l.drop (i+1))=some q) hq1 he
   rw[bf]
   exact aK (kn (k-1) s4 (HM hik hlt).1 ((iv ..).mpr ⟨i+1,st',accq,(HM hik hlt).2,he,tn hnew hsub hb1,I4,hs4,M14⟩))
 ·cases Ll hik hlt
  rw[qL]at he
  clear e iv;cases he
  exact W.done A _ s1 _ O.handled hs1 λh' hx=>k0 _ (h {s1 with heap:=h'} ((step h' s1.toks λc o hb e=>hx c o hb e).1.sub hsub) (M1.trans (step h' s1.toks λc o hb e=>hx c o hb e).2))
end
end
section
open PySem.Spec PySem.Calls PyProof.Rows PySem.W
section
variable {G:Gl} {A:aZ} {E:aA->aD->Prop} {P P':aG->Prop} {s₀ s s' s'':aD} {cenv env:cg} {C D:aG} {h h':ah} {md n:Nat} {st:St} {r:Ev} {acc:List V} {scope:bE} {J:aG->Prop}
theorem Mv.close {I:aG} (M:Mv G s₀ C D cenv (· =I) s s') (h:s.heap.get? I=none):Mv G s₀ C D cenv (λ_=>False) s s':=
 ⟨λb o e h1 h2 h3 _=>M.keep b o e h1 h2 h3 (λhb=>by rw[hb,h]at e;cases e),M.val⟩
theorem vf {x:Nat} {sl:cA}: ∀{st:St},st.noLoose=true->st.get x=some sl->sl.k= .safe\/sl.k= .nd:=by
 intro zl
 induction zl with
 |nil=>
  intro _ e
  cases e
 |cons zh r ih=>
  obtain⟨y,s⟩:=zh
  intro h e
  simp only[St.noLoose,fY,ag,iy,decide_eq_true_eq]at h
  simp only[St.get,aM]at e
  cases hx:x==y
  ·rw[hx]at e;exact ih h.2 e
  ·rw[hx]at e;cases e;exact h.1
theorem CI.freF (S:CS G md P s₀ C D scope cenv) (I:CI G P s₀ C D cenv st acc s):g9 G md (λa=>(st.noLoose=true->P a)/\a≠C/\a≠D) cenv (qy st) s.heap:=by
 have F:=I.fre S
 refine⟨F.kind,F.globals,F.builtins,F.base,F.tabs,λa ha=>⟨λ_=>(F.fresh a ha).1,(F.fresh a ha).2⟩,?_,λhm=>⟨(F.lam hm).1,λx c hc=>⟨λ_=>((F.lam hm).2 x c hc).1,((F.lam hm).2 x c hc).2⟩⟩⟩
 refine obE12 I.ns λm hm hs=>?_
 refine⟨m,by rw[S.loc];exact hm,λx sl e=>?_⟩
 rw[xP,dZ]at e
 obtain⟨sl0,e0,rfl⟩:=e
 obtain⟨h1,h2⟩:=hs x sl0 e0
 refine⟨h1,?_⟩
 split at h2
 ·rename_i hk;rw[if_pos hk];rw[if_pos hk];exact h2
 ·rename_i hk
  rw[if_neg hk]
  rw[if_neg (show¬(SK.safe=SK.nd) by decide)]
  refine nk λcq=>?_
  refine obE13 h2 λok v hv rv=>?_
  refine cq ?_
  exact⟨ok,v,hv,VR.mono (λa ⟨q1,q2,q3,_⟩ _=>⟨λhn=>q1 ((vf hn e0).resolve_right hk),q2,q3⟩) _ _ rv⟩
theorem ls {it:PE} {v:V} {l:List V} (e:jL it v=some l):gR v=some l/\((∃l',v= .rev l')->oC it=true):=by
 unfold jL at e
 split at e
 ·split at e
  ·exact⟨e,λ_=>by assumption⟩
  ·exfalso;cases e
 ·rename_i hne
  exact⟨e,λ⟨l',h⟩=>(hne l' h).elim⟩
theorem VR.sure {f:Bool} {x:V} {v:aA} (h:f=true\/x.flat=true) (rv:VR G (Pm f P) s.heap x v):VR G P s.heap x v:=by
 rcases h with h|h
 ·exact VR.mono (λa q=>q h) _ _ rv
 ·exact VR.flat _ _ _ h rv
variable {elt:Expr} {gens:List cE} {sc0:bE} {pos:dM}
theorem D4 (S:CS G md P s₀ C D scope cenv) (IHe:cC G n r) (IHt:lO G n r) (O:cw n A) {m:Nat} {pelt:PE} (ha: ∀g∈gens,g.is_async=0) (hel:cH (G.Tl md) m cenv.scope elt=some pelt):
  ∀(rest:List cE) (d:Nat) (pgs:List (Tg×PE×List PE)),gens.drop d=rest->b9 (Lq (G.Tl md) m scope) rest=some pgs->
  ∀st acc acc' s Q E K,ti r.e r.t pelt pgs st acc=some acc'->CI G P s₀ C D cenv st acc.1 s->(∀s',CI G P s₀ C D cenv st acc'.1 s'->Mv G s₀ C D cenv (λ_=>False) s s'->aF G.M A K Q E s')->aF G.M A (lu elt gens sc0 pos d (.ref D) cenv K) Q E s:=by
 intro zl
 induction zl with
 |nil=>
  intro d pgs hd hp st acc acc' s Q E K e I h
  cases hp
  have hg:gens[d]?=none:=by
   rw[List.drop_eq_nil_iff]at hd
   exact dx hd
  unfold lu
  simp only[hg]
  unfold ti at e
  refine nk λcq=>?_
  refine ac e λv hv e=>?_
  refine aj e λhc e=>?_
  cases e
  refine cq ?_
  simp only[ag,iy]at hc
  unfold EM
  refine aE (aE (IHe md _ cenv st A E s _ m elt pelt v hel hv (I.fre S) O λw s1 X rv _=>aE ?_))
  have I1:=I.up S X
  have rv2:VR G (λa=>P a/\wc s₀ C D cenv a) s1.heap v.1 w:=VR.mono (λa q=>⟨q.1 rfl,q.2⟩) _ _ (I1.off S (f:=true) hc.1.1 (VR.mono (λa q=>⟨λ_=>q.1,q.2⟩) _ _ (VR.sure hc.1.2 rv)))
  exact I1.app S hc.1.1 hc.2 rv2 λs2 I2 M2=>aK (h s2 I2 ((Mv.stp I.X.tabs X).trans M2))
 |cons g rest ih=>
  intro d pgs hd hp st acc acc' s Q E K e I h
  refine nk λcq=>?_
  obtain⟨pg,pgs,rfl,hpg,hps⟩:=fh hp
  clear hp;obtain⟨hga,t,i,cs,rfl,hT,hi,hcs⟩:=vP hpg
  refine cq ?_
  have hg:gens[d]?=some g:=by
   have:=congrArg (·[0]?) hd
   simpa using this
  have hd':gens.drop (d+1)=rest:=by
   have:=congrArg List.tail hd
   simpa [tF] using this
  unfold ti at e
  refine wB e λhnew e=>?_
  refine bD e λiv hiv l hl e=>?_
  refine wB e λhfl e=>?_
  refine nk λcq=>?_
  refine ac e λq hq e=>?_
  cases e
  obtain⟨hl1,hl2⟩:=ls hl
  refine cq ?_
  unfold lu
  rw[hg]
  dsimp only
  refine aE (IHe md _ cenv (qy st) A E s _ m g.iter i iv (by rw[S.tr];exact hi) hiv (I.freF S) O λv s1 X rv fr=>?_)
  refine aE (bG (aE ?_))
  rw[qU hi]
  refine aK (aE (ab ?_))
  have I1:=I.up S X
  have rv1:VR G (Pd st.noLoose P s₀ C D cenv) s1.heap iv.1 v:=I1.offI S hl1 (VR.sure (.inl (by simpa using hfl)) rv)
  refine u6 I1.X.tabs hl1 rv1 λI0 fp Sx s2 Y W hs2 hfr hfp=>?_
  have I2:=I1.up S Y
  have hI0:s.heap.get? I0=none:=by
   rcases hfr with h1|⟨h1,l',h2⟩
   ·exact X.gone I.X.tabs h1
   ·have hr:=hl2 ⟨l',h2⟩
    exact fr (om hr) (.inl hr) _ h1
  have nD:I0≠D:=λhh=>by
   obtain⟨_,⟨_,ho⟩,_⟩:=I.accl
   rw[<-hh,hI0]at ho;cases ho
  have nC: ¬z6 s₀ C cenv I0:=λhz=>by
   refine obE12 (I.chg S hz) λo ho _=>?_
   rw[hI0]at ho;cases ho
  have nT:I0∉G.tb:=λhm=>by
   refine obE12 (aP.mp hm) λq hq hq2=>?_
   obtain⟨_,ps,b,_⟩:=I.X.tabs q hq
   rw[hq2,hI0]at b;cases b
  have ap: ∀b∈fp,wh G s₀ C D cenv b:=λb hb=>by
   refine nk λcq=>?_
   rcases hfp b hb with rfl|⟨pb,nn,hpl⟩|⟨nn,o,ho,hc,n0,hd0⟩
   all_goals refine cq ?_
   ·exact⟨nD,nC,nT⟩
   ·exact⟨pb.2.2.1,λhz=>hz.off pb.2,I1.X.tabs.off' hpl.choose_spec (λ_=>aI)⟩
   ·refine⟨λhh=>?_,λhz=>?_,I1.X.tabs.off' ho (by rw[hd0];exact λ_=>aI)⟩
    ·obtain⟨_,⟨_,ho'⟩,_⟩:=I1.accl
     rw[<-hh,ho]at ho';clear ho hd0;cases ho';simp at hc
    ·refine obE13 (I1.chg S hz) λo' ho' hs' _=>?_
     rw[ho]at ho';cases ho';exact hs'.tup hc hd0
  refine aE (wpAny_runOwn ?_)
  simp only[Around.mark_none]
  have hcs':b9 (cH (G.Tl md) m cenv.scope) g.ifs=some cs:=by rw[S.tr];exact hcs
  have M2:Mv G s₀ C D cenv (λ_=>False) s s2:=(Mv.stp I.X.tabs X).trans (Mv.stp I1.X.tabs Y)
  have go:=λR hR=>zB (A:=A) (gens:=gens) (elt:=elt) (sc0:=sc0) (pos:=pos) (R:=R) (P1:=λa=>st.noLoose=true->P a) S IHt O hg ha hT hcs' (ih (d+1) pgs hd' hps) (λ_ q=>q) W ap (I.X.gone S.tabs hI0) (by simpa using hnew) hq I2 hs2 hR
  refine iT hg hga (go _ ?_) (W.self A _ s2 _ 0 hs2 (go _ ?_))<;>exact λs3 I3 M3=>h s3 I3 (Mv.close ((M2.weak λ_=>si).trans M3) hI0)
end
end
section
open PySem.Spec PySem.Calls PyProof.Rows PySem.W
theorem rW {α β:Type} {f:α->Option β}: ∀{l:List α} {r:List β} {b:β},b9 f l=some r->b∈r-> ∃a∈l,f a=some b:=by
 intro zl
 induction zl with
 |nil=>
  intro _ _ e h
  cases e;cases h
 |cons a l ih=>
  intro _ b e h
  obtain⟨c,t,rfl,hc,ht⟩:=fh e
  rcases aO.mp h with rfl|h
  ·exact⟨a,.head _,hc⟩
  ·obtain⟨x,hx,hf⟩:=ih ht h;exact⟨x,.tail _ hx,hf⟩
theorem mF {α β:Type} {f:α->Option β}: ∀{l:List α} {r:List β} {a:α},b9 f l=some r->a∈l-> ∃b∈r,f a=some b:=by
 intro zl
 induction zl with
 |nil=>
  intro _ _ _ h
  cases h
 |cons x l ih=>
  intro _ a e h
  obtain⟨c,t,rfl,hc,ht⟩:=fh e
  rcases aO.mp h with rfl|h
  ·exact⟨c,.head _,hc⟩
  ·obtain⟨b,hb,hf⟩:=ih ht h;exact⟨b,.tail _ hb,hf⟩
theorem u9 {sc:bE} {x:aN} {Z:Prop} (h:eX sc x=true) (k:sc.names.lookup x=some .local->Z) (k':sc.names.lookup x=some .cell->Z):Z:=by
 unfold eX at h
 cases e:sc.names.lookup x with
 |none=>rw[e]at h;cases h
 |some q=>rw[e]at h k k';clear e;cases q<;>first|exact k rfl|exact k' rfl|cases h
theorem qu {l:List aN}:ld l=true->l.Nodup:=by
 induction l with
 |nil=>exact λ_=>dh
 |cons x l ih=>exact λh=>gC h λh1 h2=>ba.mpr ⟨λhm=>aL ((dS _▸h1:l.contains x=false).symm.trans (b8.mpr hm)),ih h2⟩
theorem j4 {α:Type} {l:List (aN×α)} {x:aN} {k:α} (u:ld (l.map (·.1))=true) (h:(x,k)∈l):l.lookup x=some k:=lq (qu u) h
theorem tm {env:cg}: ∀(names:List (aN×eG)) (acc:List (aN×aG)) (p:aN×aG),p∈fK env names acc->p∈acc\/((p.1,bV)∈names/\p.2=(env.cells.lookup p.1).getD 0):=by
 intro zl
 induction zl with
 |nil=>
  intro _ _ h
  exact .inl h
 |cons zh r ih=>
  obtain⟨x,k⟩:=zh
  intro acc p h
  unfold fK at h
  rcases ih _ p h with h1|⟨h1,h2⟩
  ·split at h1
   ·rename_i hk
    rw[beq_iff_eq]at hk
    rcases aO.mp h1 with rfl|h1
    ·exact .inr ⟨by rw[hk];exact .head _,rfl⟩
    ·exact .inl h1
   ·exact .inl h1
  ·exact .inr ⟨.tail _ h1,h2⟩
theorem Dk: ∀(st:St) (free:List Nat) (x:Nat) (sl:cA),St.get (st.filter λp=>free.contains p.1) x=some sl->free.contains x=true/\st.get x=some sl:=by
 intro zl
 induction zl with
 |nil=>
  intro _ _ _ e
  cases e
 |cons zh r ih=>
  obtain⟨y,s⟩:=zh
  intro free x sl e
  have ih:=ih free x sl
  rw[eu]at e
  simp only[St.get,aM]at e ih⊢
  by_cases hf:free.contains y=true
  ·rw[if_pos hf,aM]at e
   cases hx:x==y
   ·rw[hx]at e;exact ih e
   ·rw[hx]at e
    rw[beq_iff_eq]at hx
    subst hx
    exact⟨hf,e⟩
  ·rw[if_neg hf]at e
   obtain⟨h1,h2⟩:=ih e
   refine⟨h1,?_⟩
   cases hx:x==y
   ·exact h2
   ·rw[beq_iff_eq]at hx;subst hx;exact(hf h1).elim
section
variable {G:Gl} {A:aZ} {E:aA->aD->Prop} {P P':aG->Prop} {s₀ s s' s'':aD} {cenv env:cg} {C D:aG} {h h':ah} {md n:Nat} {st:St} {r:Ev} {acc:List V} {scope:bE} {W:cY}
theorem v4 {sc:bE} {env cenv:cg} (hs:cenv.scope=mq sc env) (x:aN):cenv.kindOf x=(sc.names.lookup x).map λk=>if(k==bV&&env.scope.kind== .function&&env.kindOf x==some .cell)then gE else k:=by
 unfold i7
 rw[hs]
 exact lp sc.names x
theorem pf {free:List Nat} (h:pF st free=true) {x:Nat} (hx:x∈free): ∃sl,st.get x=some sl/\sl.k≠ .nd:=by
 have h0:=aT.mp h x hx
 cases e:st.get x with
 |none=>rw[e]at h0;cases h0
 |some sl=>rw[e]at h0;exact⟨sl,rfl,of_decide_eq_false (dS _▸h0)⟩
structure Lm (G:Gl) (env:cg) (h:ah) (st:St) (free:List Nat) (nm:aN) (x:Nat) (sl:cA) (c:aG) (v:aA):Prop where
 box:kC env.scope nm=true
 id:G.T.id nm=some x
 get:st.get x=some sl
 nk:sl.k≠ .nd
 cell:env.cells.lookup nm=some c
 is:h.IsCell c (some v)
theorem Fo {sc:bE} {free:List Nat} {mp:aN->Option aA} (hfree:hA (G.Tl md) env.scope sc=some free) (hok:pF st free=true) (hsl: ∀x sl,st.get x=some sl->pK G P env mp h x sl) {nm:aN} (hnm:nm∈(sc.names.filter λp=>p.2== .free).map (·.1)): ∃x sl c v,Lm G env h st free nm x sl c v:=
 (mF hfree hnm).elim λx q=>aj q.2 λhbox hf=>(pf hok q.1).elim λsl e=>((hsl x sl e.1).el e.2).elim λv H=>by
  have H1:=H.1
  rw[Gl.n_id (G:=G) hf]at H1
  exact(rm hbox H1).elim λc C=>⟨x,sl,c,v,hbox,hf,e.1,e.2,C.1,C.2⟩
theorem th (IHe:cC G n r) (IHt:lO G n r) (O:cw n A) (F:g9 G md P env st s.heap) {m:Nat} {elt:Expr} {gens:List cE} {sc:bE} {pos p0:dM} {pe:PE} {vb:VB} {use:Option (aA->l6 Unit)} {Q:aA->aD->Prop}
  (ht:cH (G.Tl md) (m+1) env.scope (.ListComp elt gens sc pos)=some pe) (he:(step W r).e st pe=some vb)
  (h: ∀l D C s',vb=(.list l,true)->cD G s s'->VR G (λa=>P a/\a≠C) s'.heap (.list l) (.ref D)->s.heap.get? D=none->s.heap.get? C=none->(∃o,s'.heap.get? C=some o/\ ∃es n,o.data= .dict es n)->(∃m,s'.heap.Ns C m)->wx G.M A E use Q (.ref D) C (.ok .next) s'):
  aF G.M A (qG (.ListComp elt gens sc pos) sc env p0 (newList []) false (BU gens env) use) Q E s:=by
 cases gens with
 |nil=>exact cI ht
 |cons g rest=>
 refine nk λcq=>?_
 obtain⟨tg,it,ifs,a⟩:=g
 refine aj ht λhsc ht1=>gC hsc λhkind huq=>yJ ht1 λfree hfree el hel g1 hg1 rs hrs' ht5=>?_
 obtain⟨ha0,t,i,cs,rfl,hT,hi,hcs⟩:=oi hg1
 have ha0:a=0:=ha0
 clear ht ht1 hg1;subst ha0
 have hkind:=beq_iff_eq.mp hkind
 have he1:=bb (C:=λpe=>(step W r).e st pe=some vb) ht5 he
 refine aj he1 λhchk he2=>gC hchk λhnew hok=>dX he2 λiv hiv l hl q hq he5=>?_
 have h:=bb (C:=λvb=> ∀l D C s',vb=(V.list l,true)->cD G s s'->VR G (λa=>P a/\a≠C) s'.heap (.list l) (.ref D)->s.heap.get? D=none->s.heap.get? C=none->(∃o,s'.heap.get? C=some o/\ ∃es n,o.data= .dict es n)->(∃m,s'.heap.Ns C m)->wx G.M A E use Q (.ref D) C (.ok .next) s') he5 h
 obtain⟨hl1,hl2⟩:=ls hl
 refine cq ?_
 have hasync: ∀g∈(⟨tg,it,ifs,0⟩::rest:List cE),g.is_async=0:=λg hg=>(aO.mp hg).elim (λe=>e▸rfl) λhg=>(mF hrs' hg).elim λb q=>(vP q.2).1
 refine nk λcq=>?_
 refine obE12 F.ns λm0 hm0 hsl=>?_
 refine cq ?_
 have hfr:=λ{nm} hnm=>Fo (nm:=nm) hfree hok hsl hnm
 have hclos:=jn (scope:=sc) (env:=env) λx hx=>by
  exact obE21 (hfr hx) λ_ _ e=>e.imp λc e=>e.elim λ_ e=>e.cell
 refine wpAny_comprehension_free (g:=⟨tg,it,ifs,0⟩) (gs:=rest) rfl (qU hi env) hclos hkind (λx hx hx2=>j4 huq (by rw[<-hx2];exact hx)) ?_
 refine IHe md P env st A E s _ m it i iv hi hiv F O λv s1 X rv fr=>?_
 have rv1:VR G (λa=>(iv.2=true->P a)/\s1.heap.get? a≠none) s1.heap iv.1 v:=
  VR.refine (λa o pa ho _=>⟨pa,by rw[ho];nofun⟩) _ _ rv
 refine u6 X.tabs hl1 rv1 λI0 fp Sx s2 Y W0 hs2 hfr0 hfp=>?_
 have X2:cD G s s2:=X.trans Y
 refine l4 ?_
 refine vg ?_
 suffices key: ∀H3 D C H4 cenv,s2.heap.push {cls:= .type "list",data:= .seq ([]:List aA).toArray}=H3->s2.heap.objs.size=D->H3.objs.size=C->H3.push {cls:= .type "dict",data:= .dict #[]}=H4->
   ({(newEnv sc C env.globals (dP (C+1) sc.names (fK env sc.names [])) env.qual none .none (some env) cU:cg)with scope:=mq sc env}:cg)=cenv->
   ec G.M A (.compStart (.ListComp elt (⟨tg,it,ifs,0⟩::rest) sc pos) 0 (.ref I0) (.ref D) cenv) (wx G.M A E use Q (.ref D) C) {s2 with heap:=fP H4 sc.names}from key _ _ _ _ _ rfl rfl rfl rfl rfl
 intro H3 D C H4 cenv hH3 hDD hCC hH4 hcenv
 have hsz:C=D+1:=by rw[<-hCC,<-hH3,<-hDD];exact ch ..
 have hk3: ∀b o,s2.heap.get? b=some o->H3.get? b=some o:=λb o e=>by rw[<-hH3];exact aH _ e
 have hD3:H3.get? D=some {cls:= .type "list",data:= .seq ([]:List aA).toArray}:=by rw[<-hH3,<-hDD];exact aS _ rfl
 have hsz4:H4.objs.size=C+1:=by rw[<-hH4,ch,hCC]
 have hk4: ∀b o,H3.get? b=some o->H4.get? b=some o:=λb o e=>by rw[<-hH4];exact aH _ e
 have hns4:H4.Ns C (λ_=>none):=by rw[<-hH4,<-hCC];exact Heap.Ns.new ..
 have hcd4: ∃o,H4.get? C=some o/\ ∃es n,o.data= .dict es n:=by
  obtain⟨o,es,ep,e1,e2,_⟩:=hns4;exact⟨o,e1,es,ep,e2⟩
 have hk5: ∀b o,H4.get? b=some o->(fP H4 sc.names).get? b=some o:=pushCells_keeps sc.names H4
 have hkk: ∀b o,s2.heap.get? b=some o->(fP H4 sc.names).get? b=some o:=λb o e=>hk5 _ _ (hk4 _ _ (hk3 _ _ e))
 have old: ∀b,D<=b->s.heap.get? b=none:=λb hb=>X2.gone F.tabs (bA (by rw[hDD];exact hb))
 have hCnew:s.heap.get? C=none:=old C (by lia)
 have hDnew:s.heap.get? D=none:=old D (bC _)
 have clo: ∀p∈fK env sc.names [],∃w,s.heap.IsCell p.2 (some w)/\env.cells.lookup p.1=some p.2:=λp hp=>by
  rcases tm _ _ p hp with h1|⟨h1,h2⟩
  ·cases h1
  ·refine obE41 (hfr (aP.mpr ⟨_,cb.mpr ⟨h1,rfl⟩,rfl⟩)) λ_ _ c w H=>?_
   rw[H.cell]at h2
   have h2':p.2=c:=h2
   refine(h2')▸?_
   exact⟨w,H.is,H.cell⟩
 have cloLt: ∀p∈fK env sc.names [],p.2<C+1:=λp hp=>by
  obtain⟨w,⟨o,ho,_⟩,_⟩:=clo p hp
  apply f8
  intro hn
  rw[old p.2 (aQ (by lia:D<=C+1) (i5 hn))]at ho;cases ho
 have hcs5: ∀p∈dP (C+1) sc.names (fK env sc.names []),p∈fK env sc.names []\/(C+1<=p.2/\(fP H4 sc.names).IsCell p.2 none):=λp hp=>by
  have:=KO sc.names H4 (fK env sc.names []) p (by rw[hsz4];exact hp)
  rw[hsz4]at this;exact this
 have hnewc: ∀p∈dP (C+1) sc.names (fK env sc.names []),s.heap.get? p.2=none->C+1<=p.2/\(fP H4 sc.names).IsCell p.2 none:=λp hp hn=>by
  rcases hcs5 p hp with h1|h1
  ·obtain⟨w,⟨o,ho,_⟩,_⟩:=clo p h1
   rw[hn]at ho;cases ho
  ·exact h1
 have hcells:cenv.cells=dP (C+1) sc.names (fK env sc.names []):=by rw[<-hcenv];rfl
 have hscope:cenv.scope=mq sc env:=by rw[<-hcenv]
 have hfreeL: ∀nm∈(sc.names.filter λp=>p.2== .free).map (·.1),sc.names.lookup nm=some .free/\cenv.cells.lookup nm=env.cells.lookup nm:=λnm hnm=>by
  refine nk λcq=>?_
  obtain⟨p,hp,rfl⟩:=aP.mp hnm
  obtain⟨hp1,hp2⟩:=cb.mp hp
  rw[beq_iff_eq]at hp2
  refine cq ?_
  have hlk:sc.names.lookup p.1=some .free:=j4 huq (by rw[<-hp2];exact hp1)
  refine⟨hlk,?_⟩
  refine nk λcq=>?_
  refine obE41 (hfr hnm) λ_ _ c w H=>?_
  refine cq ?_
  rw[hcells,E4 _ _ _ (λk hm=>by
   have:=j4 huq hm
   replace this:=(hlk)▸this
   clear hm;cases this
   exact nofun),H.cell]
  exact lB H.cell _ _ (.inr hnm)
 have S:CS G md P s C D sc cenv:=by
  refine⟨F.tabs,F.base,F.fresh,by rw[hscope];exact hkind,by rw[<-hcenv];exact F.globals,by rw[<-hcenv];exact F.builtins,by rw[<-hcenv];rfl,hCnew,hDnew,λx y c hx hy hn=>?_,λx hx=>?_,λhmd=>?_,λk=>by rw[hscope];exact Et _ _ _ _⟩
  ·rw[hcells]at hx hy
   have h1:=mem_of_lookup hx
   have h2:=mem_of_lookup hy
   exact Ig (lo:=C+1) sc.names (C+1) _ cloLt (λp hp q _ hl _=>absurd hl (Nat.not_le_of_lt (cloLt p hp))) (x,c) h1 (y,c) h2 (hnewc _ h1 hn).1 rfl
  ·rw[v4 hscope]
   refine u9 hx (λhl=>by rw[hl];exact .inl rfl) λhl=>?_
   ·rw[hl]
    refine .inr ⟨rfl,?_⟩
    refine obE12 (qc (x:=x) sc.names (C+1) (fK env sc.names []) (mem_of_lookup hl)) λc hc hle=>?_
    exact⟨c,by rw[hcells];exact hc,old c (by lia)⟩
  ·refine nk λcq=>?_
   obtain⟨⟨c,tb,e1,e2⟩,h2⟩:=F.lam hmd
   refine cq ?_
   refine⟨⟨c,tb,by rw[<-hcenv];exact e1,by rw[<-hcenv];exact e2⟩,λx c hc=>?_⟩
   rw[hcells]at hc
   rcases hcs5 _ (mem_of_lookup hc)with h1|h1
   ·obtain⟨_,_,h3⟩:=clo _ h1;exact h2 _ _ h3
   ·exact F.fresh c (old c (by have:=h1.1;lia))
 have X5:cD G s {s2 with heap:=fP H4 sc.names}:=X2.trans (cD.of (t:=s2.toks) X2.tabs hkk)
 have I5:CI G P s C D cenv (st.filter λp=>free.contains p.1) [] {s2 with heap:=fP H4 sc.names}:=by
  refine⟨X5,⟨λ_=>none,?_,λx sl e=>?_⟩,⟨#[],⟨_,hk5 _ _ (hk4 _ _ hD3)⟩,rfl⟩,rfl,λx c hc hn=>?_,?_⟩
  ·obtain⟨o,es,ep,e1,e2⟩:=hns4;exact⟨o,es,ep,hk5 _ _ e1,e2⟩
  ·refine nk λcq=>?_
   obtain⟨hx,hst⟩:=Dk _ _ _ _ e
   have hxf:x∈free:=b8.mp hx
   refine(rW hfree hxf).elim λnm q=>aj q.2 λhbox hf=>(pf hok hxf).elim λsl' e'=>?_
   refine cq ?_
   have hnk:sl.k≠ .nd:=aC (e'.1.symm.trans hst)▸e'.2
   have H:=hsl x sl hst
   refine(H.el hnk).elim λv r=> .at_ H.1 hnk (v:=v) ?_ ⟨r.2.1,VR.ext X5.ext F.tabs _ _ (VR.refine (λa o pa ho _=>⟨λhk=>pa (decide_eq_true hk),(λe=>cI (hCnew.symm.trans (e▸ho))),(λe=>cI (hDnew.symm.trans (e▸ho))),λy _ hn=>cI (hn.symm.trans ho)⟩) _ _ r.2.2)⟩
   have hv:=r.1
   simp only[Gl.n_id (G:=G) hf]at hv⊢
   obtain⟨hlk,hcl⟩:=hfreeL nm q.1
   refine(rm hbox hv).elim λc C=> .inr ⟨?_,c,by rw[hcl,C.1],kK X5.ext F.tabs C.2⟩
   rw[v4 hscope,hlk]
   refine hv.elim (λhv=>?_) λhv=>hv.1.elim (λhv=> .inl (by rw[hv,F.kind];rfl)) λhv=> .inr ⟨by simp only[hv.1,gP,show(some bV==some gE)=false from rfl,tH];rfl,hv.2⟩
   have hv:=hv.1
   unfold kC at hbox;unfold i7 at hv;rw[hv]at hbox;exfalso;cases hbox
  ·rw[hcells]at hc
   exact⟨_,(hnewc _ (mem_of_lookup hc) hn).2⟩
  ·obtain⟨o,e1,e2⟩:=hcd4;exact⟨o,hk5 _ _ e1,e2⟩
 have far: ∀b o,s2.heap.get? b=some o->b≠C/\b≠D/\ ¬z6 s C cenv b:=λb o ho=>by
  have hlt:b<D:=by rw[<-hDD];exact br ho
  have hC:b≠C:=am (jY hlt (by lia:D<C))
  refine⟨hC,am hlt,λhz=>?_⟩
  rcases hz with hz|⟨x,hx,hn⟩
  ·exact hC hz
  ·rw[hcells]at hx
   have h3:C+1<=b:=(hnewc _ (mem_of_lookup hx) hn).1
   exact absurd (cT hlt (by lia:D<=C+1)) (Nat.not_lt_of_le h3)
 have off: ∀b o,s2.heap.get? b=some o->wc s C D cenv b:=λb o ho=>by
  refine obE03 (far b o ho) λh1 h2 h3=>?_
  exact⟨h1,h2,λx hx hn=>h3 (.inr ⟨x,hx,hn⟩)⟩
 have up12: ∀b,s1.heap.get? b≠none-> ∃o,s2.heap.get? b=some o:=λb hb=>by
  cases e:s2.heap.get? b with
  |some o=>exact⟨o,rfl⟩
  |none=>exact(hb (Y.gone X.tabs e)).elim
 have hPeq:(λa=>(iv.2=true->P a)/\s1.heap.get? a≠none)=λa=>(λa=>(iv.2=true->P a)/\s1.heap.get? a≠none) a/\wc s C D cenv a:=by
  funext a
  refine propext ⟨λq=>⟨q,?_⟩,λq=>q.1⟩
  obtain⟨o,ho⟩:=up12 a q.2
  exact off a o ho
 replace W0:=(hPeq)▸W0
 have hI0:s.heap.get? I0=none:=by
  rcases hfr0 with h1|⟨h1,l',h2⟩
  ·exact X.gone F.tabs h1
  ·have hr:=hl2 ⟨l',h2⟩
   exact fr (om hr) (.inl hr) _ h1
 have ap: ∀b∈fp,wh G s C D cenv b:=λb hb=>by
  have fin: ∀o,s2.heap.get? b=some o->b∉G.tb->wh G s C D cenv b:=λo ho hn=>⟨(far b o ho).2.1,(far b o ho).2.2,hn⟩
  refine nk λcq=>?_
  rcases hfp b hb with rfl|⟨pb,nn,hpl⟩|⟨nn,o,ho,hc,n0,hd0⟩
  all_goals refine cq ?_
  ·refine nk λcq=>?_
   refine obE33 (W0.obj _ _ hs2) λo T vs ho hc _=>?_
   refine cq ?_
   exact fin o ho (X2.tabs.off ho (by rw[hc];exact λh=>aq h))
  ·have hn:=X.tabs.off' hpl.choose_spec (λ_=>aI)
   exact fin _ (Y.ext _ _ hpl.choose_spec hn) hn
  ·have hn:=X.tabs.off' ho (by rw[hd0];exact λ_=>aI)
   exact fin _ (Y.ext _ _ ho hn) hn
 have hs5:Sx 0 (fP H4 sc.names):=W0.frame 0 _ _ hs2 (λb _ o e=>hkk b o e) λvs rv=>bh.ext (qg.of hkk) X2.tabs _ _ rv
 have hcs':b9 (cH (G.Tl md) m cenv.scope) ifs=some cs:=by rw[S.tr];exact hcs
 have go:=λR hR=>zB (A:=A) (gens:=⟨tg,it,ifs,0⟩::rest) (elt:=elt) (sc0:=sc) (pos:=pos) (d:=0) (R:=R) S IHt O rfl hasync hT hcs' (D4 S IHe IHt O hasync (by rw[S.tr];exact hel) rest 1 rs rfl hrs') (λ_ q=>q.1) W0 ap hI0 hnew hq I5 hs5 hR
 have fin: ∀s',CI G P s C D cenv (st.filter λp=>free.contains p.1) q.2.1 s'->Mv G s C D cenv (· =I0) {s2 with heap:=fP H4 sc.names} s'->wx G.M A E use Q (.ref D) C (.ok .next) s':=λs' I M=>by
  refine obE12 I.accl λitems hpl racc=>?_
  refine obE12 I.ns λm' hm' _=>?_
  exact h _ D C s' rfl I.X ⟨D,items,rfl,⟨F.fresh D hDnew,am (by lia:D<C)⟩,hpl,bh.mono (λa q=>⟨q.1,q.2.1⟩) _ _ racc⟩ hDnew hCnew I.cd ⟨m',hm'⟩
 exact iT (g:=⟨tg,it,ifs,0⟩) rfl rfl (go _ fin) (W0.self A _ {s2 with heap:=fP H4 sc.names} _ 0 hs5 (go _ fin))
theorem GH (IHe:cC G n r) (IHt:lO G n r) (O:cw n A) (F:g9 G md P env st s.heap) {m:Nat} {elt:Expr} {gens:List cE} {sc:bE} {pos:dM} {pe:PE} {vb:VB} {Q:aA->aD->Prop}
  (ht:cH (G.Tl md) (m+1) env.scope (.ListComp elt gens sc pos)=some pe) (he:(step W r).e st pe=some vb) (h:mj G P s pe vb Q):aF G.M A (cW (.ListComp elt gens sc pos) env) Q E s:=by
 have hf:wv gens=false:=by
  cases gens with
  |nil=>rfl
  |cons g rest=>
   refine aj ht λ_ ht=>dX ht λ_ _ _ _ g1 hg1 _=>?_
   clear ht;clear ht;obtain⟨tg,it,ifs,a⟩:=g
   show(a !=0)=false
   rw[show a=0 from(oi hg1).1];rfl
 show aF G.M A (qG (.ListComp elt gens sc pos) sc env (Bh gens pos) (newList []) (wv gens) (BU gens env)) Q E s
 refine(hf)▸?_
 refine th IHe IHt O F ht he λl D C s' e X rv hD hC ⟨o,ho,es,nn,hd⟩ ⟨m',hm'⟩=>⟨m',hm',λh' hsb=>?_⟩
 have k: ∀b o,b≠C->s'.heap.get? b=some o->h'.get? b=some o:=λb o hb e=>(hsb.2 b hb).trans e
 have hso:ca o:= .inr (.inr ⟨es,nn,hd⟩)
 refine h _ _ (X.butS (t:=s'.toks) ho hso hC k) ?_ λ_ _ a e=>by cases e;exact hD
 clear he h;subst e
 exact VR.mono (λa q _=>q.1) _ _ (VR.but ho hso (λq=>q.2 rfl) k _ _ rv)
end
end
section
open PySem.Spec PySem.Calls PyProof.Rows PySem.W
structure j2 (G:Gl) (Z:aG->Prop) (h h':ah):Prop where
 k: ∀b o,¬Z b->b∉G.tb->h.get? b=some o->h'.get? b=some o
 v: ∀(P':aG->Prop) x w,x.okV=true->(∀a o,P' a->Z a->h.get? a=some o-> ¬ca o)->VR G P' h x w->VR G P' h' x w
 code: ∀cv q,h.CodeRec cv q->h'.CodeRec cv q
 soft: ∀b o,Z b->h.get? b=some o->ca o\/((∃vs,o.data= .fields vs)/\dF o)
section
variable {G:Gl} {P P':aG->Prop} {h h' h'':ah} {Z:aG->Prop} {s s':aD}
theorem j2.ext (T:aY G h) (X:qg G h h') (hz: ∀b,Z b->h.get? b=none):j2 G Z h h':=
 ⟨λb o _ h1 e=>X b o e h1,λ_ _ _ _ _ r=>VR.ext X T _ _ r,λ_ _ r=>T.code r X,λb o hb e=>by rw[hz b hb]at e;cases e⟩
theorem j2.softAt {D:aG} {o:db} (hD:h.get? D=some o) (hs:ca o) (k: ∀b o,b≠D->h.get? b=some o->h'.get? b=some o):j2 G (· =D) h h':=
 ⟨λb o hb _ e=>k b o hb e,λP' x w _ hp r=>VR.but hD hs (λq=>hp _ _ q rfl hD hs) k _ _ r,λ_ _=>ix.but hD (λ_ e=>(hs.fields e).elim) k,λb o' hb e=> .inl (aC (hD.symm.trans (hb▸e))▸hs)⟩
theorem j2.itAt {D:aG} {o:db} (hD:h.get? D=some o) (hs: ∃vs,o.data= .fields vs) (hn:dF o) (k: ∀b o,b≠D->h.get? b=some o->h'.get? b=some o):j2 G (· =D) h h':=
 ⟨λb o hb _ e=>k b o hb e,λP' x w ok _ r=>VR.butO hD hs hn k ok r,λ_ _=>ix.but hD hn.2.2 k,λb o' hb e=> .inr (aC (hD.symm.trans (hb▸e))▸⟨hs,hn⟩)⟩
theorem j2.vals (T:j2 G Z h h') (hp: ∀a o,P a->Z a->h.get? a=some o-> ¬ca o) {l:List V}: ∀{vs:List aA},bo l=true->bh G P h l vs->bh G P h' l vs:=by
 induction l with
 |nil=>exact λ_ e=>e
 |cons x l ih=>exact λf r=>gC f λf1 f2=>r.imp λy r=>r.imp λys r=>⟨r.1,T.v P _ _ (fm f1) hp r.2.1,ih f2 r.2.2⟩
theorem j2.valk (T:j2 G Z h h') (hp: ∀a o,P a->Z a->h.get? a=some o-> ¬ca o) (m:aN->Option aA) {l:List V}: ∀{ks:List Nat},bo l=true->lN G P h m ks l->lN G P h' m ks l:=by
 induction l with
 |nil=>exact λ_ e=>e
 |cons x l ih=>exact λf r=>gC f λf1 f2=>r.imp λk r=>r.imp λks r=>r.imp λy r=>⟨r.1,r.2.1,T.v P _ _ (fm f1) hp r.2.2.1,ih f2 r.2.2.2⟩
theorem j2.hard (T:j2 G Z h h') (TO:aY G h) {b:aG} {o:db} (e:h.get? b=some o) (h1: ¬ca o) (h2: ∀vs,o.data≠ .fields vs):h'.get? b=some o:=
 T.k b o (λhz=>(T.soft b o hz e).elim h1 λq=>q.1.elim h2) (TO.off' e h2) e
end
noncomputable abbrev Ow:=Nat->Option aG
abbrev NW (env:cg) (W:Ow) (a:aG):Prop:=a≠env.locals/\ ∀x,W x≠some a
abbrev yZ (P:aG->Prop) (env:cg) (W:Ow) (a:aG):Prop:=P a/\NW env W a
def gL (s₀:aD) (env:cg) (W:Ow) (a:aG):Prop:=a≠env.locals/\(∀x,W x≠some a)/\ ∀y,env.cells.lookup y=some a->s₀.heap.get? a≠none
abbrev i9 (s₀:aD) (env:cg) (Z:aG):Prop:=z6 s₀ env.locals env Z
structure FX (G:Gl) (md:Nat) (P:aG->Prop) (s₀:aD) (env:cg) (io:aG->Prop):Prop where
 kind:env.scope.kind= .function
 globals:env.globals=bk
 builtins:env.builtins=cU
 locNew:s₀.heap.get? env.locals=none
 base:fy G s₀.heap
 fresh:fz P s₀.heap
 inj: ∀x y c,env.cells.lookup x=some c->env.cells.lookup y=some c->s₀.heap.get? c=none->x=y
 own: ∀x,eX env.scope x=true->env.kindOf x=some .local\/(env.kindOf x=some .cell/\ ∃c,env.cells.lookup x=some c/\s₀.heap.get? c=none)
 lam:md=1->yT G env/\ ∀x c,env.cells.lookup x=some c->P c
 ioNew: ∀a,io a->G.h0.get? a=none
 dfs:md=2-> ∃c tb,env.code= .ref c/\ ∀nm∈G.T.nds,(c,tb,env.qual++nm)∈G.tabs
def cn (G:Gl) (P:aG->Prop) (h:ah) (D:aG):V->aA->Prop
 | .list l,w=>w= .ref D/\bo l=true/\ ∃items,h.PlainList D items/\bh G P h l items.toList
 | .inst ks l,w=>bo l=true/\ ∃a m,w= .ref a/\h.get? a=some (gz G.cls D)/\h.Ns1 D m/\(∀x,(∀k∈ks,G.atn k≠x)->m x=none)/\lN G P h m ks l
 |_,_=>False
noncomputable def SK.owner:SK->Bool
 | .own| .lent| .inout=>true
 |_=>false
def aw (G:Gl) (P:aG->Prop) (s₀:aD) (env:cg) (io:aG->Prop) (W:Ow) (h:ah) (x:Nat) (sl:cA) (w:aA):Prop:=
 if sl.k.owner then∃D,W x=some D/\((sl.k= .inout->io D)/\(sl.k≠ .inout->s₀.heap.get? D=none))/\cn G (λa=>P a/\gL s₀ env W a) h D sl.v w
 else sl.v.okV=true/\VR G (λa=>(sl.k= .safe->P a)/\gL s₀ env W a) h sl.v w
def zX (G:Gl) (P:aG->Prop) (s₀:aD) (env:cg) (io:aG->Prop) (W:Ow) (m:aN->Option aA) (h:ah) (x:Nat) (sl:cA):Prop:=
 jc G env m h x sl (aw G P s₀ env io W h x sl)
structure SI (G:Gl) (P:aG->Prop) (s₀:aD) (env:cg) (io:aG->Prop) (W:Ow) (st:St) (s:aD):Prop where
 tabs:aY G s.heap
 base:fy G s.heap
 gone: ∀a,s.heap.get? a=none->s₀.heap.get? a=none
 ns: ∃m,s.heap.Ns env.locals m/\ ∀x sl,st.get x=some sl->zX G P s₀ env io W m s.heap x sl
 cells: ∀x c,env.cells.lookup x=some c-> ∃v,s.heap.IsCell c v
 ws: ∀x D,W x=some D->(s₀.heap.get? D=none\/io D)/\D≠env.locals/\ ∃o,s.heap.get? D=some o/\ca o/\ ∀v,o.data≠ .cell v
 inj: ∀x y D,W x=some D->W y=some D->x=y
structure Mw (G:Gl) (s₀:aD) (env:cg) (J:aG->Prop) (s s':aD):Prop where
 keep: ∀b o,s.heap.get? b=some o-> ¬i9 s₀ env b->b∉G.tb-> ¬J b->s'.heap.get? b=some o
 val: ∀(P':aG->Prop) x v,x.okV=true->(∀a,P' a-> ¬i9 s₀ env a/\ ¬J a)->VR G P' s.heap x v->VR G P' s'.heap x v
 gone: ∀a,s'.heap.get? a=none->s.heap.get? a=none
 os:s'.os=s.os
 gens: ∃more,s'.gens=s.gens++more
 bare:jU s.gens->jU s'.gens
section
variable {G:Gl} {A:aZ} {E:aA->aD->Prop} {P P':aG->Prop} {s₀ s s' s'':aD} {env:cg} {io J J' Z:aG->Prop} {W W':Ow} {h h':ah} {md n:Nat} {st st':St} {r:Ev} {m m':aN->Option aA}
theorem Mw.refl:Mw G s₀ env J s s:=⟨λ_ _ e _ _ _=>e,λ_ _ _ _ _ e=>e,λ_ e=>e,rfl,⟨#[],by simp⟩,id⟩
theorem Mw.weak (M:Mw G s₀ env J s s') (h: ∀a,J a->J' a):Mw G s₀ env J' s s':=
 ⟨λb o e h1 h2 h3=>M.keep b o e h1 h2 λq=>h3 (h b q),λP' x v ok hp r=>M.val P' x v ok (λa q=>⟨(hp a q).1,λq'=>(hp a q).2 (h a q')⟩) r,M.gone,M.os,M.gens,M.bare⟩
theorem VR.taken {x:V} {v:aA} (r:VR G P h x v):VR G (λa=>P a/\h.get? a≠none) h x v:=VR.refine (λa o pa ho _=>⟨pa,λe=>cI (e.symm.trans ho)⟩) _ _ r
theorem rT {g g' g'':Array hU} (a: ∃more,g'=g++more) (b: ∃more,g''=g'++more): ∃more,g''=g++more:=a.elim λm e=>b.elim λm' e'=>⟨m++m',by rw[e',e,g6]⟩
theorem Mw.trans (M:Mw G s₀ env J s s') (N:Mw G s₀ env J' s' s'') (h: ∀a,J' a->J a\/s.heap.get? a=none):Mw G s₀ env J s s'':=
 ⟨λb o e h1 h2 h3=>N.keep b o (M.keep b o e h1 h2 h3) h1 h2 λq=>(h b q).elim h3 λh4=>cI (h4.symm.trans e),
  λP' x v ok hp r=>VR.mono (λa q=>q.1) _ _ (N.val _ x v ok (λa q=>⟨(hp a q.1).1,λq'=>(h a q').elim (hp a q.1).2 q.2⟩) (M.val _ x v ok (λa q=>hp a q.1) r.taken)),
  λa e=>M.gone a (N.gone a e),N.os.trans M.os,rT M.gens N.gens,λb=>N.bare (M.bare b)⟩
theorem Mw.stp (T:aY G s.heap) (X:cD G s s'):Mw G s₀ env J s s':=
 ⟨λb o e _ h2 _=>X.ext b o e h2,λ_ _ _ _ _ r=>VR.ext X.ext T _ _ r,λa e=>X.gone T e,X.os,X.gens,X.bare⟩
theorem Mw.trn {tk:Nat} (T:j2 G Z s.heap h') (hz: ∀a,Z a->i9 s₀ env a\/J a) (hg: ∀a,h'.get? a=none->s.heap.get? a=none):Mw G s₀ env J s {s with heap:=h',toks:=tk}:=
 ⟨λb o e h1 h2 h3=>T.k b o (λq=>(hz b q).elim h1 h3) h2 e,λP' x v ok hp r=>T.v P' x v ok (λa o q q' _ _=>(hz a q').elim (hp a q).1 (hp a q).2) r,hg,rfl,⟨#[],Array.append_empty.symm⟩,id⟩
theorem Mw.vals (M:Mw G s₀ env J s s') (hp: ∀a,P a-> ¬i9 s₀ env a/\ ¬J a) {l:List V}: ∀{vs:List aA},bo l=true->bh G P s.heap l vs->bh G P s'.heap l vs:=by
 induction l with
 |nil=>exact λ_ e=>e
 |cons x l ih=>exact λf r=>gC f λf1 f2=>r.imp λy r=>r.imp λys r=>⟨r.1,M.val P _ _ (fm f1) hp r.2.1,ih f2 r.2.2⟩
theorem Mw.close {I:aG} (M:Mw G s₀ env (λa=>J a\/a=I) s s') (h:s.heap.get? I=none):Mw G s₀ env J s s':=
 ⟨λb o e h1 h2 h3=>M.keep b o e h1 h2 λq=>q.elim h3 λq=>cI (h.symm.trans (q▸e)),
  λP' x v ok hp r=>VR.mono (λa q=>q.1) _ _ (M.val _ x v ok (λa q=>⟨(hp a q.1).1,λq'=>q'.elim (hp a q.1).2 λq'=>q.2 (q'▸h)⟩) r.taken),M.gone,M.os,M.gens,M.bare⟩
theorem cn.map {D:aG} (h1: ∀i,h.PlainList D i->h'.PlainList D i) (h2: ∀a o,h.get? a=some o->o.data= .plain-> ¬ca o->h'.get? a=some o) (h3: ∀m,h.Ns1 D m->h'.Ns1 D m) (hs: ∀l vs,bo l=true->bh G P h l vs->bh G P' h' l vs) (hk: ∀m ks l,bo l=true->lN G P h m ks l->lN G P' h' m ks l) {v:V} {w:aA} (r:cn G P h D v w):cn G P' h' D v w:=by
 cases v with
 |list l=>exact⟨r.1,r.2.1,r.2.2.imp λi q=>⟨h1 i q.1,hs _ _ r.2.1 q.2⟩⟩
 |inst ks l=>exact⟨r.1,r.2.imp λa q=>q.imp λm q=>⟨q.1,h2 _ _ q.2.1 rfl λs=>s.plain rfl,h3 m q.2.2.1,q.2.2.2.1,hk m _ _ r.1 q.2.2.2.2⟩⟩
 |_=>exact r.elim
theorem Ml.at_ {D:aG} {m:aN->Option aA} (x:h.Ns1 D m) (k: ∀o es ep,h.get? D=some o->o.data= .dict es ep->h'.get? D=some o):h'.Ns1 D m:=by
 refine obE33 x λo es ep e hd r=>?_
 exact⟨o,es,ep,k o es ep e hd,hd,r⟩
theorem rh (T:aY G h) {c:aG} {o:db} {es:Array B8} {ep:Nat} (ho:h.get? c=some o) (hd:o.data= .dict es ep):c∉G.tb:=T.off' ho λ_ e=>aI (hd.symm.trans e)
theorem cn.trn (T:j2 G Z h h') (TO:aY G h) (hp: ∀a o,P a->Z a->h.get? a=some o-> ¬ca o) {D:aG} (hD: ¬Z D) {v:V} {w:aA} (r:cn G P h D v w):cn G P h' D v w:=
 r.map (λi (q:h.PlainList D i)=>q.imp λ_ ho=>T.k _ _ hD (TO.off' ho λ_=>aI) ho) (λa o e hd hs=>T.hard TO e hs λ_ e=>aI (hd.symm.trans e)) (λm q=>Ml.at_ q λo es ep e hd=>T.k _ _ hD (rh TO e hd) e) (λl vs f=>T.vals hp f) λm ks l f=>T.valk hp m f
theorem cn.mono (hp: ∀a,P a->P' a) {D:aG} {v:V} {w:aA} (r:cn G P h D v w):cn G P' h D v w:=r.map (λ_ q=>q) (λ_ _ e _ _=>e) (λ_ q=>q) (λ_ _ _=>bh.mono hp _ _) λm _ _ _=>lN.mono hp m _ _
theorem cn.refine (hl: ∀a o,P a->h.get? a=some o->P' a) {D:aG} {v:V} {w:aA} (r:cn G P h D v w):cn G P' h D v w:=r.map (λ_ q=>q) (λ_ _ e _ _=>e) (λ_ q=>q) (λ_ _ _=>bh.refine (λa o p e _=>hl a o p e) _ _) λm _ _ _=>lN.refine (λa o p e _=>hl a o p e) m _ _
theorem zY.trn (T:j2 G Z h h') (TO:aY G h) {x:Nat} (hm: ∀v,m (G.n x)=some v->m' (G.n x)=some v) (hc: ∀c w,env.cells.lookup (G.n x)=some c->h.IsCell c w-> ¬Z c):zY G env m m' h h' x:=
 ⟨hm,λc w e r=>r.imp λ_ q=>⟨T.k _ _ (hc c w e r) (oM TO q.1 q.2) q.1,q.2⟩,λ_ _ _ e hd _=>T.hard TO e (λq=>q.func hd) λ_ e=>aI (hd.symm.trans e),λ_ _ e=>T.code _ _ e⟩
section
variable {x:Nat} {sl:cA} {w:aA}
theorem aw.oE (r:aw G P s₀ env io W h x sl w) (hk:sl.k.owner=true): ∃D,W x=some D/\((sl.k= .inout->io D)/\(sl.k≠ .inout->s₀.heap.get? D=none))/\cn G (λa=>P a/\gL s₀ env W a) h D sl.v w:=by
 unfold aw at r
 rw[if_pos hk]at r
 exact r
theorem aw.fE (r:aw G P s₀ env io W h x sl w) (hk: ¬sl.k.owner=true):sl.v.okV=true/\VR G (λa=>(sl.k= .safe->P a)/\gL s₀ env W a) h sl.v w:=by
 unfold aw at r
 rw[if_neg hk]at r
 exact r
theorem aw.oI (hk:sl.k.owner=true) (r: ∃D,W x=some D/\((sl.k= .inout->io D)/\(sl.k≠ .inout->s₀.heap.get? D=none))/\cn G (λa=>P a/\gL s₀ env W a) h D sl.v w):aw G P s₀ env io W h x sl w:=by
 unfold aw
 rw[if_pos hk]
 exact r
theorem aw.fI (hk: ¬sl.k.owner=true) (r:sl.v.okV=true/\VR G (λa=>(sl.k= .safe->P a)/\gL s₀ env W a) h sl.v w):aw G P s₀ env io W h x sl w:=by
 unfold aw
 rw[if_neg hk]
 exact r
theorem aw.map (ho:sl.k.owner=true-> ∀D,W x=some D->cn G (λa=>P a/\gL s₀ env W a) h D sl.v w->W' x=some D/\cn G (λa=>P a/\gL s₀ env W' a) h' D sl.v w) (hf:sl.v.okV=true->VR G (λa=>(sl.k= .safe->P a)/\gL s₀ env W a) h sl.v w->VR G (λa=>(sl.k= .safe->P a)/\gL s₀ env W' a) h' sl.v w) (r:aw G P s₀ env io W h x sl w):aw G P s₀ env io W' h' x sl w:=by
 by_cases hk:sl.k.owner=true
 ·exact .oI hk ((r.oE hk).imp λD q=>⟨(ho hk D q.1 q.2.2).1,q.2.1,(ho hk D q.1 q.2.2).2⟩)
 ·exact .fI hk ⟨(r.fE hk).1,hf (r.fE hk).1 (r.fE hk).2⟩
end
theorem aw.trn (T:j2 G Z h h') (TO:aY G h) (hz: ∀a o,gL s₀ env W a->Z a->h.get? a=some o-> ¬ca o) {x:Nat} (hW: ∀D,W x=some D-> ¬Z D) {sl:cA} {w:aA} (r:aw G P s₀ env io W h x sl w):aw G P s₀ env io W h' x sl w:=
 r.map (λ_ D e r=>⟨e,r.trn T TO (λa o q=>hz a o q.2) (hW D e)⟩) λok r=>T.v _ _ _ ok (λa o q=>hz a o q.2) r
theorem aw.refine (hO: ∀a o,gL s₀ env W a->h.get? a=some o->gL s₀ env W' a) {x:Nat} {sl:cA} (hW:sl.k.owner=true-> ∀D,W x=some D->W' x=some D) {w:aA} (r:aw G P s₀ env io W h x sl w):aw G P s₀ env io W' h x sl w:=
 r.map (λhk D e r=>⟨hW hk D e,r.refine λa o q e=>⟨q.1,hO a o q.2 e⟩⟩) λ_ r=>VR.refine (λa o q e _=>⟨q.1,hO a o q.2 e⟩) _ _ r
theorem SI.locE (I:SI G P s₀ env io W st s): ∃o es ep,s.heap.get? env.locals=some o/\o.data= .dict es ep:=I.ns.elim λ_ H=>H.1.imp λ_ e=>e.imp λ_ e=>e.imp λ_ e=>⟨e.1,e.2.1⟩
theorem SI.cellNe (I:SI G P s₀ env io W st s) {c:aG} {w:Option aA} (hc:s.heap.IsCell c w):NW env W c:=
 hc.elim λo q=>⟨λe=>obE31 I.locE λ_ _ _ r=>aI (r.2.symm.trans ((congrArg ik (aC (r.1.symm.trans (e▸q.1)))).trans q.2)),
  λx e=>(I.ws x c e).2.2.elim λ_ r=>r.2.2 _ ((congrArg ik (aC (r.1.symm.trans q.1))).trans q.2)⟩
structure K8 (G:Gl) (N:aG->Prop) (h:ah):Prop where
 v: ∀P' x w,VR G P' h x w->VR G (λa=>P' a/\N a) h x w
 l: ∀P' l,sP G true P' (λa=>P' a/\N a) h h l
theorem SI.trnN {N:aG->Prop} (X:K8 G N s.heap) (I:SI G P s₀ env io W st s) (T:j2 G Z s.heap s'.heap) (TT:aY G s'.heap) (hg: ∀a,s'.heap.get? a=none->s₀.heap.get? a=none) (hb: ∀a,Z a->G.h0.get? a=none) (hz: ∀a,Z a-> ¬i9 s₀ env a/\(∀x,W x≠some a)/\ ∀y,env.cells.lookup y≠some a) (hso: ∀a o,Z a->N a->s.heap.get? a=some o-> ¬ca o):SI G P s₀ env io W st s':=
 ⟨TT,λb o e=>T.k _ _ (λq=>cI ((hb b q).symm.trans e)) (λhm=>(aP.mp hm).elim λq r=>cI ((G.h0t q r.1).symm.trans (r.2▸e))) (I.base b o e),hg,
  I.ns.imp λm H=>⟨H.1.imp λ_ e=>e.imp λ_ e=>e.imp λ_ e=>⟨T.k _ _ (λq=>(hz _ q).1 (.inl rfl)) (rh I.tabs e.1 e.2.1) e.1,e.2⟩,λx sl e=>(H.2 x sl e).map (.trn T I.tabs (λ_ e=>e) λc _ hc _ hzc=>(hz _ hzc).2.2 _ hc) λ_ w r=>
   r.map (λ_ D e r=>⟨e,((r.map (P':=λa=>(P a/\gL s₀ env W a)/\N a) (λ_ q=>q) (λ_ _ e _ _=>e) (λ_ q=>q) (λl _ _=>(X.l _ l).s _) λm _ l _=>(X.l _ l).k m _).trn T I.tabs (λa o q hza e=>hso a o hza q.2 e) λhzD=>(hz _ hzD).2.1 _ e).mono λ_ q=>q.1⟩) λok r=>VR.mono (λa q=>q.1) _ _ (T.v _ _ _ ok (λa o q hza e=>hso a o hza q.2 e) (X.v _ _ _ r))⟩,
  λx c hc=>(I.cells x c hc).imp λv e=>e.imp λ_ q=>⟨T.k _ _ (λhzc=>(hz _ hzc).2.2 _ hc) (oM I.tabs q.1 q.2) q.1,q.2⟩,
  λx D hx=>(I.ws x D hx).imp_right λr=>r.imp_right λr=>r.imp λo q=>⟨T.k _ _ (λq=>(hz _ q).2.1 _ hx) (I.tabs.off' q.1 λ_ e=>q.2.1.fields e) q.1,q.2⟩,I.inj⟩
theorem SI.trn (I:SI G P s₀ env io W st s) (T:j2 G Z s.heap s'.heap) (TT:aY G s'.heap) (hg: ∀a,s'.heap.get? a=none->s₀.heap.get? a=none) (hb: ∀a,Z a->G.h0.get? a=none) (hz: ∀a,Z a-> ¬i9 s₀ env a/\(∀x,W x≠some a)/\ ∀y,env.cells.lookup y≠some a) (hso: ∀a o,Z a->s.heap.get? a=some o-> ¬ca o):SI G P s₀ env io W st s':=
 I.trnN (N:=λ_=>True) ⟨λP' x w r=>VR.mono (λa q=>⟨q,trivial⟩) _ _ r,λP' l=>sP.all (.mono λa q=>⟨q,trivial⟩) l (.inl rfl)⟩ T TT hg hb hz λa o h1 _=>hso a o h1
end
end
section
open PySem.Spec PySem.Calls PyProof.Rows PySem.W
noncomputable def Ow.upd (W:Ow) (x:Nat) (d:Option aG):Ow:=λy=>if y=x then d else W y
section
variable {G:Gl} {A:aZ} {E:aA->aD->Prop} {P P':aG->Prop} {s₀ s s' s'':aD} {env:cg} {io J J' Z:aG->Prop} {W W':Ow} {h h':ah} {md n:Nat} {st st':St} {r:Ev} {m m':aN->Option aA}
theorem SI.sub (I:SI G P s₀ env io W st' s) (hs:BM st st'):SI G P s₀ env io W st s:=⟨I.tabs,I.base,I.gone,I.ns.imp λm H=>⟨H.1,λx sl e=>H.2 x sl (hs x sl e)⟩,I.cells,I.ws,I.inj⟩
theorem SI.up (I:SI G P s₀ env io W st s) (Y:cD G s s'):SI G P s₀ env io W st s':=
 I.trn (Z:=λ_=>False) (j2.ext I.tabs Y.ext λ_ q=>q.elim) Y.tabs (λa e=>I.gone a (Y.gone I.tabs e)) (λ_ q=>q.elim) (λ_ q=>q.elim) λ_ _ q=>q.elim
theorem SI.notW (I:SI G P s₀ env io W st s) {a:aG} (e:s.heap.get? a=none):NW env W a:=
 ⟨λhc=>obE31 I.locE λ_ _ _ r=>cI (e.symm.trans (hc▸r.1)),λx hx=>(I.ws x a hx).2.2.elim λ_ r=>cI (e.symm.trans r.1)⟩
theorem nI {k:SK} (h:k.owner=true):k≠ .nd/\decide (k= .safe)=false:=by cases k<;>first|(cases h;done)|exact⟨(λh=>SK.noConfusion h),rfl⟩
theorem cn.free {D:aG} {v:V} {w:aA} (r:cn G P h D v w) (hD:P' D) (hs: ∀l vs,bh G P h l vs->bh G P' h l vs) (hk: ∀m ks l,lN G P h m ks l->lN G P' h m ks l):v.okV=true/\VR G P' h v w:=by
 cases v with
 |list l=>exact⟨r.2.1,D,r.2.2.imp λi q=>⟨r.1,hD,q.1,hs _ _ q.2⟩⟩
 |inst ks l=>exact⟨r.1,r.2.imp λa q=>⟨D,q.imp λm q=>⟨q.1,q.2.1,hD,q.2.2.1.ns,q.2.2.2.1,hk m _ _ q.2.2.2.2⟩⟩⟩
 |_=>exact r.elim
theorem SI.fre (S:FX G md P s₀ env io) (I:SI G P s₀ env io W st s):g9 G md (yZ P env W) env st s.heap where
 kind:=S.kind
 globals:=S.globals
 builtins:=S.builtins
 base:=I.base
 tabs:=I.tabs
 fresh:=λa ha=>⟨S.fresh a (I.gone a ha),I.notW ha⟩
 ns:=I.ns.imp λm H=>⟨H.1,λx sl e=>(H.2 x sl e).map .refl λ_ w r=>by
  by_cases hko:sl.k.owner=true
  ·rw[(nI hko).2]
   exact(r.oE hko).elim λD q=>q.2.2.free nofun (λ_ _=>bh.mono (λ_ _=>nofun) _ _) λm _ _=>lN.mono (λ_ _=>nofun) m _ _
  ·exact(r.fE hko).imp_right (VR.mono (λa q hf=>⟨q.1 (of_decide_eq_true hf),q.2.1,q.2.2.1⟩) _ _)⟩
 lam:=λhm=>(S.lam hm).imp_right λh2 x c hc=>⟨h2 x c hc,(I.cells x c hc).elim λv hv=>I.cellNe hv⟩
theorem SI.chg (S:FX G md P s₀ env io) (I:SI G P s₀ env io W st s) {Z:aG} (hz:i9 s₀ env Z): ∃o,s.heap.get? Z=some o/\ca o/\s₀.heap.get? Z=none/\ ∀x,W x≠some Z:=
 hz.elim (λe=>I.locE.imp λo r=>obE21 r λes ep r=>e▸⟨r.1,.inr (.inr ⟨es,ep,r.2⟩),S.locNew,λx hx=>(I.ws x _ hx).2.1 rfl⟩)
  λe=>e.elim λx q=>(I.cells x Z q.1).elim λv hv=>hv.imp λo r=>⟨r.1,.inr (.inl ⟨v,r.2⟩),q.2,(I.cellNe hv).2⟩
theorem z6.offW {a:aG} (hz:i9 s₀ env a) (q:gL s₀ env W a):False:=hz.elim q.1 λe=>e.elim λy r=>q.2.2 y r.1 r.2
theorem gV {G:Gl} {h:ah} (K:fy G h) {a:aG} (e:h.get? a=none):G.h0.get? a=none:=du.mpr λo q=>cI (e.symm.trans (K _ _ q))
theorem SI.keepBase (I:SI G P s₀ env io W st s) {Z:aG} (h0:G.h0.get? Z=none) (k: ∀b o,b≠Z->s.heap.get? b=some o->h'.get? b=some o):fy G h':=λb o e=>k b o (λhh=>cI (h0.symm.trans (hh▸e))) (I.base b o e)
theorem SI.turned (S:FX G md P s₀ env io) (I:SI G P s₀ env io W st s) {x:Nat} {nm:aN} {sl:cA} {m m':aN->Option aA} (hs: ∀x sl,st.get x=some sl->zX G P s₀ env io W m s.heap x sl) (hid:G.T.id nm=some x) {h':ah} {tk:Nat} {Z:aG} (hz:i9 s₀ env Z) (hsb:de Z s.heap h')
  (hsl:j2 G (· =Z) s.heap h'->(∀x,W x≠some Z)->zX G P s₀ env io W m' h' x sl) (hm':h'.Ns env.locals m') (hmo: ∀y,y≠nm->m' y=m y) (hnz: ∀y c w,y≠nm->env.cells.lookup y=some c->s.heap.IsCell c w->c≠Z) (hcn: ∀c,env.cells.lookup nm=some c-> ∃w,h'.IsCell c w) (hoz:h'.get? Z≠none):
  SI G P s₀ env io W (st.put x sl) {s with heap:=h',toks:=tk}/\Mw G s₀ env J s {s with heap:=h',toks:=tk}/\(∀x sl w,aw G P s₀ env io W s.heap x sl w->aw G P s₀ env io W h' x sl w):=by
 refine nk λcq=>?_
 refine obE14 (I.chg S hz) λo hZ hso hZn hZW=>?_
 refine cq ?_
 have k: ∀b o,b≠Z->s.heap.get? b=some o->h'.get? b=some o:=λb o hb e=>(hsb.2 b hb).trans e
 have T:=j2.softAt (G:=G) hZ hso k
 have hg: ∀a,h'.get? a=none->s.heap.get? a=none:=λa e=>(hsb.2 a λq=>hoz (q▸e)).symm.trans e
 have rel: ∀x sl w,aw G P s₀ env io W s.heap x sl w->aw G P s₀ env io W h' x sl w:=λx sl w q=>q.trn T I.tabs (λa o q e _ _=>z6.offW (e▸hz) q) λD hD e=>hZW x (e▸hD)
 refine⟨⟨I.tabs.butS hZ hso k,I.keepBase (gV S.base hZn) k,λa e=>I.gone a (hg a e),⟨m',hm',λy sl' e=>?_⟩,λy c hc=>?_,λy D hy=>(I.ws y D hy).imp_right λr=>r.imp_right λr=>r.imp λo' q=>⟨k _ _ (λe=>hZW y (e▸hy)) q.1,q.2⟩,I.inj⟩,Mw.trn T (λa e=> .inl (e▸hz)) hg,rel⟩
 ·rw[St.get_put]at e
  refine fF e (λhy e'=>?_) λhy e=>?_
  ·simp only[hy,<-aC e'];exact hsl T hZW
  ·have hne:G.n y≠nm:=λe'=>hy (aC ((hs y sl' e).1.symm.trans (by rw[e'];exact hid)))
   exact(hs y sl' e).map (.trn T I.tabs (λw e=>(hmo _ hne).trans e) λc w hc hw e=>hnz _ c w hne hc hw e) λ_ w=>rel _ _ _
 ·by_cases hy:y=nm
  ·clear hid hmo hnz;subst hy;exact hcn c hc
  ·exact(I.cells y c hc).imp λw hw=>hw.imp λ_ q=>⟨k _ _ (hnz y c w hy hc hw) q.1,q.2⟩
theorem SI.storeG (S:FX G md P s₀ env io) (I:SI G P s₀ env io W st s) {x:Nat} {nm:aN} {v:aA} {sl:cA} {Q:Unit->aD->Prop} (hid:G.T.id nm=some x) (ho:eX env.scope nm=true)
  (hsl: ∀(h':ah) m' Z,i9 s₀ env Z->j2 G (· =Z) s.heap h'->(∀x,W x≠some Z)->iV env m' h' nm v->zX G P s₀ env io W m' h' x sl)
  (h: ∀s',SI G P s₀ env io W (st.put x sl) s'->Mw G s₀ env J s s'->(∀x sl w,aw G P s₀ env io W s.heap x sl w->aw G P s₀ env io W s'.heap x sl w)->Q () s'):aF G.M A (jB env nm v) Q E s:=by
 refine obE12 I.ns λm hm hs=>?_
 refine(S.own nm ho).elim (λhl=>?_) λe=>e.2.elim λc q=>(I.cells nm c q.1).elim λw hw=>?_
 ·refine nY (hp:=(S.kind)▸rfl) hl hm λh' hns hsb=>?_
  have hloc:h'.get? env.locals≠none:=obE21 hns λo _ r=>r.elim λ_ r e=>cI (e.symm.trans r.1)
  have r:=I.turned (J:=J) (tk:=s.toks+1) S hs hid (.inl rfl) hsb (λT z=>hsl _ _ _ (.inl rfl) T z (.inl ⟨hl,if_pos rfl⟩)) hns (λy hy=>if_neg hy) (λy c w _ _ hw=>(I.cellNe hw).1) (λc hc=>(I.cells nm c hc).imp λw hw=>hw.imp λo q=>⟨(hsb.2 c (I.cellNe hw).1).trans q.1,q.2⟩) hloc
  exact h _ r.1 r.2.1 r.2.2
 ·have hcC:c≠env.locals:=(I.cellNe hw).1
  refine wpAny_storeName_cell S.kind e.1 q.1 hw λh' hcell hsb=>?_
  have r:=I.turned (J:=J) (tk:=s.toks) S hs hid (.inr ⟨nm,q⟩) hsb (λT z=>hsl _ m _ (.inr ⟨nm,q⟩) T z (.inr ⟨.inl e.1,c,q.1,hcell⟩)) (hm.imp λo r=>r.imp λ_ r=>r.imp λ_ r=>⟨(hsb.2 _ (dE hcC)).trans r.1,r.2⟩) (λ_ _=>rfl) (λy c' w' hy hc' _ e=>hy (S.inj _ _ _ hc' (e▸q.1) (e▸q.2))) (λc' h1=>aC (q.1.symm.trans h1)▸⟨_,hcell⟩) (hcell.elim λo r e=>cI (e.symm.trans r.1))
  exact h _ r.1 r.2.1 r.2.2
theorem SI.store (S:FX G md P s₀ env io) (I:SI G P s₀ env io W st s) {x:Nat} {nm:aN} {v:aA} {sl:cA} {Q:Unit->aD->Prop} (hid:G.T.id nm=some x) (ho:eX env.scope nm=true) (hk:sl.k≠ .nd) (rel:aw G P s₀ env io W s.heap x sl v)
  (h: ∀s',SI G P s₀ env io W (st.put x sl) s'->Mw G s₀ env J s s'->(∀x sl w,aw G P s₀ env io W s.heap x sl w->aw G P s₀ env io W s'.heap x sl w)->Q () s'):aF G.M A (jB env nm v) Q E s:=
 have hnx:G.n x=nm:=Gl.n_id hid
 I.storeG (J:=J) S hid ho (λh' m' Z hz T hZW hh=> .at_ (by rw[hnx];exact hid) hk (v:=v) (by rw[hnx];exact hh) (rel.trn T I.tabs (λa o q e _ _=>z6.offW (e▸hz) q) λD hD e=>hZW x (e▸hD))) h
theorem SI.turnG (S:FX G md P s₀ env io) (I:SI G P s₀ env io W st s) {x:Nat} {sl:cA} {v':V} {D:aG} (e:st.get x=some sl) (hk:sl.k.owner=true) (hW:W x=some D) (T:j2 G (· =D) s.heap s'.heap) (TT:aY G s'.heap) (hg: ∀a,s'.heap.get? a=none->s.heap.get? a=none) (hD': ∃o,s'.heap.get? D=some o/\ca o/\ ∀v,o.data≠ .cell v)
  (rel: ∀w,cn G (λa=>P a/\gL s₀ env W a) s.heap D sl.v w->cn G (λa=>P a/\gL s₀ env W a) s'.heap D v' w):SI G P s₀ env io W (st.put x ⟨sl.k,v'⟩) s':=by
 have d:=I.ws x D hW
 have hcD: ∀c w,s.heap.IsCell c w->c≠D:=λc w hw e=>(I.cellNe hw).2 x (e▸hW)
 have mv: ∀y,∀m:aN->Option aA,zY G env m m s.heap s'.heap y:=λy m=> .trn T I.tabs (λ_ e=>e) λc w _ hw e=>hcD c w hw e
 have h0:G.h0.get? D=none:=d.1.elim (gV S.base) (S.ioNew D)
 refine⟨TT,λb o e=>T.k _ _ (λq=>cI (h0.symm.trans (q▸e))) (λhm=>(aP.mp hm).elim λq r=>cI ((G.h0t q r.1).symm.trans (r.2▸e))) (I.base b o e),λa e=>I.gone a (hg a e),I.ns.imp λm H=>⟨H.1.imp λo1 r=>r.imp λ_ r=>r.imp λ_ r=>⟨T.k _ _ (dE d.2.1) (rh I.tabs r.1 r.2.1) r.1,r.2⟩,λy sl' e'=>?_⟩,λy c hc=>(I.cells y c hc).imp λw r=>r.imp λo' q=>⟨T.k _ _ (hcD c w r) (oM I.tabs q.1 q.2) q.1,q.2⟩,λy D' hy=>?_,I.inj⟩
 ·rw[St.get_put]at e'
  refine fF e' (λhy e1=>?_) λhy e1=>?_
  ·have hnd:=(nI hk).1
   refine(hy)▸?_
   refine(aC e1)▸?_
   have H2:=H.2 x sl e
   exact(H2.el hnd).elim λw r=> .at_ H2.1 hnd ((mv x m).holds r.1) (.oI hk ((r.2.oE hk).imp λD' q=>⟨q.1,q.2.1,by
    have e3:D=D':=aC (hW.symm.trans q.1)
    exact e3▸rel w (e3▸q.2.2)⟩))
  ·exact(H.2 y sl' e1).map (mv y m) λ_ w r=>r.trn T I.tabs (λa o q e _ _=>q.2.1 x (e▸hW)) λD' hD' e=>hy (I.inj _ _ _ hD' (e▸hW))
 ·refine(I.ws y D' hy).imp_right λr=>r.imp_right λr=>?_
  by_cases hDD:D'=D
  ·exact hDD▸hD'
  ·exact r.imp λo' q=>⟨T.k _ _ hDD (I.tabs.off' q.1 λ_ e=>q.2.1.fields e) q.1,q.2⟩
theorem D8 {D:aG} (hD':h'.get? D≠none\/h.get? D=none) (k: ∀b o,b≠D->h.get? b=some o->h'.get? b=some o) {a:aG} (e:h'.get? a=none):h.get? a=none:=by
 by_cases ha:a=D
 ·exact hD'.elim (λq=>(q (ha▸e)).elim) λq=>ha▸q
 ·exact du.mpr λo q=>cI (e.symm.trans (k a o ha q))
theorem SI.turn (S:FX G md P s₀ env io) (I:SI G P s₀ env io W st s) {x:Nat} {sl:cA} {v':V} {D:aG} {o:db} {tk:Nat} (e:st.get x=some sl) (hk:sl.k.owner=true) (hW:W x=some D) (hD:s.heap.get? D=some o) (hs:ca o)
  (k: ∀b o,b≠D->s.heap.get? b=some o->h'.get? b=some o) (hD': ∃o,h'.get? D=some o/\ca o/\ ∀v,o.data≠ .cell v)
  (rel: ∀w,cn G (λa=>P a/\gL s₀ env W a) s.heap D sl.v w->cn G (λa=>P a/\gL s₀ env W a) h' D v' w):SI G P s₀ env io W (st.put x ⟨sl.k,v'⟩) {s with heap:=h',toks:=tk}/\Mw G s₀ env (· =D) s {s with heap:=h',toks:=tk}:=
 have T:=j2.softAt (G:=G) hD hs k
 have hg:=λa=>D8 (a:=a) (.inl (hD'.elim λ_ r q=>cI (q.symm.trans r.1))) k
 ⟨I.turnG (s':={s with heap:=h',toks:=tk}) S e hk hW T (I.tabs.butS hD hs k) hg hD' rel,Mw.trn T (λa e=> .inr e) hg⟩
theorem SI.claim (I:SI G P s₀ env io W st s) (Y:cD G s s') (hW: ∀y,W' y=W y\/W' y=none\/ ∃D o,W' y=some D/\s.heap.get? D=none/\s'.heap.get? D=some o/\ca o/\ ∀v,o.data≠ .cell v) (hx: ∀y sl,st.get y=some sl->sl.k.owner=true->W' y=W y) (hinj: ∀x y D,W' x=some D->W' y=some D->x=y):SI G P s₀ env io W' st s':=by
 have I2:=I.up Y
 have TT:=j2.ext (Z:=λ_=>False) I.tabs Y.ext λ_ q=>q.elim
 refine⟨I2.tabs,I2.base,I2.gone,I.ns.imp λm H=>⟨(Y.ext.all I.tabs).ns H.1,λy sl e=>(H.2 y sl e).map (.ext Y.ext I.tabs) λ_ w r=>(r.refine (W':=W') (λa o q e=>⟨q.1,λz hz=>(hW z).elim (λh3=>q.2.1 z (h3▸hz)) λh3=>h3.elim (λh3=>cI (h3.symm.trans hz)) λr=>obE21 r λD o' r=>cI (r.2.1.symm.trans (aC (r.1.symm.trans hz)▸e)),q.2.2⟩) λhko D' hD'=>(hx y sl e hko).trans hD').trn TT I.tabs (λ_ _ _ q=>q.elim) λ_ _ q=>q⟩,I2.cells,λy D' hy=>?_,hinj⟩
 refine(hW y).elim (λh3=>I2.ws y D' (h3▸hy)) λh3=>h3.elim (λh3=>cI (h3.symm.trans hy)) λr=>obE21 r λD o' r=>?_
 refine(aC (r.1.symm.trans hy))▸?_
 exact⟨.inl (I.gone _ r.2.1),(I.notW r.2.1).1,o',r.2.2⟩
theorem SI.dne (I:SI G P s₀ env io W st s) {y:Nat} {D D':aG} (hy:W y=some D') (hD:s.heap.get? D=none):D'≠D:=λe=>(I.notW hD).2 y (e▸hy)
def iw (W:Ow) (st:St) (a:aG):Prop:= ∃x sl,st.get x=some sl/\(sl.k= .own\/sl.k= .inout)/\W x=some a
structure dK (W:Ow) (st:St) (s:aD) (W':Ow) (st':St):Prop where
 mt: ∀a,iw W' st' a->iw W st a\/s.heap.get? a=none
 ws: ∀x a,W' x=some a->(∃y,W y=some a)\/s.heap.get? a=none
 ln: ∀x sl,st'.get x=some sl->sl.k= .lent->W' x=W x/\ ∃sl0,st.get x=some sl0/\sl0.k= .lent
theorem dK.refl:dK W st s W st:=⟨λ_ q=> .inl q,λx _ q=> .inl ⟨x,q⟩,λ_ sl e k=>⟨rfl,sl,e,k⟩⟩
theorem dK.trans {W'':Ow} {st'':St} (a:dK W st s W' st') (b:dK W' st' s' W'' st'') (hg: ∀a,s'.heap.get? a=none->s.heap.get? a=none):dK W st s W'' st'':=
 ⟨λx q=>(b.mt x q).elim (a.mt x) λq=> .inr (hg x q),λx y q=>(b.ws x y q).elim (λe=>e.elim λz q=>a.ws z y q) λq=> .inr (hg y q),
  λx sl e k=>(b.ln x sl e k).2.elim λsl0 q=>⟨(b.ln x sl e k).1.trans (a.ln x sl0 q.1 q.2).1,(a.ln x sl0 q.1 q.2).2⟩⟩
theorem iM {x y:Nat} {sl sl':cA} {Z:Prop} (e:(st.put x sl).get y=some sl') (k1:y=x->sl=sl'->Z) (k2:y≠x->st.get y=some sl'->Z):Z:=by
 rw[St.get_put]at e
 exact fF e (λhy e=>k1 hy (aC e)) k2
theorem dK.put {x:Nat} {sl:cA} (hk:sl.k.owner=false):dK W st s W (st.put x sl):=
 ⟨λa q=>obE21 q λy sl' q=>iM q.1 (λ_ e=>by rw[e]at hk;rcases q.2.1 with q2|q2<;>rw[q2]at hk<;>cases hk) λ_ e=> .inl ⟨y,sl',e,q.2⟩,λx _ q=> .inl ⟨x,q⟩,
  λy sl' e k=>iM e (λ_ e=>by rw[e,k]at hk;cases hk) λ_ e=>⟨rfl,sl',e,k⟩⟩
theorem Ow.upd_none {x y:Nat} {D:aG} (hy:(W.upd x none) y=some D):y≠x/\W y=some D:=fF (show(if y=x then none else W y)=some D from hy) (λ_ e=>cI e) λh e=>⟨h,e⟩
theorem SI.freeze1 (S:FX G md P s₀ env io) (I:SI G P s₀ env io W st s) {x:Nat} {v:V} (e:st.get x=some ⟨.own,v⟩):SI G P s₀ env io (W.upd x none) (st.put x ⟨.safe,v⟩) s:=by
 have off: ∀a,gL s₀ env W a->gL s₀ env (W.upd x none) a:=λa q=>⟨q.1,λy hy=>q.2.1 y (Ow.upd_none hy).2,q.2.2⟩
 refine⟨I.tabs,I.base,I.gone,I.ns.imp λm H=>⟨H.1,λy sl e'=>iM e' (λhy e1=>?_) λhy e1=>(H.2 y sl e1).map .refl λ_ w r=>r.refine (λa o q _=>off a q) λ_ D hD=>(if_neg hy).trans hD⟩,I.cells,λy D hy=>I.ws y D (Ow.upd_none hy).2,λy z D hy hz=>I.inj y z D (Ow.upd_none hy).2 (Ow.upd_none hz).2⟩
 rw[hy,<-e1]
 have H2:=H.2 x _ e
 refine(H2.el (λh=>SK.noConfusion h)).elim λw r=> .at_ H2.1 (λh=>SK.noConfusion h) r.1 (.fI bR ?_)
 refine(r.2.oE rfl).elim λD q=>?_
 have nJ:gL s₀ env (W.upd x none) D:=
  have d:=I.ws x D q.1
  ⟨d.2.1,λz hz=>(Ow.upd_none hz).1 (I.inj _ _ _ (Ow.upd_none hz).2 q.1),λz hz _=>(I.cells z D hz).elim λc r=>(I.cellNe r).2 x q.1⟩
 exact q.2.2.free ⟨λ_=>S.fresh D (q.2.1.2 (λh=>SK.noConfusion h)),nJ⟩ (λ_ _=>bh.mono (λa q=>⟨λ_=>q.1,off a q.2⟩) _ _) λm _ _=>lN.mono (λa q=>⟨λ_=>q.1,off a q.2⟩) m _ _
theorem SI.freeze (S:FX G md P s₀ env io): ∀(xs:List Nat) (W:Ow) (st:St),SI G P s₀ env io W st s-> ∃W',SI G P s₀ env io W' (freeze st xs) s/\dK W st s W' (freeze st xs):=by
 intro xs
 induction xs with
 |nil=>exact λW st I=>⟨W,I,.refl⟩
 |cons y xs ih=>
  intro W st I
  unfold Mine.freeze
  rw[lb]
  have key: ∃W',SI G P s₀ env io W' (Mine.freeze1 st y) s/\dK W st s W' (Mine.freeze1 st y):=by
   unfold Mine.freeze1
   split
   ·rename_i v e
    exact⟨_,I.freeze1 S e,λa q=> .inl (q.elim λx q=>q.elim λsl q=>iM q.1 (λ_ e=>by rcases q.2.1 with k|k<;>rw[<-e]at k<;>cases k) λhx e=>⟨x,sl,e,q.2.1,(Ow.upd_none q.2.2).2⟩),λx a q=> .inl ⟨x,(Ow.upd_none q).2⟩,λx sl e k=>iM e (λ_ e=>by rw[<-e]at k;cases k) λhx e=>⟨if_neg hx,sl,e,k⟩⟩
   ·exact⟨W,I,.refl⟩
  refine nk λcq=>?_
  refine obE12 key λW1 I1 m1=>?_
  refine obE12 (ih W1 _ I1) λW2 I2 m2=>?_
  refine cq ?_
  exact⟨W2,I2,m1.trans m2 λ_ q=>q⟩
end
end
section
open PySem.Spec PySem.Calls PyProof.Rows PySem.W
def tv (G:Gl) (P:aG->Prop) (cL:f9) (f:eR) (s:aD):Prop:=match cL with
 | .next=>f= .next
 | .brk=>f= .brk
 | .ret v fl=> ∃w,f= .ret w/\v.firm=true/\VR G (Pm fl P) s.heap v w
def lP (G:Gl) (P:aG->Prop) (s₀:aD) (env:cg) (io:aG->Prop) (W:Ow) (st:St) (s:aD) (cL:f9) (st':St) (Q:eR->aD->Prop):Prop:=
 ∀f s' W',tv G P cL f s'->SI G P s₀ env io W' st' s'->Mw G s₀ env (iw W st) s s'->dK W st s W' st'->Q f s'
def eH (G:Gl) (n:Nat) (r:Ev):Prop:=
 ∀(md:Nat) (P:aG->Prop) (s₀:aD) (env:cg) (io:aG->Prop) (W:Ow) (st:St) (A:aZ) (E:aA->aD->Prop) (s:aD) (Q:eR->aD->Prop) (m:Nat) (ow:List Nat) (c:ed) (cL:f9) (st':St),
  r.s st (lj (G4 (G.Tl md) ow m env.scope c))=some (cL,st')->FX G md P s₀ env io->SI G P s₀ env io W st s->cw n A->lP G P s₀ env io W st s cL st' Q->aF G.M A (gY c env) Q E s
section
variable {G:Gl} {A:aZ} {E:aA->aD->Prop} {P P':aG->Prop} {s₀ s s' s'':aD} {env:cg} {io J J' Z:aG->Prop} {W W':Ow} {h h':ah} {md n:Nat} {st st':St} {r:Ev} {m m':aN->Option aA}
theorem Mw.stepS (T:aY G s.heap) (X:cD G s s') {s'':aD} (M:Mw G s₀ env J s' s''):Mw G s₀ env J s s'':=(Mw.stp T X).trans M λ_ q=> .inl q
theorem lP.of {cL out':f9} {st1:St} {Q:eR->aD->Prop} (h:lP G P s₀ env io W st s cL st' Q) (e:some (out',st1)=some (cL,st')):lP G P s₀ env io W st s out' st1 Q:=rN (C:=λo t=>lP G P s₀ env io W st s o t Q) e h
theorem jP (IH:eH G n r) (S:FX G md P s₀ env io) (O:cw n A) {m:Nat} {ow:List Nat}: ∀(cs:List ed) (W:Ow) (st:St) (s:aD) (Q:eR->aD->Prop) (cL:f9) (st':St),af r.s (qx (G.Tl md) ow m env.scope cs) st=some (cL,st')->
  SI G P s₀ env io W st s->lP G P s₀ env io W st s cL st' Q->aF G.M A (lW cs env) Q E s:=by
 intro zl
 induction zl with
 |nil=>
  intro W st s Q cL st' e I h
  exact vG (h.of e .next s W rfl I .refl .refl)
 |cons c cs ih=>
  intro W st s Q cL st' e I h
  exact ac e λq hq e=>wpAny_execs_cons (IH md P s₀ env io W st A E s _ m ow c q.1 q.2 hq S I O λf s1 W1 ho I1 M1 m1=>by
  obtain⟨o1,st1⟩:=q
  clear hq;cases o1 with
  |next=>
   rw[show f= .next from ho]
   exact ih W1 st1 s1 Q cL st' e I1 λf s2 W2 ho2 I2 M2 m2=>h f s2 W2 ho2 I2 (M1.trans M2 m1.mt) (m1.trans m2 M1.gone)
  |brk=>
   rw[show f= .brk from ho]
   exact h.of e .brk s1 W1 rfl I1 M1 m1
  |ret v fl=>exact ho.elim λw q=>q.1▸h.of e (.ret w) s1 W1 ⟨w,rfl,q.2⟩ I1 M1 m1)
theorem SI.dropAll (I:SI G P s₀ env io W st s) (hno: ∀x sl,st.get x=some sl->sl.k.owner=false):SI G P s₀ env io (λ_=>none) st s:=
 ⟨I.tabs,I.base,I.gone,I.ns.imp λm H=>⟨H.1,λy sl e=>(H.2 y sl e).map .refl λ_ w r=>r.refine (λa o q _=>⟨q.1,(λ_ h=>cI h),q.2.2⟩) λhko=>aL ((hno _ _ e).symm.trans hko)⟩,I.cells,(λ_ _ h=>cI h),λ_ _ _ h=>cI h⟩
theorem mE {x:Nat} {sl:cA}: ∀{st:St},st.noOwn=true->st.get x=some sl->sl.k.owner=false:=by
 intro zl
 induction zl with
 |nil=>
  intro _ e
  cases e
 |cons zh r ih=>
  obtain⟨y,s⟩:=zh
  intro h e
  simp only[St.noOwn,fY,ag,iy,decide_eq_true_eq]at h
  simp only[St.get,aM]at e
  cases hx:x==y
  ·rw[hx]at e;exact ih h.2 e
  ·rw[hx]at e;cases e
   rcases h.1 with(h1|h1)|h1<;>rw[h1]<;>rfl
theorem ka (hl: ∀a xs n,h.get? a=some {cls:= .type "list",data:= .seq xs n}->P' a) (x:V) (v:aA) (f:x.plainL=true) (r:VR G P h x v):VR G P' h x v:=zE rfl (λ_=>hl) x v f r
theorem SI.notCell (I:SI G P s₀ env io W st s) {a:aG} {o:db} (ho:s.heap.get? a=some o) (hd: ∀v,o.data≠ .cell v) (y:aN) (hy:env.cells.lookup y=some a):s₀.heap.get? a≠none:=λ_=>
 obE21 (I.cells y a hy) λv _ q=>hd v ((congrArg ik (aC (ho.symm.trans q.1))).trans q.2)
theorem SI.off (I:SI G P s₀ env io W st s) {f:Bool} {x:V} {v:aA} (hf:x.firm=true) (rv:VR G (λa=>(f=true->P a)/\NW env W a) s.heap x v):VR G (λa=>(f=true->P a)/\gL s₀ env W a) s.heap x v:=
 VR.refineF (λa o q ho hd=>⟨q.1,q.2.1,q.2.2,I.notCell ho hd⟩) x v hf rv
theorem SI.rel (I:SI G P s₀ env io W st s) {f:Bool} {x:Nat} {v:V} {w:aA} (hf:v.firm=true) (hc:f=true\/v.flat=true\/(v.plainL=true/\ ∀x,W x=none)) (rv:VR G (Pm f (yZ P env W)) s.heap v w):aw G P s₀ env io W s.heap x (ai v f) w:=by
 refine .fI (by unfold ai;dsimp only;split<;>exact bR) ⟨fm hf,?_⟩
 have tr:f=true->VR G (λa=>((ai v f).k= .safe->P a)/\gL s₀ env W a) s.heap v w:=λe=>VR.mono (λa q=>⟨λ_=>q.1 rfl,q.2⟩) _ _ (I.off (f:=true) hf (VR.mono (λa q=>⟨λ_=>(q e).1,(q e).2⟩) _ _ rv))
 refine hc.elim tr λhd=>hd.elim (λhfl=>VR.flat _ _ _ hfl rv) λhd=>?_
 clear hc
 cases f with
 |true=>exact tr rfl
 |false=>
  by_cases hfl:v.flat=true
  ·exact VR.flat _ _ _ hfl rv
  ·refine ka (λa xs n ho=>⟨λe=>?_,λhL=>?_,(λx hx=>cI ((hd.2 x).symm.trans hx)),I.notCell ho (λ_=>aI)⟩) _ _ hd.1 rv
   ·unfold ai at e
    replace e:=(f5.mpr hfl)▸e
    cases e
   ·exact obE31 I.locE λ_ _ _ r=>aI (r.2.symm.trans (congrArg ik (aC (r.1.symm.trans (hL▸ho)))))
noncomputable def St.dels (st:St) (xs:List Nat):St:=st.filter λp=>!xs.contains p.1
theorem kG (xs:List Nat) (x:Nat): ∀(st:St),(st.dels xs).get x=if xs.contains x then none else st.get x:=by
 intro zl
 induction zl with
 |nil=>
  simp[St.dels,St.get]
 |cons zh r ih=>
  obtain⟨y,s⟩:=zh
  have ih:=ih
  simp only[St.dels,St.get]at ih⊢
  rw[eu]
  by_cases hy:xs.contains y=true
  ·rw[if_neg (by rw[hy];simp),ih]
   by_cases hx:x=y
   ·subst hx;rw[if_pos hy,if_pos hy]
   ·rw[aM,show(x==y)=false from beq_eq_false_iff_ne.mpr hx]
  ·rw[if_pos (by simpa using hy)]
   by_cases hx:x=y
   ·subst hx;rw[if_neg hy];simp[aM]
   ·rw[aM,aM,show(x==y)=false from beq_eq_false_iff_ne.mpr hx];exact ih
noncomputable def St.puts (st:St):List (Nat×cA)->St
 | []=>st
 |p::ps=>St.puts (st.put p.1 p.2) ps
theorem rI (x:Nat): ∀(ps:List (Nat×cA)) (st:St),(ps.map (·.1)).Nodup->(st.puts ps).get x=(ps.lookup x).or (st.get x):=by
 intro zl
 induction zl with
 |nil=>
  intro _ _
  exact rfl
 |cons zh ps ih=>
  obtain⟨y,sl⟩:=zh
  intro st nd
  rw[au,ba]at nd
  show((st.put y sl).puts ps).get x=_
  rw[ih _ nd.2,St.get_put,aM]
  by_cases hx:x=y
  ·subst hx
   have:ps.lookup x=none:=A9 nd.1
   simp[this]
  ·rw[show(x==y)=false from beq_eq_false_iff_ne.mpr hx,if_neg hx]
end
end
section
open PySem.Spec PySem.Calls PyProof.Rows PySem.W
structure TT where
 f:aA->l6 Unit
 nm:aN
 v:aA
 x:Nat
 sl:cA
section
variable {G:Gl} {A:aZ} {E:aA->aD->Prop} {P P':aG->Prop} {s₀ s s' s'':aD} {env:cg} {io J J' Z:aG->Prop} {W W':Ow} {h h':ah} {md n:Nat} {st st' st1:St} {r:Ev} {m m':aN->Option aA} {T:TE} {sc:bE}
def TT.ok (G:Gl) (A:aZ) (env:cg) (t:TT):Prop:=G.T.id t.nm=some t.x/\eX env.scope t.nm=true/\t.sl.k≠ .nd/\ ∀(E:aA->aD->Prop) (Q:Unit->aD->Prop) s,aF G.M A (jB env t.nm t.v) Q E s->aF G.M A (t.f t.v) Q E s
theorem yk (S:FX G md P s₀ env io) (ts:List TT): ∀(st:St) (s:aD) (Q:Unit->aD->Prop),(∀t∈ts,t.ok G A env/\aw G P s₀ env io W s.heap t.x t.sl t.v)->SI G P s₀ env io W st s->
  (∀s',SI G P s₀ env io W (st.puts (ts.map λt=>(t.x,t.sl))) s'->Mw G s₀ env J s s'->Q () s')->aF G.M A (qH (ts.map (·.f)) (ts.map (·.v))) Q E s:=by
 induction ts with
 |nil=>exact λst s Q _ I h=>l5 (h s I .refl)
 |cons t ts ih=>
  intro st s Q ht I h
  have h1:=ht t (.head _)
  exact hH (h1.1.2.2.2 _ _ _ (I.store (J:=J) S h1.1.1 h1.1.2.1 h1.1.2.2.1 h1.2 λs1 I1 M1 tr=>ih _ s1 Q (λt' ht'=>⟨(ht t' (.tail _ ht')).1,tr _ _ _ (ht t' (.tail _ ht')).2⟩) I1 λs2 I2 M2=>h s2 I2 (M1.trans M2 λa q=> .inl q)))
structure Mk (G:Gl) (A:aZ) (env:cg) (elts:List Expr) (xs:List Nat) (vs:List aA) (sls:List cA) (ts:List TT) (ps:List dM):Prop where
 fs:ts.map (·.f)=(fZ elts env).map (·.2)
 vs:ts.map (·.v)=vs
 xsl:ts.map (λt=>(t.x,t.sl))=xs.zip sls
 ok: ∀t∈ts,t.ok G A env
 es:elts=(ts.zip ps).map (λq=>aa q.1.nm q.2)
 len:ps.length=ts.length
 xs:ts.map (·.x)=xs
 sls:ts.map (·.sl)=sls
theorem MP {A:aZ} {G:Gl} (elts:List Expr): ∀(xs:List Nat) (vs:List aA) (sls:List cA),dW (G.Tl md) env.scope elts=some xs->vs.length=xs.length->sls.length=xs.length->(∀sl∈sls,sl.k≠ .nd)-> ∃ts ps,Mk G A env elts xs vs sls ts ps:=by
 induction elts with
 |nil=>
  intro xs vs sls e h1 h2 _
  cases e
  cases ii h1
  cases ii h2
  exact⟨[],[],rfl,rfl,rfl,λ_ h=>(aU h).elim,rfl,rfl,rfl,rfl⟩
 |cons e es ih=>
  intro xs vs sls en h1 h2 hk
  obtain⟨x,p,i,t,rfl,rfl,ho,hi,ht⟩:=eD en
  cases vs with
  |nil=>exfalso;cases h1
  |cons v vs=>
  cases sls with
  |nil=>cases h2
  |cons sl sls=>
  refine obE21 (ih t vs sls ht (kR h1) (kR h2) (λsl h=>hk sl (.tail _ h))) λts ps q=>?_
  refine⟨⟨assign (.Name x p) env,x,v,i,sl⟩::ts,p::ps,?_,congrArg (v:: ·) q.vs,congrArg ((i,sl):: ·) q.xsl,λt ht=>(aO.mp ht).elim (λe=>e▸⟨hi,ho,hk _ (.head _),λE Q s h=>cz h⟩) (q.ok t),congrArg (aa x p:: ·) q.es,congrArg (· +1) q.len,congrArg (i:: ·) q.xs,congrArg (sl:: ·) q.sls⟩
  rw[au,q.fs];rfl
theorem xZ {α:Type} {l:List (Nat×α)} (x:Nat) (nd:(l.map (·.1)).Nodup):l.reverse.lookup x=l.lookup x:=by
 have nd':(l.reverse.map (·.1)).Nodup:=by rw[dG];exact xD.mpr (nd.imp λh=>h.symm)
 cases h:l.lookup x with
 |some c=>exact lq nd' (ef.mpr (dJ h))
 |none=>cases h':l.reverse.lookup x with
  |none=>rfl
  |some c=>exact cI (h.symm.trans (lq nd (ef.mp (dJ h'))))
noncomputable def Gf (l:List Expr):List aN:=l.filterMap lJ
inductive K6 (elts:List Expr):Option (List aN)->Prop
 |no:K6 elts none
 |yes (names:List aN) (hn:Gf elts=names):K6 elts (some names)
theorem Dl {f g:Expr->Option aN} (hfg: ∀x b,f x=some b->g x=some b) (l:List Expr):(l.filterMap f).length<=l.length/\((l.filterMap f).length=l.length->l.filterMap g=l.filterMap f):=by
 induction l with
 |nil=>exact⟨bC _,λ_=>rfl⟩
 |cons e l ih=>
  cases hf:f e with
  |none=>rw[List.filterMap_cons_none hf];exact⟨py ih.1,λh=>(Nat.not_succ_le_self _ (h▸ih.1)).elim⟩
  |some b=>
   rw[vE hf,vE (hfg e b hf)]
   exact⟨ez ih.1,λh=>congrArg (b:: ·) (ih.2 (kR h))⟩
theorem n7 {elts vs:List Expr} {c c':Nat} {p p':dM} (hc:(vs.all (fR 8)&&!vs.all (hS 8))=false): ∃sw,jS [.Tuple elts c p] (.Tuple vs c' p') env=dC sw/\K6 elts sw:=by
 unfold jS
 dsimp only
 split
 ·exact⟨_,rfl,.no⟩
 split
 ·exact⟨_,rfl,.no⟩
 split
 ·exact⟨_,rfl,.no⟩
 rename_i h3
 split
 ·exact⟨_,rfl,.no⟩
 rename_i h4
 have h5:vs.all (fR 8)=false:=(Bool.and_eq_false_iff.mp hc).elim id λq=>(h4 (by rw[Bool.not_eq_false']at q;exact q)).elim
 rw[h5]
 refine⟨_,rfl,.yes _ ?_⟩
 have h6:=bne_eq_false_iff_eq.mp (ij.mp (f5.mpr h3)).1
 refine(Dl (λx b hx=>?_) elts).2 h6
 cases x with
 |Name id pos=>exact aj hx λ_ e=>e
 |_=>exact cI hx
theorem qW (S:FX G md P s₀ env io) (hh:A.handled=none) (I:SI G P s₀ env io W st1 s) {elts:List Expr} {c:Nat} {pos:dM} {xs:List Nat} {sls:List cA} {t:aG} {items:Array aA} {sw:Option (List aN)} {Q:eR->aD->Prop} (hsw:K6 elts sw) (ht:s.heap.IsTuple t items) (hn:dW (G.Tl md) env.scope elts=some xs)
  (hz:items.size=xs.length) (hz2:sls.length=xs.length) (hnd:xs.Nodup) (hk: ∀sl∈sls,sl.k≠ .nd) (rels: ∀p∈(xs.zip sls).zip items.toList,aw G P s₀ env io W s.heap p.1.1 p.1.2 p.2)
  (h: ∀s',(∀st2,(∀y,st2.get y=((xs.zip sls).lookup y).or (st1.get y))->SI G P s₀ env io W st2 s')->Mw G s₀ env J s s'->Q .next s'):aF G.M A (assignStores env (.ref t) sw ((fZ [.Tuple elts c pos] env).map (·.2))) Q E s:=by
 obtain⟨ts,ps,q1,q2,q3,q4,q5,q6,q7,q8⟩:=MP (A:=A) (md:=md) (env:=env) (G:=G) elts xs items.toList sls hn (by simpa using hz) hz2 hk
 have rel': ∀t∈ts,aw G P s₀ env io W s.heap t.x t.sl t.v:=λt ht=>by
  have:((t.x,t.sl),t.v)∈(xs.zip sls).zip items.toList:=by
   refine(q3)▸?_
   refine(q2)▸?_
   have: ∀l:List TT,t∈l->((t.x,t.sl),t.v)∈(l.map (λt=>(t.x,t.sl))).zip (l.map (·.v)):=by
    intro l
    induction l with
    |nil=>intro h;cases h
    |cons a l ih=>
     intro h
     rcases aO.mp h with rfl|h
     ·exact .head _
     ·exact .tail _ (ih h)
   exact this ts ht
  exact rels _ this
 have ndz:((ts.map λt=>(t.x,t.sl)).map (·.1)).Nodup:=by
  have:(ts.map λt=>(t.x,t.sl)).map (·.1)=xs:=by rw[lZ];exact q7
  rw[this];exact hnd
 have up: ∀{h':ah},jx s.heap.objs.size s.heap h'->cD G s {s with heap:=h'}:=λhx=>cD.of (t:=s.toks) I.tabs λb o e=>hx b o (am (br e)) e
 have relUp: ∀{h':ah},jx s.heap.objs.size s.heap h'-> ∀x sl w,aw G P s₀ env io W s.heap x sl w->aw G P s₀ env io W h' x sl w:=λhx x sl w q=>
  q.trn (j2.ext (Z:=λ_=>False) I.tabs (up hx).ext λ_ q=>q.elim) I.tabs (λ_ _ _ q=>q.elim) λ_ _ q=>q
 cases hsw with
 |no=>
  refine aE ?_
  show aF G.M A (assign (.Tuple elts c pos) env (.ref t)) _ E s
  obtain⟨h1,h2⟩:=nr (env:=env) hn
  refine qi hh ht (by rw[h1,hz]) h2 λh' hx=>?_
  rw[<-q1,<-q2]
  refine yk S ts st1 _ _ (λt ht=>⟨q4 t ht,relUp hx _ _ _ (rel' t ht)⟩) (I.up (up hx)) λs2 I2 M2=>aK (h s2 (λst2 hg=>I2.sub λy sl e=>?_) (Mw.stepS I.tabs (up hx) M2))
  rw[rI y _ _ ndz,q3,<-hg y];exact e
 |yes names hnm=>
  have hnames:names=ts.map (·.nm):=by
   rw[<-hnm,q5]
   have: ∀(l:List TT) (ps:List dM),ps.length=l.length->Gf ((l.zip ps).map (λq=>aa q.1.nm q.2))=l.map (·.nm):=by
    intro l
    induction l with
    |nil=>exact λps _=>rfl
    |cons a l ih=>
     intro ps hp
     cases ps with
     |nil=>cases hp
     |cons p ps=>exact congrArg (a.nm:: ·) (ih ps (kR hp))
   exact this ts ps q6
  show aF G.M A (do rule "assign.swapped-stores";let items <-unpackItems (.ref t) names.length none;qH (names.reverse.map λn=>sY env n) items.reverse;dC .next) Q E s
  have hlen:names.length=items.size:=by
   simp only[hnames,aR,hz]
   have:=congrArg jt q7
   simpa using this
  rw[hlen]
  refine aE (ml (aE (wpAny_unpackItems_tuple hh ht λh' hx=>?_)))
  refine aE ?_
  have e1:names.reverse.map (λn=>sY env n)=((ts.map λt=>{t with f:=sY env t.nm}).reverse).map (·.f):=by
   rw[hnames,<-dG,<-dG,lZ,lZ];rfl
  have e2:items.toList.reverse=((ts.map λt=>{t with f:=sY env t.nm}).reverse).map (·.v):=by
   rw[<-q2,<-dG,<-dG,lZ];rfl
  have e3:((ts.map λt=>{t with f:=sY env t.nm}).reverse).map (λt=>(t.x,t.sl))=(xs.zip sls).reverse:=by
   rw[<-q3,<-dG,<-dG,lZ];rfl
  refine(e1)▸?_
  refine(e2)▸?_
  refine yk S _ st1 _ _ (λt ht=>?_) (I.up (up hx)) λs2 I2 M2=>aK (h s2 (λst2 hg=>I2.sub λy sl e=>?_) (Mw.stepS I.tabs (up hx) M2))
  ·rw[ef,aP]at ht
   obtain⟨t0,ht0,rfl⟩:=ht
   exact⟨⟨(q4 t0 ht0).1,(q4 t0 ht0).2.1,(q4 t0 ht0).2.2.1,λE Q s h=>wpAny_bindName h⟩,relUp hx _ _ _ (rel' t0 ht0)⟩
  ·rw[e3,rI y _ _ (by rw[dG,<-q3];exact xD.mpr (List.Pairwise.imp (λh=>dE h) ndz)),xZ y (by rw[<-q3];exact ndz),<-hg y];exact e
end
end
section
open PySem.Spec PySem.Calls PyProof.Rows PySem.W
section
variable {G:Gl} {A:aZ} {E:aA->aD->Prop} {P P':aG->Prop} {s₀ s s' s'':aD} {env:cg} {io J J' Z:aG->Prop} {W W':Ow} {h h':ah} {md n:Nat} {st st' st1:St} {r:Ev} {m m':aN->Option aA} {T:TE} {sc:bE} {Pr:cY} {cL:f9}
theorem IG {op:kZ} {x y:Int} {z:V} {t u:ze} {Q:aA->aD->Prop} (e:lz op (.int x) (.int y)=some z) (h: ∀i tk,z= .int i->Q (.int i tk) {s with toks:=s.toks+1}):aF G.M A (inplaceOp op (.int x t) (.int y u)) Q E s:=
 have k: ∀{i:Int},some (V.int i)=some z-> ∀tk,Q (.int i tk) {s with toks:=s.toks+1}:=λe tk=>h _ tk (aC e).symm
 match op,e with
 | .Add,e=>PyProof.Rows.iadd_int (k e _)
 | .Sub,e=>PyProof.Rows.isub_int (k e _)
 | .Mult,e=>aj (c:=tT x y=true) e λhc e=>PyProof.Rows.imul_int (k e _) (vm hc)
 | .FloorDiv,e=>aj (c:=jO y=true) e λhc e=>PyProof.Rows.ifloordiv_int (iS (a:=0) hc).1 (k e _) (.inl (iS hc).2)
 | .Mod,e=>aj (c:=jO y=true) e λhc e=>PyProof.Rows.imod_int (iS (a:=0) hc).1 (k e _)
 | .Pow,e=>aj (c:=m9 x y=true) e λhc e=>PyProof.Rows.ipow_int_small (fJ hc).1 (fJ hc).2.1 (fJ hc).2.2 (k e _)
 | .LShift,e=>aj (c:=m9 x y=true) e λhc e=>PyProof.Rows.ilshift_int_small (fJ hc).1 (fJ hc).2.1 (fJ hc).2.2 (k e _)
 | .RShift,e=>aj (c:=0<=y) e λhc e=>PyProof.Rows.irshift_int hc (k e _)
 | .BitAnd,e=>PyProof.Rows.iand_int (k e _)
 | .BitOr,e=>PyProof.Rows.ior_int (k e _)
 | .BitXor,e=>PyProof.Rows.ixor_int (k e _)
 | .Div,e=>cI e
 | .MatMult,e=>cI e
theorem AA {m:Nat} {v:Expr} {p:PE} (h:cH T m sc v=some p) (hn: ∀a b c d,v≠ .ListComp a b c d) (t:Option Expr) (ht:t≠none) (line:Nat) (env:cg):ty v t line env=dC false:=by
 cases t with
 |none=>exact(ht rfl).elim
 |some t=>
 cases v<;>first|rfl|exact(hn _ _ _ _ rfl).elim|exact cI h|(cases m<;>exact cI h)
theorem ou {x:Nat} {v:V} {f:Bool} (e:k9 st x v f=some st'):v.firm=true/\st'=st.put x (ai v f)/\(f=true\/v.flat=true\/(v.plainL=true/\st.noOwn=true)):=
 aj e λh e=>gC h λh1 h2=>⟨h1,(aC e).symm,(cO.mp h2).elim (λh=>(cO.mp h).imp id .inl) λh=> .inr (.inr (gC h λa b=>⟨b,a⟩))⟩
theorem SI.ready (I:SI G P s₀ env io W st s) {x:Nat} {v:V} {w:aA} {f:Bool} (e:k9 st x v f=some st') (rv:VR G (Pm f (yZ P env W)) s.heap v w):
  ∃W',SI G P s₀ env io W' st s/\aw G P s₀ env io W' s.heap x (ai v f) w/\(ai v f).k≠ .nd/\st'=st.put x (ai v f)/\dK W st s W' st':=by
 obtain⟨h1,rfl,h2⟩:=ou e
 have hk:(ai v f).k≠ .nd/\(ai v f).k.owner=false:=by unfold ai;dsimp only;split<;>exact⟨(λh=>SK.noConfusion h),rfl⟩
 have mt:dK W st s W (st.put x (ai v f)):= .put hk.2
 by_cases hc:f=true\/v.flat=true
 ·exact⟨W,I,I.rel h1 (hc.imp id .inl) rv,hk.1,rfl,mt⟩
 ·rcases h2 with h2|h2|⟨h2,h3⟩
  ·exact(hc (.inl h2)).elim
  ·exact(hc (.inr h2)).elim
  ·have I':=I.dropAll λx sl e=>mE h3 e
   exact⟨_,I',I'.rel h1 (.inr (.inr ⟨h2,λ_=>rfl⟩)) (VR.mono (λa q hf=>⟨(q hf).1,(q hf).2.1,λ_ h=>by cases h⟩) _ _ rv),hk.1,rfl,⟨(λa ⟨_,_,_,_,q⟩=>by exfalso;cases q),(λ_ _ q=>by cases q),λy sl e k=>by
    rw[St.get_put]at e
    split at e
    ·exfalso;cases e;have:=hk.2;rw[k]at this;cases this
    ·have:=mE h3 e;rw[k]at this;cases this⟩⟩
theorem C7 (IHe:cC G n r) (S:FX G md P s₀ env io) (I:SI G P s₀ env io W st s) (O:cw n A) {Q:eR->aD->Prop} {k:Nat} {ex:Expr} {pos:dM} {e:PE} {cL:f9} (ht:cH (G.Tl md) k env.scope ex=some e) (he:(step Pr r).s st (.ret e)=some (cL,st'))
  (h:lP G P s₀ env io W st s cL st' Q):aF G.M A (gY (.Return (some ex) pos) env) Q E s:=by
 refine nk λcq=>?_
 refine ac he λvb hv he=>aj he λhf he=>(SI.freeze S (be e) W st I).elim λW' q=>?_
 refine cq ?_
 exact wpAny_Return_some (IHe md _ env _ A E s _ k ex e vb ht hv (q.1.fre S) O λv s1 X rv _=>h.of he _ s1 W' ⟨v,rfl,hf,VR.mono (λa q hf=>(q hf).1) _ _ rv⟩ (q.1.up X) (.stp I.tabs X) q.2)
theorem Fk (IHt:lO G n r) (IHs:eH G n r) (S:FX G md P s₀ env io) (I:SI G P s₀ env io W st s) (O:cw n A) {Q:eR->aD->Prop} {k:Nat} {ow:List Nat} {ex:Expr} {a b:List ed} {pos:dM} {e:PE} {cL:f9} (ht:cH (G.Tl md) k env.scope ex=some e)
  (he:(step Pr r).s st (.ifS e (qx (G.Tl md) ow k env.scope a) (qx (G.Tl md) ow k env.scope b))=some (cL,st'))
  (h:lP G P s₀ env io W st s cL st' Q):aF G.M A (gY (.If ex a b pos) env) Q E s:=by
 refine ac he λc hc he=>?_
 refine wpAny_If (IHt md _ env st A E s _ k ex e c ht hc (I.fre S) O λs1 X=>?_)
 have h':lP G P s₀ env io W st s1 cL st' Q:=λf s2 W2 ho I2 M2 m2=>h f s2 W2 ho I2 (Mw.stepS I.tabs X M2) (dK.refl.trans m2 λa q=>X.gone I.tabs q)
 cases c with
 |true=>exact jP IHs S O a W st s1 Q cL st' he (I.up X) h'
 |false=>exact jP IHs S O b W st s1 Q cL st' he (I.up X) h'
theorem lP.after (h:lP G P s₀ env io W st s cL st' (Q:eR->aD->Prop)) {W1:Ow} {st1:St} {s1:aD} (M:Mw G s₀ env (iw W st) s s1) (hm:dK W st s W1 st1):lP G P s₀ env io W1 st1 s1 cL st' Q:=
 λf s2 W2 ho I2 M2 m2=>h f s2 W2 ho I2 (M.trans M2 hm.mt) (hm.trans m2 M.gone)
theorem zu {R:l8->aD->Prop} {test:Expr} {body:List ed} (V:Nat->aD->Prop)
  (turn: ∀j s,V j s-> ∀(E:aA->aD->Prop) (K:eR->aD->Prop) (B:Bool->aD->Prop),(∀m s,m<j->V m s->K .next s)->(∀s,R (.ok .next) s->K .brk s)->(∀u s,R (.ok (.ret u)) s->K (.ret u) s)->
   (∀s,aF G.M A (lW body env) K E s->B true s)->(∀s,R (.ok .next) s->B false s)->aF G.M A (isTrue test env (cW test env)) B E s)
  (n:Nat) (h:V n s):ec G.M A (.whileLoop test body [] env) R s:=
 codeAny_whileLoop V (λj s H=>turn j s H _ _ _ (λm _ hm h=>⟨m,hm,h⟩) (λ_ h=>h) (λ_ _ h=>h) (λ_ h=>h) λ_ h=>vG h) n h
theorem xK (IHt:lO G n r) (IHs:eH G n r) (S:FX G md P s₀ env io) (I:SI G P s₀ env io W st s) (O:cw n A) {Q:eR->aD->Prop} {k:Nat} {ow:List Nat} {ex:Expr} {a:List ed} {pos:dM} {e:PE} {cL:f9} (ht:cH (G.Tl md) k env.scope ex=some e)
  (he:(step Pr r).s st (.whileS e (qx (G.Tl md) ow k env.scope a))=some (cL,st'))
  (h:lP G P s₀ env io W st s cL st' Q):aF G.M A (gY (.While ex a [] pos) env) Q E s:=by
 refine wpAny_While ?_
 refine(show∃V:Nat->aD->Prop,∀j s1,V j s1↔ ∃W1 st1,xL (λst=>r.t st e) (λst=>af r.s (qx (G.Tl md) ow k env.scope a) st) j st1=some (cL,st')/\SI G P s₀ env io W1 st1 s1/\lP G P s₀ env io W1 st1 s1 cL st' Q from⟨_,λ_ _=> .rfl⟩).elim λV iv=>?_
 refine zu V (λj s1 q E' K B kn kb kr kt kf=>obE23 ((iv ..).mp q) λW1 st1 e1 I1 r1=>?_) Gs ((iv ..).mpr ⟨W,st,he,I,h⟩)
 cases j with
 |zero=>exact cI e1
 |succ j=>
 refine ac e1 λb hb e1=>IHt md _ env st1 A _ s1 _ k ex e b ht hb (I1.fre S) O λs2 X=>?_
 have h2:lP G P s₀ env io W1 st1 s2 cL st' Q:=r1.after (.stp I1.tabs X) .refl
 clear hb;cases b with
 |false=>exact kf _ (h2.of e1 .next s2 W1 rfl (I1.up X) .refl .refl)
 |true=>
  refine kt _ (ac (show(af r.s (qx (G.Tl md) ow k env.scope a) st1).bind _=_ from e1) λq1 hq e1=>jP IHs S O a W1 st1 s2 _ q1.1 q1.2 hq (I1.up X) λf s3 W3 ho I3 M3 m3=>?_)
  obtain⟨o1,st2⟩:=q1
  clear hq;cases o1 with
  |next=>exact(show f= .next from ho)▸kn j s3 (gF _) ((iv ..).mpr ⟨W3,st2,e1,I3,h2.after M3 m3⟩)
  |brk=>exact(show f= .brk from ho)▸kb s3 (h2.of e1 .next s3 W3 rfl I3 M3 m3)
  |ret v fl=>exact ho.elim λw q=>q.1▸kr w s3 (h2.of e1 (.ret w) s3 W3 ⟨w,rfl,q.2⟩ I3 M3 m3)
end
end
section
open PySem.Spec PySem.Calls PyProof.Rows PySem.W
def yX (G:Gl) (n:Nat) (r:Ev):Prop:=
 ∀(md:Nat) (P:aG->Prop) (env:cg) (st:St) (A:aZ) (E:aA->aD->Prop) (s:aD) (Q:aA->aD->Prop) (m:Nat) (elt:Expr) (gens:List cE) (sc:bE) (pos p0:dM) (pe:PE) (vb:VB) (u:aA->l6 Unit),
  cH (G.Tl md) m env.scope (.ListComp elt gens sc pos)=some pe->r.e st pe=some vb->g9 G md P env st s.heap->cw n A->
  (∀l D C s',vb=(.list l,true)->cD G s s'->VR G (λa=>P a/\a≠C) s'.heap (.list l) (.ref D)->s.heap.get? D=none->s.heap.get? C=none->(∃o,s'.heap.get? C=some o/\ ∃es n,o.data= .dict es n)->(∃m,s'.heap.Ns C m)->wx G.M A E (some u) Q (.ref D) C (.ok .next) s')->
  wv gens=false/\aF G.M A (qG (.ListComp elt gens sc pos) sc env p0 (newList []) false (BU gens env) (some u)) Q E s
section
variable {G:Gl} {A:aZ} {E:aA->aD->Prop} {P P':aG->Prop} {s₀ s s' s1 s2 s'':aD} {env:cg} {io J J' Z:aG->Prop} {W W' W0:Ow} {h h':ah} {md n:Nat} {st st' st1 st0:St} {r:Ev} {m m':aN->Option aA} {T:TE} {sc:bE} {Pr:cY} {cL:f9} {C D:aG}
theorem SI.lose (S:FX G md P s₀ env io) (I:SI G P s₀ env io W st s) {y0:Nat} {o:db} {tk:Nat} (hx:st.get y0=none) (hW:W y0=some C) (hC0:s₀.heap.get? C=none) (hC:s.heap.get? C=some o) (hs:ca o) (k: ∀b o,b≠C->s.heap.get? b=some o->h'.get? b=some o):SI G P s₀ env io (W.upd y0 none) st {s with heap:=h',toks:=tk}:=by
 have T:=j2.softAt (G:=G) hC hs k
 have hcC: ∀c w,s.heap.IsCell c w->c≠C:=λc w hw e=>(I.cellNe hw).2 y0 (e▸hW)
 refine⟨I.tabs.butS hC hs k,I.keepBase (gV S.base hC0) k,λa e=>?_,I.ns.imp λm H=>⟨H.1.imp λo1 r=>r.imp λ_ r=>r.imp λ_ r=>⟨k _ _ (dE (I.ws y0 C hW).2.1) r.1,r.2⟩,λx sl e=>?_⟩,λy c hc=>(I.cells y c hc).imp λw r=>r.imp λo' q=>⟨k _ _ (hcC c w r) q.1,q.2⟩,λy D hy=>?_,λy z D hy hz=>I.inj y z D (Ow.upd_none hy).2 (Ow.upd_none hz).2⟩
 ·by_cases ha:a=C
  ·exact ha▸hC0
  ·exact I.gone a (du.mpr λo q=>cI (e.symm.trans (k a o ha q)))
 ·have hxy:x≠y0:=λe'=>cI (hx.symm.trans (e'▸e))
  exact(H.2 x sl e).map (.trn T I.tabs (λ_ e=>e) λc w _ hw e=>hcC c w hw e) λ_ w r=>aw.refine (W:=W) (λa o q _=>⟨q.1,λz hz=>q.2.1 z (Ow.upd_none hz).2,q.2.2⟩) (λ_ D hD=>(if_neg hxy).trans hD) (r.trn T I.tabs (λa o q e _ _=>q.2.1 y0 (e▸hW)) λD hD e=>hxy (I.inj _ _ _ hD (e▸hW)))
 ·exact(I.ws y D (Ow.upd_none hy).2).imp_right λr=>r.imp_right λr=>r.imp λo' q=>⟨k _ _ (λe=>(Ow.upd_none hy).1 (I.inj _ _ _ (Ow.upd_none hy).2 (e▸hW))) q.1,q.2⟩
theorem Mw.lastC (M:Mw G s₀ env J s s2) {o:db} {tk:Nat} (hC0:s.heap.get? C=none) (hC:s2.heap.get? C=some o) (hs:ca o) (k: ∀b o,b≠C->s2.heap.get? b=some o->h'.get? b=some o):Mw G s₀ env J s {s2 with heap:=h',toks:=tk}:=
 ⟨λb o e h1 h2 h3=>k b o (λhb=>cI (hC0.symm.trans (hb▸e))) (M.keep b o e h1 h2 h3),λP' x v ok hp r=>VR.mono (λa q=>q.1) _ _ (VR.but hC hs (λq=>q.2 hC0) k _ _ (M.val _ x v ok (λa q=>hp a q.1) r.taken)),λa e=>by
  by_cases ha:a=C
  ·exact ha▸hC0
  ·exact M.gone a (du.mpr λo q=>cI (e.symm.trans (k a o ha q))),M.os,M.gens,M.bare⟩
theorem St.far (st:St): ∃y0,∀y,y0<=y->st.get y=none:=by
 induction st with
 |nil=>exact⟨0,λ_ _=>rfl⟩
 |cons p r ih=>exact ih.elim λy0 h=>⟨max y0 (p.1+1),λy hy=>aM.trans ((congrArg (λb=>match b with|true=>some p.2|false=>r.lookup y) (beq_eq_false_iff_ne.mpr (jX (cT (Nat.le_max_right ..) hy)):(y==p.1)=false)).trans (h y (aQ (Nat.le_max_left ..) hy)))⟩
theorem CN (hg: ∀y,st'.get y=st.get y):BM st' st:=λy sl e=>by rw[<-hg y];exact e
theorem jN (l:List V) (h:cj l=true):bo l=true:=fk (.tup l) h
theorem uX {l:List V} {x:Nat} {v:aA} {D:aG} (hW:W x=some D) (hD:s₀.heap.get? D=none) (hf:cj l=true) (rv:VR G P' s.heap (.list l) v) (hv:v= .ref D):aw G P s₀ env io W s.heap x ⟨.own,.list l⟩ v:=by
 refine nk λcq=>?_
 refine obE24 rv λa items e _ hp r=>?_
 refine cq ?_
 cases(e.symm.trans hv:vD a= .ref D)
 exact .oI rfl ⟨D,hW,⟨(λh=>SK.noConfusion h),λ_=>hD⟩,hv,jN l hf,items,hp,bh.flat _ _ _ hf r⟩
noncomputable def BK (x:Nat) (own:Bool) (e:PE) (st0:St) (v:VB):Option St:=
 if own=true then v.1.list?.bind λl=>if(cj l&&freshPE e)=true then some (st0.put x ⟨.own,.list l⟩)else none
 else k9 st0 x v.1 v.2
theorem GT {x:Nat} {own:Bool} {e:PE} {st0:St} {v:VB} (he:(if own=true then v.1.list?.bind λl=>if(cj l&&freshPE e)=true then some (f9.next,st0.put x ⟨.own,.list l⟩)else none else(k9 st0 x v.1 v.2).bind λst'=>some (f9.next,st'))=some (cL,st')):cL= .next/\BK x own e st0 v=some st':=by
 unfold BK
 cases own
 ·exact ac he λst2 h1 h2=>rN (C:=λo t=>o=f9.next/\k9 st0 x v.1 v.2=some t) h2.symm ⟨rfl,h1⟩
 ·refine j6 he λl hl he=>aj he λhc he=>rN (C:=λo t=>o=f9.next/\(v.1.list?.bind λl=>if(cj l&&freshPE e)=true then some (st0.put x ⟨.own,.list l⟩)else none)=some t) he.symm ⟨rfl,?_⟩
  rw[hl];exact if_pos hc
theorem Ow.upd_some {x y:Nat} {d D:aG} {Z:Prop} (hy:(W.upd x (some d)) y=some D) (k1:y=x->d=D->Z) (k2:y≠x->W y=some D->Z):Z:=fF (show(if y=x then some d else W y)=some D from hy) (λh e=>k1 h (aC e)) k2
theorem dK.own {x:Nat} {D:aG} {v:V} (hD:s.heap.get? D=none):dK W st s (W.upd x (some D)) (st.put x ⟨.own,v⟩):=
 ⟨λa q=>obE21 q λy sl q=>Ow.upd_some q.2.2 (λ_ e=> .inr (e▸hD)) λhn e=>iM q.1 (λh _=>(hn h).elim) λ_ e'=> .inl ⟨y,sl,e',q.2.1,e⟩,
  λy a q=>Ow.upd_some q (λ_ e=> .inr (e▸hD)) λ_ e=> .inl ⟨y,e⟩,λy sl e k=>iM e (λ_ e=>by rw[<-e]at k;cases k) λhn e=>⟨if_neg hn,sl,e,k⟩⟩
theorem kH (st:St) (x y:Nat):(st.dels [x]).get y=if y=x then none else st.get y:=by
 rw[kG]
 by_cases h:y=x
 ·subst h;simp
 ·rw[if_neg (by simpa using h),if_neg h]
theorem v8 (st:St) (x:Nat) (sl:cA) (y:Nat):(st.put x sl).get y=((st.dels [x]).put x sl).get y:=by
 rw[St.get_put,St.get_put,kH]
 by_cases h:y=x
 ·rw[if_pos h,if_pos h]
 ·rw[if_neg h,if_neg h,if_neg h]
theorem oz {a:aG} {items:Array aA} (h:s.heap.PlainList a items): ∃o,s.heap.get? a=some o/\ca o/\ ∀v,o.data≠ .cell v:=by
 obtain⟨n,ho⟩:=h
 exact⟨_,ho,.list _ _,(λ_=>aI)⟩
theorem E1 (I:SI G P s₀ env io W st s) (Y:cD G s s') {x:Nat} {D:aG} (hx: ∀sl,st.get x=some sl->sl.k.owner=false) (hD:s.heap.get? D=none) (hD': ∃o,s'.heap.get? D=some o/\ca o/\ ∀v,o.data≠ .cell v):SI G P s₀ env io (W.upd x (some D)) st s':=
 hD'.elim λo q=>I.claim Y (λy=>(jy (y=x)).elim (λh=> .inr (.inr ⟨D,o,if_pos h,hD,q⟩)) λh=> .inl (if_neg h)) (λy sl e hk=>if_neg λ(h:y=x)=>aL ((hx sl (h▸e)).symm.trans hk)) λy z D' hy hz=>
  Ow.upd_some hy (λh e=>Ow.upd_some hz (λh' _=>h.trans h'.symm) λ_ h'=>(I.dne h' hD e.symm).elim) λ_ h=>Ow.upd_some hz (λ_ e=>(I.dne h hD e.symm).elim) λ_ h'=>I.inj _ _ _ h h'
theorem SI.claim2 (I:SI G P s₀ env io W st s) (Y:cD G s s') {x y0:Nat} {D:aG} (hx: ∀y,y=x\/y=y0->st.get y=none) (hD:s.heap.get? D=none) (hC:s.heap.get? C=none) (hn:D≠C) (hD': ∃o,s'.heap.get? D=some o/\ca o/\ ∀v,o.data≠ .cell v) (hC': ∃o,s'.heap.get? C=some o/\ca o/\ ∀v,o.data≠ .cell v):SI G P s₀ env io ((W.upd x (some D)).upd y0 (some C)) st s':=
 hD'.elim λo q=>hC'.elim λo' q'=>I.claim Y (λy=>(jy (y=y0)).elim (λh=> .inr (.inr ⟨C,o',if_pos h,hC,q'⟩)) λh=>(jy (y=x)).elim (λh'=> .inr (.inr ⟨D,o,(if_neg h).trans (if_pos h'),hD,q⟩)) λh'=> .inl ((if_neg h).trans (if_neg h')))
  (λy sl e _=>(if_neg λ(h:y=y0)=>cI ((hx y (.inr h)).symm.trans e)).trans (if_neg λ(h:y=x)=>cI ((hx y (.inl h)).symm.trans e))) λy z D' hy hz=>
  Ow.upd_some hy (λh e=>Ow.upd_some hz (λh' _=>h.trans h'.symm) λ_ hz=>Ow.upd_some hz (λ_ e'=>(hn (e'.trans e.symm)).elim) λ_ h'=>(I.dne h' hC e.symm).elim) λ_ hy=>Ow.upd_some hy
   (λh e=>Ow.upd_some hz (λ_ e'=>(hn (e.trans e'.symm)).elim) λ_ hz=>Ow.upd_some hz (λh' _=>h.trans h'.symm) λ_ h'=>(I.dne h' hD e.symm).elim) λ_ h=>Ow.upd_some hz (λ_ e=>(I.dne h hC e.symm).elim) λ_ hz=>Ow.upd_some hz (λ_ e=>(I.dne h hD e.symm).elim) λ_ h'=>I.inj _ _ _ h h'
theorem Ow.upd_upd {x:Nat} {a b:Option aG}:(W.upd x a).upd x b=W.upd x b:=funext λy=>(jy (y=x)).elim (λh=>(if_pos h).trans (if_pos h).symm) λh=>(if_neg h).trans ((if_neg h).trans (if_neg h).symm)
theorem dK.drop (g:dK W st s W' st') {y0:Nat} (hy:st'.get y0=none):dK W st s (W'.upd y0 none) st':=
 ⟨λa q=>obE21 q λz sl q=>g.mt a ⟨z,sl,q.1,q.2.1,(Ow.upd_none q.2.2).2⟩,λz a q=>g.ws z a (Ow.upd_none q).2,λz sl e k=>⟨(if_neg λhz=>cI (hy.symm.trans (hz▸e))).trans (g.ln z sl e k).1,(g.ln z sl e k).2⟩⟩
theorem yO (S:FX G md P s₀ env io) (I:SI G P s₀ env io W st s) (X:cD G s s1) {oc:db} (hoc:s1.heap.get? C=some oc) (hd: ∃es n,oc.data= .dict es n) {mc:aN->Option aA} (hmc:s1.heap.Ns C mc) (hC:s.heap.get? C=none) {Q:eR->aD->Prop} (h:lP G P s₀ env io W st s .next st' Q) (g0:dK W st s W0 st0) {y0:Nat}
  (I1:SI G P s₀ env io (W'.upd y0 (some C)) st1 s1) (I2:SI G P s₀ env io (W'.upd y0 (some C)) st' s2) (hy:st'.get y0=none) (M2:Mw G s₀ env (iw W st) s1 s2) (g2:dK W0 st0 s W' st'): ∃m,s2.heap.Ns C m/\ ∀h',de C s2.heap h'->Q .next {s2 with heap:=h'}:=by
 have hso:ca oc:= .inr (.inr hd)
 have hW:(W'.upd y0 (some C)) y0=some C:=if_pos rfl
 have hCe: ¬i9 s₀ env C:=λhz=>hz.elim (I1.ws y0 C hW).2.1 λe=>e.elim λz q=>(I1.cells z C q.1).elim λw hw=>(I1.cellNe hw).2 y0 hW
 have hC2:s2.heap.get? C=some oc:=M2.keep C oc hoc hCe (I1.tabs.off' hoc λvs e=>obE21 hd λ_ _ hd=>aI (hd.symm.trans e)) λq=>obE21 q λz _ q=>I.dne q.2.2 hC rfl
 refine⟨mc,obE31 hmc λo es' ep q=>⟨oc,es',ep,hC2,aC (q.1.symm.trans hoc)▸q.2⟩,λh' hsb=>?_⟩
 ·have k: ∀b o,b≠C->s2.heap.get? b=some o->h'.get? b=some o:=λb o hb e=>(hsb.2 b hb).trans e
  exact h .next _ _ rfl (I2.lose (tk:=s2.toks) S hy hW (I.gone C hC) hC2 hso k) ((Mw.stepS I.tabs X M2).lastC (tk:=s2.toks) hC hC2 hso k) (g0.trans (by rw[Ow.upd_upd];exact g2.drop hy) λ_ q=>q)
theorem GS (S:FX G md P s₀ env io) (I:SI G P s₀ env io W st s) (X:cD G s s1) {x:Nat} {nm:aN} {own:Bool} {e:PE} {vb:VB} {v:aA} {Q:Unit->aD->Prop} (hid:G.T.id nm=some x) (ho:eX env.scope nm=true) (he:BK x own e st vb=some st')
  (rv:VR G (Pm vb.2 (yZ P env W)) s1.heap vb.1 v) (fr:freshPE e=true->xg e vb.1-> ∀a,v= .ref a->s.heap.get? a=none)
  (h: ∀s2 W2,SI G P s₀ env io W2 st' s2->Mw G s₀ env J s1 s2->dK W st s W2 st'->Q () s2):aF G.M A (jB env nm v) Q E s1:=by
 unfold BK at he
 cases own with
 |true=>
  refine j6 he λl hvb he=>aj he λhc he=>gC hc λhfl hfr=>?_
  have h:=bb (C:=λst'=> ∀s2 W2,SI G P s₀ env io W2 st' s2->Mw G s₀ env J s1 s2->dK W st s W2 st'->Q () s2) he h
  rw[hvb]at rv fr
  have hD0: ∀a,v= .ref a->s.heap.get? a=none:=fr hfr (.inr ⟨l,rfl⟩)
  refine obE21 (rv.isList rfl) λD items q=>?_
  have hD:=hD0 D q.1
  rw[q.1]at rv⊢
  have I1:=E1 (I.sub (st:=st.dels [x]) λy sl e=>by rw[kH]at e;exact wB e λ_ e=>e) X (x:=x) (λsl e=>by rw[kH,if_pos rfl]at e;exact cI e) hD (oz q.2.1)
  exact I1.store (J:=J) S hid ho ((λh=>SK.noConfusion h):SK.own≠ .nd) (uX (by unfold Ow.upd;rw[if_pos rfl]) (I.gone D hD) hfl rv rfl) λs2 I2 M2 _=>h s2 _ (I2.sub (CN λy=>v8 st x _ y)) M2 (.own hD)
 |false=>
  obtain⟨W2,I2,rel,hk,rfl,gr⟩:=(I.up X).ready (show k9 st x vb.1 vb.2=some st' from he) rv
  exact I2.store (J:=J) S hid ho hk rel λs2 I3 M3 _=>h s2 W2 I3 M3 (dK.refl.trans gr λa q=>X.gone I.tabs q)
theorem uO (elt:Expr) (gens:List cE) (sc:bE) (pos:dM) (env:cg) (u:aA->l6 Unit):evalThenUse (.ListComp elt gens sc pos) env u=(do let _ <-qG (.ListComp elt gens sc pos) sc env (Bh gens pos) (newList []) (wv gens) (BU gens env) (some u);dC ()):=rfl
theorem w8 (IHe:cC G n r) (IHc:yX G n r) (S:FX G md P s₀ env io) (I:SI G P s₀ env io W st s) (O:cw n A) {Q:eR->aD->Prop} {k:Nat} {nm:aN} {ex:Expr} {p0 pos:dM} {e:PE} {x:Nat} {own:Bool} (hid:G.T.id nm=some x) (ho:eX env.scope nm=true)
  (ht:cH (G.Tl md) k env.scope ex=some e) (he:(step Pr r).s st (.assign x own e)=some (cL,st')) (h:lP G P s₀ env io W st s cL st' Q):aF G.M A (gY (.Assign [.Name nm p0] ex pos) env) Q E s:=by
 refine ac he λvb hv he=>?_
 refine obE12 (SI.freeze S (be e) W st I) λW0 I0 g0=>?_
 obtain⟨rfl,he'⟩:=GT he
 have plain:ty ex (some (.Name nm p0)) pos.line env=dC false->aF G.M A (gY (.Assign [.Name nm p0] ex pos) env) Q E s:=λhs=>by
  refine sR (hs:=hs) (IHe md _ env _ A E s _ k ex e vb ht hv (I0.fre S) O λv s1 X rv fr=>?_)
  refine GS (J:=iw W st) S I0 X hid ho he' rv fr λs2 W2 I2 M2 g2=>?_
  exact h .next s2 W2 rfl I2 (Mw.stepS I.tabs X M2) (g0.trans g2 λ_ q=>q)
 by_cases hc: ∃a b c d,ex= .ListComp a b c d
 ·refine nk λcq=>?_
  obtain⟨elt,gens,sc,cp,rfl⟩:=hc
  obtain⟨b,hb⟩: ∃b,ty (.ListComp elt gens sc cp) (some (.Name nm p0)) pos.line env=dC b:=⟨_,rfl⟩
  refine cq ?_
  cases b with
  |false=>exact plain hb
  |true=>
   simp only[exec_Assign_arm]
   refine aE (bG ?_)
   refine(show zb [.Name nm p0] (.ListComp elt gens sc cp) pos.line env=dC true from hb)▸?_
   refine aE (aK ?_)
   rw[if_pos rfl]
   obtain⟨y0,hy0⟩:=St.far ((freeze st (be e)).put x ⟨.safe,.none⟩)
   have hyx:y0≠x:=λhh=>by
    have:=hy0 y0 (bC _)
    rw[hh,St.get_put,if_pos rfl]at this;cases this
   have hyn:(freeze st (be e)).get y0=none:=by
    have:=hy0 y0 (bC _)
    rwa [St.get_put,if_neg hyx]at this
   have main:=IHc md _ env _ A E s (λ_ s'=>Q .next s') k elt gens sc cp (Bh gens cp) e vb (λv=>BV v ((fZ [.Name nm p0] env).map (·.2))) ht hv (I0.fre S) O λl D C s1 evb X rv hD hC ho1 hm1=>obE12 ho1 λoc hoc hd=>hm1.elim λmc hmc=>by
    refine cz ?_
    have fin:=λs2 W1 st1 I1 I2 hy M2 g2=>yO (s2:=s2) (W':=W1) (st1:=st1) S I X hoc hd hmc hC h g0 (y0:=y0) I1 I2 hy M2 g2
    have hC': ∃o,s1.heap.get? C=some o/\ca o/\ ∀v,o.data≠ .cell v:=⟨oc,hoc,.inr (.inr hd),λv e=>obE21 hd λ_ _ hd=>aI (hd.symm.trans e)⟩
    have hyp: ∀sl,(St.put (freeze st (be e)) x sl).get y0=none:=λsl=>(St.get_put ..).trans ((if_neg hyx).trans hyn)
    refine Exists.elim rv λD' q=>q.elim λitems q=>?_
    cases q.1
    cases own with
    |true=>
     rw[show BK x true e (freeze st (be e)) vb=_ from congrArg (BK x true e _) evb]at he'
     refine aj (c:=(cj l&&freshPE e)=true) he' λhfl he'=>?_
     clear h he;clear he;cases he'
     have I1:=(I0.sub (st:=(freeze st (be e)).dels [x]) λy sl e=>by rw[kH]at e;exact wB e λ_ e=>e).claim2 X (x:=x) (y0:=y0) (λy hy=>by
      rw[kH];exact hy.elim (λh=>if_pos h) λh=>(if_neg λh'=>hyx (h.symm.trans h')).trans (h▸hyn)) hD hC q.2.1.2 (oz q.2.2.1) hC'
     exact I1.store (J:=iw W st) S hid ho ((λh=>SK.noConfusion h):SK.own≠ .nd) (uX ((if_neg (dE hyx)).trans (if_pos rfl)) (I.gone D hD) (aJ.mp hfl).1 rv rfl) λs2 I2 M2 _=>fin s2 _ _ I1 (I2.sub (CN λy=>v8 _ x _ y)) (hyp _) M2 (.own hD)
    |false=>
     clear h he;clear he;obtain⟨hfm,rfl,_⟩:=ou (((congrArg (λv:VB=>k9 (freeze st (be e)) x v.1 v.2) evb).symm.trans he':k9 (freeze st (be e)) x (.list l) true=some st'))
     have I1:=E1 I0 X (x:=y0) (λsl e=>cI (hyn.symm.trans e)) hC hC'
     have hk:(ai (.list l) true).k= .safe:=rfl
     exact I1.store (J:=iw W st) S hid ho (hk▸λh=>SK.noConfusion h) (I1.rel (x:=x) (f:=true) hfm (.inl rfl) (VR.mono (λa q _=>⟨q.1.1,q.1.2.1,λz hz=>Ow.upd_some hz (λ_ e=>q.2 e.symm) λ_ hz=>q.1.2.2 z hz⟩) _ _ rv)) λs2 I2 M2 _=>fin s2 _ _ I1 I2 (hyp _) M2 (.put (hk▸rfl))
   obtain⟨hf,hw⟩:=main
   refine aE ?_
   rw[uO,hf]
   exact aE (ay hw (λ_ _ q=>aK (aK q)) λ_ _ q=>q)
 ·exact plain (AA ht (λa b c d hh=>hc ⟨a,b,c,d,hh⟩) (some (.Name nm p0)) (λhh=>by cases hh) _ _)
end
end
section
open PySem.Spec PySem.Calls PyProof.Rows PySem.W
section
variable {G:Gl} {A:aZ} {E:aA->aD->Prop} {P P':aG->Prop} {s₀ s s' s1 s2 s'':aD} {env:cg} {io J J' Z:aG->Prop} {W W' W0:Ow} {h h':ah} {md n:Nat} {st st' st1 st0:St} {r:Ev} {m m':aN->Option aA} {T:TE} {sc:bE} {Pr:cY} {cL:f9} {C D:aG}
theorem A5: ∀{elts:List Expr} {xs:List Nat},dW (G.Tl md) sc elts=some xs->xs.map G.n=elts.map A4:=by
 intro zl
 induction zl with
 |nil=>
  intro xs e
  cases e;rfl
 |cons e es ih=>
  intro xs en
  obtain⟨x,p,i,t,rfl,rfl,ho,hi,ht⟩:=eD en
  rw[au,au,ih ht,Gl.n_id (G:=G) hi];rfl
theorem u0 {α β:Type} (f:α->β): ∀{l:List α},(l.map f).Nodup->l.Nodup:=by
 intro zl
 induction zl with
 |nil=>
  intro _
  exact dh
 |cons x l ih=>
  intro h
  rw[au,ba]at h
  exact ba.mpr ⟨λhm=>h.1 (aP.mpr ⟨x,hm,rfl⟩),ih h.2⟩
theorem j5 {elts:List Expr} {xs:List Nat} (h:dW (G.Tl md) sc elts=some xs) (hu:ld (elts.map A4)=true):xs.Nodup:=
 u0 G.n (by rw[A5 h];exact qu hu)
def GZ (st:St):Prop:= ∀x sl,st.get x=some sl->sl.k.owner=false
theorem rJ {f:Bool} {xs:List Nat} {l:List V} {st st':St} (e:pS st xs l f=some st') (nd:xs.Nodup):l.length=xs.length/\(∀v∈l,v.firm=true)/\(∀y,st'.get y=((xs.zip (l.map (ai · f))).lookup y).or (st.get y))/\
  ((∀v∈l,f=true\/v.flat=true)\/(GZ (st.dels xs)/\ ∀v∈l,f=true\/v.flat=true\/v.plainL=true)):=by
 induction xs generalizing l st with
 |nil=>
  cases l with
  |nil=>cases e;exact⟨rfl,(λ_ h=>(aU h).elim),λ_=>rfl,.inl (λ_ h=>(aU h).elim)⟩
  |cons=>exact cI e
 |cons x xs ih=>
  cases l with
  |nil=>exact cI e
  |cons v l=>
  rw[ba]at nd
  refine ac e λst1 h1 h2=>?_
  obtain⟨hf,rfl,hc⟩:=ou h1
  refine obE04 (ih h2 nd.2) λi1 i2 i3 i4=>?_
  have sub: ∀y sl,(st.dels (x::xs)).get y=some sl->((st.put x (ai v f)).dels xs).get y=some sl:=λy sl e=>by
   rw[kG]at e⊢
   split at e
   ·cases e
   ·rename_i hy
    have hy1:y≠x:=λhh=>hy (by clear nd h1 h2 i3 i4 hy;subst hh;simp)
    have hy2: ¬xs.contains y=true:=λhh=>hy (by simp at hh⊢;exact .inr hh)
    rw[if_neg hy2,St.get_put,if_neg hy1];exact e
  have Kf:GZ ((st.put x (ai v f)).dels xs)->GZ (st.dels (x::xs)):=λh y sl e=>h y sl (sub y sl e)
  refine⟨by simp[i1],λw hw=>?_,λy=>?_,?_⟩
  ·rcases aO.mp hw with rfl|hw
   ·exact hf
   ·exact i2 w hw
  ·rw[i3 y,St.get_put,au,gf,aM]
   by_cases hy:y=x
   ·clear e h1 h2 i3 i4 sub Kf;subst hy
    have:(xs.zip (l.map (ai · f))).lookup y=none:=by
     rw[dQ]
     intro p hp
     rw[bne_iff_ne,ne_eq]
     intro e
     exact nd.1 (e▸(cN hp).1)
    simp[this]
   ·rw[if_neg hy,show(y==x)=false from beq_eq_false_iff_ne.mpr hy]
  ·have hd:f=true\/v.flat=true\/v.plainL=true:=by
    rcases hc with hc|hc|hc
    ·exact .inl hc
    ·exact .inr (.inl hc)
    ·exact .inr (.inr hc.1)
   by_cases hno:GZ (st.dels (x::xs))
   ·right
    refine⟨hno,λw hw=>?_⟩
    refine nk λcq=>?_
    rcases aO.mp hw with rfl|hw
    all_goals refine cq ?_
    ·exact hd
    ·rcases i4 with i4|i4
     ·rcases i4 w hw with q|q
      ·exact .inl q
      ·exact .inr (.inl q)
     ·exact i4.2 w hw
   ·left
    have hc':f=true\/v.flat=true:=by
     rcases hc with hc|hc|hc
     ·exact .inl hc
     ·exact .inr hc
     ·exact(hno λy sl e=>by
       rw[kG]at e
       split at e
       ·cases e
       ·exact mE hc.2 e).elim
    intro w hw
    rcases aO.mp hw with rfl|hw
    ·exact hc'
    ·rcases i4 with i4|i4
     ·exact i4 w hw
     ·exact(hno (Kf i4.1)).elim
theorem bh.zips {g:V->cA} {l:List V} {vs:List aA} (xs:List Nat) (H:bh G P s.heap l vs): ∀p∈(xs.zip (l.map g)).zip vs,∃v∈l,p.1.2=g v/\VR G P s.heap v p.2:=by
 induction l generalizing vs xs with
 |nil=>intro p h;cases H;rw[fL]at h;cases h
 |cons v l ih=>
  refine obE23 H λy ys e0 a b=>?_
  clear H;cases e0
  cases xs with
  |nil=>exact λ_ h=>(aU h).elim
  |cons x xs=>exact λp h=>(aO.mp h).elim (λe=>⟨v,.head _,e▸rfl,e▸a⟩) λh=>(ih xs b p h).imp λw q=>⟨.tail _ q.1,q.2⟩
theorem ki {α:List (Nat×cA)} {xs:List Nat} (hx:α.map (·.1)=xs) (y:Nat):(α.lookup y).or (st.get y)=(α.lookup y).or ((st.dels xs).get y):=by
 cases hl:α.lookup y with
 |some v=>rfl
 |none=>
  rw[kG,if_neg]
  intro hc
  rw[dQ]at hl
  rw[<-hx]at hc
  rw[List.contains_eq_mem,decide_eq_true_eq,aP]at hc
  obtain⟨p,hp,rfl⟩:=hc
  have:=hl p hp
  simp at this
theorem ri (st:St) (xs:List Nat):BM (st.dels xs) st:=λy sl e=>by
 rw[kG]at e
 split at e
 ·cases e
 ·exact e
theorem rd {elts:List Expr} {c:Nat} {p0 pos:dM} {ex:Expr} {sw:Option (List aN)} {Q:eR->aD->Prop} (hw:jS [.Tuple elts c p0] ex env=dC sw) (h:aF G.M A (cW ex env) (λv s1=>aF G.M A (assignStores env v sw ((fZ [.Tuple elts c p0] env).map (·.2))) Q E s1) E s):
  aF G.M A (gY (.Assign [.Tuple elts c p0] ex pos) env) Q E s:=by
 have hs:zb [.Tuple elts c p0] ex pos.line env=dC false:=by
  clear hw h;cases ex<;>rfl
 simp only[exec_Assign_arm]
 refine aE (bG ?_)
 refine(hs)▸?_
 refine aE (aK ?_)
 rw[if_neg (by decide)]
 refine aE (ay h (λv s₁ h₁=>?_) λ_ _ x=>x)
 refine(hw)▸?_
 exact aE (aK h₁)
theorem dT (v:V) (f:Bool):(ai v f).k≠ .nd/\(ai v f).k.owner=false:=by unfold ai;dsimp only;split<;>exact⟨(λh=>SK.noConfusion h),rfl⟩
theorem dK.puts {ps:List (Nat×cA)} (hk: ∀p∈ps,p.2.k.owner=false) (hg: ∀y,st'.get y=(ps.lookup y).or (st.get y)) (hW:W'=W\/(W'=λ_=>none)/\ ∀y sl,ps.lookup y=none->st.get y=some sl->sl.k.owner=false):dK W st s W' st':=by
 have hp: ∀y sl,st'.get y=some sl->sl.k.owner=true->ps.lookup y=none/\st.get y=some sl:=λy sl e ho=>by
  rw[hg y]at e
  cases hl:ps.lookup y with
  |some q=>
   rw[hl]at e
   have e':q=sl:=aC e
   have:=hk _ (dJ hl)
   rw[e']at this;rw[this]at ho;cases ho
  |none=>rw[hl]at e;exact⟨rfl,e⟩
 have ow: ∀k:SK,(k= .own\/k= .inout)->k.owner=true:=λk h=>by rcases h with h|h<;>rw[h]<;>rfl
 refine⟨λa ⟨y,sl,q1,q2,q3⟩=> .inl ?_,λx a q=> .inl ?_,λy sl e k=>?_⟩
 ·obtain⟨z1,z2⟩:=hp y sl q1 (ow _ q2)
  rcases hW with hW|⟨hW,_⟩
  ·exact⟨y,sl,z2,q2,hW▸q3⟩
  ·rw[hW]at q3;cases q3
 ·rcases hW with hW|⟨hW,_⟩
  ·exact⟨x,hW▸q⟩
  ·rw[hW]at q;cases q
 ·obtain⟨z1,z2⟩:=hp y sl e (by rw[k];rfl)
  rcases hW with hW|⟨_,hW⟩
  ·exact⟨by rw[hW],sl,z2,k⟩
  ·have:=hW y sl z1 z2;rw[k]at this;exfalso;cases this
theorem Kj {m:Nat} {elts:List Expr} {c:Nat} {p0:dM} {ex:Expr} {e:PE} {xs:List Nat} (hn:dW (G.Tl md) env.scope elts=some xs) (ht:cH T m sc ex=some e) (hc: ∀vs c' p',ex= .Tuple vs c' p'->(vs.all (fR 8)&&!vs.all (hS 8))=false):
  ∃sw,jS [.Tuple elts c p0] ex env=dC sw/\K6 elts sw:=by
 clear ht;cases ex with
 |Tuple vs c' p'=>exact n7 (hc _ _ _ rfl)
 |_=>exact⟨_,rfl,.no⟩
theorem um (IHe:cC G n r) (S:FX G md P s₀ env io) (I:SI G P s₀ env io W st s) (O:cw n A) {Q:eR->aD->Prop} {k:Nat} {elts:List Expr} {c:Nat} {ex:Expr} {p0 pos:dM} {e:PE} {xs:List Nat} (hn:dW (G.Tl md) env.scope elts=some xs) (hu:ld (elts.map A4)=true)
  (ht:cH (G.Tl md) k env.scope ex=some e) (hc: ∀vs c' p',ex= .Tuple vs c' p'->(vs.all (fR 8)&&!vs.all (hS 8))=false) (he:(step Pr r).s st (.assignT xs e)=some (cL,st')) (h:lP G P s₀ env io W st s cL st' Q):aF G.M A (gY (.Assign [.Tuple elts c p0] ex pos) env) Q E s:=by
 refine nk λcq=>?_
 refine ac he λvb hv he=>zy he λl hl he=>ac he λst2 he e2=>?_
 have h:=h.of e2
 refine obE12 (Kj (c:=c) (p0:=p0) hn ht hc) λsw hsw hsw2=>?_
 refine cq ?_
 refine rd hsw (IHe md _ env st A E s _ k ex e vb ht hv (I.fre S) O λv s1 X rv _=>?_)
 simp only[hl]at rv
 refine nk λcq=>?_
 obtain⟨t,items,rfl,hit,rvs⟩:=rv
 have nd:=j5 hn hu
 refine obE04 (rJ he nd) λh1 h2 h3 h4=>?_
 refine cq ?_
 have hsz:items.size=xs.length:=by have:=rvs.len;simp at this;lia
 have I1:SI G P s₀ env io W (st.dels xs) s1:=(I.up X).sub (ri st xs)
 have hxs:(xs.zip (l.map (ai · vb.2))).map (·.1)=xs:=qK (by simp[h1])
 have hks: ∀p∈xs.zip (l.map (ai · vb.2)),p.2.k.owner=false:=λp hp=>by
  have:=(cN hp).2
  refine obE12 (aP.mp this) λv _ hv=>?_
  rw[<-hv];exact(dT v vb.2).2
 have hks': ∀sl∈l.map (ai · vb.2),sl.k≠ .nd:=λsl hs=>by
  refine obE12 (aP.mp hs) λv _ hv=>?_
  rw[<-hv];exact(dT v vb.2).1
 rcases h4 with h4|⟨h4,h5⟩
 ·refine qW (J:=iw W st) S O.handled I1 hsw2 hit hn hsz (by simp[h1]) nd hks' (λp hp=>?_) λs2 I2 M2=>?_
  ·refine nk λcq=>?_
   refine obE13 (bh.zips xs rvs p hp) λv hv e1 rv=>?_
   refine cq ?_
   rw[e1]
   exact I1.rel (h2 v hv) ((h4 v hv).imp id .inl) rv
  ·exact h .next s2 W rfl (I2 st2 λy=>by rw[h3 y];exact ki hxs y) (Mw.stepS I.tabs X M2) (dK.puts hks h3 (.inl rfl))
 ·have I1':=I1.dropAll h4
  refine qW (J:=iw W st) S O.handled I1' hsw2 hit hn hsz (by simp[h1]) nd hks' (λp hp=>?_) λs2 I2 M2=>?_
  ·refine obE13 (bh.zips xs rvs p hp) λv hv e1 rv=>?_
   rw[e1]
   exact I1'.rel (h2 v hv) ((h5 v hv).imp id λq=>q.imp id λq=>⟨q,λ_=>rfl⟩) (VR.mono (λa q hf=>⟨(q hf).1,(q hf).2.1,λ_ h=>by cases h⟩) _ _ rv)
  ·refine h .next s2 _ rfl (I2 st2 λy=>by rw[h3 y];exact ki hxs y) (Mw.stepS I.tabs X M2) (dK.puts hks h3 (.inr ⟨rfl,λy sl q1 q2=>h4 y sl ?_⟩))
   have:=ki (st:=st) hxs y
   rw[q1]at this
   simpa using this.symm.trans q2
theorem Ej (IHe:cC G n r) (S:FX G md P s₀ env io) (I:SI G P s₀ env io W st s) (O:cw n A) {Q:eR->aD->Prop} {k:Nat} {nm:aN} {ex:Expr} {p0 pos:dM} {op:kZ} {e:PE} {x:Nat} (hid:G.T.id nm=some x) (ho:pZ env.scope nm=true)
  (ht:cH (G.Tl md) k env.scope ex=some e) (he:(step Pr r).s st (.aug x op e)=some (cL,st')) (h:lP G P s₀ env io W st s cL st' Q):aF G.M A (gY (.AugAssign (.Name nm p0) op ex pos) env) Q E s:=by
 refine nk λcq=>?_
 refine bD he λsl hsl vb hv he=>iP he λa ha he=>iP he λb hb he=>ac he λw hw he=>?_
 refine cq ?_
 have h:=h.of he
 have hnx:G.n x=nm:=Gl.n_id hid
 have hown:eX env.scope nm=true:=by
  unfold pZ at ho
  unfold eX
  split at ho<;>rename_i hh
  ·rw[hh]
  ·exfalso;cases ho
 refine wpAny_AugAssign_Name ?_
 have hnd:sl.k≠ .nd:=λhk=>by
  refine obE12 I.ns λm hm hs=>?_
  have:=(hs x sl hsl).2
  rw[if_pos hk,ha]at this
  exact this
 refine(hnx)▸?_
 refine Bx (I.fre S) (x:=x) (vb:=sl.read) (by rw[hsl];show(if sl.k= .nd then none else some sl.read)=_;rw[if_neg hnd]) λov rov=>?_
 have rov':VR G _ s.heap sl.v ov:=rov
 simp only[ha]at rov'
 clear rov;obtain⟨t,rfl⟩:=rov'
 refine IHe md _ env st A E s _ k ex e vb ht hv (I.fre S) O λv s1 X rv _=>?_
 simp only[hb]at rv
 obtain⟨u,rfl⟩:=rv
 refine IG hw λi tk hi=>?_
 have X2:cD G s {s1 with toks:=s1.toks+1}:=X.trans (cD.tok X.tabs _)
 have hfl:w.flat=true/\w.firm=true:=by rw[hi];exact⟨rfl,rfl⟩
 refine(I.up X2).store (J:=iw W st) S (x:=x) (by rw[hnx];exact hid) (by rw[hnx];exact hown) (dT w true).1 ((I.up X2).rel (f:=true) hfl.2 (.inr (.inl hfl.1)) ((hi)▸⟨tk,rfl⟩)) λs2 I2 M2 _=>?_
 exact h .next s2 W rfl I2 (Mw.stepS I.tabs X2 M2) (.put (dT w true).2)
end
end
section
open PySem.Spec PySem.Calls PyProof.Rows PySem.W
section
variable {G:Gl} {A:aZ} {E:aA->aD->Prop} {P P' P1:aG->Prop} {s₀ s s' s1 s2 s'':aD} {env:cg} {io J J' Z:aG->Prop} {W W' W0:Ow} {h h':ah} {md n:Nat} {st st' st1 st0 stf:St} {r:Ev} {m m':aN->Option aA} {T:TE} {sc:bE} {Pr:cY} {cL:f9} {C D:aG}
theorem pW (S:FX G md P s₀ env io) (hh:A.handled=none) (I:SI G P s₀ env io W st1 s) {elts:List Expr} {c:Nat} {pos:dM} {xs:List Nat} {sls:List cA} {t:aG} {items:Array aA} {Q:Unit->aD->Prop} (ht:s.heap.IsTuple t items) (hn:dW (G.Tl md) env.scope elts=some xs)
  (hz:items.size=xs.length) (hz2:sls.length=xs.length) (hnd:xs.Nodup) (hk: ∀sl∈sls,sl.k≠ .nd) (rels: ∀p∈(xs.zip sls).zip items.toList,aw G P s₀ env io W s.heap p.1.1 p.1.2 p.2)
  (h: ∀s',(∀st2,(∀y,st2.get y=((xs.zip sls).lookup y).or (st1.get y))->SI G P s₀ env io W st2 s')->Mw G s₀ env J s s'->Q () s'):aF G.M A (assign (.Tuple elts c pos) env (.ref t)) Q E s:=by
 have hb: ∀{m:l6 Unit},aF G.M A (do BV (.ref t) [assign (.Tuple elts c pos) env];dC Flow.next) (λ_ s'=>Q () s') E s->m=assign (.Tuple elts c pos) env (.ref t)->aF G.M A m Q E s:=λhw e=>by
  subst e
  intro Γ p hΓ
  have:=hw Γ p hΓ
  rw[Sem.wp_bind']at this
  exact this
 refine hb ?_ rfl
 exact qW (J:=J) (c:=c) (pos:=pos) (Q:=λ_ s'=>Q () s') S hh I .no ht hn hz hz2 hnd hk rels h
theorem Ed (S:FX G md P s₀ env io) (I:SI G P s₀ env io W st s) (hh:A.handled=none) {tg:Expr} {t:Tg} {f:Bool} {x:V} {v:aA} {Q:Unit->aD->Prop} (ht:mX (G.Tl md) env.scope tg=some t) (hb:dr st t x f=some st') (hP: ∀a,P1 a->f=true->yZ P env W a) (rv:VR G P1 s.heap x v)
  (h: ∀s' W',SI G P s₀ env io W' st' s'->Mw G s₀ env J s s'->dK W st s W' st'->Q () s'):aF G.M A (assign tg env v) Q E s:=by
 have rv':VR G (Pm f (yZ P env W)) s.heap x v:=VR.mono (λa q hf=>hP a q hf) _ _ rv
 cases tg<;>try exact cI ht
 case Name nm p=>
  refine aj ht λho ht=>ac ht λi hi ht=>(I.ready (bb (C:=λt=>dr st t x f=some st') ht hb:k9 st i x f=some st') rv').elim λW2 q=>?_
  exact cz (q.1.store (J:=J) S hi ho q.2.2.1 q.2.1 λs2 I3 M3 _=>h s2 W2 (q.2.2.2.1.symm▸I3) M3 (q.2.2.2.1.symm▸q.2.2.2.2))
 case Tuple es c p=>
  refine aj ht λhu ht=>ac ht λxs hxs ht=>zy (bb (C:=λt=>dr st t x f=some st') ht hb) λl hx hb=>?_
  rw[hx]at rv'
  obtain⟨t,items,rfl,hit,rvs⟩:=rv'
  have nd:=j5 (md:=md) hxs hu
  refine obE04 (rJ hb nd) λh1 h2 h3 h4=>?_
  have hsz:items.size=xs.length:=by have:=rvs.len;simp at this;lia
  have I1:SI G P s₀ env io W (st.dels xs) s:=I.sub (ri st xs)
  have hxs':(xs.zip (l.map (ai · f))).map (·.1)=xs:=qK (by simp[h1])
  have hks: ∀p∈xs.zip (l.map (ai · f)),p.2.k.owner=false:=λp hp=>by
   have:=(cN hp).2
   refine obE12 (aP.mp this) λv _ hv=>?_
   rw[<-hv];exact(dT v f).2
  have hks': ∀sl∈l.map (ai · f),sl.k≠ .nd:=λsl hs=>by
   refine obE12 (aP.mp hs) λv _ hv=>?_
   rw[<-hv];exact(dT v f).1
  rcases h4 with h4|⟨h4,h5⟩
  ·refine pW (J:=J) S hh I1 hit hxs hsz (by simp[h1]) nd hks' (λp hp=>?_) λs2 I2 M2=>?_
   ·refine obE13 (bh.zips xs rvs p hp) λv hv e1 rv=>?_
    rw[e1]
    exact I1.rel (h2 v hv) ((h4 v hv).imp id .inl) rv
   ·exact h s2 W (I2 st' λy=>by rw[h3 y];exact ki hxs' y) M2 (dK.puts hks h3 (.inl rfl))
  ·have I1':=I1.dropAll h4
   refine pW (J:=J) S hh I1' hit hxs hsz (by simp[h1]) nd hks' (λp hp=>?_) λs2 I2 M2=>?_
   ·refine obE13 (bh.zips xs rvs p hp) λv hv e1 rv=>?_
    rw[e1]
    exact I1'.rel (h2 v hv) ((h5 v hv).imp id λq=>q.imp id λq=>⟨q,λ_=>rfl⟩) (VR.mono (λa q hf=>⟨(q hf).1,(q hf).2.1,λ_ h=>by cases h⟩) _ _ rv)
   ·refine h s2 _ (I2 st' λy=>by rw[h3 y];exact ki hxs' y) M2 (dK.puts hks h3 (.inr ⟨rfl,λy sl q1 q2=>h4 y sl ?_⟩))
    have:=ki (st:=st) hxs' y
    rw[q1]at this
    simpa using this.symm.trans q2
theorem jl (I:SI G P s₀ env io W st s) {b:aG} {o:db} {vs:Array aA} (e:s.heap.get? b=some o) (hd:o.data= .fields vs):(∀x,W x≠some b)/\ ¬iw W st b:=by
 have: ∀x,W x≠some b:=λx hx=>by
  obtain⟨_,_,o2,ho2,hs2,_⟩:=I.ws x _ hx
  exact hs2.fields (aC (e.symm.trans ho2)▸hd)
 exact⟨this,λ⟨x,_,_,_,hx⟩=>this x hx⟩
noncomputable def r9 (r:Ev) (t:Tg) (f:Bool) (b:List PS):List V->St->Option (f9×St):=lT (λst v=>dr st t v f) (λst=>af r.s b st)
theorem zJ {R:l8->aD->Prop} {tg:Expr} {it:aA} {body:List ed} (V:Nat->aD->Prop)
  (turn: ∀j s,V j s-> ∀(E:aA->aD->Prop) (K:eR->aD->Prop) (B:Option aA->aD->Prop),(∀m s,m<j->V m s->K .next s)->(∀s,R (.ok .next) s->K .brk s)->(∀u s,R (.ok (.ret u)) s->K (.ret u) s)->
   (∀v s,aF G.M A (ff tg it v) (λ_ s=>aF G.M A (assign tg env v) (λ_ s=>aF G.M A (lW body env) K E s) E s) E s->B (some v) s)->(∀s,R (.ok .next) s->B none s)->aF G.M A (ms it) B E s)
  (n:Nat) (h:V n s):ec G.M A (.forLoop tg it body [] env) R s:=
 codeAny_forLoop_any V (λj s H=>turn j s H _ _ _ (λm _ hm h=>⟨m,hm,h⟩) (λ_ h=>h) (λ_ _ h=>h) (λ_ _ h=>h) λ_ h=>vG h) n h
structure Lp (G:Gl) (P:aG->Prop) (s₀:aD) (env:cg) (io J:aG->Prop) (W:Ow) (st:St) (s1 s:aD) (W':Ow) (st':St) (s':aD):Prop where
 I:SI G P s₀ env io W' st' s'
 M:Mw G s₀ env J s s'
 gr:dK W st s1 W' st'
 gg: ∀a,s'.heap.get? a=none->s1.heap.get? a=none
def LQ (G:Gl) (P:aG->Prop) (s₀:aD) (env:cg) (io J:aG->Prop) (W:Ow) (st:St) (s1 s:aD) (cL:f9) (stf:St) (Q:eR->aD->Prop):Prop:= ∀f s' W',tv G P cL f s'->SI G P s₀ env io W' stf s'->Mw G s₀ env J s s'->dK W st s1 W' stf->Q f s'
theorem Lp.turn (L:Lp G P s₀ env io J W st1 s1 s W' st s') (S:FX G md P s₀ env io) (IHs:eH G n r) (O:cw n A) (hm: ∀a,iw W st1 a->J a) (g01: ∀a,s1.heap.get? a=none->s.heap.get? a=none) {k:Nat} {ow:List Nat} {tg:Expr} {t:Tg} {body:List ed} (hT:mX (G.Tl md) env.scope tg=some t)
  {f:Bool} {x:V} {l:List V} {v:aA} (hP: ∀a,P1 a->f=true->yZ P env W' a) (rv:VR G P1 s'.heap x v) (e:r9 r t f (qx (G.Tl md) ow k env.scope body) (x::l) st=some (cL,stf)) {Q K:eR->aD->Prop} {E':aA->aD->Prop}
  (h:LQ G P s₀ env io J W st1 s1 s cL stf Q) (hb: ∀s',Q .next s'->K .brk s') (hr: ∀u s',Q (.ret u) s'->K (.ret u) s')
  (nx: ∀s4 Wc stc,r9 r t f (qx (G.Tl md) ow k env.scope body) l stc=some (cL,stf)->Lp G P s₀ env io J W st1 s1 s Wc stc s4->Mw G s₀ env (iw W' st) s' s4->K .next s4):
  aF G.M A (assign tg env v) (λ_ s₂=>aF G.M A (lW body env) K E' s₂) E s':=by
 refine bD e λstb hb1 q1 hb2 e=>Ed (J:=iw W' st) S L.I O.handled hT hb1 hP rv λs3 Wb I3 M3 g3=>jP IHs S O body Wb stb s3 _ q1.1 q1.2 hb2 I3 λfl s4 Wc ho I4 M4 g4=>?_
 have M34:=M3.trans M4 g3.mt
 have L4:Lp G P s₀ env io J W st1 s1 s Wc q1.2 s4:=⟨I4,L.M.trans M34 λa q=>(L.gr.mt a q).imp (hm a) (g01 a),L.gr.trans (g3.trans g4 M3.gone) L.gg,λa q=>L.gg a (M34.gone a q)⟩
 obtain⟨o1,stc⟩:=q1
 clear hb2 I4 g4;cases o1 with
 |next=>exact(show fl= .next from ho)▸nx s4 Wc stc e L4 M34
 |brk=>exact(show fl= .brk from ho)▸hb s4 (rN (C:=λcL stf=>LQ G P s₀ env io J W st1 s1 s cL stf Q) e h .next s4 Wc rfl L4.I L4.M L4.gr)
 |ret w fl=>exact ho.elim λu q=>q.1▸hr u s4 (rN (C:=λcL stf=>LQ G P s₀ env io J W st1 s1 s cL stf Q) e h (.ret u) s4 Wc ⟨u,rfl,q.2⟩ L4.I L4.M L4.gr)
theorem SI.itAt (I:SI G P s₀ env io W st s') (M:Mw G s₀ env J s s') {o:db} {vs:Array aA} (ho:s'.heap.get? D=some o) (hd:o.data= .fields vs) (hn:dF o) (h0:s₀.heap.get? D=none) (hD:s.heap.get? D=none) (hc: ¬i9 s₀ env D) (hb:G.h0.get? D=none) {tk:Nat} (k: ∀b o,b≠D->s'.heap.get? b=some o->h'.get? b=some o):
  (∀a,h'.get? a=none->a≠D->s'.heap.get? a=none)/\SI G P s₀ env io W st {s' with heap:=h',toks:=tk}/\Mw G s₀ env J s {s' with heap:=h',toks:=tk}:=by
 have kg: ∀a,h'.get? a=none->a≠D->s'.heap.get? a=none:=λa e hne=>by
  cases hh:s'.heap.get? a with
  |none=>rfl
  |some o=>exact cI (e.symm.trans (k a o hne hh))
 have gone: ∀{x:ah},x.get? D=none->(∀a,s'.heap.get? a=none->x.get? a=none)-> ∀a,h'.get? a=none->x.get? a=none:=λ{x} hx g a e=>(jy (a=D)).elim (λq=>q▸hx) λq=>g a (kg a e q)
 refine⟨kg,I.trn (s':={s' with heap:=h',toks:=tk}) (j2.itAt ho ⟨_,hd⟩ hn k) (I.tabs.but ho hn k) (gone h0 I.gone) (λa e=>e▸hb) (λa e=>e▸⟨hc,(jl I ho hd).1,λy hy=>?_⟩) (λa o' e ho' hso=>hso.fields (aC (ho.symm.trans (e▸ho'))▸hd)),?_⟩
 ·refine obE22 (I.cells y D hy) λw o2 ho2 hd2=>?_
  exact aI (hd.symm.trans (aC (ho.symm.trans ho2)▸hd2))
 ·exact⟨λb o e h1 h2 h3=>k b o (λhb=>cI (hD.symm.trans (hb▸e))) (M.keep b o e h1 h2 h3),λP' x v ok hp r=>VR.butO ho ⟨_,hd⟩ hn k ok (M.val P' x v ok hp r),gone hD M.gone,M.os,M.gens,M.bare⟩
theorem Dh (S:FX G md P s₀ env io) (IHs:eH G n r) (O:cw n A) {k:Nat} {ow:List Nat} {tg:Expr} {t:Tg} {body:List ed} (hT:mX (G.Tl md) env.scope tg=some t)
  {l:List V} {I:aG} {fp:List aG} {Sx:Nat->ah->Prop} {f:Bool} (Wi:rz G P1 l I fp Sx) (hP: ∀a,P1 a->(f=true->yZ P env W a)/\ ¬i9 s₀ env a/\ ¬iw W st1 a/\s1.heap.get? a≠none)
  (ap: ∀b∈fp,¬i9 s₀ env b/\b∉G.tb/\(b=I\/(¬iw W st1 b/\s1.heap.get? b≠none))) (hI0:s.heap.get? I=none) (g01: ∀a,s1.heap.get? a=none->s.heap.get? a=none) (hI00:s₀.heap.get? I=none) (hm1: ∀a,iw W st1 a->iw W st a)
  (e:r9 r t f (qx (G.Tl md) ow k env.scope body) l st1=some (cL,stf)) (I2:SI G P s₀ env io W st1 s2) (hs:Sx 0 s2.heap) (M0:Mw G s₀ env (λa=>iw W st a\/a=I) s s2) (g12: ∀a,s2.heap.get? a=none->s1.heap.get? a=none) {Q:eR->aD->Prop} {E':aA->aD->Prop}
  (h:LQ G P s₀ env io (iw W st) W st1 s1 s cL stf Q):
  ec G.M A (.forLoop tg (.ref I) body [] env) (λr s'=>match r with| .ok f=>Q f s'| .error e=>E' e s') s2:=by
 have h':LQ G P s₀ env io (λa=>iw W st a\/a=I) W st1 s1 s cL stf Q:=λf s' W' ho I' M'=>h f s' W' ho I' (M'.close hI0)
 clear h
 refine(show∃V:Nat->aD->Prop,∀j sa,V j sa↔ ∃i Wa sta,(i+j=l.length/\r9 r t f (qx (G.Tl md) ow k env.scope body) (l.drop i) sta=some (cL,stf))/\Lp G P s₀ env io (λa=>iw W st a\/a=I) W st1 s1 s Wa sta sa/\Sx i sa.heap from⟨_,λ_ _=> .rfl⟩).elim λV iv=>?_
 refine zJ V (λj sa H E2 K B kn kb kr ks k0=>?_) l.length ((iv ..).mpr ⟨0,W,st1,⟨pw _,e⟩,⟨I2,M0,.refl,g12⟩,hs⟩)
 refine obE33 ((iv ..).mp H) λi Wa sta hij L ha=>?_
 refine obE35 (Wi.obj _ _ ha) λo T vs ho hc hd hot hnc=>?_
 have step:=λh' tk k=>SI.itAt (h':=h') (tk:=tk) L.I L.M ho hd hnc hI00 hI0 (ap I Wi.own).1 (gV S.base hI00) k
 by_cases hlt:i<l.length
 ·refine zP hlt λx hx hdr=>Wi.item A _ sa _ i x O.handled hx ha λv h1 tk hsb hst rv=>ks v _<|letgo_ok Wi (s:={sa with heap:=h1,toks:=tk}) hst ?_
  refine obE03 (step h1 tk λc o hb e=>(hsb.2 c hb).trans e) λkg Ib Mb=>?_
  refine obE34 (Wi.obj _ _ hst) λoI T1 vs1 hoI _ hdI _=>?_
  refine Lp.turn (Q:=Q) ⟨Ib,Mb,L.gr,λa e=>L.gg a (kg a e λq=>cI (e.symm.trans (q▸hoI)))⟩ S IHs O (λa q=> .inl (hm1 a q)) g01 hT (λa pa hf=>⟨((hP a pa).1 hf).1,((hP a pa).1 hf).2.1,λy hy=>(L.gr.ws y a hy).elim (λq=>q.elim ((hP a pa).1 hf).2.2) (hP a pa).2.2.2⟩) rv (hdr▸hij.2) h' kb kr λs4 Wc stc e4 L4 M4=>
   kn (j-1) s4 (HM hij.1 hlt).1 ((iv ..).mpr ⟨i+1,Wc,stc,⟨(HM hij.1 hlt).2,e4⟩,L4,Wi.frame _ _ _ hst (λb hb o ho=>M4.keep b o ho (ap b hb).1 (ap b hb).2.1 λq=>?_) λvs rv=>M4.vals (λa pa=>⟨(hP a pa).2.1,λq=>(L.gr.mt a q).elim (hP a pa).2.2.1 (hP a pa).2.2.2⟩) Wi.firm rv⟩)
  exact(ap b hb).2.2.elim (λe=>(jl Ib hoI hdI).2 (e▸q)) λa3=>(L.gr.mt b q).elim a3.1 a3.2
 ·cases Ll hij.1 hlt
  refine rN (C:=λcL stf=>LQ G P s₀ env io (λa=>iw W st a\/a=I) W st1 s1 s cL stf Q) ((congrArg (λz=>r9 r t f _ z sta) qL).symm.trans hij.2) h'|>λh'=>?_
  refine Wi.done A _ sa _ O.handled ha λh1 hx=>?_
  exact k0 _ (h' .next _ Wa rfl (step h1 sa.toks λc o hb e=>hx c o hb e).2.1 (step h1 sa.toks λc o hb e=>hx c o hb e).2.2 L.gr)
end
end
section
open PySem.Spec PySem.Calls PyProof.Rows PySem.W
section
variable {G:Gl} {A:aZ} {E:aA->aD->Prop} {P P' P1:aG->Prop} {s₀ s s' s1 s2 s'':aD} {env:cg} {io J J' Z:aG->Prop} {W W' W0:Ow} {h h':ah} {md n:Nat} {st st' st1 st0 stf:St} {r:Ev} {m m':aN->Option aA} {T:TE} {sc:bE} {Pr:cY} {cL:f9} {C D:aG}
theorem u7 {x:V} {v:aA} {l:List V} (hf:gR x=some l) (hl: ∀a o,P a->h.get? a=some o->(∀w,o.data≠ .cell w)->P' a) (rv:VR G P h x v):VR G P' h x v:=by
 cases x with
 |str _=>exact rv
 |tup l=>exact aj hf λhc _=>VR.refineF hl _ _ hc rv
 |list l=>exact aj hf λhc _=>VR.refineF hl _ _ hc rv
 |range _ _=>exact rv
 |rev l=>exact aj hf λhc _=>rv.imp λb r=>r.imp λa r=>r.imp λia r=>⟨r.1,r.2.2.2.1.elim λn ha=>hl _ _ r.2.1 ha (λ_=>aI),r.2.2.1,r.2.2.2.1,bh.refineF hl _ _ hc r.2.2.2.2⟩
 |_=>exact cI hf
theorem SI.lend (I:SI G P s₀ env io W st s) {x:Nat} {k k':SK} {v:V} (e:st.get x=some ⟨k,v⟩) (hk:k= .own\/k= .lent) (hk':k'= .own\/k'= .lent):SI G P s₀ env io W (st.put x ⟨k',v⟩) s:=by
 refine⟨I.tabs,I.base,I.gone,I.ns.imp λm H=>⟨H.1,λy sl e'=>iM e' (λhy e1=>?_) λ_ e1=>H.2 y sl e1⟩,I.cells,I.ws,I.inj⟩
 have n: ∀{k:SK},k= .own\/k= .lent->k≠ .nd/\k≠ .inout/\k.owner=true:=λh=>by rcases h with h|h<;>rw[h]<;>exact⟨(λh=>SK.noConfusion h),(λh=>SK.noConfusion h),rfl⟩
 refine(hy)▸?_
 refine(e1)▸?_
 have H2:=H.2 x _ e
 exact(H2.el (n hk).1).elim λw r=> .at_ H2.1 (n hk').1 r.1 (.oI (n hk').2.2 ((r.2.oE (n hk).2.2).imp λD q=>⟨q.1,⟨λh=>((n hk').2.1 h).elim,λ_=>q.2.1.2 (n hk).2.1⟩,q.2.2⟩))
theorem i9.notNew (S:FX G md P s₀ env io) (I:SI G P s₀ env io W st s) {a:aG} (h:s.heap.get? a=none): ¬i9 s₀ env a:=λhz=>(I.chg S hz).elim λ_ q=>cI (h.symm.trans q.1)
theorem SI.notChg (I:SI G P s₀ env io W st s) {a:aG} {o:db} (ho:s.heap.get? a=some o) (hL:a≠env.locals) (hd: ∀v,o.data≠ .cell v): ¬i9 s₀ env a:=λhz=>hz.elim hL λe=>e.elim λy q=>I.notCell ho hd y q.1 q.2
theorem Aa (I:SI G P s₀ env io W st s) {a:aG} {xs:Array aA} {n:Nat} (ho:s.heap.get? a=some {cls:= .type "list",data:= .seq xs n}):a≠env.locals:=λhL=>
 obE31 I.locE λ_ _ _ r=>aI (r.2.symm.trans (congrArg ik (aC (r.1.symm.trans (hL▸ho)))))
theorem Dg (S:FX G md P s₀ env io) (IHs:eH G n r) (O:cw n A) {k:Nat} {ow:List Nat} {tg:Expr} {t:Tg} {body:List ed} (hT:mX (G.Tl md) env.scope tg=some t) {f:Bool} {v:aA} {x:V} {l:List V} (hl1:gR x=some l)
  (I:SI G P s₀ env io W st s) (I1:SI G P s₀ env io W st1 s1) (X:cD G s s1) (hm1: ∀a,iw W st1 a->iw W st a)
  (rv:VR G (λa=>(f=true->yZ P env W a)/\ ¬i9 s₀ env a/\ ¬iw W st1 a/\s1.heap.get? a≠none) s1.heap x v) (fr:(∃l',x= .rev l')-> ∀a,v= .ref a->s.heap.get? a=none)
  (e:r9 r t f (qx (G.Tl md) ow k env.scope body) l st1=some (cL,stf)) {Q:eR->aD->Prop} {E':aA->aD->Prop}
  (h: ∀f s' W',tv G P cL f s'->SI G P s₀ env io W' stf s'->Mw G s₀ env (iw W st) s s'->dK W st1 s W' stf->Q f s'):
  aF G.M A (wt v) (λit s2=>ec G.M A (.forLoop tg it body [] env) (λr s'=>match r with| .ok f=>Q f s'| .error e=>E' e s') s2) E s1:=by
 refine u6 X.tabs hl1 rv λI0 fp Sx s2 Y Wi hs2 hfr hfp=>?_
 have hI0:s.heap.get? I0=none:=by
  rcases hfr with h1|⟨h1,h2⟩
  ·exact X.gone I.tabs h1
  ·exact fr h2 _ h1
 refine nk λcq=>?_
 refine obE34 (Wi.obj _ _ hs2) λo0 T0 vs0 ho0 hc0 hd0 _=>?_
 refine cq ?_
 refine Dh (P1:=λa=>(f=true->yZ P env W a)/\ ¬i9 s₀ env a/\ ¬iw W st1 a/\s1.heap.get? a≠none) (s1:=s1) S IHs O hT Wi (λa q=>q) (λb hb=>?_) hI0 (λa e=>X.gone I.tabs e) (I.gone _ hI0) hm1 e (I1.up Y) hs2 (Mw.stp I.tabs (X.trans Y)) (λa e=>Y.gone X.tabs e) λf s' W' ho I' M' g'=>h f s' W' ho I' M' (dK.refl.trans g' λa e=>X.gone I.tabs e)
 refine nk λcq=>?_
 rcases hfp b hb with rfl|⟨pb,nn,hpl⟩|⟨nn,o,ho,hc,n0,hd⟩
 all_goals refine cq ?_
 ·exact⟨i9.notNew S I hI0,Y.tabs.off ho0 (by rw[hc0];exact λh=>aq h),.inl rfl⟩
 ·exact⟨pb.2.1,X.tabs.off' hpl.choose_spec (λ_=>aI),.inr ⟨pb.2.2.1,pb.2.2.2⟩⟩
 ·refine⟨λhz=>?_,X.tabs.off' ho (by rw[hd];exact λ_=>aI),.inr ⟨λ⟨y,_,_,_,hy⟩=>?_,by rw[ho];nofun⟩⟩
  ·refine obE13 (I1.chg S hz) λo' ho' hs' _=>?_
   rw[ho]at ho';cases ho';exact hs'.tup hc hd
  ·obtain⟨_,_,o',ho',hs',_⟩:=I1.ws y b hy
   rw[ho]at ho';cases ho';exact hs'.tup hc hd
theorem CE {m:Nat} {ex:Expr} {x:Nat} (h:cH T m sc ex=some (.var x)): ∃nm p,ex= .Name nm p/\dD nm=true/\T.id nm=some x:=by
 cases hn:(lJ ex).isSome with
 |false=>exact(aL (zz h hn:isVarPE (.var x)=false))
 |true=>
  cases ex<;>try exact(aL hn)
  rename_i nm p
  cases m with
  |zero=>exact cI h
  |succ m=>
  refine aj h λhok h=>fF h (λ_ h=>ac h λi hi e=>⟨nm,p,rfl,hok,PE.var.inj (aC e)▸hi⟩) λ_ h=>aj h λ_ h=>?_
  have:sQ (isVarPE · =false) (jM T nm):=by
   unfold jM
   cases T.fns.lookup nm with
   |some k=>exact .some rfl
   |none=>exact .bind λ_=> .some rfl
  exact(aL (this _ h))
end
end
section
open PySem.Spec PySem.Calls PyProof.Rows PySem.W
section
variable {G:Gl} {A:aZ} {E:aA->aD->Prop} {P P' P1:aG->Prop} {s₀ s s' s1 s2 s'':aD} {env:cg} {io J J' Z:aG->Prop} {W W' W0:Ow} {h h':ah} {md n:Nat} {st st' st1 st0 stf:St} {r:Ev} {m m':aN->Option aA} {T:TE} {sc:bE} {Pr:cY} {cL:f9} {C D:aG}
theorem vz {x:V} {l:List V} (h1:gR x=some l) (h2:x.still=true) (h3:cj l=true) {v:aA} (rv:VR G P h x v):VR G P' h x v:=by
 cases x<;>try exact(aL h2)
 ·exact rv
 ·exact aj h1 λ_ e=>VR.flat _ _ _ (aC e▸h3) rv
 ·exact rv
theorem vc {x:V} {l:List V} (hf:gR x=some l) (hp:gu l=true):(∃q,x= .str q)\/(∃a b,x= .range a b)\/(∃q,x= .tup q/\gu q=true)\/(∃q,x= .list q/\gu q=true)\/ ∃q,x= .rev q/\gu q=true:=by
 cases x with
 |str q=>exact .inl ⟨q,rfl⟩
 |range a b=>exact .inr (.inl ⟨a,b,rfl⟩)
 |tup q=>exact aj hf λ_ e=> .inr (.inr (.inl ⟨q,rfl,bb (C:=λl=>gu l=true) e hp⟩))
 |list q=>exact aj hf λ_ e=> .inr (.inr (.inr (.inl ⟨q,rfl,bb (C:=λl=>gu l=true) e hp⟩)))
 |rev q=>exact aj hf λ_ e=> .inr (.inr (.inr (.inr ⟨q,rfl,yb q▸vw (bb (C:=λl=>gu l=true) e hp)⟩)))
 |_=>exact cI hf
theorem wA {x:V} {v:aA} {l:List V} (hf:gR x=some l) (hp:gu l=true) (hl: ∀a xs n,h.get? a=some {cls:= .type "list",data:= .seq xs n}->P' a) (rv:VR G P h x v):VR G P' h x v:=by
 rcases vc hf hp with⟨q,rfl⟩|⟨a,b,rfl⟩|⟨q,rfl,hq⟩|⟨q,rfl,hq⟩|⟨q,rfl,hq⟩
 ·exact rv
 ·exact rv
 ·exact ka hl (.tup q) _ hq rv
 ·exact ka hl (.list q) _ hq rv
 ·refine rv.imp λb r=>r.imp λa r=>r.imp λia r=>r.2.2.2.1.elim λn ha=>⟨r.1,hl _ _ _ ha,r.2.2.1,⟨n,ha⟩,?_⟩
  exact obE21 (ka hl (.list q) (.ref a) hq ⟨a,ia,rfl,r.2.1,⟨n,ha⟩,r.2.2.2.2⟩) λa' i z=>by
   have e1:=qm z.1
   subst e1
   have e2:ia=i:=z.2.2.1.elim λn' h'=>by cases(aC (ha.symm.trans h'));rfl
   exact e2▸z.2.2.2
def GW (r:Ev):Prop:= ∀st x vb,r.e st (.var x)=some vb->(st.get x).bind cA.get=some vb
theorem Ep {p:PE} {x:Nat} (h:p.var?=some x):p= .var x:=by
 cases p<;>first|exact cI h|exact congrArg PE.var (aC h)
theorem Cl {v:V} {w:aA} {l:List V} (h:cn G P' h D v w) (e:gR v=some l): ∃l0,v= .list l0:=by
 cases v<;>first|exact h.elim|exact cI e|exact⟨_,rfl⟩
theorem An (IHe:cC G n r) (IHs:eH G n r) (S:FX G md P s₀ env io) (I:SI G P s₀ env io W st s) (O:cw n A) {Q:eR->aD->Prop} {k:Nat} {ow:List Nat} {tg it:Expr} {t:Tg} {body:List ed} {pos:dM} {e:PE} {iv:VB} {l:List V} (hT:mX (G.Tl md) env.scope tg=some t) (ht:cH (G.Tl md) k env.scope it=some e) (hiv:r.e st e=some iv) (hl1:gR iv.1=some l) (hl2:(∃l',iv.1= .rev l')->oC e=true)
  (he:(if iv.2||(iv.1.still&&cj l)||(st.noOwn&&gu l)then r9 r t iv.2 (qx (G.Tl md) ow k env.scope body) l st else none)=some (cL,st')) (h:lP G P s₀ env io W st s cL st' Q):aF G.M A (gY (.For tg it body [] pos) env) Q E s:=by
 refine aj he λhc he=>?_
 have hc:=(cO.mp hc).imp (λh=>(cO.mp h).imp id aJ.mp) aJ.mp
 refine wpAny_For (hs:=qU ht env) (IHe md _ env st A E s _ k it e iv ht hiv (I.fre S) O λv s1 X rv fr=>?_)
 have I1:=I.up X
 have fr':(∃l',iv.1= .rev l')-> ∀a,v= .ref a->s.heap.get? a=none:=λhr=>by
  exact fr (om (hl2 hr)) (.inl (hl2 hr))
 refine Dg S IHs O hT hl1 I I1 X (λ_ q=>q) ?_ fr' he λf s' W' ho I' M' g'=>h f s' W' ho I' M' g'
 by_cases hf:iv.2=true
 ·have rv2:=VR.sure (.inl hf) rv
  exact u7 hl1 (λa o q ho hd=>⟨λ_=>q,I1.notChg ho q.2.1 hd,λ⟨y,_,_,_,hy⟩=>q.2.2 y hy,λe=>cI (e.symm.trans ho)⟩) rv2
 ·rcases hc with(hc|hc)|hc
  ·exact(hf hc).elim
  ·exact vz hl1 hc.1 hc.2 rv
  ·have nm: ∀a,¬iw W st a:=λa zq=>by
    refine obE23 zq λy sl q1 q2 _=>?_
    have:=mE hc.1 q1
    rcases q2 with q2|q2<;>rw[q2]at this<;>cases this
   exact wA hl1 hc.2 (λa xs nn ho=>⟨λq=>(hf q).elim,I1.notChg ho (Aa I1 ho) (λ_=>aI),nm a,by rw[ho];nofun⟩) rv
theorem Fp (IV:GW r) (IHs:eH G n r) (S:FX G md P s₀ env io) (I:SI G P s₀ env io W st s) (O:cw n A) {Q:eR->aD->Prop} {k:Nat} {ow:List Nat} {tg it:Expr} {t:Tg} {body:List ed} {pos:dM} {e:PE} {iv:VB} {l:List V} {x:Nat} {v:V} (hT:mX (G.Tl md) env.scope tg=some t) (ht:cH (G.Tl md) k env.scope it=some e) (hiv:r.e st e=some iv) (hl1:gR iv.1=some l) (ho:kh st e.var?=some (x,v))
  (he:((r9 r t iv.2 (qx (G.Tl md) ow k env.scope body) l (st.put x ⟨.lent,v⟩)).bind λq=>(q.2.get x).bind λsl=>if sl.k= .lent then some (q.1,q.2.put x ⟨.own,sl.v⟩)else none)=some (cL,st')) (h:lP G P s₀ env io W st s cL st' Q):aF G.M A (gY (.For tg it body [] pos) env) Q E s:=by
 refine nk λcq=>?_
 refine Hk ho λhev hx=>bD he λq hq sl hv' he=>aj he λhlk he=>?_
 have h:=h.of he
 have hev:=Ep hev
 subst hev
 obtain⟨kv,v'⟩:=sl
 have hlk:kv= .lent:=hlk
 subst hlk
 obtain⟨nm,p,rfl,hok,hid⟩:=CE ht
 have hnx:G.n x=nm:=Gl.n_id hid
 have hvs:=IV _ _ _ hiv
 rw[hx]at hvs
 have hivv:(v,decide (SK.own= .safe)||v.flat)=iv:=aC hvs
 subst hivv
 refine obE12 I.ns λm hm hsl=>?_
 have hs:=(hsl x _ hx).2
 rw[if_neg (show¬(SK.own=SK.nd)from(λh=>SK.noConfusion h))]at hs
 refine obE12 hs λw hw rw'=>?_
 refine cq ?_
 unfold aw at rw'
 rw[if_pos (show SK.own.owner=true from rfl)]at rw'
 refine nk λcq=>?_
 obtain⟨D,hWx,⟨hio,hD0⟩,hor⟩:=rw'
 have hor':cn G (λa=>P a/\gL s₀ env W a) s.heap D v w:=hor
 clear hvs hor hio hD0;obtain⟨l0,rfl⟩:=Cl hor' hl1
 obtain⟨hwD,hfl,items,hpl,rvs⟩:=hor'
 have hl0:l0=l:=aj hl1 λ_ e=>aC e
 subst hl0
 have mt1: ∀a,iw W (st.put x ⟨.lent,.list l0⟩) a->iw W st a:=λa zq=>by
  refine obE23 zq λy sl q1 q2 q3=>?_
  rw[St.get_put]at q1
  refine fF q1 (λ_ e=>?_) λ_ e=>⟨y,sl,e,q2,q3⟩
  have e:=aC e
  clear q1;subst e
  exact(q2.elim (λh=>SK.noConfusion h) (λh=>SK.noConfusion h))
 have nx: ∀a,iw W (st.put x ⟨.lent,.list l0⟩) a->W x≠some a:=λa zq hxa=>by
  refine obE23 zq λy sl q1 q2 q3=>?_
  rw[I.inj _ _ _ q3 hxa,St.get_put,if_pos rfl]at q1
  have e:=aC q1
  subst e
  exact(q2.elim (λh=>SK.noConfusion h) (λh=>SK.noConfusion h))
 obtain⟨d1,d2,od,d3,d4,d5⟩:=I.ws x D hWx
 refine cq ?_
 refine wpAny_For (hs:=qU ht env) (dg (j8 (I.fre S) hm ((hnx)▸hw) ?_) (d6 hok).1)
 refine(hwD)▸?_
 refine Dg (f:=false) (x:= .list l0) (st1:=st.put x ⟨.lent,.list l0⟩) S IHs O hT hl1 I (I.lend hx (.inl rfl) (.inr rfl)) (.refl I.tabs) mt1 ?_ (λ⟨_,q⟩=>by cases q) hq λf s' W' ho I' M' g'=>h f s' W' ho (I'.lend hv' (.inr rfl) (.inl rfl)) M' ?_
 ·exact⟨D,items,rfl,⟨nofun,I.notChg d3 d2 d5,λq=>nx _ q hWx,λe=>cI (e.symm.trans d3)⟩,hpl,bh.refine (λa o q ho _=>⟨nofun,λhz=>hz.elim q.2.1 λe=>e.elim λy r=>q.2.2.2 y r.1 r.2,λ⟨y,_,_,_,hy⟩=>q.2.2.1 y hy,λe=>cI (e.symm.trans ho)⟩) _ _ rvs⟩
 ·refine⟨λa ⟨y,sl,q1,q2,q3⟩=>?_,λy a q=>g'.ws y a q,λy sl e k=>?_⟩
  ·rw[St.get_put]at q1
   refine fF q1 (λhy _=>?_) λhy q1=>(g'.mt a ⟨y,sl,q1,q2,q3⟩).imp (mt1 a) id
   clear hev he h ht hid hnx hw hWx hiv hs hq mt1 nx q1;clear he;clear he;subst hy
   rw[(g'.ln y _ hv' rfl).1]at q3
   exact .inl ⟨y,_,hx,.inl rfl,q3⟩
  ·rw[St.get_put]at e
   refine fF e (λ_ e=>?_) λhy e=>?_
   ·have e:=aC e
    subst e;cases k
   ·obtain⟨z1,sl0,z2,z3⟩:=g'.ln y sl e k
    rw[St.get_put,if_neg hy]at z2
    exact⟨z1,sl0,z2,z3⟩
theorem Df (IHe:cC G n r) (IV:GW r) (IHs:eH G n r) (S:FX G md P s₀ env io) (I:SI G P s₀ env io W st s) (O:cw n A) {Q:eR->aD->Prop} {k:Nat} {ow:List Nat} {tg it:Expr} {t:Tg} {body:List ed} {pos:dM} {e:PE} (hT:mX (G.Tl md) env.scope tg=some t) (ht:cH (G.Tl md) k env.scope it=some e)
  (he:(step Pr r).s st (.forS t e (qx (G.Tl md) ow k env.scope body))=some (cL,st')) (h:lP G P s₀ env io W st s cL st' Q):aF G.M A (gY (.For tg it body [] pos) env) Q E s:=by
 refine bD he λiv hiv l hl he=>?_
 refine nk λcq=>?_
 cases ho:kh st e.var? with
 |none=>refine cq ?_;rw[ho]at he;exact An IHe IHs S I O hT ht hiv (ls hl).1 (ls hl).2 he h
 |some pr=>refine cq ?_;rw[ho]at he;exact Fp IV IHs S I O hT ht hiv (ls hl).1 ho he h
theorem ut (S:FX G md P s₀ env io) {v:V} {w:aA} (hf:v.flat=true): ∀(elts:List Expr) (xs:List Nat) (st:St) (s:aD) (Q:Unit->aD->Prop),dW (G.Tl md) env.scope elts=some xs->SI G P s₀ env io W st s->VR G P' s.heap v w->
  (∀s',SI G P s₀ env io W (xs.foldl (λst x=>st.put x (ai v true)) st) s'->Mw G s₀ env J s s'->dK W st s W (xs.foldl (λst x=>st.put x (ai v true)) st)->Q () s')->aF G.M A (BV w ((fZ elts env).map (·.2))) Q E s:=by
 intro zl
 induction zl with
 |nil=>
  intro xs st s Q e I rv h
  cases e
  exact aK (h s I .refl .refl)
 |cons e es ih=>
  intro xs st s Q en I rv h
  obtain⟨x,p,i,t,rfl,rfl,ho,hi,ht⟩:=eD en
  have hk:=dT v true
  have go: ∀{K:l6 Unit},(∀s1,SI G P s₀ env io W (st.put i (ai v true)) s1->Mw G s₀ env J s s1->VR G P' s1.heap v w->aF G.M A K Q E s1)->aF G.M A (assign (.Name x p) env w) (λ_ s1=>aF G.M A K Q E s1) E s:=λhK=>
   cz (I.store (J:=J) S hi ho hk.1 (I.rel (f:=true) (fk v hf) (.inr (.inl hf)) (VR.flat _ _ _ hf rv)) λs1 I1 M1 tr=>hK s1 I1 M1 (by
    have:=tr i ⟨.safe,v⟩ w (by unfold aw;rw[if_neg (show¬(SK.safe.owner=true)from bR)];exact⟨fm (fk v hf),VR.flat _ _ _ hf rv⟩)
    unfold aw at this
    rw[if_neg (show¬(SK.safe.owner=true)from bR)]at this
    exact VR.flat _ _ _ hf this.2))
  have tail:=λs1 I1 (rv1:VR G P' s1.heap v w) h1=>ih t (st.put i (ai v true)) s1 Q ht I1 rv1 h1
  cases es with
  |nil=>
   have ht:[]=t:=aC ht
   clear en tail;subst ht
   show aF G.M A (assign (.Name x p) env w) Q E s
   exact cz (I.store (J:=J) S hi ho hk.1 (I.rel (f:=true) (fk v hf) (.inr (.inl hf)) (VR.flat _ _ _ hf rv)) λs1 I1 M1 _=>h s1 I1 M1 (.put hk.2))
  |cons e2 es=>
   clear ih en;obtain⟨x2,p2,i2,tt2,rfl,rfl,ho2,hi2,ht2⟩:=eD ht
   show aF G.M A (do hV [w] (assign (.Name x p) env w);BV w ((fZ (.Name x2 p2::es) env).map (·.2))) Q E s
   exact aE (ab (go λs1 I1 M1 rv1=>tail s1 I1 rv1 λs2 I2 M2 g2=>h s2 I2 (M1.trans M2 λa q=> .inl q) ((dK.put hk.2).trans g2 M1.gone)))
theorem ur (IHe:cC G n r) (S:FX G md P s₀ env io) (I:SI G P s₀ env io W st s) (O:cw n A) {Q:eR->aD->Prop} {k:Nat} {t1 t2:Expr} {ts:List Expr} {ex:Expr} {pos:dM} {e:PE} {xs:List Nat} (hn:dW (G.Tl md) env.scope (t1::t2::ts)=some xs)
  (ht:cH (G.Tl md) k env.scope ex=some e) (he:(step Pr r).s st (.assignM xs e)=some (cL,st')) (h:lP G P s₀ env io W st s cL st' Q):aF G.M A (gY (.Assign (t1::t2::ts) ex pos) env) Q E s:=by
 refine ac he λvb hv he=>aj he λhf he=>?_
 have h:=h.of he
 have hw:jS (t1::t2::ts) ex env=dC none:=by
  obtain⟨x2,p2,i2,tt2,rfl,_⟩:=eD hn
  rfl
 refine wpAny_Assign_stores (hs:=rfl) (hw:=hw) (IHe md _ env st A E s _ k ex e vb ht hv (I.fre S) O λv s1 X rv _=>?_)
 exact ut (J:=iw W st) S hf _ xs st s1 _ hn (I.up X) rv λs2 I2 M2 g2=>h .next s2 W rfl I2 (Mw.stepS I.tabs X M2) (dK.refl.trans g2 λa e=>X.gone I.tabs e)
end
end
section
open PySem.Spec PySem.Calls PyProof.Rows PySem.W
inductive Ka:ah->ah->List PE->List VB->List aA->Prop
 |nil {h h':ah} (hg: ∀a,h'.get? a=none->h.get? a=none):Ka h h' [] [] []
 |cons {h h1 h':ah} {p:PE} {ps:List PE} {b:VB} {bs:List VB} {v:aA} {vs:List aA} (f1:freshPE p=true-> ∀l,b.1= .list l-> ∀a,v= .ref a->h.get? a=none/\h1.get? a≠none) (f2: ∀a,h1.get? a=none->h.get? a=none) (f3:Ka h1 h' ps bs vs):Ka h h' (p::ps) (b::bs) (v::vs)
section
variable {G:Gl} {A:aZ} {E:aA->aD->Prop} {P P' P1:aG->Prop} {s₀ s s' s1 s2 s'':aD} {env:cg} {io J J' Z:aG->Prop} {W W' W0:Ow} {h h':ah} {md n:Nat} {st st' st1 st0 stf:St} {r:Ev} {m m':aN->Option aA} {T:TE} {sc:bE} {Pr:cY} {cL:f9} {C D:aG}
theorem wL {p:PE} {l:List V}:xg p (.list l):= .inr ⟨_,rfl⟩
theorem GU (IH:cC G n r) {k:Nat} {pos:dM}: ∀(es:List Expr) (ps:List PE) (vbs:List VB) (s:aD) (Q:List aA->aD->Prop),b9 (cH (G.Tl md) k env.scope) es=some ps->iQ r.e st ps=some vbs->g9 G md P env st s.heap->cw n A->
  (∀vs s',cD G s s'->jW G P s'.heap vbs vs->Ka s.heap s'.heap ps vbs vs->Q vs s')->aF G.M A (wi (mw pos (gM es env))) Q E s:=by
 intro zl
 induction zl with
 |nil=>
  intro ps vbs s Q e e2 F O h
  cases e
  cases e2
  exact vA (h [] s (.refl F.tabs) rfl (.nil λ_ q=>q))
 |cons ex es ih=>
  intro ps vbs s Q e e2 F O h
  obtain⟨p,t,rfl,hp,ht⟩:=fh e
  obtain⟨b,bt,rfl,hb,hbt⟩:=re e2
  rw[qO hp]
  show aF G.M A (wi ((false,cW ex env)::mw pos (gM es env))) Q E s
  refine jr (IH md P env st A E s _ k ex p b hp hb F O λv s1 X rv fr=>?_)
  refine ih t bt s1 _ ht hbt (F.up X) O λvs s2 Y rvs fl=>h _ s2 (X.trans Y) ⟨v,vs,rfl,VR.ext Y.ext X.tabs _ _ rv,rvs⟩ (.cons (h1:=s1.heap) (λhf l hl a ha=>⟨fr hf (by rw[hl];exact wL) a ha,?_⟩) (λa e=>X.gone F.tabs e) fl)
  rw[hl]at rv
  obtain⟨a',items,e1,_,⟨nn,ho⟩,_⟩:=rv
  rw[ha]at e1;cases e1
  rw[ho];nofun
noncomputable def fg:List Nat->List Bool->List aA->List (Nat×aG)
 |x::xs,true::os,.ref a::vs=>(x,a)::fg xs os vs
 |_::xs,_::os,_::vs=>fg xs os vs
 |_,_,_=>[]
theorem FS {ps:List PE} {bs:List VB} {vs:List aA} {h h':ah} (f:Ka h h' ps bs vs): ∀{xs:List Nat} {os:List Bool},((os.zip ps).all λp=>!p.1||freshPE p.2)=true->(∀p∈os.zip bs,p.1=true-> ∃l,p.2.1= .list l)->
  (∀p∈fg xs os vs,h.get? p.2=none)/\(fg xs os vs).Pairwise (λp q=>p.2≠q.2):=by
 induction f with
 |nil hg=>
  intro xs os _ _
  have:fg xs os []=[]:=by cases xs with
   |nil=>rfl
   |cons x xs=>cases os with
    |nil=>rfl
    |cons o os=>cases o<;>rfl
  refine(this)▸?_
  exact⟨(λ_ h=>(aU h).elim),dh⟩
 | @cons h h1 h' p ps b bs v vs f1 f2 f3 ih=>
  intro xs os ho hl
  cases xs with
  |nil=>exact⟨(λ_ h=>(aU h).elim),dh⟩
  |cons x xs=>
  cases os with
  |nil=>exact⟨(λ_ h=>(aU h).elim),dh⟩
  |cons o os=>
  simp only[gf,fY,ag]at ho
  obtain⟨i1,i2⟩:=ih (xs:=xs) ho.2 (λq hq=>hl q (.tail _ hq))
  have rest:fg (x::xs) (o::os) (v::vs)=fg xs os vs->(∀p∈fg (x::xs) (o::os) (v::vs),h.get? p.2=none)/\(fg (x::xs) (o::os) (v::vs)).Pairwise (λp q=>p.2≠q.2):=λe=>by
   rw[e];exact⟨λp hp=>f2 _ (i1 p hp),i2⟩
  cases o with
  |false=>exact rest rfl
  |true=>
   cases v
   case ref a=>
    have e:fg (x::xs) (true::os) (.ref a::vs)=(x,a)::fg xs os vs:=rfl
    rw[e]
    obtain⟨l,hbl⟩:=hl (true,b) (.head _) rfl
    obtain⟨z1,z2⟩:=f1 (by exact ho.1) l hbl a rfl
    refine⟨λp hp=>?_,B0.mpr ⟨λq hq e=>?_,i2⟩⟩
    ·rcases aO.mp hp with rfl|hp
     ·exact z1
     ·exact f2 _ (i1 p hp)
    ·have e':a=q.2:=e
     exact z2 (e'▸i1 q hq)
   all_goals exact rest rfl
theorem vd {xs:List Nat} {os:List Bool} {vs:List aA}: ∀p∈fg xs os vs,p.1∈xs:=by
 induction xs generalizing os vs with
 |nil=>exact λp h=>(aU (a:=p) h).elim
 |cons x xs ih=>
  cases os with
  |nil=>exact λp h=>(aU (a:=p) h).elim
  |cons o os=>
   cases vs with
   |nil=>cases o<;>exact λp h=>(aU (a:=p) h).elim
   |cons v vs=>
    cases o with
    |false=>exact λp h=> .tail _ (ih p h)
    |true=>cases v<;>first|exact λp h=> .tail _ (ih p h)|exact λp h=>(aO.mp h).elim (λe=>e▸ .head _) λh=> .tail _ (ih p h)
noncomputable def CU (o:Bool) (b:VB):cA:=if o then⟨.own,b.1⟩else ai b.1 true
theorem AT {xs:List Nat} {os:List Bool} {bs:List VB} {st st':St} (e:AU st xs os bs=some st'):os.length=xs.length/\bs.length=xs.length/\st'=st.puts (xs.zip ((os.zip bs).map λp=>CU p.1 p.2))/\
  ∀p∈os.zip bs,(p.1=true/\ ∃l,p.2.1= .list l/\cj l=true)\/(p.1=false/\p.2.1.flat=true):=by
 induction xs generalizing os bs st with
 |nil=>
  cases os with
  |nil=>
   cases bs with
   |nil=>cases e;exact⟨rfl,rfl,rfl,(λ_ h=>(aU h).elim)⟩
   |cons=>exact cI e
  |cons=>exact cI e
 |cons x xs ih=>
  cases os with
  |nil=>exact cI e
  |cons o os=>
  cases bs with
  |nil=>exact cI e
  |cons b bs=>
  cases o with
  |true=>
   refine j6 (show(b.1.list?.bind λl=>if cj l then AU (st.put x ⟨.own,b.1⟩) xs os bs else none)=some st' from e) λl hl e=>aj e λhf e=>?_
   refine obE04 (ih e) λi1 i2 i3 i4=>?_
   exact⟨congrArg (· +1) i1,congrArg (· +1) i2,i3,λp hp=>(aO.mp hp).elim (λq=>by rw[q];exact .inl ⟨rfl,l,hl,hf⟩) (i4 p)⟩
  |false=>
   refine aj (show(if b.1.flat then AU (st.put x (ai b.1 true)) xs os bs else none)=some st' from e) λhf e=>?_
   refine obE04 (ih e) λi1 i2 i3 i4=>?_
   exact⟨congrArg (· +1) i1,congrArg (· +1) i2,i3,λp hp=>(aO.mp hp).elim (λq=>by rw[q];exact .inr ⟨rfl,hf⟩) (i4 p)⟩
theorem H9 (I:SI G P s₀ env io W st s) {P':aG->Prop} {os:List Bool} {bs:List VB} {vs:List aA} {xs:List Nat} (H:jW G P' s.heap bs vs) (hW: ∀p∈fg xs os vs,W p.1=some p.2/\s₀.heap.get? p.2=none)
  (hc: ∀p∈os.zip bs,(p.1=true/\ ∃l,p.2.1= .list l/\cj l=true)\/(p.1=false/\p.2.1.flat=true)):
  ∀p∈(xs.zip ((os.zip bs).map λp=>CU p.1 p.2)).zip vs,aw G P s₀ env io W s.heap p.1.1 p.1.2 p.2:=by
 induction bs generalizing os vs xs with
 |nil=>rw[fL,lY,fL];exact λ_ h=>(aU h).elim
 |cons b bs ih=>
  cases os with
  |nil=>rw[List.zip_nil_left,lY,fL];exact λ_ h=>(aU h).elim
  |cons o os=>
   cases xs with
   |nil=>exact λ_ h=>(aU h).elim
   |cons x xs=>
    refine obE23 H λv vs e0 rv rvs=>?_
    cases e0
    refine λp hp=>(aO.mp hp).elim (λe=>e▸(hc (o,b) (.head _)).elim (λq=>?_) λq=>?_) λhp=>ih rvs (λq hq=>hW q ?_) (λq hq=>hc q (.tail _ hq)) p hp
    ·clear hc;obtain⟨rfl,l,hl,hf⟩:=q
     show aw G P s₀ env io W s.heap x ⟨.own,b.1⟩ v
     have hl':b.1= .list l:=hl
     rw[hl']at rv⊢
     refine obE24 (id rv) λD items e1 _ hp r=>?_
     cases e1
     have w:=hW (x,D) (.head _)
     exact uX w.1 w.2 hf rv rfl
    ·clear hc hW hp e;obtain⟨rfl,hf⟩:=q
     exact I.rel (f:=true) (fk _ hf) (.inr (.inl hf)) (VR.flat _ _ _ hf rv)
    ·cases o with
     |false=>exact hq
     |true=>cases v<;>first|exact hq|exact .tail _ hq
theorem uo (IHe:cC G n r) (S:FX G md P s₀ env io) (I:SI G P s₀ env io W st s) (O:cw n A) {Q:eR->aD->Prop} {k:Nat} {elts es:List Expr} {c c':Nat} {p0 p' pos:dM} {ps:List PE} {xs:List Nat} {os:List Bool} (hn:dW (G.Tl md) env.scope elts=some xs) (hu:ld (elts.map A4)=true)
  (ht:b9 (cH (G.Tl md) k env.scope) es=some ps) (hc:(es.all (fR 8)&&!es.all (hS 8))=false) (he:(step Pr r).s st (.assignO xs os ps)=some (cL,st')) (h:lP G P s₀ env io W st s cL st' Q) (hes:es.length<=1000):aF G.M A (gY (.Assign [.Tuple elts c p0] (.Tuple es c' p') pos) env) Q E s:=by
 refine nk λcq=>?_
 refine aj he λhfr he=>bD he λvbs hvs st2 hput he=>?_
 have h:=h.of he
 refine obE04 (AT hput) λo1 o2 o3 o4=>?_
 refine obE12 (n7 (c:=c) (c':=c') (p:=p0) (p':=p') (env:=env) (elts:=elts) (vs:=es) hc) λsw hsw hsw2=>?_
 refine cq ?_
 have nd:=j5 hn hu
 refine rd hsw ?_
 refine wpAny_Tuple (GU IHe es ps vbs s _ ht hvs (I.fre S) O λvs s1 X rvs fl=>?_)
 have hlen:=rvs.len
 have hpl:vbs.length<=1000:=by
  have h1: ∀{es:List Expr} {ps:List PE} {vbs:List VB},b9 (cH (G.Tl md) k env.scope) es=some ps->iQ r.e st ps=some vbs->vbs.length=es.length:=by
   intro es
   induction es with
   |nil=>intro ps vbs e1 e2;cases e1;cases e2;rfl
   |cons e es ih=>
    intro ps vbs e1 e2
    refine nk λcq=>?_
    obtain⟨p,t,rfl,hp,ht⟩:=fh e1
    obtain⟨b,bt,rfl,hb,hbt⟩:=re e2
    refine cq ?_
    simp only[bJ,bJ,ih ht hbt]
  rw[h1 ht hvs];exact hes
 refine⟨by rw[bT];lia,?_⟩
 have Y:=cD.push (G:=G) X.tabs ({cls:= .type "tuple",data:= .seq vs.toArray}:db) s1.toks
 have X2:=X.trans Y
 have rvs2:=rvs.ext Y.ext X.tabs
 obtain⟨f1,f2⟩:=FS (xs:=xs) (os:=os) fl hfr (λp hp ho=>by
  rcases o4 p hp with⟨_,l,hl,_⟩|⟨hq,_⟩
  ·exact⟨l,hl⟩
  ·rw[ho]at hq;cases hq)
 have look: ∀y D,(fg xs os vs).lookup y=some D->(y,D)∈fg xs os vs:=λy D e=>dJ e
 have lookN: ∀p∈fg xs os vs,(fg xs os vs).lookup p.1=some p.2:=by
  have key: ∀(xs:List Nat) (os:List Bool) (vs:List aA),xs.Nodup-> ∀p∈fg xs os vs,(fg xs os vs).lookup p.1=some p.2:=by
   intro xs
   induction xs with
   |nil=>intro os vs _ p hp;exact(aU (a:=p) (by first|exact hp|(cases o<;>exact hp))).elim
   |cons x xs ih=>
    intro os vs nd p hp
    rw[ba]at nd
    cases os with
    |nil=>exact(aU (a:=p) (by first|exact hp|(cases o<;>exact hp))).elim
    |cons o os=>
    cases vs with
    |nil=>exact(aU (a:=p) (by first|exact hp|(cases o<;>exact hp))).elim
    |cons v vs=>
    have rest:fg (x::xs) (o::os) (v::vs)=fg xs os vs->(fg (x::xs) (o::os) (v::vs)).lookup p.1=some p.2:=λe=>by
     rw[e]at hp⊢;exact ih os vs nd.2 p hp
    cases o with
    |false=>exact rest rfl
    |true=>
     cases v<;>try exact rest rfl
     rename_i a
     show((x,a)::fg xs os vs).lookup p.1=some p.2
     rcases aO.mp (hp:p∈(x,a)::fg xs os vs)with rfl|hp
     ·simp
     ·have:p.1≠x:=λe=>nd.1 (e▸vd p hp)
      simp only[aM,show(p.1==x)=false from beq_eq_false_iff_ne.mpr this]
      exact ih os vs nd.2 p hp
  exact key xs os vs nd
 have lst: ∀p∈fg xs os vs,∃items,(s1.heap.push {cls:= .type "tuple",data:= .seq vs.toArray}).PlainList p.2 items:=by
  have key: ∀(h':ah) (xs:List Nat) (os:List Bool) (bs:List VB) (vs:List aA),jW G (yZ P env W) h' bs vs->(∀p∈os.zip bs,p.1=true-> ∃l,p.2.1= .list l)-> ∀p∈fg xs os vs,∃items,h'.PlainList p.2 items:=by
   intro h' xs
   induction xs with
   |nil=>intro os bs vs _ _ p hp;exact(aU (a:=p) (by first|exact hp|(cases o<;>exact hp))).elim
   |cons x xs ih=>
    intro os bs vs rv hl p hp
    cases os with
    |nil=>exact(aU (a:=p) (by first|exact hp|(cases o<;>exact hp))).elim
    |cons o os=>
    cases vs with
    |nil=>exact(aU (a:=p) (by first|exact hp|(cases o<;>exact hp))).elim
    |cons v vs=>
    cases bs with
    |nil=>cases rv
    |cons b bs=>
    refine obE23 rv λv' vs' e rv1 rv2=>?_
    cases e
    have rest:p∈fg xs os vs-> ∃items,h'.PlainList p.2 items:=λhp=>ih os bs vs rv2 (λq hq=>hl q (.tail _ hq)) p hp
    cases o with
    |false=>exact rest hp
    |true=>
     cases v<;>try exact rest hp
     rename_i a
     rcases aO.mp (hp:p∈(x,a)::fg xs os vs)with rfl|hp
     ·refine nk λcq=>?_
      obtain⟨l,hbl⟩:=hl (true,b) (.head _) rfl
      have hbl':b.1= .list l:=hbl
      rw[hbl']at rv1
      refine obE24 rv1 λa' items e _ hpl _=>?_
      cases e
      refine cq ?_
      exact⟨items,hpl⟩
     ·exact rest hp
  exact key _ xs os vbs vs rvs2 λp hp ho=>by
   rcases o4 p hp with⟨_,l,hl,_⟩|⟨hq,_⟩
   ·exact⟨l,hl⟩
   ·rw[ho]at hq;cases hq
 have hWd: ∃W':Ow,W'=λy=>if xs.contains y then(fg xs os vs).lookup y else W y:=⟨_,rfl⟩
 obtain⟨W',hW'⟩:=hWd
 have wIn: ∀p∈fg xs os vs,W' p.1=some p.2:=λp hp=>by
  rw[hW']
  show(if xs.contains p.1 then _ else _)=_
  rw[if_pos (by simpa using vd p hp)]
  exact lookN p hp
 have wC: ∀y D,W' y=some D->(y,D)∈fg xs os vs\/(¬xs.contains y=true/\W y=some D):=λy D e=>by
  rw[hW']at e
  dsimp only at e
  split at e
  ·exact .inl (look y D e)
  ·rename_i hy;exact .inr ⟨hy,e⟩
 have dist: ∀p∈fg xs os vs,∀q∈fg xs os vs,p.2=q.2->p=q:=by
  have key: ∀l:List (Nat×aG),l.Pairwise (λp q=>p.2≠q.2)-> ∀p∈l,∀q∈l,p.2=q.2->p=q:=by
   intro l
   induction l with
   |nil=>intro _ p hp;exfalso;cases hp
   |cons a l ih=>
    intro hpw p hp q hq e
    obtain⟨z1,z2⟩:=B0.mp hpw
    rcases aO.mp hp with hp|hp<;>rcases aO.mp hq with hq|hq
    ·exact hp.trans hq.symm
    ·exact(z1 q hq (hp▸e)).elim
    ·exact(z1 p hp (hq▸e.symm)).elim
    ·exact ih z2 p hp q hq e
  exact key _ f2
 have I1:SI G P s₀ env io W' (st.dels xs) {s1 with heap:=s1.heap.push {cls:= .type "tuple",data:= .seq vs.toArray},toks:=s1.toks}:=by
  refine(I.sub (ri st xs)).claim X2 (λy=>?_) (λy sl e hk=>?_) λx y D hx hy=>?_
  ·by_cases hy:xs.contains y=true
   ·cases hl:(fg xs os vs).lookup y with
    |none=>exact .inr (.inl (by rw[hW'];show(if xs.contains y then _ else _)=_;rw[if_pos hy,hl]))
    |some D=>
     refine nk λcq=>?_
     obtain⟨items,hpl⟩:=lst _ (look y D hl)
     refine obE13 (oz (s:={s1 with heap:=s1.heap.push {cls:= .type "tuple",data:= .seq vs.toArray}}) hpl) λo q1 q2 q3=>?_
     refine cq ?_
     exact .inr (.inr ⟨D,o,by rw[hW'];show(if xs.contains y then _ else _)=_;rw[if_pos hy,hl],f1 _ (look y D hl),q1,q2,q3⟩)
   ·exact .inl (by rw[hW'];show(if xs.contains y then _ else _)=_;rw[if_neg hy])
  ·rw[kG]at e
   split at e
   ·cases e
   ·rename_i hy
    rw[hW'];show(if xs.contains y then _ else _)=_;rw[if_neg hy]
  ·rcases wC x D hx with h1|⟨h1,h2⟩<;>rcases wC y D hy with h3|⟨h3,h4⟩
   ·have:=dist _ h1 _ h3 rfl
    exact congrArg Prod.fst this
   ·exact(I.dne h4 (f1 _ h1) rfl).elim
   ·exact(I.dne h2 (f1 _ h3) rfl).elim
   ·exact I.inj _ _ _ h2 h4
 have hszs:((os.zip vbs).map λp=>CU p.1 p.2).length=xs.length:=by simp[o1,o2]
 have hxs:(xs.zip ((os.zip vbs).map λp=>CU p.1 p.2)).map (·.1)=xs:=qK (by lia)
 have hndk: ∀sl∈(os.zip vbs).map λp=>CU p.1 p.2,sl.k≠ .nd:=λsl hs=>by
  obtain⟨p,_,rfl⟩:=aP.mp hs
  unfold CU
  split
  ·nofun
  ·exact(dT _ _).1
 have hget: ∀y,st2.get y=((xs.zip ((os.zip vbs).map λp=>CU p.1 p.2)).lookup y).or (st.get y):=λy=>by
  rw[o3];exact rI y _ _ (by rw[hxs];exact nd)
 have hgetN: ∀y,¬xs.contains y=true->st2.get y=st.get y:=λy hy=>by
  rw[hget y]
  have:(xs.zip ((os.zip vbs).map λp=>CU p.1 p.2)).lookup y=none:=by
   rw[dQ]
   intro p hp
   rw[bne_iff_ne,ne_eq]
   intro e
   exact hy (by simpa using e▸(cN hp).1)
  rw[this];rfl
 refine qW (J:=iw W st) (items:=vs.toArray) S O.handled I1 hsw2 ⟨_,aS _ rfl,rfl,0,rfl⟩ hn (by simp[hlen,o2]) hszs nd hndk ?_ λs3 I3 M3=>?_
 ·exact H9 (xs:=xs) I1 (by simpa using rvs2) (λp hp=>⟨wIn p hp,I.gone _ (f1 p hp)⟩) o4
 ·refine h .next s3 W' rfl (I3 st2 λy=>by rw[hget y];exact ki hxs y) (Mw.stepS I.tabs X2 M3) ⟨λa ⟨y,sl,q1,q2,q3⟩=>?_,λy a q=>?_,λy sl e kl=>?_⟩
  ·rcases wC y a q3 with h1|⟨h1,h2⟩
   ·exact .inr (f1 _ h1)
   ·refine .inl ⟨y,sl,?_,q2,h2⟩
    rw[hgetN y h1]at q1;exact q1
  ·rcases wC y a q with h1|⟨h1,h2⟩
   ·exact .inr (f1 _ h1)
   ·exact .inl ⟨y,h2⟩
  ·by_cases hy:xs.contains y=true
   ·exfalso
    rw[hget y]at e
    cases hl:(xs.zip ((os.zip vbs).map λp=>CU p.1 p.2)).lookup y with
    |none=>
     rw[dQ]at hl
     have:y∈(xs.zip ((os.zip vbs).map λp=>CU p.1 p.2)).map (·.1):=by rw[hxs];simpa using hy
     refine obE12 (aP.mp this) λp hp hp2=>?_
     have:=hl p hp
     simp[hp2]at this
    |some q=>
     rw[hl]at e
     have e':q=sl:=aC e
     have hm:=(cN (dJ hl)).2
     refine obE12 (aP.mp hm) λp _ hp=>?_
     replace kl:=(hp)▸(e')▸kl
     unfold CU at kl
     split at kl
     ·cases kl
     ·have:=(dT p.2.1 true).2;rw[kl]at this;cases this
   ·rw[hgetN y hy]at e
    refine⟨?_,sl,e,kl⟩
    rw[hW'];show(if xs.contains y then _ else _)=_;rw[if_neg hy]
end
end
section
open PySem.Spec PySem.Calls PyProof.Rows PySem.W
section
variable {G:Gl} {A:aZ} {E:aA->aD->Prop} {P P' P1:aG->Prop} {s₀ s s' s1 s2 s'':aD} {env:cg} {io J J' Z:aG->Prop} {W W' W0:Ow} {h h':ah} {md n:Nat} {st st' st1 st0 stf:St} {r:Ev} {m m':aN->Option aA} {T:TE} {sc:bE} {Pr:cY} {cL:f9} {C D:aG} {x:Nat} {l l':List V}
structure BN (G:Gl) (P:aG->Prop) (s₀:aD) (env:cg) (W:Ow) (st:St) (s:aD) (x:Nat) (k:SK) (l:List V) (D:aG) (items:Array aA):Prop where
 get:st.get x=some ⟨k,.list l⟩
 kk:k= .own\/k= .inout
 w:W x=some D
 pl:s.heap.PlainList D items
 vs:bh G (λa=>P a/\gL s₀ env W a) s.heap l items.toList
 firm:bo l=true
 len:l.length<=100000
 holds: ∃m,s.heap.Ns env.locals m/\iV env m s.heap (G.n x) (.ref D)
theorem iF (I:SI G P s₀ env io W st s) (e:ce st x=some l): ∃k D items,BN G P s₀ env W st s x k l D items:=
 ac e λsl hk e1=>aj e1 λho e2=>j6 e2 λl' hl e3=>aj e3 λhz e4=>I.ns.elim λm q=>by
  obtain⟨k,v⟩:=sl
  have e5:=aC e4
  clear e e3 e4;subst e5
  have hl:v= .list l':=hl
  clear e1 e2;subst hl
  have h2:=(q.2 x _ hk).2
  have n1:k≠ .nd/\k.owner=true:=ho.elim (λh=>(show k= .own from h)▸⟨(λh=>SK.noConfusion h),rfl⟩) λh=>(show k= .inout from h)▸⟨(λh=>SK.noConfusion h),rfl⟩
  rw[if_neg (show¬(k= .nd)from n1.1)]at h2
  refine obE12 h2 λw hw rw'=>?_
  unfold aw at rw'
  rw[if_pos (show k.owner=true from n1.2)]at rw'
  obtain⟨D,e1,_,hwD,hf,items,hpl,hvs⟩:=rw'
  exact⟨k,D,items,hk,ho,e1,hpl,hvs,hf,of_decide_eq_true hz,m,q.1,by rw[<-hwD];exact hw⟩
theorem BN.up {k:SK} {items:Array aA} (H:BN G P s₀ env W st s x k l D items) (T:aY G s.heap) (Y:cD G s s'):BN G P s₀ env W st s' x k l D items:=by
 refine nk λcq=>?_
 obtain⟨n,ho⟩:=H.pl
 refine obE12 H.holds λm hm hh=>?_
 refine cq ?_
 exact⟨H.get,H.kk,H.w,⟨n,Y.ext _ _ ho (T.off' ho (λ_=>aI))⟩,bh.ext Y.ext T _ _ H.vs,H.firm,H.len,m,(Y.ext.all T).ns hm,hh.ext Y.ext T⟩
theorem kA {k:SK} (e:st.get x=some ⟨k,.list l⟩):fw st x l'=st.put x ⟨k,.list l'⟩:=by unfold fw;rw[e]
theorem dK.reown {k:SK} {v:V} (e:st.get x=some ⟨k,v⟩) {v':V}:dK W st s W (st.put x ⟨k,v'⟩):=by
 refine⟨λa ⟨y,sl,q1,q2,q3⟩=> .inl ?_,λy a q=> .inl ⟨y,q⟩,λy sl q k'=>⟨rfl,?_⟩⟩
 ·rw[St.get_put]at q1
  split at q1
  ·rename_i hy
   cases q1
   subst hy
   exact⟨y,_,e,q2,q3⟩
  ·exact⟨y,sl,q1,q2,q3⟩
 ·rw[St.get_put]at q
  refine nk λcq=>?_
  split at q
  all_goals refine cq ?_
  ·rename_i hy
   cases q
   subst hy
   exact⟨_,e,k'⟩
  ·exact⟨sl,q,k'⟩
theorem mD (S:FX G md P s₀ env io) (I:SI G P s₀ env io W st s) {k:SK} {items items':Array aA} {h':ah} {tk:Nat} (H:BN G P s₀ env W st s x k l D items) (hsb: ∀b o,b≠D->s.heap.get? b=some o->h'.get? b=some o) (hpl:h'.PlainList D items') (hf:bo l'=true)
  (hvs:bh G (λa=>P a/\gL s₀ env W a) s.heap l' items'.toList):SI G P s₀ env io W (fw st x l') {s with heap:=h',toks:=tk}/\Mw G s₀ env (iw W st) s {s with heap:=h',toks:=tk}/\dK W st s W (fw st x l'):=by
 obtain⟨n0,hD⟩:=H.pl
 have hs:ca {cls:= .type "list",data:= .seq items n0}:= .list _ _
 have ko:k.owner=true:=by rcases H.kk with h|h<;>rw[h]<;>rfl
 have hvs':bh G (λa=>P a/\gL s₀ env W a) h' l' items'.toList:=bh.but hD hs (λq=>q.2.2.1 x H.w) hsb _ _ hvs
 obtain⟨i1,i2⟩:=I.turn (tk:=tk) S (sl:=⟨k,.list l⟩) (v':= .list l') H.get ko H.w hD hs hsb (by obtain⟨nn,ho⟩:=hpl;exact⟨_,ho,.list _ _,(λ_=>aI)⟩) λw ⟨hw,_,_⟩=>⟨hw,hf,items',hpl,hvs'⟩
 rw[kA H.get]
 exact⟨i1,i2.weak λa e=>e▸⟨x,_,H.get,H.kk,H.w⟩,.reown H.get⟩
theorem A0 (S:FX G md P s₀ env io):interactive env=false:=by
 unfold interactive
 rw[S.kind];rfl
theorem rP (IHe:cC G n r) (S:FX G md P s₀ env io) (I:SI G P s₀ env io W st s) (O:cw n A) {kk:SK} {items:Array aA} (H:BN G P s₀ env W st s x kk l D items) {k:Nat} {nm mn:aN} {p0 ap pos:dM} {args:List Expr} {ps:List PE} {as:List VB} {id:String} (hok:dD nm=true) (hid:G.T.id nm=some x)
  (ea:b9 (cH (G.Tl md) k env.scope) args=some ps) (va:iQ r.e st ps=some as) (hl:args.length<=8) (hline:(ap.endLine==pos.line)=true) (slot:PySem.Slot "list" mn id) (hty:typeOf (.builtin id)=dC (.type "method_descriptor")) (pa:PlainAttrs "list") {Q:aA->aD->Prop}
  (h: ∀vs s',cD G s s'->jW G (yZ P env W) s'.heap as vs->aF G.M A (call (.builtin id) (.ref D::vs)) Q E s'):aF G.M A (cW (.Call (.Attribute (.Name nm p0) mn ap) args [] pos) env) Q E s:=by
 have hnx:G.n x=nm:=Gl.n_id hid
 refine Be (jR rfl) (xp ea hl) hline rfl ?_
 refine nk λcq=>?_
 refine obE12 H.holds λm hm hh=>?_
 refine cq ?_
 refine dg (j8 (I.fre S) hm ((hnx)▸hh) ?_) (d6 hok).1
 obtain⟨n0,hD⟩:=H.pl
 refine⟨"list",id,pa,slot,hty,⟨_,hD,rfl⟩,λa e=>by cases e;exact⟨_,hD,rfl⟩,?_⟩
 exact da (first:=[.ref D]) (kws:=[]) (kns:=[]) (qs:=[]) (ks:=[]) IHe ea rfl rfl va rfl (I.fre S) O λvs us s2 X2 rv ru=>⟨λQ' h'=>gy h',h vs s2 X2 rv⟩
theorem kF {e:Expr} {pos:dM} {Q:eR->aD->Prop} (S:FX G md P s₀ env io) (hc: ∃f a b c,e= .Call f a b c) (h:aF G.M A (cW e env) (λ_=>Q .next) E s):aF G.M A (gY (.Expr e pos) env) Q E s:=
 wpAny_Expr_any h (A0 S) (by clear h;obtain⟨f,a,b,c,rfl⟩:=hc;rfl)
theorem SI.elem (I:SI G P s₀ env io W st s) {v:V} {w:aA} {f:Bool} (hf:v.firm=true) (hc:f=true\/v.flat=true) (rv:VR G (Pm f (yZ P env W)) s.heap v w):VR G (λa=>P a/\gL s₀ env W a) s.heap v w:=by
 have:=I.off (f:=true) hf (VR.mono (λa q=>⟨λ_=>q.1,q.2⟩) _ _ (VR.sure hc rv))
 exact VR.mono (λa q=>⟨q.1 rfl,q.2⟩) _ _ this
theorem iw.old (I0:SI G P s₀ env io W0 st0 s) (g:dK W st s W0 st0): ∀a,iw W0 st0 a->iw W st a:=λa q=>by
 rcases g.mt a q with h|h
 ·exact h
 ·refine obE23 q λy _ _ _ hy=>?_
  obtain⟨_,_,o,ho,_⟩:=I0.ws y a hy
  rw[h]at ho;cases ho
theorem Aq {v:V} (h:v.firm=true):bo [v]=true:=eW.mpr λ_ hv=>ao.mp hv▸h
theorem Ft {a b:PE} {x y:VB} (h:r.e st a=some x) (h':r.e st b=some y):iQ r.e st [a,b]=some [x,y]:=by rw[iQ,h,ir h'];rfl
theorem wb (IHe:cC G n r) (S:FX G md P s₀ env io) (I:SI G P s₀ env io W st s) (O:cw n A) {Q:eR->aD->Prop} {k:Nat} {nm:aN} {ex:Expr} {p0 ap p2 pos:dM} {e:PE} (hok:dD nm=true) (hid:G.T.id nm=some x) (hline:(ap.endLine==p2.line)=true)
  (ht:cH (G.Tl md) k env.scope ex=some e) (he:(step Pr r).s st (.append x e)=some (cL,st')) (h:lP G P s₀ env io W st s cL st' Q):aF G.M A (gY (.Expr (.Call (.Attribute (.Name nm p0) ("append" :aN) ap) [ex] [] p2) pos) env) Q E s:=by
 refine nk λcq=>?_
 refine bD he λl hl vb hv he=>aj he λhc he=>mh hc λhor hfm _=>?_
 have h:=h.of he
 have hor:=cO.mp hor
 refine obE12 (SI.freeze S (be e) W st I) λW0 I0 g0=>?_
 refine obE31 (iF I0 hl) λkk D items H=>?_
 refine cq ?_
 refine kF S ⟨_,_,_,_,rfl⟩ (rP (k:=k) IHe S I0 O H hok hid (ps:=[e]) (as:=[vb]) (Gi ht) (ir hv) (show 1<=8 by decide) hline PySem.F.slot_list_append PySem.F.type_list_append PySem.F.plainAttrs_list λvs s1 X rvs=>?_)
 obtain⟨w,rfl,rv⟩:=rvs.uno
 have I1:=I0.up X
 have H1:=H.up I.tabs X
 have hlen:items.size=l.length:=aX.symm.trans H.vs.len
 refine BP H1.pl (hsz:=by have:=H.len;rw[hlen];size_fits) λh' hpl hsb=>?_
 obtain⟨i1,i2,i3⟩:=mD (tk:=s1.toks) S I1 H1 (λb o hb e=>(hsb.2 b hb).trans e) hpl (l':=l++ [vb.1]) (mN H.firm (Aq hfm)) (by simp only[o9];exact H1.vs.append (bh.one (I1.elem hfm hor rv)))
 exact h .next _ W0 rfl i1 (Mw.stepS I.tabs X (i2.weak (iw.old I0 g0))) (g0.trans (dK.refl.trans i3 λa e=>X.gone I.tabs e) λ_ q=>q)
theorem oh {h:ah} {items:Array aA} {n0:Nat} (hD:h.get? D=some {cls:= .type "list",data:= .seq items n0}) (f:Array aA->Array aA):(h.update D (ad f)).PlainList D (f items):=by
 refine⟨_,(mC _ hD ?_).trans rfl⟩
 rfl
theorem uL {h:ah} (f:db->db): ∀b o,b≠D->h.get? b=some o->(h.update D f).get? b=some o:=λb o hb e=>((lE h D f).2 b hb).trans e
theorem xm {l:List V} (e:bo l=true) (k:Nat):bo (l.take k)=true:=oA (λ_=>fu) e
theorem xn {l:List V} (e:bo l=true) (k:Nat):bo (l.drop k)=true:=oA (λ_=>m5) e
theorem GP (j:Int) (n:Nat):yE j n=if j<0 then(j+(n:Int)).toNat else min j.toNat n:=by
 cases j with
 |ofNat a=>exact(clipAt_nat n a).trans (if_neg (o6.mpr (bI a))).symm
 |negSucc k=>exact(clipAt_neg n (k+1) (ez (bj k))).trans ((if_pos (n4 k)).trans ((congrArg Int.toNat (Int.add_comm ..)).trans (Int.toNat_sub n (k+1)))).symm
theorem xl {j:Int} (h:j.natAbs<2^62): ¬(!iX j)=true:=by
 have q:((j.natAbs:Nat):Int)<2^63:=di.mpr (jY h (by decide):j.natAbs<2^63)
 rw[show iX j=true from aJ.mpr ⟨decide_eq_true (Int.neg_le_of_neg_le (xF (o7 (nA j▸Int.le_natAbs) q))),decide_eq_true (o7 Int.le_natAbs q)⟩]
 exact bR
theorem wI (IHe:cC G n r) (S:FX G md P s₀ env io) (I:SI G P s₀ env io W st s) (O:cw n A) {Q:eR->aD->Prop} {k:Nat} {nm:aN} {ei ex:Expr} {p0 ap p2 pos:dM} {i e:PE} (hok:dD nm=true) (hid:G.T.id nm=some x) (hline:(ap.endLine==p2.line)=true)
  (hti:cH (G.Tl md) k env.scope ei=some i) (ht:cH (G.Tl md) k env.scope ex=some e) (he:(step Pr r).s st (.insert x i e)=some (cL,st')) (h:lP G P s₀ env io W st s cL st' Q):aF G.M A (gY (.Expr (.Call (.Attribute (.Name nm p0) ("insert" :aN) ap) [ei,ex] [] p2) pos) env) Q E s:=by
 refine nk λcq=>?_
 refine dX he λl hl jb hj vb hv he=>iP he λj hjj he=>ac he λl' hl' he=>aj he λhc he=>mh hc λhor hfm _=>aj hl' λhjs hl'=>?_
 have h:=bb (C:=λl'=>lP G P s₀ env io W st s .next (fw st x l') Q) hl' (h.of he)
 have hor:=cO.mp hor
 refine obE31 (iF I hl) λkk D items H=>?_
 refine cq ?_
 refine kF S ⟨_,_,_,_,rfl⟩ (rP (k:=k) IHe S I O H hok hid (ps:=[i,e]) (as:=[jb,vb]) (Jb hti ht) (Ft hj hv) (show 2<=8 by decide) hline PySem.F.slot_list_insert PySem.F.type_list_insert PySem.F.plainAttrs_list λvs s1 X rvs=>?_)
 refine nk λcq=>?_
 obtain⟨jw,r1,rfl,rj,w,r2,rfl,rv,rfl⟩:=rvs
 rw[hjj]at rj
 obtain⟨t,rfl⟩:=rj
 have I1:=I.up X
 have H1:=H.up I.tabs X
 have hlen:items.size=l.length:=aX.symm.trans H.vs.len
 obtain⟨n0,hD⟩:=H1.pl
 refine cq ?_
 refine ql PySem.F.slot_list_insert ⟨_,hD,rfl⟩ PySem.F.entry_list_insert (PySem.F.args_list_insert_3 _ _ _) (PySem.AutoSeq1.list_insert_list_int_val_1 D items n0 j t w (xl hjs) (by have:=H.len;rw[hlen];size_fits)) ⟨hD,?_⟩
 have hb:yE j l.length=if j<0 then(j+((items.size:Nat):Int)).toNat else min j.toNat items.size:=hlen▸GP j _
 obtain⟨i1,i2,i3⟩:=mD (tk:=s1.toks) S I1 H1 (uL _) (oh hD λxs=>have k:=if j<0 then(j+((xs.size:Nat):Int)).toNat else min j.toNat xs.size;(xs.extract 0 k).push w++xs.extract k) (l':=l.take (yE j l.length)++vb.1::l.drop (yE j l.length)) (mN (xm H.firm _) (aJ.mpr ⟨hfm,xn H.firm _⟩)) (by
   rw[hb]
   simp only[iz,o9,Array.toList_extract,eJ,List.singleton_append]
   generalize (if j<0 then(j+((items.size:Nat):Int)).toNat else min j.toNat items.size)=q
   refine bh.append ?_ ⟨w,_,rfl,I1.elem hfm hor rv,?_⟩
   ·exact uG .. ▸H1.vs.take q
   ·rw[show items.toList.extract q items.size=items.toList.drop q from(uG ..).trans (lX (xC ((et ..).trans (congrArg (· -q) aX))))]
    exact H1.vs.drop q)
 exact h .next _ W rfl i1 (Mw.stepS I.tabs X i2) (dK.refl.trans i3 λa e=>X.gone I.tabs e)
theorem uT (IHe:cC G n r) (S:FX G md P s₀ env io) (I:SI G P s₀ env io W st s) (O:cw n A) {Q:eR->aD->Prop} {nm:aN} {p0 ap p2 pos:dM} (hok:dD nm=true) (hid:G.T.id nm=some x) (hline:(ap.endLine==p2.line)=true)
  (he:(step Pr r).s st (.reverse x)=some (cL,st')) (h:lP G P s₀ env io W st s cL st' Q):aF G.M A (gY (.Expr (.Call (.Attribute (.Name nm p0) ("reverse" :aN) ap) [] [] p2) pos) env) Q E s:=by
 refine nk λcq=>?_
 refine ac he λl hl he=>?_
 have h:=h.of he
 refine obE31 (iF I hl) λkk D items H=>?_
 refine cq ?_
 refine kF S ⟨_,_,_,_,rfl⟩ (rP (k:=0) IHe S I O H hok hid (ps:=[]) (as:=[]) rfl rfl (show([]:List Expr).length<=8 from bj _) hline PySem.F.slot_list_reverse PySem.F.type_list_reverse PySem.F.plainAttrs_list λvs s1 X rvs=>?_)
 subst rvs
 have I1:=I.up X
 have H1:=H.up I.tabs X
 have hlen:items.size=l.length:=aX.symm.trans H.vs.len
 obtain⟨n0,hD⟩:=H1.pl
 refine ql PySem.F.slot_list_reverse ⟨_,hD,rfl⟩ PySem.F.entry_list_reverse (PySem.F.args_list_reverse_1 _) (PySem.AutoSeq1.list_reverse_list_0 D items n0 (by have:=H.len;rw[hlen];size_fits)) ⟨hD,?_⟩
 refine nk λcq=>?_
 obtain⟨i1,i2,i3⟩:=mD (tk:=s1.toks) S I1 H1 (uL _) (oh hD λxs=>xs.reverse) (l':=l.reverse) (pE H.firm) (by rw[Array.toList_reverse];exact H1.vs.reverse)
 refine cq ?_
 exact h .next _ W rfl i1 (Mw.stepS I.tabs X i2) (dK.refl.trans i3 λa e=>X.gone I.tabs e)
end
end
section
open PySem.Spec PySem.Calls PyProof.Rows PySem.W
section
variable {G:Gl} {A:aZ} {E:aA->aD->Prop} {P P' P1:aG->Prop} {s₀ s s' s1 s2 s'':aD} {env:cg} {io J J' Z:aG->Prop} {W W' W0:Ow} {h h':ah} {md n:Nat} {st st' st1 st0 stf:St} {r:Ev} {m m':aN->Option aA} {T:TE} {sc:bE} {Pr:cY} {cL:f9} {C D:aG} {x:Nat} {l l':List V}
theorem sv {M:g5} {w:dz} {items:Array aA} {k:Int} {t:ze} {v:aA} {n0:Nat} {Q:Unit->aD->Prop} (hD:s.heap.get? D=some {cls:= .type "list",data:= .seq items n0}) (h0:0<=k) (hfit:k<2^63) (hn:k<items.size)
  (hQ:Q () {s with heap:=s.heap.update D (ad (·.setIfInBounds k.toNat v))}):aF (cK M w) A (setItem (.ref D) (.int k t) v) Q E s:=by
 have hl:s.heap.IsList D items:=⟨_,hD,rfl,n0,rfl⟩
 unfold setItem
 try with_reducible refine ab ?_
 first|refine aE (aK ?_)|skip
 refine aE (wpAny_sequenceKey hl.typeIs (by decide) ?_)
 refine aE (fO (name:=fS "__setitem__") hl.typeIs slot_list_setitem
  (gX slot_list_setitem hl.typeIs entry_list_setitem ?_ (args_list_setitem _ _ _)))
 show aF _ _ (Builtin.List.listSubscript? (.int k t)>>=_) _ _ s
 refine aE (wpAny_listSubscript_int (fitsIndex_of h0 hfit) ?_)
 clear hfit
 obtain⟨j,rfl⟩:=Int.eq_ofNat_of_zero_le h0
 have hj:j<items.size:=by lia
 have hx':items[j]?=some items[j]:=tI hj
 refine aE (aE (wpAny_seqItemAt hD rfl (aK ?_)))
 refine(hx')▸?_
 show aF _ _ (setSeqItemAt D j v>>=_) _ _ s
 refine aE (wpAny_setSeqItemAt hD rfl ?_)
 first
  |exact aE (aK (aK ⟨.none,rfl,aK hQ⟩))
  |exact aK ⟨.none,rfl,aK hQ⟩
theorem Ap {l:List V} (k:Nat) {x:V} (h:bo l=true) (hx:x.firm=true):bo (l.set k x)=true:=eW.mpr λ_ hv=>(List.mem_or_eq_of_mem_set hv).elim (eW.mp h _) λe=>e▸hx
theorem A3 {ex a b:Expr} {p:dM} {l:Nat} {env:cg}:ty ex (some (.Subscript a b p)) l env=dC false:=by cases ex<;>rfl
theorem uQ (IHe:cC G n r) (S:FX G md P s₀ env io) (I:SI G P s₀ env io W st s) (O:cw n A) {Q:eR->aD->Prop} {k:Nat} {nm:aN} {ei ex:Expr} {p0 sp pos:dM} {i e:PE} (hok:dD nm=true) (hid:G.T.id nm=some x)
  (hti:cH (G.Tl md) k env.scope ei=some i) (ht:cH (G.Tl md) k env.scope ex=some e) (he:(step Pr r).s st (.setItem x i e)=some (cL,st')) (h:lP G P s₀ env io W st s cL st' Q):aF G.M A (gY (.Assign [.Subscript (.Name nm p0) ei sp] ex pos) env) Q E s:=by
 refine nk λcq=>?_
 refine dX he λvb hv jb hj l hl he=>iP he λj hjj he=>aj he λhc he=>oQ hc λhor hfm hj0 hjl=>?_
 have h:=h.of he
 have hor:=cO.mp hor
 have hjl:=of_decide_eq_true hjl
 have hj0:=of_decide_eq_true hj0
 have hs:ty ex (some (.Subscript (.Name nm p0) ei sp)) pos.line env=dC false:=A3
 have hnx:G.n x=nm:=Gl.n_id hid
 refine obE31 (iF I hl) λkk D items H=>?_
 refine cq ?_
 refine wpAny_Assign_Subscript (hs:=hs) (IHe md _ env st A E s _ k ex e vb ht hv (I.fre S) O λv s1 X rv _=>?_)
 refine nk λcq=>?_
 refine obE12 ((H.up I.tabs X).holds) λm hm hh=>?_
 refine cq ?_
 refine dg (j8 ((I.up X).fre S) hm ((hnx)▸hh) ?_) (d6 hok).1
 refine IHe md _ env st A E s1 _ k ei i jb hti hj ((I.up X).fre S) O λjv s2 X2 rj _=>?_
 simp only[hjj]at rj
 obtain⟨t,rfl⟩:=rj
 have X3:=X.trans X2
 have I1:=I.up X3
 have H1:=H.up I.tabs X3
 have hlen:items.size=l.length:=aX.symm.trans H.vs.len
 obtain⟨n0,hD⟩:=H1.pl
 have rv2:=VR.ext X2.ext X.tabs _ _ rv
 refine sv hD hj0 (by have:=H.len;lia) (by omega) ?_
 obtain⟨i1,i2,i3⟩:=mD (tk:=s2.toks) S I1 H1 (uL _) (oh hD (·.setIfInBounds j.toNat v)) (l':=l.set j.toNat vb.1) (Ap _ H.firm hfm) (by
  have:(items.setIfInBounds j.toNat v).toList=items.toList.set j.toNat v:=by simp
  simp only[this];exact H1.vs.set (I1.elem hfm hor rv2) _)
 exact h .next _ W rfl i1 (Mw.stepS I.tabs X3 i2) (dK.refl.trans i3 λa e=>X3.gone I.tabs e)
end
end
section
open PySem.Spec PySem.Calls PyProof.Rows PySem.W
theorem pP: ∀(st:St) (x:Nat),(n5 st).get x=(st.get x).map λsl=>if sl.k= .loose then⟨.safe,sl.v⟩else sl:=by
 intro zl
 induction zl with
 |nil=>
  intro _
  exact rfl
 |cons zh r ih=>
  obtain⟨y,s⟩:=zh
  intro x
  have ih:=ih x
  simp only[n5,St.get,au,aM]at ih⊢
  cases h:x==y
  ·exact ih
  ·rfl
def yR (G:Gl) (n:Nat) (r:Ev):Prop:=
 ∀(P:aG->Prop) (A:aZ) (E:aA->aD->Prop) (s:aD) (Q:aA->aD->Prop) (f:VB) (io:Nat) (args:List VB) (kns:List Nat) (kvs:List VB) (v':V) (fv:aA) (as ks:List aA) (D:aG) (items:Array aA) (l:List V),
  r.proc f.1 io args kns kvs=some v'->wn G P s.heap-> ¬P D->G.h0.get? D=none->VR G (Pm f.2 P) s.heap f.1 fv->jW G P s.heap args as->jW G P s.heap kvs ks->cw n A->args[io]?=some (.list l,false)->as[io]?=some (.ref D)->s.heap.PlainList D items->bh G P s.heap l items.toList->cj l=true->(∀j vb,j≠io->args[j]?=some vb->vb.2=true)->fx kvs=true->
  (∀v s',j2 G (· =D) s.heap s'.heap->aY G s'.heap->(∀a,s'.heap.get? a=none->s.heap.get? a=none)->s'.os=s.os->(∃more,s'.gens=s.gens++more)->(jU s.gens->jU s'.gens)->(∀l',v'= .list l'-> ∃items',s'.heap.PlainList D items'/\bh G P s'.heap l' items'.toList)->Q v s')->aF G.M A (call fv as ((kns.map G.n).zip ks)) Q E s
section
variable {G:Gl} {A:aZ} {E:aA->aD->Prop} {P P' P1:aG->Prop} {s₀ s s' s1 s2 s'':aD} {env:cg} {io J J' Z:aG->Prop} {W W' W0:Ow} {h h':ah} {md n:Nat} {st st' st1 st0 stf:St} {r:Ev} {m m':aN->Option aA} {T:TE} {sc:bE} {Pr:cY} {cL:f9} {C D:aG} {x:Nat} {l l':List V}
theorem Mw.ofTrn {J:aG->Prop} (T:j2 G Z s.heap s'.heap) (hz: ∀a,Z a->J a) (hg: ∀a,s'.heap.get? a=none->s.heap.get? a=none) (ho:s'.os=s.os) (hgen: ∃more,s'.gens=s.gens++more) (hb:jU s.gens->jU s'.gens):Mw G s₀ env J s s':=
 ⟨λb o e _ h2 h3=>T.k b o (λq=>h3 (hz b q)) h2 e,λP' x v ok hp r=>T.v P' x v ok (λa o q q' _ _=>(hp a q).2 (hz a q')) r,hg,ho,hgen,hb⟩
theorem SI.freL (S:FX G md P s₀ env io) (I:SI G P s₀ env io W st s):g9 G md (NW env W) env (n5 st) s.heap:=by
 have F:=I.fre S
 refine⟨F.kind,F.globals,F.builtins,F.base,F.tabs,λa ha=>(F.fresh a ha).2,?_,λhm=>⟨(F.lam hm).1,λx c hc=>((F.lam hm).2 x c hc).2⟩⟩
 refine I.ns.imp λm H=>⟨H.1,λx sl e=>?_⟩
 rw[pP]at e
 refine u5 e λsl0 e0 e=>?_
 have H2:=H.2 x sl0 e0
 by_cases hl:sl0.k= .loose
 ·rw[if_pos hl]at e
  subst e
  exact(H2.el (by rw[hl];exact λh=>SK.noConfusion h)).elim λw r=>have q:=r.2.fE (by rw[hl];exact bR);.at_ H2.1 (λh=>SK.noConfusion h) r.1 ⟨q.1,VR.mono (λa q _=>⟨q.2.1,q.2.2.1⟩) _ _ q.2⟩
 ·rw[if_neg hl]at e
  subst e
  refine H2.map .refl λ_ w r=>?_
  by_cases hko:sl0.k.owner=true
  ·rw[(nI hko).2]
   exact(r.oE hko).elim λD q=>q.2.2.free nofun (λ_ _=>bh.mono (λ_ _=>nofun) _ _) λm _ _=>lN.mono (λ_ _=>nofun) m _ _
  ·exact(r.fE hko).imp_right (VR.mono (λa q _=>⟨q.2.1,q.2.2.1⟩) _ _)
end
end
section
open PySem.Spec PySem.Calls PyProof.Rows PySem.W
section
variable {G:Gl} {A:aZ} {E:aA->aD->Prop} {P P' P1:aG->Prop} {s₀ s s' s1 s2 s'':aD} {env:cg} {io J J' Z:aG->Prop} {W W' W0:Ow} {h h':ah} {md n:Nat} {st st' st1 st0 stf:St} {r:Ev} {m m':aN->Option aA} {T:TE} {sc:bE} {Pr:cY} {cL:f9} {C D:aG} {x:Nat} {l l':List V}
noncomputable def wE (p:PE):Bool:=gc 7 p.tag&&gc p.tag 8
theorem u1 {f:aN} {k:Nat} {kws:List cQ} {as:List PE} {kns:List Nat} {kvs:List PE} {pe:PE} {Z:Prop} (e:jI T sc f k kws as kns kvs=some pe)
  (kN:dD f=true->kws=[]-> ∀i,T.id f=some i-> .callN i as=pe->Z) (kV: ∀g,cH T 1 sc (.Name f ⟨0,0,0,0⟩)=some g-> .call g as kns kvs=pe->Z) (kO:wE pe=false->Z):Z:=by
 refine aj e λhc e=>?_
 have hok:=(aJ.mp (aJ.mp hc).1).1
 have nm:cH T 1 sc (.Name f ⟨0,0,0,0⟩)=(if lK sc f then(T.id f).bind λi=>some (.var i)else if eY sc f then jM T f else none):=by
  show(if dD f=true then _ else none)=_
  rw[if_pos hok]
 refine fF e (λhv e=>fF e (λ_ e=>aj e λhz e=>ac e λi hi e=>kN hok (bX.mp hz) i hi (aC e)) λ_ e=>ac e λi hi e=>kV (.var i) (by rw[nm,if_pos hv,hi];rfl) (aC e)) λhv e=>aj e λhg e=>?_
 unfold kE at e
 cases hf:T.fns.lookup f with
 |some kk=>
  rw[hf]at e
  refine kV (.fn kk) ?_ (aC e)
  rw[nm,if_neg hv,if_pos hg]
  unfold jM
  rw[hf]
 |none=>
  rw[hf]at e
  have:sQ (wE · =false) (if kvs.isEmpty then ox T f as else rC f kws as kvs):= .ite (.ite (.one λ_=> .some rfl) (.ite (.some rfl) (.ite (.one λ_=> .some rfl) (.bind λb=> .some (by cases b<;>rfl))))) (.one λ_=> .one λ_=> .ite (.some rfl) .none)
  exact kO (this _ e)
theorem Es {k:Nat} {f:aN} {fp pos:dM} {args:List Expr} {kws:List cQ} {g:PE} {ps qs:List PE} {kns:List Nat} (e:cH T (k+1) sc (.Call (.Name f fp) args kws pos)=some (.call g ps kns qs)):
  cH T 1 sc (.Name f fp)=some g/\b9 (cH T k sc) args=some ps/\b9 (Ah T) kws=some kns/\b9 (λ(x:cQ)=>cH T k sc x.value) kws=some qs:=
 dX e λas ea kns' en kvs ek e=>u1 e (λ_ _ _ _ h=>(nomatch h)) (λg' hg h=>by
  have h:=PE.call.inj h
  exact⟨h.1▸hg,h.2.1▸ea,h.2.2.1▸en,h.2.2.2▸ek⟩) (λh=>(aL h))
theorem Fn {α:Type} {l:List α} {x:α} (h:l[0]?=some x): ∃r,l=x::r:=by
 cases l with
 |nil=>exact cI h
 |cons y r=>exact⟨r,by rw[aC h]⟩
theorem tV {α β:Type} {f:α->Option β} {l:List α} {b:β} {t:List β} (h:b9 f l=some (b::t)): ∃a r,l=a::r/\f a=some b/\b9 f r=some t:=by
 cases l with
 |nil=>exact(List.cons_ne_nil _ _ (aC h).symm).elim
 |cons a r=>exact bD h λb' hb t' ht h=>⟨a,r,rfl,(j0 (aC h)).1▸hb,(j0 (aC h)).2▸ht⟩
theorem yD (GO:GOk2 G) (IHe:cC G n r) (IP:yR G n r) (IV:GW r) (IF: ∀f io args kns kvs v,r.proc f io args kns kvs=some v-> ∃k,f= .fn k) (S:FX G md P s₀ env io) (I:SI G P s₀ env io W st s) (O:cw n A) {Q:eR->aD->Prop} {k:Nat} {f:aN} {fp pos p2:dM} {args:List Expr} {kws:List cQ} {g:PE} {ps qs:List PE} {kns:List Nat}
  (ht:cH (G.Tl md) (k+1) env.scope (.Call (.Name f fp) args kws pos)=some (.call g ps kns qs)) (he:(step Pr r).s st (.callS g 0 ps kns qs)=some (cL,st')) (h:lP G P s₀ env io W st s cL st' Q):aF G.M A (gY (.Expr (.Call (.Name f fp) args kws pos) p2) env) Q E s:=by
 refine nk λcq=>?_
 refine obE04 (Es ht) λeg ea en ek=>?_
 refine bD he λgv hg a hx he=>Kh he λx hax he=>dX he λl hl as has ks hks he=>aj he λhc he=>ac he λv hv he=>j6 he λl' hvl he=>aj he λhfl' he=>?_
 have hc:=(aJ.mp hc).imp aJ.mp id
 have h:=h.of he
 rw[hvl]at hv
 rw[hax]at hx
 refine cq ?_
 refine nk λcq=>?_
 obtain⟨ps,rfl⟩:=Fn hx
 obtain⟨e0,es,rfl,hp,hes⟩:=tV ea
 clear ht;obtain⟨nm,p0,rfl,hok,hid⟩:=CE hp
 have hnx:G.n x=nm:=Gl.n_id hid
 obtain⟨v0,vt,rfl,hv0,hvt⟩:=re has
 refine obE31 (iF I hl) λkk D items H=>?_
 have hv0':v0=(.list l,false):=by
  have:=IV _ _ _ hv0
  rw[pP,H.get]at this
  have hk:kk≠ .loose/\kk≠ .nd/\kk≠ .safe:=by rcases H.kk with h|h<;>rw[h]<;>exact⟨(λh=>SK.noConfusion h),(λh=>SK.noConfusion h),(λh=>SK.noConfusion h)⟩
  simp only[gP,if_neg hk.1,Option.bind_some,cA.get,if_neg hk.2.1,cA.read,Option.some.injEq]at this
  rw[<-this]
  have:decide (kk= .safe)=false:=by simpa using hk.2.2
  rw[this];rfl
 clear he has hv0;clear he;subst hv0'
 refine cq ?_
 refine kF S ⟨_,_,_,_,rfl⟩ ?_
 refine dA (IHe md _ env st A E s _ 1 _ g gv eg hg (I.fre S) O λfv s1 X1 rf _=>?_)
 refine nk λcq=>?_
 obtain⟨kf,hkf⟩:=IF _ _ _ _ _ _ hv
 have F1:=(I.up X1).freL S
 refine obE03 (zG (G:=G) (pos:=pos) (env:=env) (kws:=kws) (kns:=kns) en) λh1 h2 h3=>?_
 refine cq ?_
 have hd2:=H.up I.tabs X1
 have I1:=I.up X1
 have key: ∀(Q2:Args->aD->Prop),(∀vs us s2,cD G s1 s2->jW G (NW env W) s2.heap vt vs->jW G (NW env W) s2.heap ks us->Q2 ⟨.ref D::vs,(kns.map G.n).zip us⟩ s2)->
   aF G.M A (evalArgs fv true (mw pos (gM (.Name nm p0::es) env)) (kY pos (gO kws env))) Q2 E s1:=λQ2 hQ2=>by
  refine evalArgs_kw h1 (jr ?_)
  refine nk λcq=>?_
  refine obE12 hd2.holds λm hm hh=>?_
  refine cq ?_
  refine dg (j8 F1 hm ((hnx)▸hh) ?_) (d6 hok).1
  refine qe IHe es ps vt s1 _ hes hvt F1 O λvs s2 X rv=>?_
  refine x9 IHe kws qs ks s2 _ ek hks (F1.up X) O λus s3 Y ru=>?_
  rw[h3]
  exact hQ2 vs us s3 (X.trans Y) (rv.ext Y.ext X.tabs) ru
 refine lC (rA ea).1 h2 (key _ λvs us s2 X2 rv ru=>?_)
 have rf2:VR G (Pm gv.2 (NW env W)) s2.heap gv.1 fv:=by
  have r1:=VR.ext X2.ext X1.tabs _ _ rf
  rw[hkf]at r1⊢
  exact r1
 refine⟨λQ' h'=>rZ GO ((I1.up X2).base) rf2 (.inl ⟨kf,hkf⟩) h',?_⟩
 have I2:=I1.up X2
 have H2:=hd2.up X1.tabs X2
 obtain⟨d1,_⟩:=I.ws x D H.w
 have hD0:G.h0.get? D=none:=by
  rcases d1 with d1|d1
  ·exact gV S.base d1
  ·exact S.ioNew D d1
 refine IP (NW env W) A E s2 _ gv 0 ((.list l,false)::vt) kns ks (.list l') fv (.ref D::vs) us D items l hv ((I2.freL S).wld) (λq=>q.2 x H.w) hD0 rf2 ⟨_,_,rfl,⟨D,items,rfl,nofun,H2.pl,bh.mono (λ_ _=>nofun) _ _ H2.vs⟩,rv⟩ ru O rfl rfl H2.pl (bh.flat _ _ _ hc.1.1 H2.vs) hc.1.1 (λj vb hj e=>?_) hc.2
  λw s3 T3 T3' g3 o3 gn3 br3 e3=>?_
 ·cases j with
  |zero=>exact(hj rfl).elim
  |succ j=>
   have h1:=hc.1.2
   unfold fx at h1
   have h2:vb∈vt:=az (by simpa using e)
   exact aT.mp h1 vb h2
 refine obE12 (e3 l' rfl) λitems' pl3 vs3=>?_
 have hko:kk.owner=true:=by rcases H.kk with h|h<;>rw[h]<;>rfl
 have hI3:=I2.turnG (sl:=⟨kk,.list l⟩) (v':= .list l') S H.get hko H.w T3 T3' g3 (by obtain⟨nn,ho⟩:=pl3;exact⟨_,ho,.list _ _,(λ_=>aI)⟩) λw ⟨hw,_,_⟩=>⟨hw,jN _ hfl',items',pl3,bh.flat _ _ _ hfl' vs3⟩
 have hM3:Mw G s₀ env (iw W st) s2 s3:=Mw.ofTrn T3 (λa e=>e▸⟨x,_,H.get,H.kk,H.w⟩) g3 o3 gn3 br3
 refine h .next s3 W rfl ?_ (Mw.stepS I.tabs (X1.trans X2) hM3) ?_
 ·rw[kA H.get];exact hI3
 ·rw[kA H.get];exact .reown H.get
end
end
section
open PySem.Spec PySem.Calls PyProof.Rows PySem.W
noncomputable def mQ (names:List aN):List (aN×aA)->List (aN×aA)->Option (List (aN×aA))
 | [],acc=>some acc
 |(k,v)::r,acc=>if names.contains k&&(acc.lookup k).isNone then mQ names r (acc++ [(k,v)])else none
section
variable {prog:g5} {w:dz} {A:aZ} {E:aA->aD->Prop} {s:aD}
theorem lm {l:List (aN×aA)} {k n:aN} {v:aA}:(l++ [(k,v)]).lookup n=(l.lookup n).or (if n=k then some v else none):=by
 simp only[j3,aM,List.lookup_nil]
 by_cases h:n=k
 ·rw[if_pos h,beq_iff_eq.mpr h]
 ·rw[if_neg h,beq_eq_false_iff_ne.mpr h]
theorem zt {α:Type} {c:Prop} [d:Decidable c] {a b:l6 α} {Q:α->aD->Prop} (hc:c) (h:aF (cK prog w) A a Q E s):aF (cK prog w) A (if c then a else b) Q E s:=by rw[if_pos hc];exact h
theorem oe {α:Type} {c:Prop} [d:Decidable c] {a b:l6 α} {Q:α->aD->Prop} (hc: ¬c) (h:aF (cK prog w) A b Q E s):aF (cK prog w) A (if c then a else b) Q E s:=by rw[if_neg hc];exact h
theorem yt {l:List (aN×aA)} {n:aN} (h: ¬(l.lookup n).isNone=true): ∃v,l.lookup n=some v:=by
 cases e:l.lookup n with
 |none=>rw[e]at h;exact(h rfl).elim
 |some v=>exact⟨v,rfl⟩
section
variable {ps kwo:List aN} {args:Args} {slots:List (aN×aA)} {k:Nat} {dl:Array aA} {m:aN->Option aA} {fd:cV}
theorem Fa {f:aN×aA->List (aN×aA)×List (aN×aA)->l6 (ForInStep (List (aN×aA)×List (aN×aA)))} {R:List (aN×aA)×List (aN×aA)->aD->Prop} {e:List (aN×aA)}
  (hf: ∀x b,(ps.contains x.1||kwo.contains x.1)=true-> ¬(b.lookup x.1).isSome=true->f x (b,e)=dC (.yield (b++ [(x.1,x.2)],e))) {kw:List (aN×aA)}: ∀{a:List (aN×aA)},mQ (ps++kwo) kw a=some slots->R (slots,e) s->aF (cK prog w) A (BS kw (a,e) f) R E s:=by
 induction kw with
 |nil=>exact λhk h=>aK (aC hk▸h)
 |cons x r ih=>
  intro a hk h
  refine aj hk λhc hk=>gC hc λh1 h2=>?_
  rw[fW,hf x a (by rw[<-List.contains_append];exact h1) (λq=>by rw[bY.mp h2]at q;cases q)]
  exact ih hk h
theorem GD {f:aN×aA->List (aN×aA)->l6 (ForInStep (List (aN×aA)))} {R:List (aN×aA)->aD->Prop}
  (hf: ∀x b,f x b=if(b.lookup x.1).isNone=true then dC (.yield (b++ [(x.1,x.2)]))else dC (.yield b)) {l:List (aN×aA)}: ∀{a:List (aN×aA)},(∀b,(∀n,b.lookup n=(a.lookup n).or (l.lookup n))->R b s)->aF (cK prog w) A (BS l a f) R E s:=by
 induction l with
 |nil=>exact λh=>aK (h _ λn=>sC.symm)
 |cons x r ih=>
  intro a h
  rw[fW,hf]
  by_cases hc:(a.lookup x.1).isNone=true
  ·rw[if_pos hc]
   refine ih λb hb=>h b λn=>?_
   rw[hb,lm,qJ,aM]
   by_cases hn:n=x.1
   ·rw[if_pos hn,beq_iff_eq.mpr hn];rfl
   ·rw[if_neg hn,beq_eq_false_iff_ne.mpr hn];rfl
  ·rw[if_neg hc]
   refine ih λb hb=>h b λn=>?_
   rw[hb,aM]
   cases hn:n==x.1
   ·rfl
   ·obtain⟨v,hv⟩:=yt hc
    rw[fQ hn,hv];rfl
theorem Fb {f:aN->List (aN×aA)×List aN->l6 (ForInStep (List (aN×aA)×List aN))} {R:List (aN×aA)×List aN->aD->Prop}
  (hf: ∀x b v,(b.lookup x).isNone=true->m x=some v-> ∀{Q'},Q' (.yield (b++ [(x,v)],[])) s->aF (cK prog w) A (f x (b,[])) Q' E s) (hf2: ∀x b,¬(b.lookup x).isNone=true->f x (b,[])=dC (.yield (b,[]))) {l:List aN}:
  ∀{a:List (aN×aA)},(∀n∈l,(a.lookup n).isSome=true\/(m n).isSome=true)->(∀b,(∀n,b.lookup n=(a.lookup n).or (if l.contains n then m n else none))->R (b,[]) s)->aF (cK prog w) A (BS l (a,[]) f) R E s:=by
 induction l with
 |nil=>exact λ_ h=>aK (h _ λn=>sC.symm)
 |cons x r ih=>
  intro a hm h
  have hcn: ∀n,(x::r).contains n=true↔n=x\/r.contains n=true:=λn=>by rw[fM,iy,beq_iff_eq]
  rw[fW]
  by_cases hc:(a.lookup x).isNone=true
  ·have hx:=(hm x (.head _)).resolve_left λq=>by rw[bY.mp hc]at q;cases q
   obtain⟨v,hv⟩:=tD.mp hx
   refine aE (hf x a v hc hv (ih (λn hn=>(hm n (.tail _ hn)).imp (λq=>?_) id) λb hb=>h b λn=>?_))
   ·rw[lm,BX,q];rfl
   ·rw[hb,lm,qJ]
    by_cases hn:n=x
    ·rw[if_pos hn,if_pos ((hcn n).mpr (.inl hn)),hn,hv];rfl
    ·rewrite (occs:= .all) [if_neg hn,Option.none_or]
     exact congrArg _ (ite_congr (propext ⟨λq=>(hcn n).mpr (.inr q),λq=>((hcn n).mp q).resolve_left hn⟩) (λ_=>rfl) λ_=>rfl)
  ·rw[hf2 x a hc]
   refine ih (λn hn=>hm n (.tail _ hn)) λb hb=>h b λn=>?_
   rw[hb]
   by_cases hn:n=x
   ·obtain⟨v,hv⟩:=yt hc
    rw[hn,hv];rfl
   ·exact congrArg _ (ite_congr (propext ⟨λq=>(hcn n).mpr (.inr q),λq=>((hcn n).mp q).resolve_left hn⟩) (λ_=>rfl) λ_=>rfl)
theorem F9 {α:Type} {fkd:aA} {x:aN} {K:Option aA->l6 α} {R:α->aD->Prop} (hkd:(∃d,fkd= .ref d/\s.heap.Ns d m)\/(fkd= .none/\ ∀n,m n=none)) (hK:aF (cK prog w) A (K (m x)) R E s):aF (cK prog w) A (match fkd with| .ref d=>(do let dflt <-nsGet d x;K dflt)|_=>(do let dflt <-dC none;K dflt)) R E s:=by
 rcases hkd with⟨d,rfl,hns⟩|⟨rfl,hmn⟩
 ·exact aE (oW hns hK)
 ·rw[hmn x]at hK;exact aE (aK hK)
theorem xo {l:List aN} {b:List (aN×aA)} (h: ∀n∈l,(b.lookup n).isSome=true):l.filter (λn=>(b.lookup n).isNone)=[]:=
 List.filter_eq_nil_iff.mpr λn hn q=>by have:=h n hn;rw[bY.mp q]at this;cases this
end
theorem pt {fd:cV} {args:Args} {ps kwo:List aN} (hpo:fd.params.posonlyargs=[]) (hps:fd.params.args.map (·.arg)=ps) (hkwo:fd.params.kwonlyargs.map (·.arg)=kwo) (hva:fd.params.vararg=none) (hkwa:fd.params.kwarg=none) {dl:Array aA} {o:Option (Array aA)} (hdo:o.getD #[]=dl)
  (hd: ∀Q:Option (Array aA)->aD->Prop,(Q o s)->aF (cK prog w) A (seqItems? fd.defaults) Q E s) {slots:List (aN×aA)} (hg:args.pos.length<=ps.length) (hk:mQ (ps++kwo) args.kw (ps.zip args.pos)=some slots) (hn:dl.size<=ps.length)
  (hmiss: ∀n∈ps.take (ps.length-dl.size),(slots.lookup n).isSome=true) (m:aN->Option aA) (hkd:(∃d,fd.kwdefaults= .ref d/\s.heap.Ns d m)\/(fd.kwdefaults= .none/\ ∀n,m n=none))
  (hkm: ∀n∈kwo,(slots.lookup n).isSome=true\/(m n).isSome=true) {Q:List (aN×aA)->aD->Prop}
  (h:Q ((ps++kwo).filterMap λn=>(((slots.lookup n).or (((ps.drop (ps.length-dl.size)).zip dl.toList).lookup n)).or (if kwo.contains n then m n else none)).map (n,·)) s):aF (cK prog w) A (bindArgs fd args) Q E s:=by
 have hP:fd.params.posonlyargs.map (·.arg)++fd.params.args.map (·.arg)=ps:=by rw[hpo,hps];rfl
 refine aE (Fa (ps:=ps) (kwo:=kwo) (slots:=slots) (e:=[]) (λx b h1 h2=>(if_pos (by rw[hps,hkwo];exact h1)).trans (if_neg h2)) (by rw[hP];exact hk) ?_)
 refine aE (hd _ (oe (λq=>?_) ?_))
 ·refine uC.mpr hg (of_decide_eq_true (?_:decide (args.pos.length>ps.length)=true))
  rw[<-hP];exact(aJ.mp q).1
 have hz:(o.getD #[]).toList.drop ((o.getD #[]).toList.length-(fd.params.posonlyargs.map (·.arg)++fd.params.args.map (·.arg)).length)=dl.toList:=by rw[hdo,hP,aX,Nat.sub_eq_zero_of_le hn];rfl
 refine oe (λq=>?_) (aE (GD (λx b=>rfl) λb hb=>aE (Fb (m:=m) (λx c v h1 h2 Q' hq=>zt h1 ?_) (λx c h1=>if_neg h1) (λn hn=>?_) λc hc=>oe bR ?_)))
 ·rw[hz,hP]at q;exact bR ((congrArg (λl:List aN=>!l.isEmpty) (xo hmiss)).symm.trans q)
 ·exact F9 hkd (h2▸aK hq)
 ·rw[hkwo]at hn
  exact(hkm n hn).imp (λq=>by rw[hb,BX,q];rfl) id
 ·rw[hva,hkwa]
  refine aK ((congrArg (λf=>Q (List.filterMap f _) s) (funext λn=>congrArg (ya (n,·)) (?_:c.lookup n=((slots.lookup n).or (((ps.drop (ps.length-dl.size)).zip dl.toList).lookup n)).or (if kwo.contains n then m n else none)))).mpr (?_:Q _ s))
  ·rw[hc,hb,hz,hP,hkwo];rfl
  ·rw[hP,hkwo];exact h
end
end
section
open PySem.Spec PySem.Calls PyProof.Rows PySem.W
inductive RL (G:Gl) (P:aG->Prop) (h:ah):List (Nat×VB)->List (aN×aA)->Prop
 |nil:RL G P h [] []
 |cons {x:Nat} {vb:VB} {w:aA} {q:List (Nat×VB)} {sl:List (aN×aA)} (r:VR G (Pm vb.2 P) h vb.1 w) (t:RL G P h q sl):RL G P h ((x,vb)::q) ((G.n x,w)::sl)
section
variable {G:Gl} {A:aZ} {E:aA->aD->Prop} {P P' P1:aG->Prop} {s₀ s s' s1 s2 s'':aD} {env:cg} {h h':ah} {md n:Nat} {st st':St} {r:Ev}
theorem RL.look {q:List (Nat×VB)} {sl:List (aN×aA)} (R:RL G P h q sl) {x:Nat} (hx:G.T.id (G.n x)=some x):(∀p∈q,G.T.id (G.n p.1)=some p.1)->(q.lookup x=none/\sl.lookup (G.n x)=none)\/ ∃vb w,q.lookup x=some vb/\sl.lookup (G.n x)=some w/\VR G (Pm vb.2 P) h vb.1 w:=by
 induction R with
 |nil=>intro _;exact .inl ⟨rfl,rfl⟩
 | @cons y vb w q sl r t ih=>
  intro hid
  simp only[aM,aM]
  by_cases he:x=y
  ·clear hid;subst he
   exact .inr ⟨vb,w,by simp,by simp,r⟩
  ·have hne:G.n x≠G.n y:=λe=>he (by
    have h1:=hid (y,vb) (.head _)
    rw[<-e]at h1
    have h1':G.T.id (G.n x)=some y:=h1
    rw[hx]at h1'
    exact aC h1')
   rw[show(x==y)=false from beq_eq_false_iff_ne.mpr he,show(G.n x==G.n y)=false from beq_eq_false_iff_ne.mpr hne]
   exact ih λp hp=>hid p (.tail _ hp)
theorem RL.snoc {q:List (Nat×VB)} {sl:List (aN×aA)} (R:RL G P h q sl) {x:Nat} {vb:VB} {w:aA} (r:VR G (Pm vb.2 P) h vb.1 w):RL G P h (q++ [(x,vb)]) (sl++ [(G.n x,w)]):=by
 induction R with
 |nil=>exact .cons r .nil
 |cons r' t ih=>exact .cons r' ih
theorem iu {α:Type} {ps:List Nat}: ∀{as:List α} {p:List (Nat×α)},oP ps as=some p->p=ps.zip as/\as.length<=ps.length:=by
 induction ps with
 |nil=>exact λ{as p} h=>aj h λe h=>⟨(aC h).symm,by rw[bX.mp e];exact bC _⟩
 |cons x xs ih=>
  intro as p h
  cases as with
  |nil=>exact⟨(aC h).symm,bj _⟩
  |cons a as=>exact ac h λr hr h=>⟨(aC h).symm.trans (congrArg _ (ih hr).1),ez (ih hr).2⟩
theorem xJ {ps:List Nat}: ∀{args:List VB} {as:List aA},jW G P h args as->RL G P h (ps.zip args) ((ps.map G.n).zip as):=by
 induction ps with
 |nil=>exact λ_=> .nil
 |cons x ps ih=>
  intro args as rv
  cases args with
  |nil=>rw[show as=[]from rv];exact .nil
  |cons a args=>exact obE21 rv λv vs r=>r.1▸ .cons r.2.1 (ih r.2.2)
theorem wZ {ps:List Nat} {args:List VB} {as:List aA} {p:List (Nat×VB)} (e:oP ps args=some p) (rv:jW G P h args as):RL G P h p ((ps.map G.n).zip as)/\as.length<=ps.length/\ ∀q∈p,q.1∈ps:=by
 refine((iu e).1)▸?_
 exact⟨xJ rv,rv.len▸(iu e).2,λq hq=>(cN hq).1⟩
theorem pk {α:Type} {names:List Nat} {kns:List Nat}: ∀{kvs:List α} {acc q:List (Nat×α)},rp names kns kvs acc=some q->q=acc++kns.zip kvs:=by
 induction kns with
 |nil=>exact λ{kvs acc q} h=>aj h λ_ h=>(aC h).symm.trans (dU acc).symm
 |cons x xs ih=>
  intro kvs acc q h
  cases kvs with
  |nil=>exact cI h
  |cons a as=>exact aj h λ_ h=>(ih h).trans (eJ acc [(x,a)] _)
theorem yI {names:List Nat} (hid: ∀x∈names,G.T.id (G.n x)=some x) {kns:List Nat} {kvs:List VB} {ks:List aA} {acc q:List (Nat×VB)} {sl:List (aN×aA)} (e:rp names kns kvs acc=some q) (rv:jW G P h kvs ks) (R:RL G P h acc sl) (ha: ∀p∈acc,p.1∈names):
  ∃sl',mQ (names.map G.n) ((kns.map G.n).zip ks) sl=some sl'/\RL G P h q sl'/\ ∀p∈q,p.1∈names:=by
 induction kns generalizing kvs ks acc sl with
 |nil=>
  cases kvs with
  |nil=>cases e;cases rv;exact⟨sl,rfl,R,ha⟩
  |cons=>exact cI e
 |cons x kns ih=>
  cases kvs with
  |nil=>exact cI e
  |cons a kvs=>
  refine aj (c:=(names.contains x&&(acc.lookup x).isNone)=true) e λhc e=>gC hc λhc hn=>obE23 rv λv vs e0 ra rvs=>?_
  cases e0
  have hx:=b8.mp hc
  have hl:sl.lookup (G.n x)=none:=(R.look (hid x hx) (λp hp=>hid _ (ha p hp))).elim (λh1=>h1.2) λh1=>by
   obtain⟨vb,w,h1,_⟩:=h1
   rw[h1]at hn;cases hn
  refine(ih e rvs (R.snoc ra) λp hp=>(cJ.mp hp).elim (ha p) λhp=>ao.mp hp▸hx).imp λsl' i=>⟨?_,i.2⟩
  exact(if_pos (aJ.mpr ⟨b8.mpr (aP.mpr ⟨x,hx,rfl⟩),by rw[hl];rfl⟩)).trans i.1
theorem iq {dfl acc:List (Nat×VB)}: ∀{xs:List Nat} {bs:List (Nat×VB)},uc dfl acc xs=some bs->bs.map (·.1)=xs/\ ∀p∈bs,acc.lookup p.1=some p.2\/(acc.lookup p.1=none/\dfl.lookup p.1=some p.2):=by
 intro zl
 induction zl with
 |nil=>
  intro bs e
  cases e;exact⟨rfl,(λ_ h=>(aU h).elim)⟩
 |cons x xs ih=>
  intro bs e
  refine bD e λa ha t ht e=>?_
  cases e
  obtain⟨i1,i2⟩:=ih ht
  refine⟨by simp[i1],λp hp=>?_⟩
  rcases aO.mp hp with rfl|hp
  ·split at ha
   ·rename_i hl;cases ha;exact .inl hl
   ·rename_i hl;exact .inr ⟨hl,ha⟩
  ·exact i2 p hp
end
end
section
open PySem.Spec PySem.Calls PyProof.Rows PySem.W
noncomputable def jm (G:Gl) (sg:JH) (dl:Array aA) (kd:aN->Option aA) (x:Nat):Option aA:=
 (((sg.ps.drop (sg.ps.length-dl.size)).zip dl.toList).lookup x).or (if sg.kwo.contains x then kd (G.n x)else none)
structure ux (G:Gl) (k:Nat) (d:dY) (a:aG) (o:db) (fd:cV) (stmts:List ed) (md m:Nat) (ow:List Nat) (dl:Array aA) (kd:aN->Option aA):Prop where
 fa:G.fa[k]?=some a
 ob:G.h0.get? a=some o
 data:o.data= .func fd
 body:fd.body= .stmts stmts
 gl:fd.globals=bk
 bl:fd.builtins=cU
 clo:fd.closure=[]
 kind:fd.scope.kind= .function
 co:fd.scope.isCoroutine=false
 gen:fd.scope.isGenerator=false
 code:G.h0.CodeRec fd.code fd.qualname
 tr:d.body=qx (G.Tl md) ow m fd.scope stmts
 po:fd.params.posonlyargs=[]
 va:fd.params.vararg=none
 kwa:fd.params.kwarg=none
 ps:fd.params.args.map (·.arg)=d.sg.ps.map G.n
 kwo:fd.params.kwonlyargs.map (·.arg)=d.sg.kwo.map G.n
 ids: ∀x∈d.sg.ps++d.sg.kwo,G.T.id (G.n x)=some x/\eX fd.scope (G.n x)=true
 nd:(d.sg.ps++d.sg.kwo).Nodup
 dflt:(fd.defaults= .none/\dl= #[])\/ ∃t,fd.defaults= .ref t/\G.h0.IsTuple t dl
 dn:dl.size<=d.sg.ps.length
 kdf:(∃t,fd.kwdefaults= .ref t/\G.h0.Ns t kd)\/(fd.kwdefaults= .none/\ ∀n,kd n=none)
 dv: ∀x∈d.sg.ps++d.sg.kwo,∀v,d.sg.dfl.lookup x=some v-> ∃w,jm G d.sg dl kd x=some w/\v.flat=true/\ ∀h,VR G Kg h v w
 lam:md=1-> ∃c tb,fd.code= .ref c/\(c,tb,(fd.qualname++(".<locals>." :aN))++("<lambda>" :aN))∈G.tabs
 dfs:md=2-> ∃c tb,fd.code= .ref c/\ ∀nm∈G.T.nds,(c,tb,(fd.qualname++(".<locals>." :aN))++nm)∈G.tabs
theorem w0 {kf:aN->Option eG} {n:aN}: ∀(l:List (aN×aA)) (m:aN->Option aA),n∉l.map (·.1)->bindL kf l m n=m n:=by
 intro zl
 induction zl with
 |nil=>
  intro _ _
  exact rfl
 |cons zh l ih=>
  obtain⟨x,v⟩:=zh
  intro m h
  simp only[au,aO,not_or]at h
  unfold bindL
  rw[ih _ h.2]
  split
  ·show(if n=x then some v else m n)=m n
   rw[if_neg h.1]
  ·rfl
theorem w5 {kf:aN->Option eG} {n:aN}: ∀(l:List (aN×aA)) (m:aN->Option aA),n∉l.map (·.1)->bindC kf l m n=m n:=by
 intro zl
 induction zl with
 |nil=>
  intro _ _
  exact rfl
 |cons zh l ih=>
  obtain⟨x,v⟩:=zh
  intro m h
  simp only[au,aO,not_or]at h
  unfold bindC
  rw[ih _ h.2]
  split
  ·rfl
  ·show(if n=x then some v else m n)=m n
   rw[if_neg h.1]
theorem yH {kf:aN->Option eG} {n:aN} {v:aA} (hk:kf n=some .local): ∀(l:List (aN×aA)) (m:aN->Option aA),(l.map (·.1)).Nodup->(n,v)∈l->bindL kf l m n=some v:=by
 intro zl
 induction zl with
 |nil=>
  intro _ _ h
  cases h
 |cons zh l ih=>
  obtain⟨x,w⟩:=zh
  intro m nd h
  rw[au,ba]at nd
  unfold bindL
  rcases aO.mp h with e|h
  ·cases e
   rw[w0 l _ nd.1,if_pos hk]
   show(if n=n then some v else m n)=_
   rw[if_pos rfl]
  ·exact ih _ nd.2 h
theorem yK {kf:aN->Option eG} {n:aN} {v:aA} (hk:kf n≠some .local): ∀(l:List (aN×aA)) (m:aN->Option aA),(l.map (·.1)).Nodup->(n,v)∈l->bindC kf l m n=some v:=by
 intro zl
 induction zl with
 |nil=>
  intro _ _ h
  cases h
 |cons zh l ih=>
  obtain⟨x,w⟩:=zh
  intro m nd h
  rw[au,ba]at nd
  unfold bindC
  rcases aO.mp h with e|h
  ·cases e
   rw[w5 l _ nd.1,if_neg hk]
   show(if n=n then some v else m n)=_
   rw[if_pos rfl]
  ·exact ih _ nd.2 h
theorem w4 {names:List aN}: ∀{kw acc r:List (aN×aA)},mQ names kw acc=some r-> ∃more,r=acc++more:=by
 intro zl
 induction zl with
 |nil=>
  intro acc r e
  cases e;exact⟨[],by simp⟩
 |cons zh kw ih=>
  obtain⟨k,v⟩:=zh
  intro acc r e
  unfold mQ at e
  split at e
  ·obtain⟨more,h⟩:=ih e
   exact⟨(k,v)::more,by rw[h];simp⟩
  ·cases e
section
variable {G:Gl} {A:aZ} {E:aA->aD->Prop} {P P' P1:aG->Prop} {s₀ s s' s1 s2 s'':aD} {env:cg} {h h':ah} {md n m:Nat} {st st':St} {r:Ev} {k:Nat} {d:dY} {a:aG} {o:db} {fd:cV} {stmts:List ed} {ow:List Nat} {dl:Array aA} {kd:aN->Option aA}
theorem rS {xs:List Nat} (hid: ∀x∈xs,G.T.id (G.n x)=some x) (nd:xs.Nodup):(xs.map G.n).Nodup:=by
 induction xs with
 |nil=>exact dh
 |cons x xs ih=>
  rw[ba]at nd
  rw[au,ba]
  refine⟨λh=>?_,ih (λy hy=>hid y (.tail _ hy)) nd.2⟩
  refine obE12 (aP.mp h) λy hy e=>?_
  have h1:=hid y (.tail _ hy)
  rw[e,hid x (.head _)]at h1
  exact nd.1 (aC h1▸hy)
theorem Bs {i x:Nat} {w:aA} {ys:List Nat} {vs:List aA} (hid: ∀y∈ys,G.T.id (G.n y)=some y) (nd:ys.Nodup) (hx:ys[i]?=some x) (hw:vs[i]?=some w):((ys.map G.n).zip vs).lookup (G.n x)=some w:=
 vp (rS hid nd) (i:=i) (by rw[bH,hx];rfl) hw
theorem uK {x:Nat} (hx:G.T.id (G.n x)=some x) {ys:List Nat}: ∀{vs:List aA},(∀y∈ys,G.T.id (G.n y)=some y)->((ys.map G.n).zip vs).lookup (G.n x)=(ys.zip vs).lookup x:=by
 induction ys with
 |nil=>exact λ_=>rfl
 |cons y ys ih=>
  intro vs hid
  cases vs with
  |nil=>rfl
  |cons v vs=>
   have h:=ih (vs:=vs) λz hz=>hid z (.tail _ hz)
   rw[au,gf,gf,aM,aM]
   by_cases he:x=y
   ·rw[he,beq_self_eq_true,beq_self_eq_true]
   ·rw[beq_eq_false_iff_ne.mpr he,beq_eq_false_iff_ne.mpr λe:G.n x=G.n y=>he (aC (hx.symm.trans ((congrArg G.T.id e).trans (hid y (.head _)))))];exact h
theorem F3 {x:Nat} (hx:G.T.id (G.n x)=some x) {l:List Nat} (hid: ∀y∈l,G.T.id (G.n y)=some y):(l.map G.n).contains (G.n x)=l.contains x:=by
 induction l with
 |nil=>rfl
 |cons y l ih=>
  rw[au,fM,fM,ih λz hz=>hid z (.tail _ hz)]
  by_cases he:x=y
  ·rw[he,beq_self_eq_true,beq_self_eq_true]
  ·rw[beq_eq_false_iff_ne.mpr he,beq_eq_false_iff_ne.mpr λe:G.n x=G.n y=>he (aC (hx.symm.trans ((congrArg G.T.id e).trans (hid y (.head _)))))]
theorem EU {l:List (Nat×V)} {x:Nat} {vb:VB} (e:(l.map λp=>(p.1,p.2,true)).lookup x=some vb): ∃v,vb=(v,true)/\l.lookup x=some v:=by
 induction l with
 |nil=>cases e
 |cons q l ih=>
  rw[au,aM]at e
  rw[aM]
  cases hx:x==q.1
  ·rw[hx]at e;exact ih e
  ·rw[hx]at e;cases e;exact⟨_,rfl,rfl⟩
theorem vK {κ α:Type} [BEq κ] [LawfulBEq κ] {l:List κ} {vs:List α} {x:κ} (h:x∉l):(l.zip vs).lookup x=none:=
 dQ.mpr λp hp=>bne_iff_ne.mpr λe=>h (by rw[e];exact(cN hp).1)
theorem AY {g:aN->Option aA} {l:List aN} (nd:l.Nodup):((l.filterMap λn=>(g n).map (n,·)).map (·.1)).Nodup/\ ∀p∈l.filterMap (λn=>(g n).map (n,·)),p.1∈l:=by
 have h2: ∀p∈l.filterMap (λn=>(g n).map (n,·)),p.1∈l:=λp hp=>by
  refine obE12 (dp.mp hp) λn hn e=>?_
  exact u5 e λ_ _ e=>e▸hn
 refine⟨?_,h2⟩
 clear h2
 induction l with
 |nil=>exact dh
 |cons y l ih=>
  have i1:=ih (ba.mp nd).2
  rw[zn]
  cases g y with
  |none=>exact i1
  |some v=>
   refine ba.mpr ⟨λhm=>?_,i1⟩
   refine obE12 (aP.mp hm) λp hp e=>?_
   refine obE12 (dp.mp hp) λn hn e'=>?_
   exact(ba.mp nd).1 (u5 e' λ_ _ e'=>by rw[<-show p.1=y from e,<-e'];exact hn)
theorem xy (FR:ux G k d a o fd stmts md m ow dl kd) (kp: ∀b o,G.h0.get? b=some o->s.heap.get? b=some o): ∃oo:Option (Array aA),oo.getD #[]=dl/\ ∀(E:aA->aD->Prop) (Q:Option (Array aA)->aD->Prop),Q oo s->aF G.M A (seqItems? fd.defaults) Q E s:=by
 rcases FR.dflt with⟨e1,e2⟩|⟨t,e1,ot,h1,h2,n,h3⟩
 ·exact⟨none,e2.symm,λE Q hQ=>by rw[e1];exact aK hQ⟩
 ·exact⟨some dl,rfl,λE Q hQ=>by rw[e1];exact wpAny_seqItems (kp _ _ h1) h3 hQ⟩
theorem Au (FR:ux G k d a o fd stmts md m ow dl kd) {x:Nat} (hx:x∈d.sg.ps.take (d.sg.ps.length-dl.size)):jm G d.sg dl kd x=none:=by
 have nd:=iA.mp FR.nd
 have n1:=nd.1
 rw[<-List.take_append_drop (d.sg.ps.length-dl.size) d.sg.ps]at n1
 unfold jm
 rw[vK λh=>(iA.mp n1).2.2 x hx x h rfl,if_neg λh=>nd.2.2 x (fu hx) x (b8.mp h) rfl];rfl
theorem ET (FR:ux G k d a o fd stmts md m ow dl kd) {x:Nat} (hx:x∈d.sg.kwo):jm G d.sg dl kd x=kd (G.n x):=by
 have nd:=iA.mp FR.nd
 unfold jm
 rw[vK λh=>nd.2.2 x (m5 h) x hx rfl,if_pos (b8.mpr hx)];rfl
theorem wO (GO:GOk3 G) (FR:ux G k d a o fd stmts md m ow dl kd) (Wl:wn G P s.heap) (hdep:A.depth<gN) {args kvs:List VB} {as ks:List aA} {kns:List Nat} {bs:List (Nat×VB)} (hb:dO d.sg args kns kvs=some bs) (ra:jW G P s.heap args as) (rk:jW G P s.heap kvs ks) {R:l8->aD->Prop} (io:aG->Prop) (hio: ∀a,io a->G.h0.get? a=none)
  (K: ∀env s1 m',env.scope=fd.scope->FX G md P s env io->cD G s s1->(s1.os=s.os/\s1.gens=s.gens)->s1.heap.Ns env.locals m'->(∀x c,env.cells.lookup x=some c-> ∃v,s1.heap.IsCell c v)->
   (∀p∈bs,G.T.id (G.n p.1)=some p.1/\ ∃w,iV env m' s1.heap (G.n p.1) w/\VR G (Pm p.2.2 P) s.heap p.2.1 w/\ ∀(i:Nat) (z:aA),d.sg.ps[i]?=some p.1->as[i]?=some z->w=z)->bs.map (·.1)=d.sg.ps++d.sg.kwo->
   ∀E',aF G.M (A.deeper env) (lW stmts env) (λf s'=>R (.ok (.ret (match f with| .ret v=>v|_=> .none))) s') E' s1):
  ec G.M A (.call (.ref a) ⟨as,(kns.map G.n).zip ks⟩) R s:=by
 have kp: ∀b o,G.h0.get? b=some o->s.heap.get? b=some o:=λb o e=>Wl.base b o e
 simp only[dO,zS,m4,kQ]at hb
 refine nk λcq=>?_
 obtain⟨p,hp,q,hq,hf⟩:=hb
 have idn: ∀x∈d.sg.ps++d.sg.kwo,G.T.id (G.n x)=some x:=λx hx=>(FR.ids x hx).1
 refine obE03 (wZ hp ra) λR1 hlen hpk=>?_
 refine obE13 (yI idn hq rk R1 (λp hp=>cJ.mpr (.inl (hpk p hp)))) λsl hk1' R2 hqk=>?_
 obtain⟨hbk,hbv⟩:=iq hf
 refine cq ?_
 have look: ∀x∈d.sg.ps++d.sg.kwo,(q.lookup x=none/\sl.lookup (G.n x)=none)\/ ∃vb w,q.lookup x=some vb/\sl.lookup (G.n x)=some w/\VR G (Pm vb.2 P) s.heap vb.1 w:=λx hx=>R2.look (idn x hx) λp hp=>idn _ (hqk p hp)
 have hids: ∀p∈bs,p.1∈d.sg.ps++d.sg.kwo:=λp hp=>by rw[<-hbk];exact aP.mpr ⟨p,hp,rfl⟩
 have ndn:(d.sg.ps.map G.n++d.sg.kwo.map G.n).Nodup:=by rw[<-fV];exact rS idn FR.nd
 have dval: ∀x∈d.sg.ps++d.sg.kwo,((((d.sg.ps.map G.n).drop ((d.sg.ps.map G.n).length-dl.size)).zip dl.toList).lookup (G.n x)).or (if(d.sg.kwo.map G.n).contains (G.n x)then kd (G.n x)else none)=jm G d.sg dl kd x:=λx hx=>by
  rw[aR,<-List.map_drop,uK (idn x hx) λy hy=>idn y (cJ.mpr (.inl (m5 hy))),F3 (idn x hx) λy hy=>idn y (cJ.mpr (.inr hy))];rfl
 have fT: ∀p∈bs,∃w,(sl.lookup (G.n p.1)).or (jm G d.sg dl kd p.1)=some w/\VR G (Pm p.2.2 P) s.heap p.2.1 w/\(sl.lookup (G.n p.1)=none-> ∃v,d.sg.dfl.lookup p.1=some v):=λp hp=>by
  have hx:=hids p hp
  rcases hbv p hp with h1|⟨h1,h2⟩
  ·rcases look _ hx with⟨h3,_⟩|⟨vb,w,h3,h4,h5⟩
   ·rw[h3]at h1;cases h1
   ·rw[h3]at h1;cases h1
    exact⟨w,by rw[h4];rfl,h5,λhn=>by rw[h4]at hn;cases hn⟩
  ·refine obE12 (EU h2) λv e1 e2=>?_
   refine obE13 (FR.dv _ hx v e2) λw w1 w2 w3=>?_
   rcases look _ hx with⟨_,h4⟩|⟨vb,w',h3,_⟩
   ·refine⟨w,by rw[h4,w1];rfl,?_,λ_=>⟨v,e2⟩⟩
    rw[e1]
    exact VR.flat _ _ _ w2 (w3 s.heap)
   ·rw[h3]at h1;exfalso;cases h1
 have inBs: ∀x∈d.sg.ps++d.sg.kwo,∃vb,(x,vb)∈bs:=λx hx=>by
  rw[<-hbk]at hx
  obtain⟨p,hp,rfl⟩:=aP.mp hx
  exact⟨p.2,hp⟩
 refine codeAny_call_function hdep (kp _ _ FR.ob) FR.data FR.co FR.gen FR.body (FR.code.keeps kp) ?_
 refine(FR.clo)▸?_
 refine(FR.gl)▸?_
 refine(FR.bl)▸?_
 obtain⟨oo,hoo,hd⟩:=xy FR kp
 refine pt (ps:=d.sg.ps.map G.n) (kwo:=d.sg.kwo.map G.n) (slots:=sl) FR.po FR.ps FR.kwo FR.va FR.kwa hoo (hd _) (by simpa using hlen) ((fV)▸hk1') (by simpa using FR.dn) (λnm hnm=>?_) kd ?_ (λnm hnm=>?_) ?_
 ·rw[aR,<-List.map_take]at hnm
  obtain⟨x,hx,rfl⟩:=aP.mp hnm
  have hxp:x∈d.sg.ps:=fu hx
  obtain⟨vb,hvb⟩:=inBs x (cJ.mpr (.inl hxp))
  refine obE13 (fT _ hvb) λw w1 w2 w3=>?_
  have w1':(sl.lookup (G.n x)).or (jm G d.sg dl kd x)=some w:=w1
  rw[Au FR hx,sC]at w1'
  rw[w1'];rfl
 ·rcases FR.kdf with⟨t,e1,e2⟩|e
  ·exact .inl ⟨t,e1,e2.keeps kp⟩
  ·exact .inr e
 ·refine nk λcq=>?_
  obtain⟨x,hx,rfl⟩:=aP.mp hnm
  obtain⟨vb,hvb⟩:=inBs x (cJ.mpr (.inr hx))
  refine obE13 (fT _ hvb) λw w1 w2 w3=>?_
  refine cq ?_
  cases hl:sl.lookup (G.n x)with
  |some z=>exact .inl rfl
  |none=>
   have w1':(sl.lookup (G.n x)).or (jm G d.sg dl kd x)=some w:=w1
   rw[hl,ET FR hx]at w1'
   exact .inr (tD.mpr ⟨w,w1'⟩)
 generalize hB:(((d.sg.ps.map G.n)++(d.sg.kwo.map G.n)).filterMap λn=>(((sl.lookup n).or ((((d.sg.ps.map G.n).drop ((d.sg.ps.map G.n).length-dl.size)).zip dl.toList).lookup n)).or (if(d.sg.kwo.map G.n).contains n then kd n else none)).map (n,·))=B
 have hBk:(B.map (·.1)).Nodup/\ ∀p∈B,p.1∈(d.sg.ps.map G.n)++(d.sg.kwo.map G.n):=hB▸AY ndn
 have hBm: ∀p∈bs,∀w,(sl.lookup (G.n p.1)).or (jm G d.sg dl kd p.1)=some w->(G.n p.1,w)∈B:=λp hp w hw=>by
  rw[<-hB,dp]
  refine⟨G.n p.1,?_,?_⟩
  ·rw[<-fV];exact aP.mpr ⟨p.1,hids p hp,rfl⟩
  ·simp only[qJ,dval _ (hids p hp),hw];rfl
 refine wpAny_newFunctionEnv_cells FR.kind (λx hx=>?_) λenv henv s1 X=>?_
 ·have:=hBk.2 x hx
  rw[<-fV]at this
  refine obE12 (aP.mp this) λy hy e=>?_
  have ho:=(FR.ids y hy).2
  rw[e]at ho
  refine u9 ho .inl λhl=>?_
  ·refine .inr ⟨hl,?_⟩
   refine obE12 (qc (x:=x.1) fd.scope.names (s.heap.objs.size+1) [] (mem_of_lookup hl)) λc hc _=>?_
   rw[hc];rfl
 refine obE22 X.done λh' tk hs1 hkeep=>?_
 have Xs:cD G s s1:=by rw[hs1];exact cD.of Wl.tabs hkeep
 have hsc:env.scope=fd.scope:=by rw[henv];rfl
 have hloc:env.locals=s.heap.objs.size:=by rw[henv];rfl
 have hcl:env.cells=dP (s.heap.objs.size+1) fd.scope.names []:=by rw[henv];rfl
 have hnew: ∀x c,env.cells.lookup x=some c->s.heap.get? c=none:=λx c hc=>by
  have h1:=X.above x c (mem_of_lookup hc)
  rw[hloc]at h1
  exact bA (jZ h1)
 have hkf: ∀x,env.kindOf x=fd.scope.names.lookup x:=λx=>by unfold i7;rw[hsc]
 have hk1: ∀b o,s.heap.get? b=some o->s1.heap.get? b=some o:=(hs1)▸hkeep
 refine⟨(GO.nolimit _ Wl.base).keeps hk1,codeAny_func (K env s1 _ hsc ?_ Xs (by rw[hs1];exact⟨rfl,rfl⟩) X.toInCall.ns (λx c hc=>⟨_,X.cell x c hc⟩) (λp hp=>⟨idn _ (hids p hp),?_⟩) hbk _)⟩
 ·refine⟨by rw[hsc];exact FR.kind,by rw[henv];rfl,by rw[henv];rfl,by rw[hloc];exact bA (bC _),Wl.base,Wl.fresh,λx y c hx hy _=>name_of_addr X.apart (mem_of_lookup hx) (mem_of_lookup hy),λx hx=>?_,λhm=>?_,hio,λhm=>(by obtain⟨c,tb,e1,e2⟩:=FR.dfs hm;exact⟨c,tb,by rw[henv];exact e1,λnm h=>by rw[henv];exact e2 nm h⟩)⟩
  ·rw[hsc]at hx
   rw[hkf]
   refine u9 hx .inl λhl=>?_
   ·refine .inr ⟨hl,?_⟩
    refine obE12 (qc (x:=x) fd.scope.names (s.heap.objs.size+1) [] (mem_of_lookup hl)) λc hc _=>?_
    rw[hcl]
    exact⟨c,hc,hnew x c (by rw[hcl];exact hc)⟩
  ·refine obE22 (FR.lam hm) λc tb e1 e2=>?_
   exact⟨⟨c,tb,by rw[henv];exact e1,by rw[henv];exact e2⟩,λx c hc=>Wl.fresh c (hnew x c hc)⟩
 ·refine nk λcq=>?_
  refine obE13 (fT p hp) λw w1 w2 _=>?_
  refine cq ?_
  refine⟨w,?_,w2,λi z hi hz=>?_⟩
  ·have hm:=hBm p hp w w1
   have ho:=(FR.ids p.1 (hids p hp)).2
   unfold eX at ho
   refine nk λcq=>?_
   split at ho
   all_goals refine cq ?_
   ·rename_i hl
    exact .inl ⟨by rw[hkf];exact hl,yH (by rw[hkf];exact hl) B _ hBk.1 hm⟩
   ·rename_i hl
    refine obE12 (qc (x:=G.n p.1) fd.scope.names (s.heap.objs.size+1) [] (mem_of_lookup hl)) λc hc _=>?_
    have hc':env.cells.lookup (G.n p.1)=some c:=by rw[hcl];exact hc
    have h1:=X.cell _ _ hc'
    rw[yK (by rw[hkf,hl];nofun) B _ hBk.1 hm]at h1
    exact .inr ⟨.inl (by rw[hkf];exact hl),c,hc',h1⟩
   ·exfalso;cases ho
  ·obtain⟨more,hmore⟩:=w4 hk1'
   have h1:=Bs (G:=G) (λy hy=>idn y (cJ.mpr (.inl hy))) (iA.mp FR.nd).1 hi hz
   rw[hmore,j3,h1]at w1
   simpa using w1.symm
end
end
section
open PySem.Spec PySem.Calls PyProof.Rows PySem.W
structure GOk4 (G:Gl):Prop extends GOk3 G where
 funs: ∀k d,G.W.funs[k]?=some d-> ∃a o fd stmts md m ow dl kd,ux G k d a o fd stmts md m ow dl kd
 prim: ∀k l,G.W.prim k l=none
 ncd: ∀x∈G.T.nm,(x==("__classdict__" :aN))=false
section
variable {G:Gl} {A:aZ} {E:aA->aD->Prop} {P P' P1:aG->Prop} {s₀ s s' s1 s2 s'':aD} {env:cg} {h h':ah} {md n m:Nat} {st st':St} {r:Ev} {k:Nat} {d:dY} {a:aG} {o:db} {fd:cV} {stmts:List ed} {ow:List Nat} {dl:Array aA} {kd:aN->Option aA} {io:aG->Prop} {W:Ow} {Pr:cY}
theorem cw.deep {env:cg} (O:cw (n+1) A):cw n (A.deeper env):=⟨O.handled,by have:=O.depth;show A.depth+1+2*n<_;lia,by have:=O.units;show A.units+3+20*n+100<_;lia⟩
theorem F4 {f:Nat×VB->cA} {x:Nat} {sl:cA} {bs:List (Nat×VB)} (e:St.get (bs.map λp=>(p.1,f p)) x=some sl): ∃p∈bs,p.1=x/\sl=f p:=
 (aP.mp (dJ e)).imp λ_ q=>⟨q.1,congrArg Prod.fst q.2,(congrArg Prod.snd q.2).symm⟩
theorem SI.init (S:FX G md P s env io) (Wl:wn G P s.heap) (X:cD G s s1) {m':aN->Option aA} (hns:s1.heap.Ns env.locals m') (hcells: ∀x c,env.cells.lookup x=some c-> ∃v,s1.heap.IsCell c v) {bs:List (Nat×VB)} {f:Nat×VB->cA}
  (hws: ∀x D,W x=some D->(s.heap.get? D=none\/io D)/\D≠env.locals/\ ∃o,s1.heap.get? D=some o/\ca o/\ ∀v,o.data≠ .cell v) (hinj: ∀x y D,W x=some D->W y=some D->x=y)
  (hb: ∀p∈bs,G.T.id (G.n p.1)=some p.1/\(f p).k≠ .nd/\ ∃w,iV env m' s1.heap (G.n p.1) w/\aw G P s env io W s1.heap p.1 (f p) w):SI G P s env io W (bs.map λp=>(p.1,f p)) s1:=by
 refine⟨X.tabs,Wl.base.ext X.ext,λa e=>X.gone Wl.tabs e,⟨m',hns,λx sl e=>?_⟩,hcells,hws,hinj⟩
 obtain⟨p,hp,rfl,rfl⟩:=F4 e
 obtain⟨h1,h2,w,h3,h4⟩:=hb p hp
 exact⟨h1,by rw[if_neg h2];exact⟨w,h3,h4⟩⟩
theorem rF (S:FX G md P s env io) (Wl:wn G P s.heap) (X:cD G s s1) {x:Nat} {vb:VB} {w:aA} (ok:vb.1.okV=true) (hc:(∀x,W x=none)\/(vb.2=true/\ ∀x D,W x=some D-> ¬P D)\/vb.1.flat=true) (r:VR G (Pm vb.2 P) s.heap vb.1 w):aw G P s env io W s1.heap x (ai vb.1 vb.2) w:=by
 have hk:=dT vb.1 vb.2
 unfold aw
 rw[if_neg (by rw[hk.2];exact bR)]
 refine⟨ok,VR.ext X.ext Wl.tabs _ _ ?_⟩
 show VR G _ s.heap vb.1 w
 by_cases hf:vb.1.flat=true
 ·exact VR.flat _ _ _ hf r
 ·have hs:(ai vb.1 vb.2).k= .safe->vb.2=true:=λe=>by
   unfold ai at e
   dsimp only at e
   split at e
   ·rename_i h;simpa [hf] using h
   ·cases e
  have wz: ∀a,Pm vb.2 P a-> ∀x,W x≠some a:=λa pa x hx=>by
   rcases hc with hc|hc|hc
   ·rw[hc]at hx;cases hx
   ·exact hc.2 x a hx (pa hc.1)
   ·exact hf hc
  exact VR.refine (λa o pa ho _=>⟨λe=>pa (hs e),λe=>(by rw[e,S.locNew]at ho;cases ho),wz a pa,λy _=>by rw[ho];nofun⟩) _ _ r
theorem yG {ps:List Nat} {args:List VB} {p:List (Nat×VB)} (h:oP ps args=some p) (q:Nat×VB) (hq:q∈p): ∃j:Nat,ps[j]?=some q.1/\args[j]?=some q.2:=by
 rw[(iu h).1]at hq
 exact(List.mem_iff_getElem?.mp hq).imp λj e=>uF.mp e
theorem BH {names:List Nat} {kns:List Nat} {kvs:List VB} {acc q:List (Nat×VB)} (h:rp names kns kvs acc=some q): ∀p∈q,p∈acc\/p.2∈kvs:=λp hp=>by
 rw[pk h]at hp
 exact(cJ.mp hp).imp id λh=>(cN h).2
theorem oO {sg:JH} {args kvs:List VB} {kns:List Nat} {bs:List (Nat×VB)} (hb:dO sg args kns kvs=some bs): ∀p∈bs,(∃j:Nat,sg.ps[j]?=some p.1/\args[j]?=some p.2)\/p.2∈kvs\/ ∃v,p.2=(v,true)/\sg.dfl.lookup p.1=some v:=by
 simp only[dO,zS,m4,kQ]at hb
 refine nk λcq=>?_
 obtain⟨p,hp,q,hq,hf⟩:=hb
 obtain⟨h1,h2⟩:=iq hf
 refine cq ?_
 intro z hz
 rcases h2 z hz with h|⟨_,h⟩
 ·rcases BH hq _ (dJ h)with h|h
  ·exact .inl (yG hp _ h)
  ·exact .inr (.inl h)
 ·rw[vq (λv=>(v,true))]at h
  exact u5 h λv hv e=> .inr (.inr ⟨v,e.symm,hv⟩)
theorem cD.ofMw (Wl:wn G P s.heap) (S:FX G md P s env io) (X:cD G s s1) (hcells: ∀x c,env.cells.lookup x=some c->s.heap.get? c=none\/True) {J:aG->Prop} (hJ: ∀a,J a->s.heap.get? a=none) (M:Mw G s env J s1 s2) (T2:aY G s2.heap):cD G s s2:=by
 refine⟨λb o e ht=>M.keep b o (X.ext b o e ht) (λhz=>?_) ht (λq=>by rw[hJ b q]at e;cases e),T2,M.os.trans X.os,?_,λb=>M.bare (X.bare b)⟩
 ·rcases hz with hz|⟨_,_,hn⟩
  ·rw[hz,S.locNew]at e;cases e
  ·rw[hn]at e;cases e
 ·obtain⟨m1,h1⟩:=X.gens
  obtain⟨m2,h2⟩:=M.gens
  exact⟨m1++m2,by rw[h2,h1,g6]⟩
theorem pG {sg:JH} {args kvs:List VB} {kns:List Nat} {bs:List (Nat×VB)} (hb:dO sg args kns kvs=some bs) {p:Nat×VB} (hp:p∈bs):p.1∈sg.ps++sg.kwo:=
 bD hb λ_ _ _ _ hf=>(iq hf).1▸aP.mpr ⟨p,hp,rfl⟩
noncomputable def xW (f:eR):aA:=match f with| .ret v=>v|_=> .none
theorem ym {o1:f9} {vb:VB} {f:eR} (e:n9 o1=some vb) (ho:tv G P o1 f s):VR G (Pm vb.2 P) s.heap vb.1 (xW f):=by
 cases o1 with
 |next=>
  have hf:f= .next:=ho
  subst hf
  exact lG (C:=λvb:VB=>VR G (Pm vb.2 P) s.heap vb.1 .none) e rfl
 |brk=>exact cI e
 |ret v fl=>
  refine Exists.elim ho λw q=>?_
  have hf:f= .ret w:=q.1
  subst hf
  exact lG (C:=λvb:VB=>VR G (Pm vb.2 P) s.heap vb.1 w) e (VR.flag (VR.mono (λa q hh=>q hh) _ _ q.2.2))
theorem E7 {Pr:cY} {k:Nat} {args kvs:List VB} {kns:List Nat} (hp: ∀k l,Pr.prim k l=none):wX Pr r (.fn k) args kns kvs=((Pr.funs[k]?).bind λd=>(dO d.sg args kns kvs).bind λbs=>(af r.s d.body (bs.map λp=>(p.1,ai p.2.1 p.2.2))).bind λq=>n9 q.1):=by
 unfold wX
 dsimp only
 rw[hp]
 rfl
theorem zK (GO:GOk4 G) (IHs:eH G n r) (Wl:wn G P s.heap) (O:cw (n+1) A) {kf:Nat} {fb:Bool} {args kvs:List VB} {kns:List Nat} {as ks:List aA} {vb:VB} {fv:aA} (e:(step G.W r).call (.fn kf) args kns kvs=some vb) (rf:VR G (Pm fb P) s.heap (.fn kf) fv) (ra:jW G P s.heap args as) (rk:jW G P s.heap kvs ks):
  ec G.M A (.call fv ⟨as,(kns.map G.n).zip ks⟩) (λr s'=> ∃v,r= .ok (.ret v)/\cD G s s'/\VR G (Pm vb.2 P) s'.heap vb.1 v) s:=by
 refine nk λcq=>?_
 refine aj e λhok e=>gC hok λhok1 hok2=>?_
 have e:=(E7 GO.prim).symm.trans e
 refine dX e λd hd bs hb q1 hq e=>?_
 obtain⟨o1,st1⟩:=q1
 refine obE91 (GO.funs _ _ hd) λa o fd stmts md m ow dl kd FR=>?_
 refine rf.elim λa' ha=>?_
 refine cq ?_
 have haa:a=a':=aC (FR.fa.symm.trans ha.1)
 refine(ha.2)▸?_
 refine(haa)▸?_
 have okb: ∀p∈bs,p.2.1.okV=true:=λp hp=>by
  rcases oO hb p hp with⟨j,_,h1⟩|h1|⟨v,h1,h2⟩
  ·exact aT.mp hok1 _ (az h1)
  ·exact aT.mp hok2 _ h1
  ·rw[h1];exact(FR.dv _ (pG hb hp) _ h2).elim λw q=>fm (fk v q.2.1)
 refine wO GO.toGOk3 FR Wl (by have:=O.depth;lia) hb ra rk (λ_=>False) (λ_ q=>q.elim) λenv s1 m' hsc S X _ hns hcl hbs hkeys E'=>?_
 have I:=SI.init (W:=λ_=>none) (f:=λp=>ai p.2.1 p.2.2) S Wl X hns hcl (λ_ _ q=>by exfalso;cases q) (λ_ _ _ q=>by cases q) λp hp=>by
  refine nk λcq=>?_
  obtain⟨h1,w,h2,h3,_⟩:=hbs p hp
  refine cq ?_
  exact⟨h1,(dT _ _).1,w,h2,rF S Wl X (okb p hp) (.inl λ_=>rfl) h3⟩
 rw[FR.tr,<-hsc]at hq
 exact jP IHs S (O.deep) stmts _ _ s1 _ o1 st1 hq I λf s2 W2 ho I2 M2 g2=>⟨_,rfl,cD.ofMw Wl S X (λ_ _ _=> .inr trivial) (λa ⟨_,_,_,_,q⟩=>by cases q) M2 I2.tabs,ym e ho⟩
theorem Js (GO:GOk4 G) (IHs:eH G n r) (Wl:wn G P s.heap) (O:cw (n+1) A) {kf:Nat} {fb:Bool} {args kvs:List VB} {kns:List Nat} {as ks:List aA} {vb:VB} {fv:aA} {Q:aA->aD->Prop} (e:(step G.W r).call (.fn kf) args kns kvs=some vb) (rf:VR G (Pm fb P) s.heap (.fn kf) fv) (ra:jW G P s.heap args as) (rk:jW G P s.heap kvs ks)
  (h: ∀v s',cD G s s'->VR G (Pm vb.2 P) s'.heap vb.1 v->Q v s'):aF G.M A (call fv as ((kns.map G.n).zip ks)) Q E s:=
 kX (sX (zK GO IHs Wl O e rf ra rk) λr s' q=>q.elim λv q=>q.1▸h v s' q.2.1 q.2.2)
end
end
section
open PySem.Spec PySem.Calls PyProof.Rows PySem.W
section
variable {G:Gl} {A:aZ} {E:aA->aD->Prop} {P P' P1:aG->Prop} {s₀ s s' s1 s2 s'':aD} {env:cg} {h h':ah} {md n m:Nat} {st st':St} {r:Ev} {k:Nat} {d:dY} {a:aG} {o:db} {fd:cV} {stmts:List ed} {ow:List Nat} {dl:Array aA} {kd:aN->Option aA} {io:aG->Prop} {W:Ow} {Pr:cY}
theorem oH {x:aN} {l:List aN} {i:Nat} (e:Jn l x 0=some i):x∈l:=az (kD e).2
theorem D6 {x:aN} {i:Nat} (e:G.T.id x=some i):G.n i=x/\G.T.id (G.n i)=some i:=by
 have:=Gl.n_id e
 exact⟨this,by rw[this];exact e⟩
theorem nH {M:g5} {w:dz} {fd:cV} {as:List aA} {Q:List (aN×aA)->aD->Prop} {as':List Arg} (hp:fd.params=⟨[],as',none,[],[],none,[]⟩) (hd:fd.defaults= .none) (hk:fd.kwdefaults= .none) (hl:as.length=as'.length)
  (h:Q ((as'.map (·.arg)).filterMap λn=>(((as'.map (·.arg)).zip as).lookup n).map (n,·)) s):aF (cK M w) A (bindArgs fd ⟨as,[]⟩) Q E s:=by
 refine pt (ps:=as'.map (·.arg)) (kwo:=[]) (dl:= #[]) (o:=none) (slots:=(as'.map (·.arg)).zip as) (by rw[hp]) (by rw[hp]) (by rw[hp];rfl) (by rw[hp]) (by rw[hp]) rfl (λQ hQ=>by rw[hd];exact aK hQ) (by simp[hl]) rfl (by exact bj _) (λnm hnm=>?_) (λ_=>none) (.inr ⟨hk,λ_=>rfl⟩) (λ_ h=>(aU h).elim) ?_
 ·have hm:nm∈as'.map (·.arg):=fu hnm
  have: ∀(ys:List aN) (vs:List aA),vs.length=ys.length->nm∈ys->((ys.zip vs).lookup nm).isSome=true:=by
   intro ys
   induction ys with
   |nil=>intro vs _ h;cases h
   |cons y ys ih=>
    intro vs hl hm
    cases vs with
    |nil=>simp at hl
    |cons v vs=>
     simp only[gf,aM]
     by_cases he:nm=y
     ·clear hm hl;subst he;simp
     ·refine(show(nm==y)=false from beq_eq_false_iff_ne.mpr he)▸?_
      exact ih vs (by simpa using hl) ((aO.mp hm).resolve_left he)
  exact this _ _ (by simp[hl]) hm
 ·rw[dU]
  have e2:(λn=>ya (λx=>(n,x)) (((fH n ((as'.map (·.arg)).zip as)).or (fH n (((as'.map (·.arg)).drop ((as'.map (·.arg)).length-(#[]:Array aA).size)).zip (#[]:Array aA).toList))).or (if([]:List aN).contains n then none else none)))=λn=>ya (λx=>(n,x)) (fH n ((as'.map (·.arg)).zip as)):=by
   funext n
   simp
  simp only[e2]
  exact h
theorem p9 {g:aN->Option aA} {names:List aN} {n:aN} {w:aA} (hn:n∈names) (hg:g n=some w):(names.filterMap λn=>(g n).map (n,·)).reverse.lookup n=some w:=by
 have hall: ∀p∈(names.filterMap λn=>(g n).map (n,·)).reverse,g p.1=some p.2:=λp hp=>by
  rw[ef,dp]at hp
  refine obE12 hp λm _ hm=>?_
  rw[dZ]at hm
  clear hp;obtain⟨v,hv,rfl⟩:=hm
  exact hv
 have hmem:(n,w)∈(names.filterMap λn=>(g n).map (n,·)).reverse:=by
  rw[ef,dp]
  exact⟨n,hn,by rw[hg];rfl⟩
 cases hl:(names.filterMap λn=>(g n).map (n,·)).reverse.lookup n with
 |none=>
  rw[dQ]at hl
  have:=hl _ hmem
  simp at this
 |some v=>
  have:=hall _ (mem_of_lookup hl)
  rw[hg]at this
  exact this.symm
theorem tU {f:VB->cA} {x:Nat} {sl:cA} {l:List (Nat×VB)} (e:St.get (l.map λp=>(p.1,f p.2)) x=some sl): ∃vb,l.lookup x=some vb/\sl=f vb:=
 u5 ((vq f x l).symm.trans e) λvb h e=>⟨vb,h,e.symm⟩
theorem Bb.getI {clos:List (aN×aG)} {caps:List Nat} {vs:List V} (H:Bb G P h clos caps vs) {x:Nat} {sl:cA}:St.get ((caps.zip vs).map λp=>(p.1,(⟨.loose,p.2⟩:cA))) x=some sl->x∈caps/\ ∃v c y,v∈vs/\sl=⟨.loose,v⟩/\clos.lookup (G.n x)=some c/\h.IsCell c (some y)/\VR G P h v y:=by
 induction vs generalizing caps with
 |nil=>rw[fL];exact cI
 |cons v vs ih=>
  refine obE46 H λkk ks c y e0 h1 h2 h3 h4 t=>?_
  cases e0
  exact λe=>LJ e (λe1 e2=>⟨e1▸ .head _,v,c,y,.head _,e2.symm,e1▸h1,h3,h4⟩) λe=>(ih t e).elim λi1 q=>⟨.tail _ i1,q.imp λ_ q=>q.imp λ_ q=>q.imp λ_ q=>⟨.tail _ q.1,q.2⟩⟩
theorem t8 {l:List V} (h:bo l=true): ∀v∈l,v.firm=true:=eW.mp h
theorem xf (a b:St) (x:Nat):St.get (a++b) x=(St.get a x).or (St.get b x):=j3
theorem wa {T:TE} {sc:bE} (hT:T.nm=G.T.nm): ∀{l:List Arg} {r:List Nat},b9 (pC T sc) l=some r->r.length=l.length/\l.map (·.arg)=r.map G.n/\ ∀x∈r,pZ sc (G.n x)=true/\G.T.id (G.n x)=some x:=by
 intro zl
 induction zl with
 |nil=>
  intro r e
  rw[<-aC e];exact⟨rfl,rfl,(λ_ h=>(aU h).elim)⟩
 |cons y l ih=>
  intro r e
  exact bD e λb hb t ht e=>aj hb λhloc hb=>by
   have i:=ih ht
   have hb':G.T.id y.arg=some b:=by unfold TE.id at hb⊢;rw[<-hT];exact hb
   have nn:=D6 (G:=G) hb'
   rw[<-aC e]
   refine⟨congrArg (· +1) i.1,by rw[au,au,i.2.1,nn.1],λx hx=>(aO.mp hx).elim (λe=>?_) (i.2.2 x)⟩
   rw[e,nn.1];exact⟨hloc,hb'⟩
theorem nO {sc:bE} {x:aN} (h:pZ sc x=true):sc.names.lookup x=some .local:=by
 unfold pZ at h
 split at h
 ·assumption
 ·cases h
theorem lk {sc:bE} (h:nK sc=true) {x:aN×eG} (hx:x∈sc.names):x.2≠ .cell:=bne_iff_ne.mp (aT.mp h x hx)
theorem t4 (GO:GOk4 G) {T:TE} {sc inner:bE} {caps:List Nat} (hT:T.nm=G.T.nm) (hu:ld (inner.names.map (·.1))=true) (e:hA T sc inner=some caps) {x:Nat} (hx:x∈caps):inner.names.lookup (G.n x)=some .free/\G.T.id (G.n x)=some x/\(G.n x==("__classdict__" :aN))=false:=
 (rW e hx).elim λnm q=>aj q.2 λ_ hf=>by
  have hf':G.T.id nm=some x:=by unfold TE.id at hf⊢;rw[<-hT];exact hf
  have nn:=D6 (G:=G) hf'
  refine obE12 (aP.mp q.1) λp hp hp3=>?_
  obtain⟨hp1,hp2⟩:=cb.mp hp
  have hk:=beq_iff_eq.mp hp2
  rw[nn.1,<-hp3]
  exact⟨j4 hu (by rw[<-hk];exact hp1),by rw[hp3];exact hf',by rw[hp3];exact GO.ncd _ (oH hf')⟩
theorem Da {a b:St} {x:Nat} {sl:cA} {Z:Prop} (h:St.get (a++b) x=some sl) (k:St.get a x=some sl->Z) (k':St.get b x=some sl->Z):Z:=by
 rw[xf]at h
 cases ha:St.get a x with
 |some y=>rw[ha]at h;exact k (ha.trans h)
 |none=>rw[ha]at h;exact k' h
theorem AJ {vb:VB} {w:aA} (r:VR G (Pm vb.2 P) h vb.1 w):VR G (Pm (decide ((ai vb.1 vb.2).k= .safe)) P) h vb.1 w:=by
 unfold ai
 cases hf:vb.1.flat with
 |true=>exact VR.flat _ _ _ hf r
 |false=>
  rw[gS]
  cases hb:vb.2 with
  |true=>rw[hb]at r;exact r
  |false=>exact VR.mono (λ_ _ e=>aL e) _ _ r
theorem Id (GO:GOk4 G) (IHe:cC G n r) (Wl:wn G P s.heap) (O:cw (n+1) A) {ps caps:List Nat} {body:PE} {dd:yU} {vs:List V} {fb:Bool} {args kvs:List VB} {kns:List Nat} {as ks:List aA} {vb:VB} {fv:aA} {Q:aA->aD->Prop} (e:(step Pr r).call (.clo ps body caps dd vs) args kns kvs=some vb) (rf:VR G (Pm fb P) s.heap (.clo ps body caps dd vs) fv) (ra:jW G P s.heap args as)
  (h: ∀v s',cD G s s'->VR G (Pm vb.2 P) s'.heap vb.1 v->Q v s'):aF G.M A (call fv as ((kns.map G.n).zip ks)) Q E s:=by
 refine aj e λhok e1=>gC hok λhok1 _=>aj e1 λhc e2=>mh hc λhkn hlen hfv=>?_
 have hlen:=of_decide_eq_true hlen
 have hkn':=bX.mp hkn
 clear e e1 hc hkn;subst hkn'
 show aF G.M A (call fv as []) Q E s
 refine nk λcq=>?_
 obtain⟨LO,a,name,qual,clos,pm,c',ctv,rfl,ho,hcr,rc⟩:=rf
 obtain⟨as',hargs⟩:=gw LO.plain
 have l7:=LO.par
 rw[hargs]at l7
 refine cq ?_
 have par:=wa (G:=G) rfl l7
 refine kX (kla_callFunE (by have:=O.depth;lia) ho rfl LO.cor LO.gen rfl hcr ?_)
 refine nH (by exact hargs) rfl rfl (ra.len.trans (hlen.trans par.1)) ?_
 simp only[par.2.1]
 refine oX (λx hx=>lk LO.noc hx) (λx hx=>?_) (λh' hns hsb=>?_) LO.kind
 ·refine nk λcq=>?_
  refine obE12 (dp.mp hx) λnm hnm hx=>?_
  obtain⟨y,hy,rfl⟩:=aP.mp hnm
  refine cq ?_
  exact u5 hx λv _ e=>e▸nO (par.2.2 y hy).1
 have hk: ∀b o,s.heap.get? b=some o->h'.get? b=some o:=λb o e=>(hsb.2 b (am (br e))).trans (aH _ e)
 refine⟨(GO.nolimit _ Wl.base).keeps hk,kla_codeExpr ?_⟩
 generalize s.toks+((ps.map G.n).filterMap λn=>(((ps.map G.n).zip as).lookup n).map (n,·)).length=tk
 have X:cD G s {s with heap:=h',toks:=tk}:=cD.of Wl.tabs hk
 refine LO.body.elim λmm l9=>IHe 0 P _ _ (A.deeper _) _ {s with heap:=h',toks:=tk} _ mm dd.mbody body vb l9 e2 ?_ O.deep λv s2 Y rv _=>h v s2 (X.trans Y) rv
 refine⟨LO.kind,rfl,rfl,Wl.base.ext X.ext,X.tabs,Wl.fresh.up Wl.tabs X,⟨_,hns,λx sl hx=>Da hx (λhx=>?_) λhx=>?_⟩,λq=>by cases q⟩
 ·refine nk λcq=>?_
  obtain⟨vb,hv,rfl⟩:=tU (f:=λvb=>ai vb.1 vb.2) hx
  have hm:=cN (dJ hv)
  have hd:=par.2.2 x hm.1
  refine((xJ (ps:=ps) ra).look hd.2 λp hp=>(par.2.2 _ (cN hp).1).2).elim (λe=>cI (e.1.symm.trans hv)) λe=>obE21 e λvb' w e=>?_
  rw[<-aC (hv.symm.trans e.1)]at e
  refine cq ?_
  exact .at_ hd.2 (dT _ _).1 (.inl ⟨nO hd.1,p9 (aP.mpr ⟨x,hm.1,rfl⟩) e.2.1⟩) ⟨aT.mp hok1 _ hm.2,VR.ext X.ext Wl.tabs _ _ (AJ e.2.2)⟩
 ·refine nk λcq=>?_
  obtain⟨hxc,v,c,y,hv,rfl,hlc,hcell,rv⟩:=rc.getI hx
  refine cq ?_
  have c:=t4 (G:=G) GO rfl LO.uq LO.free.choose_spec hxc
  exact .at_ c.2.1 (λh=>SK.noConfusion h) (.inr ⟨.inr ⟨c.1,c.2.2⟩,_,hlc,hcell.imp λ_ q=>⟨hk _ _ q.1,q.2⟩⟩) ⟨fm (t8 hfv v hv),VR.ext X.ext Wl.tabs _ _ (VR.mono (λa _ hs=>aL hs) _ _ rv)⟩
theorem ph:uz (step Pr r):=λf args kns kvs vb e=>aj e λ_ e=>by
 cases f<;>first|exact cI e|exact .inl ⟨_,rfl⟩|exact .inr ⟨_,_,_,_,_,rfl⟩
theorem BC (GO:GOk4 G) (IHe:cC G n r) (IHs:eH G n r):lD G (n+1) (step G.W r):=by
 intro P A E s Q f args kns kvs vb fv as ks e Wl rf ra rk O h
 refine nk λcq=>?_
 rcases ph _ _ _ _ _ e with⟨k,hf⟩|⟨a,b,c,d,l,hf⟩
 all_goals refine cq ?_
 ·rw[hf]at e rf
  exact Js GO IHs Wl O e rf ra rk h
 ·rw[hf]at e rf
  exact Id GO IHe Wl O e rf ra h
end
end
section
open PySem.Spec PySem.Calls PyProof.Rows PySem.W
section
variable {G:Gl} {A:aZ} {E:aA->aD->Prop} {P P' P1:aG->Prop} {s₀ s s' s1 s2 s'':aD} {env:cg} {h h':ah} {md n m:Nat} {st st':St} {r:Ev} {k:Nat} {d:dY} {a:aG} {o:db} {fd:cV} {stmts:List ed} {ow:List Nat} {dl:Array aA} {kd:aN->Option aA} {io:aG->Prop} {W:Ow} {Pr:cY}
theorem EY (T:aY G h) {cd:aA} {q:aN} (x:h.CodeRec cd q): ∃c o vs t,cd= .ref c/\h.get? c=some o/\o.data= .fields vs/\vs[1]?=some (.str q t)/\c∉G.tb:=by
 refine nk λcq=>?_
 refine obE44 x λc o vs t e ho hd hv=>?_
 refine cq ?_
 refine⟨c,o,vs,t,e,ho,hd,hv,λhm=>?_⟩
 clear e;obtain⟨r,hr,rfl⟩:=aP.mp hm
 obtain⟨_,ps,b,ht,_⟩:=T r hr
 replace b:=(ho)▸b
 cases b
 cases hd
 have hv':vs.toList[1]?=some (vC q t):=by simpa using hv
 revert hv' ht
 generalize vs.toList=l
 intro ht hv'
 match l,ht,hv' with
 | [],_,e=>exact nomatch e
 | .int _ _:: .int _ _::_::_,_,e=>exact nomatch e
theorem j2.ofMw (Wl:wn G P s.heap) (S:FX G md P s env io) (X:cD G s s1) {J:aG->Prop} {D:aG} {oD:db} (hD:s.heap.get? D=some oD) (hso:ca oD) (hJ: ∀a,J a->a=D) (M:Mw G s env J s1 s2):j2 G (· =D) s.heap s2.heap:=by
 have nz: ∀b,s.heap.get? b≠none-> ¬i9 s env b:=λb hb hz=>by
  rcases hz with hz|⟨_,_,hn⟩
  ·exact hb (hz▸S.locNew)
  ·exact hb hn
 refine⟨λb o hb ht e=>M.keep b o (X.ext b o e ht) (nz b (by rw[e];nofun)) ht λq=>hb (hJ b q),λP' x w ok hp r=>?_,λcv q hcr=>?_,λb o hb e=>by rw[hb,hD]at e;cases e;exact .inl hso⟩
 ·have r1:VR G (λa=>P' a/\s.heap.get? a≠none) s.heap x w:=VR.refine (λa o pa ho _=>⟨pa,by rw[ho];nofun⟩) _ _ r
  exact VR.mono (λa q=>q.1) _ _ (M.val _ x w ok (λa q=>⟨nz a q.2,λhj=>hp a oD q.1 (hJ a hj) (hJ a hj▸hD) hso⟩) (VR.ext X.ext Wl.tabs _ _ r1))
 ·refine nk λcq=>?_
  refine obE45 (EY Wl.tabs hcr) λc o vs t e ho hd hv hnt=>?_
  refine cq ?_
  exact⟨c,o,vs,t,e,M.keep c o (X.ext c o ho hnt) (nz c (by rw[ho];nofun)) hnt (λq=>by
   have:=hJ c q
   rw[this,hD]at ho;cases ho;exact hso.fields hd),hd,hv⟩
theorem GR {sg:JH} {args kvs:List VB} {kns:List Nat} {bs:List (Nat×VB)} (hb:dO sg args kns kvs=some bs) (nd:(sg.ps++sg.kwo).Nodup) {i x:Nat} {vb:VB} (hx:sg.ps[i]?=some x) (ha:args[i]?=some vb): ∀p∈bs,p.1=x->p.2=vb:=by
 simp only[dO,zS,m4,kQ]at hb
 refine nk λcq=>?_
 obtain⟨p,hp,q,hq,hf⟩:=hb
 refine cq ?_
 have h1:p.lookup x=some vb:=(iu hp).1▸vp (iA.mp nd).1 hx ha
 have h2:=pk hq
 have h3:q.lookup x=some vb:=by rw[h2,j3,h1];rfl
 intro z hz hzx
 rcases(iq hf).2 z hz with h4|⟨h4,_⟩
 ·rw[hzx,h3]at h4;exact(aC h4).symm
 ·rw[hzx,h3]at h4;cases h4
theorem tR {o1:f9} (h:nq o1=true) {f:eR} (ho:tv G P o1 f s):f= .next\/ ∃w,f= .ret w/\w= .none:=by
 cases o1 with
 |next=>exact .inl ho
 |brk=>cases h
 |ret v fl=>
  obtain⟨w,rfl,_,rv⟩:=ho
  cases v<;>first|exact .inr ⟨w,rfl,rv⟩|exfalso;cases h
theorem tQ (GO:GOk4 G) (IHs:eH G n r) (FR:ux G k d a o fd stmts md m ow dl kd) (Wl:wn G P s.heap) (O:cw (n+1) A) {args kvs:List VB} {as ks:List aA} {kns:List Nat} {bs:List (Nat×VB)} {x i:Nat} {v0:V} {f0:Bool} {D:aG} {oD:db} {z:aA}
  (hok:(∀b∈args,b.1.okV=true)/\ ∀b∈kvs,b.1.okV=true) (hb:dO d.sg args kns kvs=some bs) (hx:d.sg.ps[i]?=some x) (ra:jW G P s.heap args as) (rk:jW G P s.heap kvs ks) (hai:args[i]?=some (v0,f0)) (hzi:as[i]?=some z) (hD:s.heap.get? D=some oD) (hso:ca oD) (hcD: ∀v,oD.data≠ .cell v) (hD0:G.h0.get? D=none)
  (hor: ∀(P':aG->Prop) (s1:aD),cD G s s1->cn G P' s1.heap D v0 z) (hfl: ∀p∈bs,p.1≠x->p.2.1.flat=true\/(p.2.2=true/\ ¬P D)) {o1:f9} {st1:St} (hq:af r.s d.body (bs.map λp=>(p.1,if p.1=x then⟨.inout,p.2.1⟩else ai p.2.1 p.2.2))=some (o1,st1)) (hnr:nq o1=true) {R:l8->aD->Prop}
  (h: ∀s2,j2 G (· =D) s.heap s2.heap->aY G s2.heap->(∀a,s2.heap.get? a=none->s.heap.get? a=none)->s2.os=s.os->(∃more,s2.gens=s.gens++more)->(jU s.gens->jU s2.gens)->(∀v,st1.get x=some ⟨.inout,v⟩-> ∃w,cn G P s2.heap D v w)->R (.ok (.ret .none)) s2):
  ec G.M A (.call (.ref a) ⟨as,(kns.map G.n).zip ks⟩) R s:=by
 refine wO GO.toGOk3 FR Wl (by have:=O.depth;lia) hb ra rk (· =D) (λa e=>e▸hD0) λenv s1 m' hsc S X _ hns hcl hbs hkeys E'=>?_
 have okb: ∀p∈bs,p.2.1.okV=true:=λp hp=>by
  rcases oO hb p hp with⟨j,_,h1⟩|h1|⟨v,h1,h2⟩
  ·exact hok.1 _ (az h1)
  ·exact hok.2 _ h1
  ·rw[h1]
   have hx:p.1∈d.sg.ps++d.sg.kwo:=by rw[<-hkeys];exact aP.mpr ⟨p,hp,rfl⟩
   refine obE13 (FR.dv _ hx _ h2) λw _ hfl _=>?_
   exact fm (fk v hfl)
 have hat:=GR hb FR.nd hx hai
 have hDt:D∉G.tb:=Wl.tabs.off' hD λvs q=>hso.fields q
 have hD1:s1.heap.get? D=some oD:=X.ext D oD hD hDt
 have hWx: ∀y D',(λy=>if y=x then some D else none:Ow) y=some D'->y=x/\D'=D:=λy D' e=>by
  dsimp only at e
  split at e
  ·cases e;exact⟨by assumption,rfl⟩
  ·cases e
 have I:=SI.init (W:=λy=>if y=x then some D else none) (f:=λp=>if p.1=x then⟨.inout,p.2.1⟩else ai p.2.1 p.2.2) S Wl X hns hcl (λy D' e=>by
   clear hD0 hor hfl h hDt;obtain⟨_,rfl⟩:=hWx y D' e
   exact⟨.inr rfl,(λe=>by rw[e,S.locNew]at hD;cases hD),oD,hD1,hso,hcD⟩) (λy z D' e1 e2=>by rw[(hWx y D' e1).1,(hWx z D' e2).1]) λp hp=>by
  refine nk λcq=>?_
  obtain⟨h1,w,h2,h3,h4⟩:=hbs p hp
  refine cq ?_
  by_cases hpx:p.1=x
  ·have hp2:=hat p hp hpx
   refine⟨h1,by rw[if_pos hpx];exact λh=>SK.noConfusion h,w,h2,?_⟩
   rw[if_pos hpx]
   unfold aw
   rw[if_pos (show SK.inout.owner=true from rfl)]
   refine⟨D,by show(if p.1=x then some D else none)=_;rw[if_pos hpx],⟨λ_=>rfl,λq=>(q rfl).elim⟩,?_⟩
   have hwz:w=z:=h4 i z (by rw[hpx];exact hx) hzi
   show cn G _ s1.heap D p.2.1 w
   simp only[hp2,hwz]
   exact hor _ s1 X
  ·refine⟨h1,by rw[if_neg hpx];exact(dT _ _).1,w,h2,?_⟩
   rw[if_neg hpx]
   refine rF S Wl X (okb p hp) ?_ h3
   rcases hfl p hp hpx with q|⟨q1,q2⟩
   ·exact .inr (.inr q)
   ·exact .inr (.inl ⟨q1,λy D' e=>by rw[(hWx y D' e).2];exact q2⟩)
 rw[FR.tr,<-hsc]at hq
 refine jP IHs S (O.deep) stmts _ _ s1 _ o1 st1 hq I λf s2 W2 ho I2 M2 g2=>?_
 have hmt: ∀a,iw (λy=>if y=x then some D else none:Ow) (bs.map λp=>(p.1,if p.1=x then⟨.inout,p.2.1⟩else ai p.2.1 p.2.2)) a->a=D:=λa ⟨y,_,_,_,e⟩=>(hWx y a e).2
 have T2:=j2.ofMw Wl S X hD hso hmt M2
 have fin:R (.ok (.ret .none)) s2:=by
  refine h s2 T2 I2.tabs (λa e=>X.gone Wl.tabs (M2.gone a e)) (M2.os.trans X.os) ?_ (λb=>M2.bare (X.bare b)) λv hv=>?_
  ·obtain⟨m1,h1⟩:=X.gens
   obtain⟨m2,h2⟩:=M2.gens
   exact⟨m1++m2,by rw[h2,h1,g6]⟩
  ·refine nk λcq=>?_
   refine obE12 I2.ns λm2 hm2 hs2=>?_
   have h2:=(hs2 x _ hv).2
   rw[if_neg (show¬(SK.inout=SK.nd)from(λh=>SK.noConfusion h))]at h2
   refine obE12 h2 λw hw rw'=>?_
   refine cq ?_
   unfold aw at rw'
   rw[if_pos (show SK.inout.owner=true from rfl)]at rw'
   refine nk λcq=>?_
   obtain⟨D',e1,⟨e2,_⟩,e3⟩:=rw'
   have hDD:D'=D:=e2 rfl
   rw[hDD]at e3
   refine cq ?_
   exact⟨w,e3.mono λa q=>q.1⟩
 rcases tR hnr ho with rfl|⟨w,rfl,rfl⟩
 ·exact fin
 ·exact fin
theorem AV (GO:GOk4 G) (IHs:eH G n r):yR G (n+1) (step G.W r):=by
 intro P A E s Q f io args kns kvs v' fv as ks D items l e Wl hPD hD0 rf ra rk O hai hzi hpl hvs hfl hoth hkf h
 refine nk λcq=>?_
 refine aj e λhok e=>MB e λkf hf e=>yJ e λd hd bs hb x hx q1 hq e=>aj e λhnr e=>ac e λsl hsl e=>aj e λhki e=>?_
 obtain⟨o1,st1⟩:=q1
 have hv:st1.get x=some ⟨.inout,v'⟩:=by
  obtain⟨k,v⟩:=sl
  rw[show St.get st1 x=_ from hsl,show k= .inout from hki,show v=v' from aC e]
 rw[hf]at rf
 refine obE91 (GO.funs _ _ hd) λa o fd stmts md m ow dl kd FR=>?_
 refine rf.elim λa' ha=>?_
 refine cq ?_
 have haa:a=a':=aC (FR.fa.symm.trans ha.1)
 refine(ha.2)▸?_
 refine(haa)▸?_
 have hok:(∀b∈args,b.1.okV=true)/\ ∀b∈kvs,b.1.okV=true:=gC hok λa b=>⟨aT.mp a,aT.mp b⟩
 obtain⟨n0,hD⟩:=hpl
 refine kX (tQ GO IHs FR Wl O hok hb hx ra rk hai hzi hD (.list _ _) (λ_=>aI) hD0 (λP' s1 X=>⟨rfl,jN _ hfl,items,⟨n0,X.ext _ _ hD (Wl.tabs.off' hD (λ_=>aI))⟩,bh.flat _ _ _ hfl (bh.ext X.ext Wl.tabs _ _ hvs)⟩) (λp hp hpx=>?_) hq hnr λs2 T2 TT g2 o2 gn2 br2 hres=>?_)
 ·rcases oO hb p hp with⟨j,h0,h1⟩|h1|⟨v,h1,h2⟩
  ·by_cases hj:j=io
   ·cases hj
    rw[hx]at h0
    exact(hpx (aC h0).symm).elim
   ·exact .inr ⟨hoth j p.2 hj h1,hPD⟩
  ·exact .inr ⟨by unfold fx at hkf;exact aT.mp hkf _ h1,hPD⟩
  ·rw[h1];exact .inl ((FR.dv _ (pG hb hp) _ h2).elim λw q=>q.2.1)
 ·refine h .none s2 T2 TT g2 o2 gn2 br2 λl' e=>?_
  clear h;subst e
  obtain⟨w,_,_,items',h1,h2⟩:=hres _ hv
  exact⟨items',h1,h2⟩
end
end
section
open PySem.Spec PySem.Calls PyProof.Rows PySem.W
structure mB (G:Gl):Prop extends GOk4 G where
 clsNd: ∀k d,G.W.funs[k]?=some d->k=G.W.init-> ∃i,d.sg.ps[i]?=some G.W.selfX/\i=0
 okn: ∀x∈G.T.nm,dD x=true
 nmLen:G.T.nm.length<=1000
 anNd:G.T.an.Nodup
 anNe:bz∉G.T.an
 sattr: ∀(A:aZ) (E:aA->aD->Prop) (s:aD) (Q:Unit->aD->Prop) (a d:aG) (m:aN->Option aA) (x:aN) (v:aA),fy G s.heap->s.heap.get? a=some (gz G.cls d)->s.heap.Ns1 d m->(∀y,m y≠none->y∈bz::G.T.an)->x∈G.T.an->
  (∀h' tk,h'.Ns1 d (λy=>if y=x then some v else m y)->de d s.heap h'->Q () {s with heap:=h',toks:=tk})->aF G.M A (setAttr (.ref a) x v) Q E s
section
variable {G:Gl} {A:aZ} {E:aA->aD->Prop} {P P' P1:aG->Prop} {s₀ s s' s1 s2 s'':aD} {env:cg} {h h':ah} {md n m:Nat} {st st':St} {r:Ev} {k:Nat} {d:dY} {a:aG} {o:db} {fd:cV} {stmts:List ed} {ow:List Nat} {dl:Array aA} {kd:aN->Option aA} {io:aG->Prop} {W:Ow} {Pr:cY}
theorem Ak (GO:mB G) (IHs:eH G n r):uu G (n+2) (step G.W r):=by
 intro P A E s Q x z f v e Wl rx O h
 refine nk λcq=>?_
 refine aj e λhxf' e=>dX e λd hd bs hb q1 hq e=>aj e λhnr e=>zI e λks vs hv e=>?_
 have h:=bb (C:=λz=> ∀w s',cD G s s'->VR G P s'.heap z w->Q w s') e h
 obtain⟨o1,st1⟩:=q1
 refine obE91 (GO.funs _ _ hd) λa o fd stmts md m ow dl kd FR=>?_
 refine cq ?_
 refine GO.make A E s Q v Wl.base Wl.tabs O.handled λs' Y hh f' hf'=>?_
 rw[FR.fa]at hf'
 cases hf'
 have Wl':wn G P s'.heap:=⟨Wl.base.ext Y.ext,Y.tabs,Wl.fresh.up Wl.tabs Y⟩
 have hnD:s.heap.get? s.heap.objs.size=none:=bA (bC _)
 have hsz:(s.heap.push mT).objs.size=s.heap.objs.size+1:=ch ..
 have hD:s'.heap.get? s.heap.objs.size=some mT:=by rw[hh];exact aH _ (aS _ rfl)
 have hI:s'.heap.get? (s.heap.objs.size+1)=some (gz G.cls s.heap.objs.size):=by rw[hh,<-hsz];exact aS _ rfl
 have hns:s'.heap.Ns s.heap.objs.size (λ_=>none):=by
  have h1:(s.heap.push mT).Ns s.heap.objs.size (λ_=>none):=Heap.Ns.new ..
  rw[hh]
  exact h1.keeps λb o e=>aH _ e
 have hso:ca mT:= .inr (.inr ⟨_,_,rfl⟩)
 refine nk λcq=>?_
 obtain⟨i,hx,rfl⟩:=GO.clsNd _ _ hd rfl
 refine cq ?_
 have hdeep:cw (n+1) (A.under (.builtin "type.__call__" ⟨[.ref G.cls,v],[]⟩)):=by
  have e1:Code.weight (.builtin "type.__call__" ⟨[.ref G.cls,v],[]⟩)=1:=rfl
  have e2:Code.cUnits (.builtin "type.__call__" ⟨[.ref G.cls,v],[]⟩)=1:=rfl
  refine⟨O.handled,?_,?_⟩
  ·have:=O.depth
   show A.depth+Code.weight (.builtin "type.__call__" ⟨[.ref G.cls,v],[]⟩)+2*(n+1)<_
   rw[e1];lia
  ·have:=O.units
   show A.units+Code.cUnits (.builtin "type.__call__" ⟨[.ref G.cls,v],[]⟩)+20*(n+1)+100<_
   rw[e2];lia
 refine tQ GO.toGOk4 IHs FR Wl' hdeep (kns:=[]) (ks:=[]) (kvs:=[]) (as:=[.ref (s.heap.objs.size+1),v]) (args:=[(.inst [] [],true),(x,true)]) (D:=s.heap.objs.size) ⟨λb hb=>?_,(λ_ h=>(aU h).elim)⟩ hb hx ⟨_,_,rfl,⟨s.heap.objs.size+1,s.heap.objs.size,λ_=>none,rfl,hI,λ_=>Wl.fresh _ hnD,hns,λ_ _=>rfl,rfl⟩,_,_,rfl,VR.flat _ _ _ hxf' (VR.ext Y.ext Wl.tabs _ _ rx),rfl⟩ rfl rfl rfl hD hso (λ_=>aI)
  (gV Wl.base hnD) (λP' s1 X=>?_) (λp hp hpx=>?_) hq hnr λs2 T2 TT g2 o2 gn2 br2 hres=>?_
 ·rcases aO.mp hb with rfl|hb
  ·rfl
  ·rw[ao]at hb;subst hb;exact fm (fk x hxf')
 ·have nt1:s.heap.objs.size+1∉G.tb:=Wl'.tabs.off' hI (λ_=>aI)
  refine⟨rfl,s.heap.objs.size+1,λ_=>none,rfl,X.ext _ _ hI nt1,Heap.Ns1.of_empty ((X.ext.all Wl'.tabs).ns hns),λ_ _=>rfl,rfl⟩
 ·rcases oO hb p hp with⟨j,h0,h1⟩|h1|⟨v,h1,h2⟩
  ·cases j with
   |zero=>rw[hx]at h0;exact(hpx (aC h0).symm).elim
   |succ j=>
    cases j with
    |zero=>simp at h1;rw[<-h1];exact .inl hxf'
    |succ j=>simp at h1
  ·cases h1
  ·rw[h1];exact .inl ((FR.dv _ (pG hb hp) _ h2).elim λw q=>q.2.1)
 ·refine⟨rfl,h _ s2 ?_ ?_⟩
  ·refine⟨λb o e ht=>T2.k b o (λq=>by rw[q,hnD]at e;cases e) ht (Y.ext b o e ht),TT,o2.trans Y.os,?_,λb=>br2 (Y.bare b)⟩
   obtain⟨m1,h1⟩:=Y.gens
   obtain⟨m2,h2⟩:=gn2
   exact⟨m1++m2,by rw[h2,h1,g6]⟩
  ·refine nk λcq=>?_
   obtain⟨w,hfm,a',m',rfl,h1,h2,h3,h4⟩:=hres _ hv
   refine cq ?_
   exact⟨s.heap.objs.size+1,s.heap.objs.size,m',rfl,T2.hard Wl'.tabs hI (λq=>q.plain rfl) (λ_=>aI),Wl.fresh _ hnD,h2.ns,h3,h4⟩
end
end
section
open PySem.Spec PySem.Calls PyProof.Rows PySem.W
section
variable {G:Gl} {A:aZ} {E:aA->aD->Prop} {P P' P1:aG->Prop} {s₀ s s' s1 s2 s'':aD} {env:cg} {h h':ah} {md n m:Nat} {st st':St} {r:Ev} {k:Nat} {d:dY} {a:aG} {o:db} {fd:cV} {stmts:List ed} {ow:List Nat} {dl:Array aA} {kd:aN->Option aA} {io:aG->Prop} {W:Ow} {Pr:cY}
theorem r7 {y x:Nat} {s sl:cA} {r:St} {Z:Prop} (h:St.get ((y,s)::r) x=some sl) (k:x=y->s=sl->Z) (k':St.get r x=some sl->Z):Z:=LJ h k k'
theorem mf {xs:List Nat}: ∀{cs:List (Nat×cA)},gK st xs=some cs->(∀x sl,St.get cs x=some sl->x∈xs/\ ∃vb,(st.get x).bind cA.get=some vb/\sl=ai vb.1 vb.2)/\ ∀x∈xs,∃vb,(st.get x).bind cA.get=some vb:=by
 induction xs with
 |nil=>exact λe=>(aC e)▸⟨λ_ _ q=>cI q,(λ_ h=>(aU h).elim)⟩
 |cons x xs ih=>
  refine λe=>dX e λsl h1 v h2 t h3 e=>?_
  have i:=ih h3
  have hv:(st.get x).bind cA.get=some v:=by rw[h1];exact h2
  refine(aC e)▸?_
  refine⟨λy sl' e=>r7 e (λe1 e2=>⟨e1▸ .head _,v,e1▸hv,e2.symm⟩) λe=>(i.1 y sl' e).imp (.tail _) id,λy hy=>(aO.mp hy).elim (λq=>⟨v,q▸hv⟩) (i.2 y)⟩
theorem te {dd:pM} {ps caps:List Nat} {body:List PS} {f:Nat} (GO:GOk4 G) (H:Em (G.Tl 0) f ps body caps dd):(∃as',dd.margs=⟨[],as',none,[],[],none,[]⟩/\ps.length=as'.length/\as'.map (·.arg)=ps.map G.n)/\(∀x∈ps,dd.mscope.names.lookup (G.n x)=some .local/\G.T.id (G.n x)=some x)/\
  (∀x,x=f\/x∈caps->dd.mscope.names.lookup (G.n x)=some .free/\G.T.id (G.n x)=some x/\(G.n x==("__classdict__" :aN))=false):=by
 obtain⟨as',hargs⟩:=gw H.plain
 have l7:=H.par
 rw[hargs]at l7
 have par:=wa (G:=G) rfl l7
 refine⟨⟨as',hargs,par.1,par.2.1⟩,λx hx=>⟨nO (par.2.2 x hx).1,(par.2.2 x hx).2⟩,λx hx=>obE21 H.free λ_ fr q=>t4 (G:=G) GO rfl H.uq q.1 (hx.elim (λe=>e▸q.2.1) λhx=>?_)⟩
 rw[q.2.2]at hx;exact(cb.mp hx).1
theorem Cu (GO:GOk4 G) (Wl:wn G P s.heap) (hdep:A.depth<gN) {f:Nat} {ps caps:List Nat} {body:List PS} {dd:pM} {q:JI} (N:tC G env s.heap f ps body caps dd q)
  (hcl: ∀y c,q.clos.lookup y=some c->s.heap.get? c≠none) {as:List aA} (hl:as.length=ps.length) {R:l8->aD->Prop} (io:aG->Prop) (hio: ∀a,io a->G.h0.get? a=none)
  (K: ∀env' s1 m',env'.scope=dd.mscope->env'.cells=q.clos->FX G 0 P s env' io->cD G s s1->s1.heap.Ns env'.locals m'->(∀x∈ps,∀w,((ps.map G.n).zip as).lookup (G.n x)=some w->m' (G.n x)=some w)->
   ∀E',aF G.M (A.deeper env') (lW dd.mbody env') (λf s'=>R (.ok (.ret (xW f))) s') E' s1):
  ec G.M A (.call (.ref q.a) ⟨as,[]⟩) R s:=by
 refine nk λcq=>?_
 obtain⟨⟨as',hargs,hln,hnm⟩,hps,hfc⟩:=te GO N.dok
 refine cq ?_
 refine codeAny_call_function hdep N.obj rfl N.dok.cor N.dok.gen rfl N.code ?_
 refine nH (by exact hargs) rfl rfl (hl.trans hln) ?_
 simp only[hnm]
 refine oX (λx hx=>lk N.dok.noc hx) (λx hx=>?_) (λh' hns hsb=>?_) N.dok.kind
 ·refine nk λcq=>?_
  refine obE12 (dp.mp hx) λnm hnm' hx=>?_
  obtain⟨y,hy,rfl⟩:=aP.mp hnm'
  refine cq ?_
  exact u5 hx λv _ e=>e▸(hps y hy).1
 have hk: ∀b o,s.heap.get? b=some o->h'.get? b=some o:=λb o e=>(hsb.2 b (am (br e))).trans (aH _ e)
 refine⟨(GO.nolimit _ Wl.base).keeps hk,codeAny_func (K _ _ _ rfl rfl ?_ (cD.of Wl.tabs hk) hns (λx hx w hw=>p9 (aP.mpr ⟨x,hx,rfl⟩) hw) _)⟩
 refine⟨N.dok.kind,rfl,rfl,bA (bC _),Wl.base,Wl.fresh,λx y c hx _ hn=>(hcl x c hx hn).elim,λx hx=>u9 hx .inl λhl=>(lk N.dok.noc (mem_of_lookup hl) rfl).elim,λq=>(by cases q),hio,λq=>(by cases q)⟩
structure HS (G:Gl) (P:aG->Prop) (h:ah) (q:JI) (x:Nat) (vb:VB) (c:aG) (w:aA):Prop where
 look:q.clos.lookup (G.n x)=some c
 cell:h.IsCell c (some w)
 ok:vb.1.okV=true
 rel:VR G (Pm vb.2 P) h vb.1 w
theorem uh {f:Nat} {ps caps:List Nat} {body:List PS} {dd:pM} {q:JI} (N:tC G env s.heap f ps body caps dd q) (F:g9 G md P env st s.heap) {x:Nat} (hx:x∈caps) {vb:VB} (hv:(st.get x).bind cA.get=some vb): ∃c w,HS G P s.heap q x vb c w:=by
 refine nk λcq=>?_
 refine ac hv λsl h1 hv=>wB hv λhk hv=>F.ns.elim λmp H=>(N.caps x hx).elim λc C=>?_
 refine cq ?_
 refine(aC hv)▸?_
 refine((H.2 x sl h1).el hk).elim λw R=>⟨c,w,C.2.1,R.1.elim (λe=>(C.2.2 e.1).elim) λe=>e.2.elim λc2 e=>?_,R.2.1,R.2.2.flag⟩
 rw[aC (C.1.symm.trans e.1)];exact e.2
theorem yv (GO:GOk4 G) (IHs:eH G n r) (O:cw (n+1) A) (Wl:wn G P s.heap) {f:Nat} {ps caps:List Nat} {body:List PS} {dd:pM} {q:JI} (N:tC G env s.heap f ps body caps dd q) {as:List VB} {vs:List aA} (hl:as.length=ps.length) (hf:bo (fT as)=true) (rv:jW G P s.heap as vs)
  (hio: ∀a,io a->G.h0.get? a=none) (hcl: ∀y c,q.clos.lookup y=some c-> ∃w,s.heap.IsCell c w) (hcw:(∀x,W x=none)\/fx as=true/\ ∀x D,W x=some D-> ¬P D)
  (hW: ∀x D,W x=some D->io D/\ ∃o,s.heap.get? D=some o/\ca o/\ ∀v,o.data≠ .cell v) (hinj: ∀x y D,W x=some D->W y=some D->x=y) {ex:St}
  (hex: ∀env' s2,FX G 0 P s env' io->cD G s s2-> ∀x sl,St.get ex x=some sl->x∈caps/\sl.k≠ .nd/\ ∃c w,q.clos.lookup (G.n x)=some c/\s.heap.IsCell c (some w)/\aw G P s env' io W s2.heap x sl w)
  {o1:f9} {st1:St} (hq:af r.s body ((ps.zip as).map (λp=>(p.1,ai p.2.1 p.2.2))++ex++ [(f,⟨.nd,.ndef ps body caps dd⟩)])=some (o1,st1)) {R:l8->aD->Prop}
  (h: ∀env' s2 fl s3 W3,FX G 0 P s env' io->cD G s s2->tv G P o1 fl s3->SI G P s env' io W3 st1 s3->Mw G s env' (λa=> ∃x,W x=some a) s2 s3->R (.ok (.ret (xW fl))) s3):ec G.M A (.call (.ref q.a) ⟨vs,[]⟩) R s:=by
 refine obE03 (te GO N.dok) λ_ dn2 dn3=>?_
 refine Cu GO Wl (by have:=O.depth;lia) N (λy c hy=>obE21 (hcl y c hy) λw o q=>by rw[q.1];nofun) (rv.len.trans hl) io hio λenv' s2 m' hsc hce S X hns hpar E'=>?_
 have kf: ∀x,env'.kindOf x=dd.mscope.names.lookup x:=λx=>by unfold i7;rw[hsc]
 have ic: ∀{c w},s.heap.IsCell c w->s2.heap.IsCell c w:=λe=>kK X.ext Wl.tabs e
 have fr: ∀{x c w},x∈caps->q.clos.lookup (G.n x)=some c->s.heap.IsCell c (some w)->iV env' m' s2.heap (G.n x) w:=λhx e1 e2=> .inr ⟨.inr ⟨by rw[kf];exact(dn3 _ (.inr hx)).1,(dn3 _ (.inr hx)).2.2⟩,_,by rw[hce];exact e1,ic e2⟩
 have I:SI G P s env' io W ((ps.zip as).map (λp=>(p.1,ai p.2.1 p.2.2))++ex++ [(f,⟨.nd,.ndef ps body caps dd⟩)]) s2:=by
  refine⟨X.tabs,Wl.base.ext X.ext,λa e=>X.gone Wl.tabs e,⟨m',hns,λx sl hx=>Da hx (λhx=>Da hx (λhx=>?_) λhx=>?_) λhx=>?_⟩,λx c hx=>(hcl x c ((hce)▸hx)).imp λ_ e=>ic e,λx D e=>?_,hinj⟩
  ·refine nk λcq=>?_
   obtain⟨vb,hv,rfl⟩:=tU (f:=λvb=>ai vb.1 vb.2) hx
   have hm:=cN (dJ hv)
   have hd:=dn2 x hm.1
   have hfv:=fm (t8 hf _ (aP.mpr ⟨vb,hm.2,rfl⟩))
   refine((xJ (ps:=ps) rv).look hd.2 λp hp=>(dn2 _ (cN hp).1).2).elim (λe=>by rw[e.1]at hv;cases hv) λe=>obE21 e λvb' w e=>?_
   rw[<-aC (hv.symm.trans e.1)]at e
   refine cq ?_
   exact .at_ hd.2 (dT _ _).1 (.inl ⟨by rw[kf];exact hd.1,hpar x hm.1 w e.2.1⟩) (rF S Wl X hfv (hcw.imp id λc=> .inl ⟨aT.mp c.1 _ hm.2,c.2⟩) e.2.2)
  ·refine nk λcq=>?_
   obtain⟨h1,h2,c,w,h3,h4,h5⟩:=hex env' s2 S X x sl hx
   refine cq ?_
   exact .at_ (dn3 x (.inr h1)).2.1 h2 (fr h1 h3 h4) h5
  ·refine r7 hx (λe1 e2=>?_) λe=>cI e
   clear hq hx;clear hx;subst e1 e2
   have d:=dn3 x (.inl rfl)
   refine⟨d.2.1,?_⟩
   rw[if_pos rfl]
   refine⟨q,N.dok,.inr (by rw[kf];exact d.1),N.ncd,by rw[hce];exact N.self,ic N.isc,X.ext.all Wl.tabs _ _ N.obj (.inl (λh=>aq h)),Wl.tabs.code N.code X.ext,N.self,λy hy=>(N.caps y hy).imp λc' e=>⟨by rw[hce];exact e.2.1,e.2.1,by rw[kf,(dn3 y (.inr hy)).1];nofun⟩,N.only⟩
  ·refine nk λcq=>?_
   obtain⟨h1,o,h2,h3⟩:=hW x D e
   refine cq ?_
   exact⟨.inr h1,(λe=>by rw[e,S.locNew]at h2;cases h2),o,X.ext _ _ h2 (Wl.tabs.off' h2 λ_ e=>h3.1.fields e),h3⟩
 obtain⟨mm,hbody⟩:=N.dok.body
 refine jP IHs S (O.deep) dd.mbody W _ s2 _ o1 st1 (ow:=[]) (m:=mm) (by rw[hsc,<-hbody];exact hq) I λfl s3 W3 ho I3 M3 g3=>h env' s2 fl s3 W3 S X ho I3 (M3.weak λa e=>obE21 e λx _ e=>⟨x,e.2.2⟩)
theorem yu (F:g9 G md P env st s.heap) {f:aN} {fi:Nat} (hid:G.T.id f=some fi) {pn:List Nat} {body:List PS} {caps:List Nat} {dd:pM} (hsl:st.get fi=some ⟨.nd,.ndef pn body caps dd⟩) {Z:Prop} (k: ∀q mp,s.heap.Ns env.locals mp->tC G env s.heap fi pn body caps dd q->iV env mp s.heap f (.ref q.a)->Z):Z:=
 F.ns.elim λmp H=>((H.2 fi _ hsl).nd rfl).elim λq N=>k q mp H.1 N (Gl.n_id (G:=G) hid▸ .inr ⟨N.kd.imp id λe=>⟨e,N.ncd⟩,q.c,N.cell,N.isc⟩)
theorem E6 (GO:GOk4 G) (IH:cC G n r) (IHs:eH G n r) (O:cw (n+1) A) {k:Nat} {f:aN} {fp pos:dM} {args:List Expr} {fi:Nat} {ps:List PE} {vb:VB} {Q:aA->aD->Prop} (hok:dD f=true) (hid:G.T.id f=some fi) (ea:b9 (cH (G.Tl md) k env.scope) args=some ps)
  (e:(step G.W r).e st (.callN fi ps)=some vb) (F:g9 G md P env st s.heap) (h: ∀v s',cD G s s'->VR G (Pm vb.2 P) s'.heap vb.1 v->Q v s'):aF G.M A (cW (.Call (.Name f fp) args [] pos) env) Q E s:=by
 refine nk λcq=>?_
 refine bD e λsl hsl as has e=>Lu e λpn body caps dd hnd e=>aj e λhc e=>bD e λcs hcs q1 hq er=>?_
 clear e;clear e;clear e;subst hnd
 refine cq ?_
 refine yu F hid hsl λq mp hm N H=>?_
 refine dA (dg (j8 F hm H ?_) (d6 hok).1)
 refine da (kws:=[]) (kns:=[]) (qs:=[]) (ks:=[]) IH ea rfl rfl has rfl F (O.down (by lia)) λvs us s1 X rv ru=>⟨λQ' h'=>gU (X.ext _ _ N.obj (F.tabs.off' N.obj (λ_=>aI))) rfl h',?_⟩
 have F1:=F.up X
 have N1:tC G env s1.heap fi pn body caps dd q:=N.map (λ_ _=>kK X.ext F.tabs) (λ_ _ e _ hc=>X.ext.all F.tabs _ _ e (.inl hc)) λe=>F.tabs.code e X.ext
 have cs':=mf hcs
 refine kX (yv GO IHs O F1.wld N1 (W:=λ_=>none) (io:=λ_=>False) (of_decide_eq_true (aJ.mp hc).1) (aJ.mp hc).2 rv (λ_ q=>q.elim) (λy c hy=>(N1.only y c hy).elim (λe=>?_) λe=>e.elim λz e=>?_) (.inl λ_=>rfl) (λ_ _ e=>cI e) (λ_ _ _ e=>cI e) (λenv' s2 S X2 x sl hx=>?_) (o1:=q1.1) (st1:=q1.2) hq λenv' s2 fl s3 W3 S X2 ho I3 M3=>h _ s3 (X.trans (cD.ofMw F1.wld S X2 (λ_ _ _=> .inr trivial) (λa e=>e.elim λ_ e=>cI e) M3 I3.tabs)) (ym er ho))
 ·rw[e,N1.self]at hy;exact aC hy▸⟨_,N1.isc⟩
 ·obtain⟨vb,hv⟩:=cs'.2 z e.1
  refine obE21 (uh N1 F1 e.1 hv) λc' w C=>?_
  rw[<-e.2,C.look]at hy;exact aC hy▸⟨_,C.cell⟩
 ·refine nk λcq=>?_
  obtain⟨hxc,vb,hv,rfl⟩:=cs'.1 x sl hx
  refine obE21 (uh N1 F1 hxc hv) λc' w C=>?_
  refine cq ?_
  exact⟨hxc,(dT _ _).1,c',w,C.look,C.cell,rF S F1.wld X2 C.ok (.inl λ_=>rfl) C.rel⟩
end
end
section
open PySem.Spec PySem.Calls PyProof.Rows PySem.W
section
variable {G:Gl} {A:aZ} {E:aA->aD->Prop} {P P' P1:aG->Prop} {s₀ s s' s1 s2 s'':aD} {env:cg} {h h':ah} {md n m:Nat} {st st':St} {r:Ev} {k:Nat} {io:aG->Prop} {W:Ow} {Pr:cY} {cL:f9} {x:Nat}
theorem dK.nd {v:V}:dK W st s W (st.put x ⟨.nd,v⟩):= .put rfl
theorem Av (GO:GOk4 G) (S:FX G 2 P s₀ env io) (I:SI G P s₀ env io W st s) {Q:eR->aD->Prop} {name bind:aN} {args:jF} {body:List ed} {scope:bE} {pos:dM} {ps fr:List Nat} {pb:List PS}
  (hpl:fN args=true) (hk:scope.kind= .function) (hnc:nK scope=true) (hu:ld (scope.names.map (·.1))=true) (hg:scope.isGenerator=false) (hco:scope.isCoroutine=false) (hbox:kC env.scope bind=true) (hown:eX env.scope bind=true) (hfo:((scope.names.filter λp=>p.2== .free).all λp=>eX env.scope p.1)=true) (hbn:bind=name) (hnds:name∈G.T.nds) (hid:G.T.id bind=some x)
  (hps:b9 (λ(a:Arg)=>if pZ scope a.arg then G.T.id a.arg else none) args.args=some ps) (hfr:hA G.T env.scope scope=some fr) (hxf:x∈fr) (hpb: ∃m,pb=qx (G.Tl 0) [] m scope body)
  (h:lP G P s₀ env io W st s .next (st.put x ⟨.nd,.ndef ps pb (fr.filter (·!=x)) ⟨name,args,body,scope⟩⟩) Q):aF G.M A (gY (.FunctionDef name args body [] none [] scope none bind pos) env) Q E s:=by
 refine nk λcq=>?_
 obtain⟨as,rfl⟩:=gw hpl
 refine obE22 (S.dfs rfl) λc tb hcode htabs=>?_
 refine cq ?_
 have htab:=htabs name hnds
 have hnx:G.n x=bind:=Gl.n_id hid
 have hcells: ∀nm∈(scope.names.filter λp=>p.2== .free).map (·.1),∃c,env.cells.lookup nm=some c/\env.kindOf nm=some .cell:=λnm hnm=>(mF hfr hnm).elim λi q=>aj q.2 λhb _=>(aP.mp hnm).elim λp r=>by
  refine(S.own _ (aT.mp hfo p r.1)).elim (λhl=>?_) λe=>e.2.imp λc q=>r.2▸⟨q.1,e.1⟩
  replace hl:=(r.2)▸hl
  unfold kC at hb
  unfold i7 at hl
  replace hb:=(hl)▸hb
  exfalso;cases hb
 have hcl:=jn (scope:=scope) (env:=env) λnm hnm=>(hcells nm hnm).imp λc q=>q.1
 have frn: ∀i∈fr,G.n i∈(scope.names.filter λp=>p.2== .free).map (·.1)/\G.T.id (G.n i)=some i:=λi hi=>(rW hfr hi).elim λnm q=>aj q.2 λ_ hf=>⟨by rw[(D6 (G:=G) hf).1];exact q.1,(D6 (G:=G) hf).2⟩
 have DO:Em (G.Tl 0) x ps pb (fr.filter (·!=x)) ⟨name,⟨[],as,none,[],[],none,[]⟩,body,scope⟩:=⟨hpl,hk,hnc,hu,hg,hco,hps,⟨env.scope,fr,hfr,hxf,rfl⟩,hpb⟩
 have hbc:env.kindOf bind=some .cell:=(hcells bind (hnx▸(frn x hxf).1)).elim λ_ q=>q.2
 have store: ∀(s1:aD) (a:aG) (pm cv ctv doc:aA),cD G s s1->s1.heap.get? a=some (xz name (env.qual++name) ⟨[],as,none,[],[],none,[]⟩ body scope (fK env scope.names []) pm cv ctv doc)->s1.heap.CodeRec cv (env.qual++name)->
   aF G.M A (do jq pos;sY env bind (.ref a);dC Flow.next) Q E s1:=λs1 a pm cv ctv doc X ho hcr=>by
  refine aE (bG (aE (wpAny_bindName ?_)))
  have I1:=I.up X
  refine I1.storeG (J:=iw W st) (sl:=⟨.nd,.ndef ps pb (fr.filter (·!=x)) ⟨name,⟨[],as,none,[],[],none,[]⟩,body,scope⟩⟩) S hid hown (λh' m' Z hz T hZW hh=>?_) λs2 I2 M2 _=>aK (h .next s2 W rfl I2 (Mw.stepS I.tabs X M2) .nd)
  refine nk λcq=>?_
  refine hh.elim (λhl=>NameKind.noConfusion (aC (hbc.symm.trans hl.1))) λhh=>hh.2.elim λc' C=>?_
  refine cq ?_
  refine .ndef (by rw[hnx];exact hid) rfl ⟨⟨c',a,env.qual++name,fK env scope.names [],pm,cv,ctv,doc⟩,DO,.inl (by rw[hnx];exact hbc),by rw[hnx];exact GO.ncd _ (oH hid),by rw[hnx];exact C.1,C.2,T.hard I1.tabs ho (λq=>q.func rfl) (λ_=>aI),T.code _ _ hcr,?_,λy hy=>?_,λy c2 hy=>?_⟩
  ·rw[hnx];exact lB C.1 _ _ (.inr (by rw[<-hnx];exact(frn x hxf).1))
  ·have hyf:=frn y (cb.mp hy).1
   exact(hcells _ hyf.1).imp λc2 q=>⟨q.1,lB q.1 _ _ (.inr hyf.1),by rw[q.2];nofun⟩
  ·refine nk λcq=>?_
   refine(tm _ _ _ (mem_of_lookup hy)).elim (λq=>nomatch q) λq=>?_
   refine(mF hfr (aP.mpr ⟨_,cb.mpr ⟨q.1,rfl⟩,rfl⟩)).elim λi r=>aj r.2 λ_ hf=>?_
   refine cq ?_
   have n1:=(D6 (G:=G) hf).1
   by_cases hix:i=x
   ·exact .inl (n1.symm.trans (by rw[hix]))
   ·exact .inr ⟨i,cb.mpr ⟨r.1,bne_iff_ne.mpr hix⟩,n1⟩
 simp only[arm_exec_FunctionDef]
 have hann:annotationsOf as env=[]:=tB hpl env
 have hq:qualnameIn env name bind=env.qual++name:=by
  unfold qualnameIn
  rw[hbc];rfl
 refine nk λcq=>?_
 obtain⟨CH,tps,htp,hto,hrec⟩:=I.tabs _ htab
 refine cq ?_
 have hbt:=GO.bat s.heap I.base _ htab
 have F:=I.fre S
 have mk: ∀{R:aA->aD->Prop},(∀s1 a pm cv ctv doc,cD G s s1->s1.heap.get? a=some (xz name (env.qual++name) ⟨[],as,none,[],[],none,[]⟩ body scope (fK env scope.names []) pm cv ctv doc)->s1.heap.CodeRec cv (env.qual++name)->R (.ref a) s1)->
   aF G.M A (makeFunction name (env.qual++name) ⟨[],as,none,[],[],none,[]⟩ (.stmts body) scope env [] [] [] pos pos.line) R E s:=λhR=>by
  cases hca:uA pos tps.toList with
  |none=>
   refine makeFunction_K hcl S.globals (F.mg GO.toGOk) hcode CH htp hto hca (GO.tabM _ htab) hbt λc' ctv doc h' tk kx hge hlt hrc hnew=>?_
   have X:cD G s {s with heap:=h'.push (fnMade name (env.qual++name) ⟨[],as,none,[],[],none,[]⟩ body scope (fK env scope.names []) doc ((G.mg "__name__").getD .none) c' ctv),toks:=tk}:=
    ⟨λb o eb hnt=>aH _ (kx b o (λhbt=>hnt (by rw[hbt];exact aP.mpr ⟨_,htab,rfl⟩)) eb),(I.tabs.grow GO.toGOk3 htab htp kx hnew hrc).keeps λb o eb=>aH _ eb,rfl,⟨#[],by rfl⟩,id⟩
   exact hR _ _ ((G.mg "__name__").getD .none) (.ref c') ctv doc X (aS _ rfl) (hrc.push _)
  |some cv=>
   refine makeFunction_hit hcl S.globals (F.mg GO.toGOk) hcode CH htp hto hca hbt λctv doc h' tk kx hge=>?_
   refine nk λcq=>?_
   obtain⟨c',o',vs',t',rfl,r1,r2,r3⟩:=hrec pos cv hca
   refine cq ?_
   have X:cD G s {s with heap:=h'.push (fnMade name (env.qual++name) ⟨[],as,none,[],[],none,[]⟩ body scope (fK env scope.names []) doc ((G.mg "__name__").getD .none) c' ctv),toks:=tk}:=
    .of I.tabs λb o eb=>aH _ (kx b o eb)
   exact hR _ _ ((G.mg "__name__").getD .none) (.ref c') ctv doc X (aS _ rfl) ⟨c',o',vs',t',rfl,aH _ (kx _ _ r1),r2,r3⟩
 simp only[defStmt]
 dsimp only[List.isEmpty_nil,Bool.not_true,tG,gh,if_false,lY]
 refine aE (lU (aE (bG (aE (ab ?_)))))
 refine aE (lU (aE (ab (aK (ab ?_)))))
 have e0:evalOpt none env=none:=rfl
 simp only[e0,Option.toList_none,dU,hann,Option.map_none,B6,hq]
 refine aE (aK (mk λs1 a pm cv ctv doc X ho hcr=>?_))
 exact aE (aK (store s1 a pm cv ctv doc X ho hcr))
theorem K4 (GO:mB G) {a:aN} {i j:Nat} (hi:G.T.at a=some i) (hne:j≠i):G.atn j≠a:=by
 obtain⟨_,h1⟩:=kD hi
 simp only[la]at h1
 have hl:=(al.mp h1).1
 have ha:=(al.mp h1).2
 unfold Gl.atn
 cases hj:G.T.an[j]? with
 |none=>
  intro e
  exact GO.anNe (by rw[show bz=a from e,<-ha];exact iW _)
 |some b=>
  intro e
  have e':b=a:=e
  obtain⟨hjl,hjb⟩:=al.mp hj
  have hnd:=List.pairwise_iff_getElem.mp GO.anNd
  have heq:G.T.an[j]=G.T.an[i]:=by simp only[hjb,ha,e']
  rcases Nat.lt_or_gt_of_ne hne with hlt|hlt
  ·exact hnd j i hjl hl hlt heq
  ·exact hnd i j hl hjl hlt heq.symm
theorem lN.upd {P:aG->Prop} {h:ah} {m:aN->Option aA} {a:aN} {v:aA} {ks:List Nat} {l:List V} (hk: ∀k∈ks,G.atn k≠a) (H:lN G P h m ks l):lN G P h (λy=>if y=a then some v else m y) ks l:=by
 induction l generalizing ks with
 |nil=>exact H
 |cons x l ih=>
  refine obE34 H λk ks' y e0 e r t=>?_
  cases e0
  exact⟨k,ks',y,rfl,(if_neg (hk k (.head _))).trans e,r,ih (λk hk'=>hk k (.tail _ hk')) t⟩
theorem lN.snoc {P:aG->Prop} {h:ah} {m:aN->Option aA} {i:Nat} {x:V} {v:aA} (hm:m (G.atn i)=some v) (r:VR G P h x v) {ks:List Nat} {l:List V} (H:lN G P h m ks l):lN G P h m (ks++ [i]) (l++ [x]):=by
 induction l generalizing ks with
 |nil=>cases H;exact⟨i,[],v,rfl,hm,r,rfl⟩
 |cons y l ih=>
  refine obE34 H λk ks w e0 e q t=>?_
  cases e0
  exact⟨k,ks++ [i],w,rfl,e,q,ih t⟩
theorem uR (GO:mB G) (IHe:cC G n r) (S:FX G md P s₀ env io) (I:SI G P s₀ env io W st s) (O:cw n A) {Q:eR->aD->Prop} {k i:Nat} {nm at_:aN} {ex:Expr} {p0 ap pos:dM} {e:PE} (hok:dD nm=true) (hid:G.T.id nm=some x) (hat:G.T.at at_=some i)
  (ht:cH (G.Tl md) k env.scope ex=some e) (he:(step Pr r).s st (.setAttr x i e)=some (cL,st')) (h:lP G P s₀ env io W st s cL st' Q):aF G.M A (gY (.Assign [.Attribute (.Name nm p0) at_ ap] ex pos) env) Q E s:=by
 refine ac he λvb hv he=>?_
 refine zI he λks vs hsl he=>aj he λhc he=>?_
 have hfl:=(aJ.mp hc).1
 have hks: ¬ks.contains i=true:=λq=>by rw[show(!ks.contains i)=false from congrArg _ q,tH]at hc;cases hc
 cases he
 have hnx:G.n x=nm:=Gl.n_id hid
 have hatn:G.atn i=at_:=Gl.at_id hat
 have hatm:at_∈G.T.an:=oH hat
 have hs:zb [.Attribute (.Name nm p0) at_ ap] ex pos.line env=dC false:=by
  cases ex<;>rfl
 have hw:jS [.Attribute (.Name nm p0) at_ ap] ex env=dC none:=by cases ex<;>rfl
 refine wpAny_Assign_stores (hs:=hs) (hw:=hw) (IHe md _ env st A E s _ k ex e vb ht hv (I.fre S) O λv s1 X rv _=>?_)
 have I1:=I.up X
 refine nk λcq=>?_
 refine obE12 I1.ns λm hm hss=>?_
 have h2:=(hss x _ hsl).2
 rw[if_neg (show¬(SK.inout=SK.nd)from(λh=>SK.noConfusion h))]at h2
 refine obE12 h2 λw hw2 rw'=>?_
 refine cq ?_
 unfold aw at rw'
 rw[if_pos (show SK.inout.owner=true from rfl)]at rw'
 refine nk λcq=>?_
 obtain⟨D,e1,⟨e2,_⟩,hfm,a,md',rfl,ho,hns,habs,rk⟩:=rw'
 refine cq ?_
 show aF G.M A (assign (.Attribute (.Name nm p0) at_ ap) env v) _ E s1
 simp only[arm_assign_Attribute]
 refine aE (ab (dg (j8 (I1.fre S) hm ((hnx)▸hw2) ?_) (d6 hok).1))
 refine aE (bG (aE (ab ?_)))
 refine GO.sattr A E s1 _ a D md' at_ v I1.base ho hns (λy hy=>?_) hatm λh' tk hns' hsb=>?_
 ·by_cases hyk: ∀k∈ks,G.atn k≠y
  ·exact(hy (habs y hyk)).elim
  ·obtain⟨k,hk⟩:=Classical.not_forall.mp hyk
   have hk2:G.atn k=y:=Classical.not_not.mp λq=>hk λ_=>q
   rw[<-hk2]
   unfold Gl.atn
   cases q:G.T.an[k]? with
   |none=>exact .head _
   |some z=>exact .tail _ (az q)
 refine obE33 (id hns) λoD es ep hD hdd _=>?_
 have hso:ca oD:= .inr (.inr ⟨es,ep,hdd⟩)
 have k1: ∀b o,b≠D->s1.heap.get? b=some o->h'.get? b=some o:=λb o hb e=>(hsb.2 b hb).trans e
 have hne: ∀j∈ks,G.atn j≠at_:=λj hj=>K4 GO hat λe=>hks (by rw[<-e];simpa using hj)
 have hP: ¬(λa=>P a/\gL s₀ env W a) D:=λq=>q.2.2.1 x e1
 have rk':lN G (λa=>P a/\gL s₀ env W a) h' md' ks vs:=lN.but hD hso hP k1 _ _ _ rk
 obtain⟨i1,i2⟩:=I1.turn (tk:=tk) S (v':= .inst (ks++ [i]) (vs++ [vb.1])) hsl rfl e1 hD hso k1 (by obtain⟨o2,es2,ep2,z1,z2,_⟩:=hns';exact⟨o2,z1,.inr (.inr ⟨es2,ep2,z2⟩),λv q=>by rw[z2]at q;cases q⟩) λw' hw'=>by
  refine nk λcq=>?_
  obtain⟨f1,a1,m1,rfl,q1,q2,q3,q4⟩:=hw'
  refine cq ?_
  have hmm: ∀y,m1 y=md' y:=λy=>by
   refine nk λcq=>?_
   refine obE35 q2 λo1 es1 ep1 z1 z2 z3 _ z4=>?_
   refine obE35 hns λo2 es2 ep2 y1 y2 y3 _ y4=>?_
   rw[z1]at y1;cases y1
   rw[z2]at y2;cases y2
   refine cq ?_
   rw[<-z4 y,<-y4 y]
  refine⟨mN f1 (eW.mpr λ_ hv=>ao.mp hv▸fk _ hfl),a1,_,rfl,k1 _ _ (λe=>by rw[e,hD]at q1;cases q1;cases hdd) q1,hns',λy hy=>?_,?_⟩
  ·have hya:y≠at_:=λe=>hy i (cJ.mpr (.inr (.head _))) (by rw[hatn,e])
   show(if y=at_ then some v else md' y)=none
   rw[if_neg hya]
   exact habs y λk hk=>hy k (cJ.mpr (.inl hk))
  ·refine lN.snoc ?_ (VR.flat _ _ _ hfl (VR.but (P:=λ_=>False) hD hso (λq=>q) k1 _ _ (VR.flat _ _ _ hfl rv))) (lN.upd hne rk')
   rw[hatn]
   show(if at_=at_ then some v else md' at_)=some v
   rw[if_pos rfl]
 refine z7 (h .next _ W rfl i1 (Mw.stepS I.tabs X (i2.weak λa e=>e▸⟨x,_,hsl,.inr rfl,e1⟩)) (dK.refl.trans (.reown hsl) λa e=>X.gone I.tabs e))
end
end
section
open PySem.Spec PySem.Calls PyProof.Rows PySem.W
section
variable {G:Gl} {A:aZ} {E:aA->aD->Prop} {P P' P1:aG->Prop} {s₀ s s' s1 s2 s'':aD} {env:cg} {h h':ah} {md n m:Nat} {st st':St} {r:Ev} {k:Nat} {io:aG->Prop} {W:Ow} {Pr:cY} {cL:f9} {x:Nat}
theorem wW (GO:GOk4 G) (IH:cC G n r) (IHs:eH G n r) (SX:FX G md P s₀ env io) (IX:SI G P s₀ env io W st s) (O:cw (n+1) A) {k:Nat} {f:aN} {fp pos p2:dM} {args:List Expr} {fi z:Nat} {ps:List PE} {Q:eR->aD->Prop} (hok:dD f=true) (hid:G.T.id f=some fi) (ea:b9 (cH (G.Tl md) k env.scope) args=some ps)
  (e:(step G.W r).s st (.callNS fi z ps)=some (cL,st')) (h:lP G P s₀ env io W st s cL st' Q):aF G.M A (gY (.Expr (.Call (.Name f fp) args [] pos) p2) env) Q E s:=by
 refine nk λcq=>?_
 refine dX e λsl hsl l hl as has e=>?_
 refine Lu e λpn body caps dd hnd e=>aj e λhc e=>oQ hc λhc hcz hczc hcfl=>mh hc λhcl0 hcf hcg=>ac e λcs hcs e=>aj e λhcsf e=>ac e λq1 hq e=>aj e λhnr e=>F6 e λl' hl' e=>aj e λhfl' e8=>?_
 have h:=h.of e8
 subst hnd
 have F:=IX.fre SX
 refine obE31 (iF IX hl) λkk D items HO=>?_
 refine cq ?_
 have hD0:G.h0.get? D=none:=(IX.ws z D HO.w).1.elim (gV SX.base) (SX.ioNew D)
 refine yu F hid hsl λq mp hm N H=>?_
 refine kF SX ⟨_,_,_,_,rfl⟩ (dA (dg (j8 F hm H ?_) (d6 hok).1))
 refine da (kws:=[]) (kns:=[]) (qs:=[]) (ks:=[]) IH ea rfl rfl has rfl F (O.down (by lia)) λvs us s1 X rv ru=>⟨λQ' h'=>gU (X.ext _ _ N.obj (F.tabs.off' N.obj (λ_=>aI))) rfl h',?_⟩
 have F1:=F.up X
 have N1:tC G env s1.heap fi pn body caps dd q:=N.map (λ_ _=>kK X.ext F.tabs) (λ_ _ e _ hc=>X.ext.all F.tabs _ _ e (.inl hc)) λe=>F.tabs.code e X.ext
 have I1:=IX.up X
 have HO1:=HO.up IX.tabs X
 have cs':=mf hcs
 have hz:z∈caps:=b8.mp hczc
 refine nk λcq=>?_
 obtain⟨zc,zc1,zc2⟩: ∃c',q.clos.lookup (G.n z)=some c'/\s1.heap.IsCell c' (some (.ref D)):=(N1.caps z hz).elim λc' C=>HO1.holds.elim λ_ H=>H.2.elim (λe=>(C.2.2 e.1).elim) λe=>e.2.elim λc2 e=>⟨c',C.2.1,aC (e.1.symm.trans C.1)▸e.2⟩
 obtain⟨n0,hD⟩:=HO1.pl
 refine cq ?_
 have hWz: ∀y D',(λy=>if y=z then some D else none:Ow) y=some D'->y=z/\D'=D:=λy D' e=>aj e λe1 e2=>⟨e1,(aC e2).symm⟩
 have ex1: ∀x sl,St.get cs x=some sl->x∈caps/\ ∃vb c' w,sl=ai vb.1 vb.2/\HS G (yZ P env W) s1.heap q x vb c' w:=λx sl hx=>(cs'.1 x sl hx).2.elim λvb e=>obE21 (uh N1 F1 (cb.mp (cs'.1 x sl hx).1).1 e.1) λc' w C=>⟨(cb.mp (cs'.1 x sl hx).1).1,vb,c',w,e.2,C⟩
 refine kX (yv GO IHs O F1.wld N1 (W:=λy=>if y=z then some D else none) (io:=(· =D)) (of_decide_eq_true hcl0) hcf rv (λ_ q=>q▸hD0) (λy c hy=>(N1.only y c hy).elim (λe=>?_) λe=>e.elim λx e=>?_) (.inr ⟨hcg,λy D' e q=>q.2.2 z ((hWz y D' e).2▸HO.w)⟩) (λy D' e=>by rw[(hWz y D' e).2];exact⟨rfl,_,hD,.list _ _,(λ_=>aI)⟩) (λx y D' e e'=>(hWz x D' e).1.trans (hWz y D' e').1.symm) (ex:=(z,⟨.inout,.list l⟩)::cs) (λenv' s2 S X2 x sl hx=>r7 hx (λe1 e2=>?_) λhx=>?_) (o1:=q1.1) (st1:=q1.2) hq λenv' s2 fl s3 W3 S X2 ho I3 M3=>?_)
 ·rw[e,N1.self]at hy;exact aC hy▸⟨_,N1.isc⟩
 ·by_cases hxz:x=z
  ·rw[<-e.2,hxz,zc1]at hy;exact aC hy▸⟨_,zc2⟩
  ·obtain⟨vb,hv⟩:=cs'.2 x (cb.mpr ⟨e.1,bne_iff_ne.mpr hxz⟩)
   refine obE21 (uh N1 F1 e.1 hv) λc' w C=>?_
   rw[<-e.2,C.look]at hy;exact aC hy▸⟨_,C.cell⟩
 ·clear e hl hcz hczc hcs hl' e8 h hq HO cs' hWz hx;clear e;clear e;clear e;clear e;clear e;clear e;clear e;clear e;subst e1 e2
  exact⟨hz,(λh=>SK.noConfusion h),zc,_,zc1,zc2,.oI rfl ⟨D,if_pos rfl,⟨λ_=>rfl,λq=>(q rfl).elim⟩,rfl,jN _ hcfl,items,⟨n0,X2.ext _ _ hD (F1.tabs.off' hD (λ_=>aI))⟩,bh.flat _ _ _ hcfl (bh.ext X2.ext F1.tabs _ _ HO1.vs)⟩⟩
 ·refine nk λcq=>?_
  obtain⟨hxc,vb,c',w,rfl,C⟩:=ex1 x sl hx
  refine cq ?_
  exact⟨hxc,(dT _ _).1,c',w,C.look,C.cell,rF S F1.wld X2 C.ok (.inr (.inr (aT.mp hcsf _ (dJ hx)))) C.rel⟩
 have T3:=j2.ofMw F1.wld S X2 hD (.list _ _) (λa e=>e.elim λx e=>(hWz x a e).2) M3
 have g3: ∀a,s3.heap.get? a=none->s1.heap.get? a=none:=λa e=>X2.gone X.tabs (M3.gone a e)
 have fin:Q .next s3:=by
  obtain⟨items',pl3,vs3⟩: ∃items',s3.heap.PlainList D items'/\bh G (λa=>(yZ P env W a)/\gL s1 env' W3 a) s3.heap l' items'.toList:=I3.ns.elim λ_ H=>((H.2 z _ hl').el (λh=>SK.noConfusion h)).elim λw r=>(r.2.oE rfl).elim λD' e=>e.2.1.1 rfl▸e.2.2.2.2
  have hko:kk.owner=true:=HO.kk.elim (λh=>h▸rfl) λh=>h▸rfl
  have hI3:=I1.turnG (sl:=⟨kk,.list l⟩) (v':= .list l') SX HO.get hko HO.w T3 I3.tabs g3 (pl3.elim λnn ho=>⟨_,ho,.list _ _,(λ_=>aI)⟩) λw r=>⟨r.1,jN _ hfl',items',pl3,bh.flat _ _ _ hfl' vs3⟩
  have hM3:Mw G s₀ env (iw W st) s1 s3:=Mw.ofTrn T3 (λa e=>e▸⟨z,_,HO.get,HO.kk,HO.w⟩) g3 (M3.os.trans X2.os) (rT X2.gens M3.gens) λb=>M3.bare (X2.bare b)
  refine h .next s3 W rfl ?_ (Mw.stepS IX.tabs X hM3) ?_
  ·rw[kA HO.get];exact hI3
  ·rw[kA HO.get];exact .reown HO.get
 rcases tR hnr ho with rfl|⟨w,rfl,rfl⟩
 ·exact fin
 ·exact fin
end
end
section
open PySem.Spec PySem.Calls PyProof.Rows PySem.W
def wg (G:Gl) (n:Nat) (r:Ev):Prop:=
 ∀(md:Nat) (P:aG->Prop) (s₀:aD) (env:cg) (io:aG->Prop) (W:Ow) (st:St) (A:aZ) (E:aA->aD->Prop) (s:aD) (Q:eR->aD->Prop) (k:Nat) (ow:List Nat) (tg a:Expr) (f:aN) (fp cp pos:dM) (xs:List Nat) (i:PE) (body:List ed) (cL:f9) (st':St),
  f=G.T.esc->eY env.scope f=true->mX (G.Tl md) env.scope tg=some (.t xs)->cH (G.Tl md) k env.scope a=some i->
  (step G.W r).s st (.forEsc xs i (qx (G.Tl md) ow k env.scope body))=some (cL,st')->FX G md P s₀ env io->SI G P s₀ env io W st s->cw (n+4) A->lP G P s₀ env io W st s cL st' Q->
  aF G.M A (gY (.For tg (.Call (.Name f fp) [a] [] cp) body [] pos) env) Q E s
structure pL (G:Gl) (n:Nat) (r:Ev):Prop where
 exp:cC G n r
 tru:lO G n r
 call:lD G n r
 fn:uz r
 init:uu G n r
 stmt:eH G n r
 proc:yR G n r
 pfn: ∀f io args kns kvs v,r.proc f io args kns kvs=some v-> ∃k,f= .fn k
 cuse:yX G n r
 var:GW r
section
variable {G:Gl} {A:aZ} {E:aA->aD->Prop} {P P' P1:aG->Prop} {s₀ s s' s1 s2 s'':aD} {env:cg} {h h':ah} {md n m:Nat} {st st':St} {r:Ev} {k:Nat} {io:aG->Prop} {W:Ow} {Pr:cY} {cL:f9} {x:Nat}
noncomputable def Fi (p:PE):Bool:=Nat.beq p.tag 8
theorem vO {k:Nat} {f:aN} {fp pos:dM} {args:List Expr} {kws:List cQ} {fi:Nat} {ps:List PE} {T:TE} {sc:bE} (e:cH T (k+1) sc (.Call (.Name f fp) args kws pos)=some (.callN fi ps)):dD f=true/\T.id f=some fi/\b9 (cH T k sc) args=some ps/\kws=[]:=by
 refine nk λcq=>?_
 refine dX e λas ea kns' en kvs ek e=>aj e λhc e=>mh hc λhok _ _=>?_
 refine cq ?_
 have no:sQ (Fi · =false) (kE T f kws as kns' kvs):=by
  unfold kE
  split
  ·exact .some rfl
  ·exact .ite (.ite (.one λ_=> .some rfl) (.ite (.some rfl) (.ite (.one λ_=> .some rfl) (.bind λb=> .some (by cases b<;>rfl))))) (.one λ_=> .one λ_=> .ite (.some rfl) .none)
 refine fF e (λhv e=>fF e (λ_ e=>aj e λhk e=>ac e λi hi e=>?_) λ_ e=>ac e λi hi e=>PE.noConfusion (aC e)) λ_ e=>aj e λ_ e=>aL (no _ e)
 cases e
 exact⟨hok,hi,ea,bX.mp hk⟩
theorem ED (GO:mB G) (H:pL G n r) (hn:10<=n):cC G (n+4) (step G.W r):=by
 intro md P env st A E s Q m ex pe vb e e2 F O h
 have O':cw n A:=O.down (by lia)
 have G2:GOk2 G:=GO.toGOk2
 cases m with
 |zero=>cases e
 |succ m=>
 cases ex
 case Constant c k p=>exact EX e e2 F h
 case Name x p=>exact FY G2.toGOk e e2 F h
 case BinOp=>exact Ec H.exp e e2 F O' h
 case UnaryOp=>exact By H.exp e e2 F O' h
 case BoolOp=>exact BD H.exp e e2 F O' h
 case Compare=>exact yC H.exp (by lia) e e2 F O' h
 case IfExp=>exact D5 H.exp H.tru e e2 F O' h
 case List=>exact F5 H.exp e e2 F O' h
 case Tuple=>exact CC H.exp e e2 F O' h
 case Subscript=>exact AE H.exp e e2 F O' h
 case Attribute=>exact uk G2 H.exp e e2 F O' h
 case Lambda=>exact Ag GO.toGOk3 e e2 F h
 case ListComp=>exact GH H.exp H.tru O' F e e2 h
 case Call f args kws p=>
  cases f
  case Name f fp=>
   by_cases hN: ∃i as,pe= .callN i as
   ·refine nk λcq=>?_
    obtain⟨i,as,rfl⟩:=hN
    obtain⟨h1,h2,h3,rfl⟩:=vO e
    refine cq ?_
    exact E6 GO.toGOk4 H.exp H.stmt (O.down (by lia)) h1 h2 h3 e2 F λv s' X rv=>h v s' X rv (λq=>by exfalso;cases q)
   ·exact wS G2 H.exp H.call H.fn H.init hn e e2 (λi as q=>hN ⟨i,as,q⟩) F O h
  case Attribute o nm ap=>
   cases kws with
   |nil=>exact A6 G2 H.exp H.call e e2 F O' h
   |cons a l=>exact aj e λhc _=>gC hc λ_ hc=>aL hc
  all_goals exact cI e
 all_goals exact cI e
theorem Aw (H:pL G n r):yX G n (step G.W r):=by
 intro md P env st A E s Q m elt gens sc pos p0 pe vb u e e2 F O h
 cases m with
 |zero=>exfalso;cases e
 |succ m=>
 refine⟨?_,th H.exp H.tru O F e e2 λl D C s' a b c d f g i=>h l D C s' a b c d f g i⟩
 cases gens with
 |nil=>rfl
 |cons g rest=>
  refine aj e λ_ e=>dX e λ_ _ _ _ _ hg _=>aj hg λha0 _=>?_
  clear e hg;clear e;obtain⟨_,_,_,a⟩:=g
  show(!(a==0))=false
  rw[show(a==0)=true from ha0];rfl
theorem wU {a b:Nat} (H:lD G a r) (h:a<=b):lD G b r:=λP A E s Q f args kns kvs vb fv as ks e Wl rf ra rk O=>H P A E s Q f args kns kvs vb fv as ks e Wl rf ra rk (O.down h)
end
end
section
open PySem.Spec PySem.Calls PyProof.Rows PySem.W
section
variable {G:Gl} {A:aZ} {E:aA->aD->Prop} {P P' P1:aG->Prop} {s₀ s s' s1 s2 s'':aD} {env:cg} {h h':ah} {md n m:Nat} {st st':St} {r:Ev} {k:Nat} {io:aG->Prop} {W:Ow} {Pr:cY} {cL:f9} {x:Nat}
theorem vW {o:Option PS} {q:f9×St} (e:(step Pr r).s st (lj o)=some q): ∃p,o=some p/\(step Pr r).s st p=some q:=by
 cases o with
 |none=>cases e
 |some p=>exact⟨p,rfl,e⟩
theorem CV: ∀(N:Nat) (l:List Nat),l.Nodup->(∀x∈l,x<N)->l.length<=N
 |0,l,_,h=>by
  cases l with
  |nil=>exact bC _
  |cons x l=>exact absurd (h x (.head _)) (Nat.not_lt_zero _)
 |N+1,l,nd,h=>by
  by_cases hm:N∈l
  ·have h1:=CV N (l.erase N) (nd.erase N) (λx hx=>by
    have h2:=h x (List.mem_of_mem_erase hx)
    have h3:x≠N:=λe=>by clear h hm h2;subst e;exact(List.Nodup.not_mem_erase nd) hx
    lia)
   rw[List.length_erase_of_mem hm]at h1
   have:0<l.length:=List.length_pos_of_mem hm
   lia
  ·have:=CV N l nd (λx hx=>by
    have h2:=h x hx
    have h3:x≠N:=λe=>hm (e▸hx)
    lia)
   lia
theorem Jo {x:aN} {i:Nat} (e:G.T.id x=some i):i<G.T.nm.length:=by
 have:=(kD e).2
 exact(al.mp this).1
theorem Cv {elts:List Expr} {sc:bE}: ∀{elts:List Expr} {xs:List Nat},dW (G.Tl md) sc elts=some xs-> ∀x∈xs,x<G.T.nm.length:=by
 intro zl
 induction zl with
 |nil=>
  intro xs e
  cases e;exact(λ_ h=>(aU h).elim)
 |cons e es ih=>
  intro xs en
  obtain⟨y,p,i,t,rfl,rfl,ho,hi,ht⟩:=eD en
  intro x hx
  rcases aO.mp hx with rfl|hx
  ·exact Jo (G:=G) hi
  ·exact ih ht x hx
theorem BL {Z:Prop} {T:TE} {ow:List Nat} {n:Nat} {sc:bE} {xs:List Nat} {v:Expr} {p:PS} (h:w9 T ow n sc xs v=some p)
  (k2: ∀es c q os es',v= .Tuple es c q->(es.all (fR 8)&&!es.all (hS 8))=false->b9 (cH T n sc) es=some es'->xs.length=es.length->some (.assignO xs os es')=some p->Z)
  (k3: ∀e,(∀vs c q,v= .Tuple vs c q->(vs.all (fR 8)&&!vs.all (hS 8))=false)->cH T n sc v=some e->some (.assignT xs e)=some p->Z):Z:=by
 cases v with
 |Tuple es c q=>exact wB h λhcc h=>fF h (λhc h=>ac h λes' he h=>gC hc λ_ hl=>k2 es c q _ es' rfl (f5.mpr hcc) he (of_decide_eq_true hl) h) λ_ h=>ac h λe he h=>k3 e (λvs c1 q1 e=>by cases e;exact f5.mpr hcc) he h
 |_=>exact ac h λe he h=>k3 e nofun he h
theorem Ac {Z:Prop} {m:aN} {y:Nat} {as:List PE} {p:PS} (h:vr m y as=some p) (k0:as=[]->m= "reverse" ->some (.reverse y)=some p->Z) (k1: ∀a,as=[a]->m= "append" ->some (.append y a)=some p->Z) (k3: ∀a b,as=[a,b]->m= "insert" ->some (.insert y a b)=some p->Z):Z:=by
 rcases as with _|⟨a,_|⟨b,_|⟨c,r⟩⟩⟩
 ·exact aj h λhm h=>k0 rfl (fQ hm) h
 ·exact aj h λhm h=>k1 a rfl (fQ hm) h
 ·exact aj h λhm h=>k3 a b rfl (fQ hm) h
 ·exact cI h
theorem Li {Z:Prop} {T:TE} {it a:Expr} (h:IY T it=some a) (k: ∀fp cp,it= .Call (.Name T.esc fp) [a] [] cp->Z):Z:=by
 cases it with
 |Call f args kws cp=>exact aj h λhk h=>tS h λx fp hf h=>aj h λhx h=>uY h λb hb h=>k fp cp (by simp only[hf,hb,aC h,fQ hx,bX.mp hk])
 |_=>exact cI h
theorem DG {α β:Type} {f:α->Option β} {l:List α} {b c:β} (h:b9 f l=some [b,c]): ∃a a',l=[a,a']/\f a=some b/\f a'=some c:=by
 refine nk λcq=>?_
 obtain⟨a,r,rfl,h1,h2⟩:=tV h
 clear h;obtain⟨a',rfl,h3⟩:=rU h2
 refine cq ?_
 exact⟨a,a',rfl,h1,h3⟩
section
variable {ow:List Nat} {Q:eR->aD->Prop} {p:PS} {m:Nat}
theorem BJ (GO:mB G) (H:pL G n r) (S:FX G md P s₀ env io) (I:SI G P s₀ env io W st s) (O:cw n A) {t v:Expr} {pos:dM} (hp:HL (G.Tl md) ow m env.scope v t=some p) (hes: ∀q,some q=some p->(step G.W r).s st q=some (cL,st')) (h:lP G P s₀ env io W st s cL st' Q):aF G.M A (gY (.Assign [t] v pos) env) Q E s:=by
 have okn: ∀{x:aN} {i:Nat},G.T.id x=some i->dD x=true:=λe=>GO.okn _ (oH e)
 cases t with
 |Name nm p0=>exact aj hp λhown hp=>bD hp λi hi e1 he1 hp=>w8 H.exp H.cuse S I O hi hown he1 (hes _ hp) h
 |Tuple elts c p0=>
  refine ac hp λxs hxs hp=>aj hp λhu hp=>BL hp (λes c q os es' hv hcc he1 hlen hq=>?_) λe hcc he1 hp=>um H.exp S I O hxs hu he1 hcc (hes _ hp) h
  ·clear hp;clear hp;clear hp;subst hv
   refine uo H.exp S I O hxs hu he1 hcc (hes _ hq) h ?_
   have:=CV _ xs (j5 (md:=md) hxs hu) (Cv (elts:=elts) hxs)
   have:=GO.nmLen
   lia
 |Subscript o i sp=>exact tS hp λnm p0 ho hp=>aj hp λ_ hp=>dX hp λy hy j hj e1 he1 hp=>ho▸uQ H.exp S I O (okn hy) hy hj he1 (hes _ hp) h
 |Attribute o at_ ap=>exact tS hp λnm p0 ho hp=>aj hp λ_ hp=>dX hp λy hy j hj e1 he1 hp=>ho▸uR GO H.exp S I O (okn hy) hy hj he1 (hes _ hp) h
 |_=>exact cI hp
theorem E5 (GO:mB G) (H:pL G n r) (S:FX G md P s₀ env io) (I:SI G P s₀ env io W st s) (O:cw (n+1) A) {v:Expr} {pos:dM} (hp:yi (G.Tl md) m env.scope v=some p) (hes: ∀q,some q=some p->(step G.W r).s st q=some (cL,st')) (h:lP G P s₀ env io W st s cL st' Q):aF G.M A (gY (.Expr v pos) env) Q E s:=by
 have okn: ∀{x:aN} {i:Nat},G.T.id x=some i->dD x=true:=λe=>GO.okn _ (oH e)
 have O':cw n A:=O.down (by lia)
 cases v with
 |Call f args kws p2=>
  cases f with
  |Name f fp=>
   refine ac hp λe1 he1 hp=>?_
   cases m with
   |zero=>exact cI he1
   |succ m=>
   cases e1 with
   |call g as kns kvs=>exact yD GO.toGOk2 H.exp H.proc H.var H.pfn S I O' he1 (hes _ hp) h
   |callN g as=>
    refine nk λcq=>?_
    refine ac hp λz hz hq=>?_
    obtain⟨h1,h2,h3,rfl⟩:=vO he1
    refine cq ?_
    exact wW GO.toGOk4 H.exp H.stmt S I O h1 h2 h3 (hes _ hq) h
   |_=>exact cI hp
  |Attribute o mn ap=>
   refine tS hp λnm p0 ho hp=>aj hp λhc hp=>mh hc λ_ hl hk=>bD hp λy hy as has hm=>?_
   cases bX.mp hk
   subst ho
   refine Ac hm (λe hn hq=>?_) (λa e hn hq=>?_) λa b e hn hq=>?_
   ·clear hm;subst e hn;cases rV has;exact uT H.exp S I O' (okn hy) hy hl (hes _ hq) h
   ·clear hm;subst e hn;clear hp;clear hp;clear hp;obtain⟨a,rfl,h1⟩:=rU has;exact wb H.exp S I O' (okn hy) hy hl h1 (hes _ hq) h
   ·clear hm;subst e hn;clear hp;clear hp;clear hp;obtain⟨a,a',rfl,h1,h2⟩:=DG has;exact wI H.exp S I O' (okn hy) hy hl h1 h2 (hes _ hq) h
  |_=>exact cI hp
 |_=>exact cI hp
theorem IN (GO:mB G) (H:pL G n r) (EO:wg G n r) (S:FX G md P s₀ env io) (I:SI G P s₀ env io W st s) (O:cw (n+4) A) {tg it:Expr} {body:List ed} {pos:dM} {t:Tg} (ht:mX (G.Tl md) env.scope tg=some t) (hp:CF (G.Tl md) m env.scope t it (qx (G.Tl md) ow m env.scope body)=some p) (hes: ∀q,some q=some p->(step G.W r).s st q=some (cL,st')) (h:lP G P s₀ env io W st s cL st' Q):aF G.M A (gY (.For tg it body [] pos) env) Q E s:=by
 unfold CF at hp
 cases he:IY (G.Tl md) it with
 |none=>
  replace hp:=(he)▸hp
  exact ac hp λi hi hp=>Df H.exp H.var H.stmt S I (O.down (by lia)) ht hi (hes _ hp) h
 |some a=>
  simp only[he]at hp
  refine aj hp λhglob hq=>ac hq λi hi hq=>ac hq λxs hxs hq=>Li he λfp cp e=>?_
  clear he;subst e
  cases t with
  |n x=>exact cI hxs
  |t ys=>cases hxs;exact EO md P s₀ env io W st A E s Q m ow tg a _ fp cp pos _ i body cL st' rfl hglob ht hi (hes _ hq) S I O h
theorem Ic (GO:mB G) (S:FX G md P s₀ env io) (I:SI G P s₀ env io W st s) {name bind:aN} {args:jF} {body:List ed} {decs:List Expr} {ret:Option Expr} {tps} {scope:bE} {tsc} {pos:dM} (hp:G4 (G.Tl md) ow (m+1) env.scope (.FunctionDef name args body decs ret tps scope tsc bind pos)=some p) (hes: ∀q,some q=some p->(step G.W r).s st q=some (cL,st')) (h:lP G P s₀ env io W st s cL st' Q):aF G.M A (gY (.FunctionDef name args body decs ret tps scope tsc bind pos) env) Q E s:=by
 refine nk λcq=>?_
 refine aj hp λhc hp=>oQ hc λhc i3 i4 c=>gC hc λi1 i2=>dX hp λx hx ps hps fr hfr hp=>aj hp λhxf hq=>?_
 refine oQ c λc c10 c11 c12=>oQ c λc c7 c8 c9=>oQ c λc c4 c5 c6=>mh c λc1 c2 c3=>?_
 refine cq ?_
 cases bX.mp i1
 cases bY.mp i2
 cases bX.mp i3
 cases bY.mp i4
 have hmd:md=2:=fQ c1
 clear hp c c1 hc;clear hp c;clear hp c;clear c;subst hmd
 exact Av GO.toGOk4 S I c2 (fQ c3) c4 c5 (dS _▸c6) (dS _▸c7) c8 c9 c10 (fQ c11) (b8.mp c12) hx hps hfr (b8.mp hxf) ⟨m,rfl⟩ (h.of (hes _ hq))
end
theorem AG (GO:mB G) (H:pL G n r) (EO:wg G n r):eH G (n+4) (step G.W r):=by
 intro md P s₀ env io W st A E s Q m ow c cL st' e S I O h
 have O':cw n A:=O.down (by lia)
 refine obE12 (vW e) λp hp he=>?_
 have hes: ∀q,some q=some p->(step G.W r).s st q=some (cL,st'):=λq e=>bb (C:=λq=>(step G.W r).s st q=some (cL,st')) e he
 cases m with
 |zero=>exact cI hp
 |succ m=>
 cases c with
 |Assign targets v pos=>match targets with
  | []=>exact cI hp
  | [t]=>exact BJ GO H S I O' hp hes h
  |t1::t2::ts=>exact bD hp λxs hxs e1 he1 hp=>ur H.exp S I O' hxs he1 (hes _ hp) h
 |AugAssign t op v pos=>exact tS hp λnm p0 ht hp=>aj hp λhloc hp=>bD hp λy hy e1 he1 hp=>ht▸Ej H.exp S I O' hy hloc he1 (hes _ hp) h
 |Expr v pos=>exact E5 GO H S I (O.down (by lia)) hp hes h
 |If c a b pos=>exact ac hp λc1 hc1 hp=>Fk H.tru H.stmt S I O' hc1 (hes _ hp) h
 |While c a b pos=>exact aj hp λhb hp=>ac hp λc1 hc1 hp=>bX.mp hb▸xK H.tru H.stmt S I O' hc1 (hes _ hp) h
 |For tg it b l pos=>exact aj hp λhl hp=>ac hp λt ht hp=>bX.mp hl▸IN GO H EO S I O ht hp hes h
 |Return v pos=>
  cases v with
  |none=>exact wpAny_Return_none (h.of (hes _ hp) _ s W ⟨.none,rfl,rfl,rfl⟩ I .refl .refl)
  |some v=>exact ac hp λe1 he1 hp=>C7 H.exp S I O' he1 (hes _ hp) h
 |Break pos=>exact wpAny_Break (h.of (hes _ hp) .brk s W rfl I .refl .refl)
 |FunctionDef name args body decs ret tps scope tsc bind pos=>exact Ic GO S I hp hes h
 |_=>exact cI hp
theorem Fs (GO:mB G) (hn:10<=n) (H:pL G n r) (EO:wg G n r):pL G (n+4) (step G.W r) where
 exp:=ED GO H hn
 tru:=CD H.exp H.tru (by lia)
 call:=wU (BC GO.toGOk4 H.exp H.stmt) (by lia)
 fn:=ph
 init:=λP A E s Q x z f v e Wl rx O=>Ak GO H.stmt P A E s Q x z f v e Wl rx (O.down (by lia))
 stmt:=AG GO H EO
 proc:=λP A E s Q f io args kns kvs v' fv as ks D items l e Wl a b rf ra rk O=>AV GO.toGOk4 H.stmt P A E s Q f io args kns kvs v' fv as ks D items l e Wl a b rf ra rk (O.down (by lia))
 pfn:=λf io args kns kvs v e=>by
  exact aj e λ_ e=>MB e λk hk _=>⟨k,hk⟩
 cuse:=λmd P env st A E s Q m elt gens sc pos p0 pe vb u e e2 F O=>Aw H md P env st A E s Q m elt gens sc pos p0 pe vb u e e2 F (O.down (by lia))
 var:=λst x vb e=>e
theorem Fq:pL G n (ev Pr 0):=by
 refine⟨?_,?_,?_,?_,?_,?_,?_,?_,?_,?_⟩
 ·intro _ _ _ _ _ _ _ _ _ _ _ _ _ e;cases e
 ·intro _ _ _ _ _ _ _ _ _ _ _ _ _ e;cases e
 ·intro _ _ _ _ _ _ _ _ _ _ _ _ _ e;exfalso;cases e
 ·intro _ _ _ _ _ e;exfalso;cases e
 ·intro _ _ _ _ _ _ _ _ _ e;exfalso;cases e
 ·intro _ _ _ _ _ _ _ _ _ _ _ _ _ _ _ _ e;exfalso;cases e
 ·intro _ _ _ _ _ _ _ _ _ _ _ _ _ _ _ _ _ e;exfalso;cases e
 ·intro _ _ _ _ _ _ e;cases e
 ·intro _ _ _ _ _ _ _ _ _ _ _ _ _ _ _ _ _ _ e;exfalso;cases e
 ·intro _ _ _ e;cases e
theorem HD (GO:mB G) (EO: ∀k,pL G (4*k+10) (ev G.W k)->wg G (4*k+10) (ev G.W k)): ∀k,pL G (4*k+10) (ev G.W k)
 |0=>Fq
 |k+1=>by
  have H:=HD GO EO k
  have:=Fs GO (by lia) H (EO k H)
  rw[show 4*(k+1)+10=4*k+10+4 by lia]
  exact this
end
end
section
noncomputable def bN:List Nat->Nat->Bool->List (Nat×List Nat)
 | [],i,e=>if e=true then[(i-1,[92])]else[]
 |c::r,i,e=>if e=true then(i,[92,c])::bN r (i+1) false else if c=92 then bN r (i+1) true else(i,[c])::bN r (i+1) false
noncomputable def lI (pc:Nat×List Nat):V:= .tup [.int (pc.1:Nat),.str ⟨pc.2.toArray⟩]
noncomputable def Lg:V->Option (List V)
 | .str x=>some ((bN x.cps.toList 0 false).map lI)
 |_=>none
end
section
open PySem.Spec PySem.Calls PyProof.Rows PySem.W
open Sem (wp)
section
variable {M:i6} {A:aZ} {R:GenEnd} {Y:Protocol} {n:Nat} {s₀:aD} {c:Code} {fs:List Frame} {s:aD} {env:cg}
 {K:eR->l6 Fin} {H:aA->l6 Fin} {gd:Bool->Bool} {lv:List aA->List aA}
theorem xV {test:Expr} {body orelse:List ed} {pos:dM}
  (h:aF M (A.over c fs) (isTrue test env (cW test env)) (λb s'=>Bk M A R Y n s₀ c ((if b=true then lW body env else lW orelse env).wrap K H gd lv) fs s') (λ_ _=>False) s):
  Bk M A R Y n s₀ c ((gY (.If test body orelse pos) env).wrap K H gd lv) fs s:=by
 simp only[exec_If]
 show Bk M A R Y n s₀ c (.at pos λ_=>(isTrue test env (cW test env)>>=λb=>if b=true then lW body env else lW orelse env).wrap K H gd lv) fs s
 refine seg_at ?_
 rw[kP,oS]
 exact seg_wrap (ay h (λb s' x=>x) λ_ _ x=>x.elim)
theorem n8 {st:ed} (h:aF M (A.over c fs) (gY st env) (λf s'=>Bk M A R Y n s₀ c (K f) fs s') (λ_ _=>False) s):
  Bk M A R Y n s₀ c ((gY st env).wrap K H gd lv) fs s:=seg_wrap (ay h (λb s' x=>x) λ_ _ x=>x.elim)
theorem FG {target iter:Expr} {body orelse:List ed} {pos:dM} (hs: ∀x,lV iter env x=dC x)
  (h:aF M (A.over c fs) (cW iter env) (λxv s1=>aF M (A.over c fs) (wt xv) (λit s2=> ∀p,Bk M A R Y n s₀ (.forLoop target it body orelse env) (M.den (.forLoop target it body orelse env))
   (.ret (λr=>((match r with| .ok f=>(.pure f:l6 eR)| .error e=> .raise e).onRaise λ(x:aA)=>do
    if(<-field x 1)==gZ then unsupported "frame.own-activation:exception-without-traceback"
    setFlight x env.frame).wrap K H gd lv) none (gd false) (lv []) c p []::fs) s2) (λ_ _=>False) s1) (λ_ _=>False) s):
  Bk M A R Y n s₀ c ((gY (.For target iter body orelse pos) env).wrap K H gd lv) fs s:=by
 have e:gY (.For target iter body orelse pos) env=(do
  jq pos
  let x <-cW iter env
  let x <-lV iter env x
  jq iter.pos
  hV [x] (wt x))>>=λit=>runOwn (.forLoop target it body orelse env) env:=by
  simp only[arm_exec_For]
  simp only[bind_assoc]
 rw[e,kP,oS]
 refine seg_wrap (aE (bG (aE (ay h (λxv s1 h1=>aE (oV (hs xv) (aE (bG (ab (ay h1 (λit s2 h2=>?_) λ_ _ x=>x.elim)))))) λ_ _ x=>x.elim))))
 exact seg_call h2
end
section
variable {prog:g5} {w:dz} {A:aZ} {R:GenEnd} {Y:Protocol} {n:Nat} {s₀:aD} {fs:List Frame} {s:aD} {env:cg}
noncomputable def Lz (target:Expr) (it:aA) (body orelse:List ed) (env:cg):eR->l6 Fin:=λf=>match f with
 | .next| .cont=> .pure (.again (.forLoop target it body orelse env))
 | .brk=> .pure (.done .next)
 | .ret v=> .pure (.done (.ret v))
noncomputable def MA (env:cg):aA->l6 Fin:=λe=>(do tz e env;nW e:l6 Unit).wrap (λ_=> .raise e) .raise id id
theorem pR {target:Expr} {it:aA} {body orelse:List ed}
  (h:aF (cK prog w) (A.over (.forLoop target it body orelse env) fs) (ms it) (λr s1=>match r with
    |none=>Bk (cK prog w) A R Y n s₀ (.forLoop target it body orelse env) (.pure (.again (.block orelse env))) fs s1
    |some v=>aF (cK prog w) (A.over (.forLoop target it body orelse env) fs) (ff target it v) (λ_ s1'=>aF (cK prog w) (A.over (.forLoop target it body orelse env) fs) (assign target env v)
     (λ_ s2=>Bk (cK prog w) A R Y n s₀ (.forLoop target it body orelse env) ((lW body env).wrap (Lz target it body orelse env) (MA env) id id) fs s2) (λ_ _=>False) s1') (λ_ _=>False) s1)
   (λ_ _=>False) s):
  Bk (cK prog w) A R Y n s₀ (.forLoop target it body orelse env) ((cK prog w).den (.forLoop target it body orelse env)) fs s:=by
 show Bk _ A R Y n s₀ _ ((forTurn target it body orelse env).onRaise (λx=>do tz x env;nW x)) fs s
 have e:forTurn target it body orelse env=(do
   jq target.pos
   let r <-(ms it).onRaise (λ_=>jq {target.pos with line:=0})
   match r with
   |none=>dC none
   |some v=>do
    ff target it v
    assign target env v
    dC (some ()))>>=λ(r:Option Unit)=>match r with
   |none=>BW (.block orelse env)
   |some _=>lW body env>>=λf=>match f with
    | .next| .cont=>BW (.forLoop target it body orelse env)
    | .brk=>dC (.done .next)
    | .ret v=>dC (.done (.ret v)):=by
  unfold forTurn
  simp only[bind_assoc]
  congr 1;funext _;congr 1;funext r
  cases r<;>simp only[bind_assoc,pure_bind]
  rfl
 rw[e,Sem.onRaise_eq_wrap,kP,oS]
 refine seg_wrap (aE (bG (aE (wpAny_onRaise (ay h (λr s1 h1=>?_) λ_ _ x=>x.elim)))))
 cases r with
 |none=>exact aK h1
 |some v=>
  refine aE (ay h1 (λ_ s1' h2=>aE (ay h2 (λ_ s2 h3=>aK ?_) λ_ _ x=>x.elim)) λ_ _ x=>x.elim)
  show Bk _ A R Y n s₀ _ (Sem.wrap _ _ _ _ (lW body env>>=_)) fs s2
  rw[kP,oS]
  rw[Sem.wrap_congr (lW body env) _ _ (K':=Lz target it body orelse env) (H':=MA env) (λf=>by cases f<;>rfl) (λe=>by
   first|exact Sem.bind_eq_wrap _ _|(show(do tz e env;nW e:l6 Unit).bind (λ_=> .raise e)=_;rw[Sem.bind_eq_wrap];rfl))]
  exact h3
end
end
section
open PySem.Spec PySem.Calls PyProof.Rows PySem.W
open Sem (wp)
noncomputable def kz (p:Nat->dM):ed:=
 .If (.Name ("escape" :aN) (p 8))
  [.Expr (.Yield (some (.Tuple [.Name ("pos" :aN) (p 9),.BinOp (.Constant (.str ("\\" :aN)) 0 (p 10)) .Add (.Name ("ch" :aN) (p 11)) (p 12)] 0 (p 13))) (p 14)) (p 15),
   .Assign [.Name ("escape" :aN) (p 16)] (.Constant (.bool false) 0 (p 17)) (p 18)]
  [.If (.Compare (.Name ("ch" :aN) (p 19)) [.Eq] [.Constant (.str ("\\" :aN)) 0 (p 20)] (p 21))
   [.Assign [.Name ("escape" :aN) (p 22)] (.Constant (.bool true) 0 (p 23)) (p 24)]
   [.Expr (.Yield (some (.Tuple [.Name ("pos" :aN) (p 25),.Name ("ch" :aN) (p 26)] 0 (p 27))) (p 28)) (p 29)] (p 30)] (p 31)
noncomputable def ud (p:Nat->dM):ed:=
 .If (.Name ("escape" :aN) (p 32)) [.Expr (.Yield (some (.Tuple [.Name ("pos" :aN) (p 33),.Constant (.str ("\\" :aN)) 0 (p 34)] 0 (p 35))) (p 36)) (p 37)] [] (p 38)
noncomputable def ta (p:Nat->dM):Expr:= .Tuple [.Name ("pos" :aN) (p 39),.Name ("ch" :aN) (p 40)] 0 (p 41)
noncomputable def mO (p:Nat->dM):List ed:=
 [.Assign [.Name ("pos" :aN) (p 0)] (.Constant (.int 0) 0 (p 1)) (p 2),
  .Assign [.Name ("escape" :aN) (p 3)] (.Constant (.bool false) 0 (p 4)) (p 5),
  .For (ta p) (.Call (.Name ("enumerate" :aN) (p 6)) [.Name ("addr" :aN) (p 7)] [] (p 42)) [kz p] [] (p 43),
  ud p]
section
variable {prog:g5} {w:dz} {A:aZ} {E:aA->aD->Prop} {s:aD}
theorem CP {it:aG} {x:aN} {t:ze} {i:Nat} {Q:aA->aD->Prop} (hh:A.handled=none) (hit:s.heap.IsStrIter it (bW x) x t i) (hx:x.cps[i]?=none)
  (hE: ∀h' e,jx it s.heap h'->(∃o,h'.get? it=some o/\dF o/\ ∃vs,o.data= .fields vs)->(∃o,h'.get? e=some o/\o.cls= .type "StopIteration")->E (.ref e) {s with heap:=h'}):
  aF (cK prog w) A (mW (.ref it)) Q E s:=by
 have hT:=hit.typeIs
 refine nk λcq=>?_
 refine obE13 (id hit) λo ho hc hd=>?_
 refine cq ?_
 have hty:bW x= "str_ascii_iterator" \/bW x= "str_iterator" :=by unfold bW;split<;>decide
 have g1: ∀(k:Nat) (v:aA) (o1 o2:db),(∀q t',((#[.str x t,.int i 0]:Array aA).setIfInBounds k v)[1]?≠some (.str q t'))-> ∃ob,(((s.heap.update it (Obj.mapFields λvs=>vs.setIfInBounds k v)).push o1).push o2).get? it=some ob/\dF ob/\ ∃vs,ob.data= .fields vs:=λk v o1 o2 hkv=>by
  have hcl:(Obj.mapFields (λvs=>vs.setIfInBounds k v) o).cls= .type (bW x):=(Obj.cls_mapFields ..).trans hc
  have hdl:=Obj.data_mapFields hd (λvs=>vs.setIfInBounds k v)
  refine⟨_,aH _ (aH _ (mC _ ho (Obj.isFreed_of_fields hdl))),⟨by rw[hcl];exact λh=>aq h,by rw[hcl];rcases hty with q|q<;>rw[q]<;>decide,λvs e=>?_⟩,_,hdl⟩
  rw[hdl]at e;cases e;exact hkv
 unfold mW
 rcases hty with q|q
 ·rw[q]at hT
  refine aE (fO (name:=fS "__next__") hT sj
   (gX sj hT F.entry_str_ascii_iterator_next ?_ (F.args_str_ascii_iterator_next_1 _)))
  show aF _ _ (field (.ref it) 0>>=_) _ _ s
  refine aE (oZ ho hd (x:= .str x t) rfl ?_)
  show aF _ _ (field (.ref it) 1>>=_) _ _ s
  refine aE (oZ ho hd (x:= .int i 0) rfl ?_)
  simp only[Int.toNat_natCast,hx]
  refine aE (ml (aE (wpAny_setField ho hd (by simp) (aE (wpAny_letGo ?_)))))
  show aF _ _ (newExc (.type "StopIteration") []>>=_) _ _ _
  refine aE ?_
  simp only[newExc,newTuple]
  refine aE (dc ?_ (by size_fits))
  refine aE (m:=iZ _ _) (oV (a:=gZ) (by first|rfl|(simp only[iZ];rfl)) ?_)
  refine dc ?_ (by size_fits)
  simp only[raiseNew]
  refine aE (z8 ?_)
  first|rw[show A.in1.handled=none from hh]|rw[hh]
  refine aE (aK (wpAny_throw ?_))
  exact hE _ _ (((lE ..).extBut.push _).push _) (g1 _ _ _ _ (by simp)) ⟨_,aS _ rfl,rfl⟩
 ·rw[q]at hT
  refine aE (fO (name:=fS "__next__") hT xH
   (gX xH hT F.entry_str_iterator_next ?_ (F.args_str_iterator_next_1 _)))
  show aF _ _ (field (.ref it) 0>>=_) _ _ s
  refine aE (oZ ho hd (x:= .str x t) rfl ?_)
  show aF _ _ (field (.ref it) 1>>=_) _ _ s
  refine aE (oZ ho hd (x:= .int i 0) rfl ?_)
  simp only[Int.toNat_natCast,hx]
  refine aE (ml (aE (wpAny_setField ho hd (by simp) (aE (wpAny_letGo ?_)))))
  show aF _ _ (newExc (.type "StopIteration") []>>=_) _ _ _
  refine aE ?_
  simp only[newExc,newTuple]
  refine aE (dc ?_ (by size_fits))
  refine aE (m:=iZ _ _) (oV (a:=gZ) (by first|rfl|(simp only[iZ];rfl)) ?_)
  refine dc ?_ (by size_fits)
  simp only[raiseNew]
  refine aE (z8 ?_)
  first|rw[show A.in1.handled=none from hh]|rw[hh]
  refine aE (aK (wpAny_throw ?_))
  exact hE _ _ (((lE ..).extBut.push _).push _) (g1 _ _ _ _ (by simp)) ⟨_,aS _ rfl,rfl⟩
theorem As {e it:aG} {x:aN} {t:ze} {j:Nat} {i:Int} {old:aA} {Q:Option aA->aD->Prop} (hh:A.handled=none)
  (he:IsEnum s.heap e it i old) (hit:s.heap.IsStrIter it (bW x) x t j) (hx:x.cps[j]?=none)
  (hQ: ∀h',jx it s.heap h'->(∃o,h'.get? it=some o/\dF o/\ ∃vs,o.data= .fields vs)->Q none {s with heap:=h'}):aF (cK prog w) A (ms (.ref e)) Q E s:=by
 have hT:s.TypeIs (.ref e) "enumerate" :=⟨_,he,rfl⟩
 unfold ms
 refine aE (za (fO (name:=fS "__next__") hT B7
  (gX B7 hT F.entry_enumerate_next ?_ (F.args_enumerate_next_1 _))))
 show aF _ _ (field (.ref e) 2>>=_) _ _ _
 refine aE (oZ he rfl (x:= .ref it) rfl ?_)
 refine aE (CP (A:=A.in1) hh hit hx λh' x he' hi' hx'=>?_)
 refine nk λcq=>?_
 refine obE12 hx' λo ho hc=>?_
 refine cq ?_
 refine aE (wpAny_isInstance (T:= "StopIteration") (b:=true) ⟨o,ho,hc⟩ isSubtype_stop ?_)
 exact aK (hQ _ he' hi')
end
structure Bd (env:cg) (L:aG):Prop where
 kind:env.scope.kind= .function
 co:env.scope.isCoroutine=false
 loc:env.locals=L
 gl:env.globals=bk
 bl:env.builtins=cU
 kpos:env.kindOf ("pos" :aN)=some .local
 kesc:env.kindOf ("escape" :aN)=some .local
 kch:env.kindOf ("ch" :aN)=some .local
 kaddr:env.kindOf ("addr" :aN)=some .local
 kenum:env.kindOf ("enumerate" :aN)=some .globalImplicit
structure EP where
 x:aN
 t:ze
 L:aG
 e:aG
 it:aG
 hLe:L≠e
 hLi:L≠it
 hei:e≠it
def EP.St (p:EP) (i:Nat) (h:ah):Prop:=(∃old,IsEnum h p.e p.it i old)/\h.IsStrIter p.it (bW p.x) p.x p.t i
def EP.Mid (p:EP) (i:Nat) (T:aG) (h:ah):Prop:=(∃y,IsEnumOut h p.e p.it ((i:Int)+1) y T)/\h.IsStrIter p.it (bW p.x) p.x p.t (i+1)/\T≠p.e/\T≠p.it
theorem EP.walks (p:EP) {prog:g5} {w:dz} {A:aZ} (hh:A.handled=none):
  WalksT prog w A p.e [p.e,p.it] [p.e,p.it] p.x.cps.size (λi fT=> ∃t y,(∃c u,p.x.cps[i]?=some c/\y= .str ⟨#[c]⟩ u)/\fT= #[.int i t,y]) p.St p.Mid:=by
 have h1:p.e∉ [p.it]:=by simpa using p.hei
 by_cases ha:p.x.cps.all (· <128)=true
 ·have:=zd (Draws.strAscii (prog:=prog) (w:=w) (A:=A.in1) hh p.it p.x p.t) p.e p.hei h1 (by simp)
  unfold EP.St EP.Mid
  rw[show bW p.x= "str_ascii_iterator" by unfold bW;rw[if_pos ha]]
  exact this
 ·have:=zd (Draws.strWide (prog:=prog) (w:=w) (A:=A.in1) hh p.it p.x p.t) p.e p.hei h1 (by simp)
  unfold EP.St EP.Mid
  rw[show bW p.x= "str_iterator" by unfold bW;rw[if_neg ha]]
  exact this
def EP.Gk (p:EP) (s s':aD):Prop:= ∃h' tk,s'={s with heap:=h',toks:=tk}/\ ∀b o,b≠p.L->b≠p.e->b≠p.it->s.heap.get? b=some o->h'.get? b=some o
theorem EP.Gk.refl {p:EP} {s:aD}:p.Gk s s:=⟨s.heap,s.toks,rfl,λ_ _ _ _ _ x=>x⟩
theorem EP.Gk.trans {p:EP} {s s' s'':aD} (H:p.Gk s s') (H':p.Gk s' s''):p.Gk s s'':=
 obE22 H λh tk e k=>obE22 H' λh' tk' e' k'=>⟨h',tk',by rw[e',e],λb o h1 h2 h3 x=>k' b o h1 h2 h3 (by rw[e];exact k b o h1 h2 h3 x)⟩
theorem EP.Gk.of {p:EP} {s:aD} {h':ah} {tk:Nat} (k: ∀b o,b≠p.L->b≠p.e->b≠p.it->s.heap.get? b=some o->h'.get? b=some o):p.Gk s {s with heap:=h',toks:=tk}:=⟨h',tk,rfl,k⟩
def EP.Loc (p:EP) (i:Nat) (esc:Bool) (s:aD):Prop:=(∃m,s.heap.Ns p.L m/\m ("escape" :aN)=some (.bool esc)/\(∃tk,m ("pos" :aN)=some (.int ((i-1:Nat):Int) tk))/\m ("addr" :aN)=some (.str p.x p.t))/\p.St i s.heap
def EP.Alike (p:EP) (s s':aD):Prop:= ∀b o,b=p.L\/b=p.e\/b=p.it->s.heap.get? b=some o->s'.heap.get? b=some o
theorem EP.St.alike {p:EP} {i:Nat} {h h':ah} (S:p.St i h) (k: ∀b o,b=p.e\/b=p.it->h.get? b=some o->h'.get? b=some o):p.St i h':=by
 obtain⟨⟨old,a⟩,o,b,c⟩:=S
 exact⟨⟨old,k _ _ (.inl rfl) a⟩,o,k _ _ (.inr rfl) b,c⟩
theorem EP.Loc.alike {p:EP} {i:Nat} {esc:Bool} {s s':aD} (H:p.Loc i esc s) (k:p.Alike s s'):p.Loc i esc s':=by
 refine nk λcq=>?_
 obtain⟨⟨m,⟨o,es,ep,ho,hd⟩,r⟩,S⟩:=H
 refine cq ?_
 exact⟨⟨m,⟨o,es,ep,k _ _ (.inl rfl) ho,hd⟩,r⟩,S.alike λb o h=>k b o (.inr h)⟩
def EP.Ob (p:EP) (h:ah):Prop:=(∃m,h.Ns p.L m/\m ("addr" :aN)=some (.str p.x p.t))/\(∃o,h.get? p.e=some o/\dF o/\ ∃vs,o.data= .fields vs)/\ ∃o,h.get? p.it=some o/\dF o/\ ∃vs,o.data= .fields vs
theorem zL {a b c d dd:aA} {e:Bool}:dF {cls:= .type "enumerate",data:= .fields #[a,.bool e,b,c,d,dd]}:=⟨(λh=>aq h),by simp,λvs h=>by cases h;simp⟩
theorem EP.Loc.ob {p:EP} {i:Nat} {esc:Bool} {s:aD} (H:p.Loc i esc s):p.Ob s.heap:=by
 refine nk λcq=>?_
 obtain⟨⟨m,hm,_,_,ha⟩,⟨old,a⟩,o,b,c,d⟩:=H
 refine cq ?_
 have hty:bW p.x= "str_ascii_iterator" \/bW p.x= "str_iterator" :=by unfold bW;split<;>decide
 exact⟨⟨m,hm,ha⟩,⟨_,a,zL,_,rfl⟩,o,b,⟨by rw[c];exact λh=>aq h,by rw[c];rcases hty with q|q<;>rw[q]<;>decide,λvs e=>by rw[d]at e;cases e;simp⟩,_,d⟩
theorem EP.Ob.alike {p:EP} {h h':ah} (H:p.Ob h) (k: ∀b o,b=p.L\/b=p.e\/b=p.it->h.get? b=some o->h'.get? b=some o):p.Ob h':=by
 obtain⟨⟨m,⟨o,es,ep,ho,hd⟩,ha⟩,⟨o1,h1,c1⟩,o2,h2,c2⟩:=H
 exact⟨⟨m,⟨o,es,ep,k _ _ (.inl rfl) ho,hd⟩,ha⟩,⟨o1,k _ _ (.inr (.inl rfl)) h1,c1⟩,o2,k _ _ (.inr (.inr rfl)) h2,c2⟩
noncomputable def EP.Y (p:EP) (ys:List (Nat×List Nat)):Protocol:=λn s₀ v s' kap=>
 (∃pc T tk tk2,ys[ys.length-1-n]?=some pc/\v= .ref T/\T≠p.L/\T≠p.e/\T≠p.it/\s'.heap.IsTuple T #[.int (pc.1:Nat) tk,.str ⟨pc.2.toArray⟩ tk2])/\p.Gk s₀ s'/\p.Ob s'.heap/\ ∀s'',p.Alike s' s''->kap (.send .none) s''
def EP.P (p:EP):Nat->aD->aD->Prop:=λn s₀ s₁=>n=0/\p.Gk s₀ s₁/\p.Ob s₁.heap
noncomputable def EP.R (p:EP):GenEnd:=λn s₀ r s₁=>r= .ok (.ret .none)/\p.P n s₀ s₁
section
variable {prog:g5} {w:dz} {A:aZ} {E:aA->aD->Prop} {s s₀:aD} {env:cg} {p:EP}
theorem CQ {M:i6} {a b:l6 aA} {Q:List aA->aD->Prop} (h:aF M A a (λv s1=>aF M A b (λu s2=>Q [v,u] s2) E s1) E s):aF M A (wi [(false,a),(false,b)]) Q E s:=
 jr (ay h (λv s1 h1=>jr (ay h1 (λu s2 h2=>vA h2) λ_ _ x=>x)) λ_ _ x=>x)
theorem iO {M:i6} (V:Bd env p.L) {nm:aN} {m:aN->Option aA} {v:aA} {pos:dM} {Q:aA->aD->Prop} (hk:env.kindOf nm=some .local) (hm:s.heap.Ns p.L m) (hv:m nm=some v) (hd:(nm==("__debug__" :aN))=false) (h:Q v s):aF M A (cW (.Name nm pos) env) Q E s:=
 dg (wpAny_loadName_local V.kind hk (V.loc▸hm) hv h) hd
theorem qR {M:i6} (V:Bd env p.L) {nm:aN} {m:aN->Option aA} {v:aA} {Q:Unit->aD->Prop} (hk:env.kindOf nm=some .local) (hm:s.heap.Ns p.L m)
  (h: ∀h',h'.Ns p.L (λx=>if x=nm then some v else m x)->de p.L s.heap h'->Q () {s with heap:=h',toks:=s.toks+1}):aF M A (jB env nm v) Q E s:=
 (nY hk (V.loc▸hm) (h:=λh' a b=>h h' (V.loc▸a) (V.loc▸b)) (by rw[V.kind];rfl))
theorem ol {M:i6} (V:Bd env p.L) {nm:aN} {m:aN->Option aA} {b:Bool} {p1 p2 p3:dM} {Q:eR->aD->Prop} (hk:env.kindOf nm=some .local) (hm:s.heap.Ns p.L m)
  (h: ∀h',h'.Ns p.L (λx=>if x=nm then some (.bool b)else m x)->de p.L s.heap h'->Q .next {s with heap:=h',toks:=s.toks+1}):aF M A (gY (.Assign [.Name nm p1] (.Constant (.bool b) 0 p2) p3) env) Q E s:=
 by
 have c: ∀{Q':aA->aD->Prop},Q' (.bool b) s->aF M A (cW (.Constant (.bool b) 0 p2) env) Q' E s:=λh _ _ _=>h
 exact sR (c (qR V hk hm h))
theorem FB {M:i6} (V:Bd env p.L) {nm:aN} {m:aN->Option aA} {k:Int} {p1 p2 p3:dM} {Q:eR->aD->Prop} (hk:env.kindOf nm=some .local) (hm:s.heap.Ns p.L m)
  (h: ∀h' t tk,h'.Ns p.L (λx=>if x=nm then some (.int k t)else m x)->de p.L s.heap h'->Q .next {s with heap:=h',toks:=tk}):aF M A (gY (.Assign [.Name nm p1] (.Constant (.int k) 0 p2) p3) env) Q E s:=
 sR (qj (qR V hk hm λh' a b=>h h' _ _ a b))
theorem Ce (V:Bd env p.L) (hh:A.handled=none) {q:Nat->dM} {T:aG} {a b:aA} {m:aN->Option aA} {Q:Unit->aD->Prop} (hT:s.heap.IsTuple T #[a,b]) (hm:s.heap.Ns p.L m)
  (h: ∀h' tk m',h'.Ns p.L m'->m' ("pos" :aN)=some a->m' ("ch" :aN)=some b->(∀y,y≠("pos" :aN)->y≠("ch" :aN)->m' y=m y)->(∀b o,b≠p.L->s.heap.get? b=some o->h'.get? b=some o)->Q () {s with heap:=h',toks:=tk}):
  aF (cK prog w) A (assign (ta q) env (.ref T)) Q E s:=by
 refine qi hh hT rfl rfl λh1 x1=>?_
 have hm1:h1.Ns p.L m:=hm.extBut x1 (am hm.lt)
 refine hH (cz (qR V V.kpos hm1 λh2 hm2 x2=>?_))
 refine hH (cz (qR V V.kch hm2 λh3 hm3 x3=>?_))
 refine l5 ?_
 refine h h3 _ _ hm3 rfl rfl (λy h4 h5=>?_) λb o hb e=>(x3.2 b hb).trans ((x2.2 b hb).trans (x1 b o (am (br e)) e))
 show(if y=("ch" :aN)then some b else if y=("pos" :aN)then some a else m y)=m y
 rw[if_neg h5,if_neg h4]
theorem tJ {M:i6} (V:Bd env p.L) {m:aN->Option aA} {b:Bool} {pos:dM} {Q:Bool->aD->Prop} (hm:s.heap.Ns p.L m) (hv:m ("escape" :aN)=some (.bool b)) (h:Q b s):aF M A (isTrue (.Name ("escape" :aN) pos) env (cW (.Name ("escape" :aN) pos) env)) Q E s:=
 wpAny_isTrue_value (iO V V.kesc hm hv (by decide) (gD h))
end
end
section
open PySem.Spec PySem.Calls PyProof.Rows PySem.W
open Sem (wp)
section
variable {prog:g5} {w:dz} {A:aZ} {E:aA->aD->Prop} {s s₀:aD} {env:cg} {p:EP} {fs:List Frame} {c₀:Code} {ys:List (Nat×List Nat)} {H:aA->l6 Fin}
theorem nE {α:Type} {ys pre r:List α} {a:α} (h:ys=pre++a::r):ys[ys.length-1-r.length]?=some a:=by
 subst h
 have:(pre++a::r).length-1-r.length=pre.length:=by simp
 simp only[this]
 simp
theorem EP.St.same {p:EP} {i:Nat} {h h':ah} (S:p.St i h) (k:de p.L h h'):p.St i h':=S.alike λb o hb e=>(k.2 b (by clear e;rcases hb with rfl|rfl;exact(dE p.hLe);exact(dE p.hLi))).trans e
theorem EP.Ob.push {p:EP} {h:ah} (H:p.Ob h) (o:db):p.Ob (h.push o):=H.alike λ_ _ _ e=>aH _ e
theorem EP.Ob.lt {p:EP} {h:ah} (H:p.Ob h):p.L<h.objs.size/\p.e<h.objs.size/\p.it<h.objs.size:=by
 refine nk λcq=>?_
 obtain⟨⟨m,hm,_⟩,⟨_,a,_⟩,_,b,_⟩:=H
 refine cq ?_
 exact⟨hm.lt,br a,br b⟩
theorem rE (V:Bd env p.L) {K:eR->l6 Fin} (hfs:splitAtGen fs=none) (hfg:fs.any uJ=false) {a b:Expr} {p1 p2 p3:dM} {n:Nat} {pc:Nat×List Nat}
  (hn:ys[ys.length-1-n]?=some pc) (hg:p.Gk s₀ s) (hob:p.Ob s.heap)
  (ha:gM [a,b] env=[(false,cW a env),(false,cW b env)])
  (hv: ∀Q:aA->aA->aD->Prop,(∀t t2 tk,Q (.int (pc.1:Nat) t) (.str ⟨pc.2.toArray⟩ t2) {s with toks:=tk})->aF (cK prog w) (A.over c₀ fs) (cW a env) (λv s1=>aF (cK prog w) (A.over c₀ fs) (cW b env) (λu s2=>Q v u s2) (λ_ _=>False) s1) (λ_ _=>False) s)
  (next: ∀s'',p.Alike s s''->Bk (cK prog w) A p.R (p.Y ys) n s'' c₀ (K .next) fs s''):
  Bk (cK prog w) A p.R (p.Y ys) (n+1) s₀ c₀ ((gY (.Expr (.Yield (some (.Tuple [a,b] 0 p1)) p2) p3) env).wrap K H id id) fs s:=by
 refine seg_Expr_Yield hfs rfl hfg (ay ?_ (λ_ _ x=>x) λ_ _ (x:False)=>x.elim) V.co (by unfold interactive;rw[V.kind];rfl)
 refine wpAny_Tuple ?_
 rw[ha]
 show aF _ _ (wi [(false,cW a env),(false,cW b env)]) _ _ _
 refine CQ (hv (λv u s2=>_/\_) ?_)
 intro t t2 tk
 refine⟨by size_fits,λkap hk=>?_⟩
 refine nk λcq=>?_
 refine obE03 hob.lt λe0 e1 e2=>?_
 refine cq ?_
 refine⟨⟨pc,_,t,t2,hn,rfl,jX e0,jX e1,jX e2,⟨_,aS _ rfl,rfl,0,rfl⟩⟩,hg.trans (.of λb o _ _ _ e=>aH _ e),hob.push _,λs'' hal=>?_⟩
 exact hk .none s'' (next s'' λb o hb e=>hal b o hb (aH _ e))
theorem EI (V:Bd env p.L) {K:eR->l6 Fin} (hfs:splitAtGen fs=none) (hfg:fs.any uJ=false) (hh:(A.over c₀ fs).handled=none) {q:Nat->dM} {i c:Nat} {r:List Nat} {esc:Bool} {m:aN->Option aA}
  (hys: ∃pre,ys=pre++bN (c::r) i esc) (hg:p.Gk s₀ s) (hm:s.heap.Ns p.L m) (h1:m ("escape" :aN)=some (.bool esc)) (h2: ∃tk,m ("pos" :aN)=some (.int (i:Nat) tk)) (h3: ∃u,m ("ch" :aN)=some (.str ⟨#[c]⟩ u)) (h4:m ("addr" :aN)=some (.str p.x p.t)) (hst:p.St (i+1) s.heap)
  (next: ∀s₀ s esc',p.Gk s₀ s->p.Loc (i+1) esc' s->(∃pre,ys=pre++bN r (i+1) esc')->Bk (cK prog w) A p.R (p.Y ys) (bN r (i+1) esc').length s₀ c₀ (K .next) fs s):
  Bk (cK prog w) A p.R (p.Y ys) (bN (c::r) i esc).length s₀ c₀ ((lW [kz q] env).wrap K H id id) fs s:=by
 obtain⟨tp,h2⟩:=h2
 obtain⟨tc,h3⟩:=h3
 obtain⟨pre,hys⟩:=hys
 have sub: ∀j:Nat,j+1-1=j:=λj=>by lia
 have L0:p.Loc (i+1) esc s:=⟨⟨m,hm,h1,⟨tp,by rw[sub];exact h2⟩,h4⟩,hst⟩
 refine dB ?_
 unfold kz
 refine xV (tJ V hm h1 ?_)
 cases esc with
 |true=>
  rw[if_pos rfl]
  have e0:bN (c::r) i true=(i,[92,c])::bN r (i+1) false:=by simp[bN]
  rw[e0]at hys⊢
  refine dB (rE V hfs hfg (pc:=(i,[92,c])) (nE hys) hg L0.ob rfl (λQ h=>?_) λs'' hal=>?_)
  ·refine iO V V.kpos hm h2 (by decide) (wpAny_BinOp (sm (iO V V.kch hm h3 (by decide) (sA (λt' tk=>?_) (by size_fits)))))
   exact h tp t' tk
  ·refine nk λcq=>?_
   obtain⟨⟨m',hm',h1',h2',h4'⟩,hst'⟩:=L0.alike hal
   refine cq ?_
   refine dB (n8 (ol V V.kesc hm' λh' hn' hs'=>?_))
   refine cy (cy (next s'' _ false (.of λb o hb _ _ e=>(hs'.2 b hb).trans e) ⟨⟨_,hn',rfl,?_,by exact h4'⟩,hst'.same hs'⟩ ⟨pre++ [(i,[92,c])],by rw[hys];simp⟩))
   obtain⟨tk,h2'⟩:=h2'
   exact⟨tk,h2'⟩
 |false=>
  rw[if_neg (by decide)]
  refine dB (xV ?_)
  have eb:((⟨#[c]⟩:aN)==("\\" :aN))=decide (c=92):=by
   rw[show("\\" :aN)=⟨#[92]⟩from rfl]
   by_cases hc:c=92
   ·clear h3 hys;subst hc;rfl
   ·rw[decide_eq_false hc,beq_eq_false_iff_ne];simpa using hc
  refine wpAny_isTrue_Compare1 (iO V V.kch hm h3 (by decide) (sm (s7 (gD ?_))))
  refine(eb)▸?_
  by_cases hc:c=92
  ·clear h3 eb;subst hc
   have e0:bN (92::r) i false=bN r (i+1) true:=by simp[bN]
   rw[e0]at hys⊢
   rw[if_pos (by decide)]
   refine dB (n8 (ol V V.kesc hm λh' hn' hs'=>?_))
   refine cy (cy (cy (next s₀ _ true (hg.trans (.of λb o hb _ _ e=>(hs'.2 b hb).trans e)) ⟨⟨_,hn',rfl,⟨tp,?_⟩,by exact h4⟩,hst.same hs'⟩ ⟨pre,hys⟩)))
   rw[sub];exact h2
  ·have e0:bN (c::r) i false=(i,[c])::bN r (i+1) false:=by simp[bN,hc]
   simp only[e0]at hys⊢
   rw[if_neg (by simpa using hc)]
   refine dB (rE V hfs hfg (pc:=(i,[c])) (nE hys) (hg.trans ⟨s.heap,_,rfl,λ_ _ _ _ _ x=>x⟩) L0.ob rfl (λQ h=>?_) λs'' hal=>?_)
   ·exact iO V V.kpos hm h2 (by decide) (iO V V.kch hm h3 (by decide) (h tp tc _))
   ·exact cy (cy (cy (next s'' s'' false .refl (L0.alike hal) ⟨pre++ [(i,[c])],by rw[hys];simp⟩)))
theorem EF (V:Bd env p.L) (hfs:splitAtGen fs=none) (hfg:fs.any uJ=false) {q:Nat->dM} (hh:(A.over (.forLoop (ta q) (.ref p.e) [kz q] [] env) fs).handled=none)
  (fin: ∀s₀ s esc,p.Gk s₀ s->p.Ob s.heap->(∃m,s.heap.Ns p.L m/\m ("escape" :aN)=some (.bool esc)/\ ∃tk,m ("pos" :aN)=some (.int ((p.x.cps.size-1:Nat):Int) tk))->(∃pre,ys=pre++bN [] p.x.cps.size esc)->
   Bk (cK prog w) A p.R (p.Y ys) (bN [] p.x.cps.size esc).length s₀ (.forLoop (ta q) (.ref p.e) [kz q] [] env) (.pure (.again (.block [] env))) fs s):
  ∀(k i:Nat) (esc:Bool) (s₀ s:aD),i+k=p.x.cps.size->p.Gk s₀ s->p.Loc i esc s->(∃pre,ys=pre++bN (p.x.cps.toList.drop i) i esc)->
   Bk (cK prog w) A p.R (p.Y ys) (bN (p.x.cps.toList.drop i) i esc).length s₀ (.forLoop (ta q) (.ref p.e) [kz q] [] env) ((cK prog w).den (.forLoop (ta q) (.ref p.e) [kz q] [] env)) fs s:=by
 have W:=p.walks (prog:=prog) (w:=w) hh
 intro k
 induction k with
 |zero=>
  rintro i esc s₀ s hik hg L0 hys
  obtain⟨⟨m,hm,h1,⟨tk,h2⟩,h4⟩,⟨old,he⟩,hit⟩:=id L0
  have hi:i=p.x.cps.size:=by omega
  clear hik L0;subst hi
  have hd:p.x.cps.toList.drop p.x.cps.size=[]:=by simp
  rw[hd]at hys⊢
  refine pR (As hh he hit (by simp) λh' hk hi'=>?_)
  refine fin s₀ _ esc (hg.trans (.of (tk:=s.toks) λb o _ _ hb e=>hk b o hb e)) ⟨⟨m,hm.extBut hk p.hLi,h4⟩,⟨_,hk _ _ p.hei he,zL,_,rfl⟩,hi'⟩ ⟨m,hm.extBut hk p.hLi,h1,tk,h2⟩ hys
 |succ k ih=>
  rintro i esc s₀ s hik hg L0 hys
  obtain⟨⟨m,hm,h1,⟨tk,h2⟩,h4⟩,hst⟩:=id L0
  have hlt:i<p.x.cps.size:=by lia
  have hd:p.x.cps.toList.drop i=p.x.cps[i]::p.x.cps.toList.drop (i+1):=by
   rw[eF (by simpa using hlt)];simp
  refine pR (W.item i s _ _ hlt hst λT fT h1' tk1 hp hT0 hT hmid hk1=>?_)
  refine nk λcq=>?_
  obtain⟨t,y,⟨c,u,hc,rfl⟩,rfl⟩:=hp
  refine cq ?_
  have hc':p.x.cps[i]=c:=by rw[tI hlt]at hc;exact aC hc
  refine W.go _ _ _ i T {s with heap:=h1',toks:=tk1} _ _ hmid λh2' hst2 hk2=>?_
  have hLw:p.L∉ [p.e,p.it]:=by simp[p.hLe,p.hLi]
  have hTw:=W.apart i T _ hmid
  have hm2:h2'.Ns p.L m:=hm.at' λo e=>hk2 _ o hLw (hk1 _ o hLw e)
  have hT2:h2'.IsTuple T #[.int i t,.str ⟨#[c]⟩ u]:=by
   refine obE12 hT λo a b=>?_
   exact⟨o,hk2 _ o hTw a,b⟩
  refine Ce V hh hT2 hm2 λh3 tk3 m' hm3 q1 q2 q3 hk3=>?_
  simp only[hd,hc']at hys⊢
  have hst3:p.St (i+1) h3:=EP.St.alike hst2 λb o hb e=>hk3 b o (by clear e;rcases hb with rfl|rfl;exact(dE p.hLe);exact(dE p.hLi)) e
  have g3:p.Gk s₀ {s with heap:=h3,toks:=tk3}:=hg.trans (.of λb o b1 b2 b3 e=>hk3 b o b1 (hk2 b o (by simp[b2,b3]) (hk1 b o (by simp[b2,b3]) e)))
  refine EI V hfs hfg hh hys g3 hm3 (by rw[q3 _ (by decide) (by decide)];exact h1) ⟨t,q1⟩ ⟨u,q2⟩ (by rw[q3 _ (by decide) (by decide)];exact h4) hst3 λs0' s' esc' g' L' ys'=>?_
  exact seg_again rfl (ih (i+1) esc' s0' s' (by lia) g' L' ys')
end
end
section
open PySem.Spec PySem.Calls PyProof.Rows PySem.W
open Sem (wp)
section
variable {prog:g5} {w:dz} {A:aZ} {E:aA->aD->Prop} {s s₀:aD} {env:cg} {p:EP} {fs:List Frame} {c₀:Code} {ys:List (Nat×List Nat)} {H:aA->l6 Fin}
theorem At (V:Bd env p.L) {mg mb:aN->Option aA} (hg:s.heap.Ns bk mg) (hb:s.heap.Ns cU mb) (h0:mg ("enumerate" :aN)=none) (h1:mb ("enumerate" :aN)=some (.type "enumerate")) {x:aN} {t:ze} {m:aN->Option aA} (hm:s.heap.Ns p.L m) (hv:m ("addr" :aN)=some (.str x t)) {p1 p2 p3:dM} {Q:aA->aD->Prop}
  (h: ∀h',IsEnum h' (s.heap.objs.size+1) s.heap.objs.size 0 .none->h'.IsStrIter s.heap.objs.size (bW x) x t 0->(∀b o,s.heap.get? b=some o->h'.get? b=some o)->Q (.ref (s.heap.objs.size+1)) {s with heap:=h'}):
  aF (cK prog w) A (cW (.Call (.Name ("enumerate" :aN) p1) [.Name ("addr" :aN) p2] [] p3) env) Q E s:=by
 refine dA (dg ?_ (by decide))
 rw[oT V.kind V.kenum]
 unfold loadGlobal
 refine(V.gl)▸?_
 refine(V.bl)▸?_
 refine aE (oW hg ?_)
 refine(h0)▸?_
 refine aE (oW hb ?_)
 refine(h1)▸?_
 refine aK (lC rfl rfl ?_)
 show aF _ _ (evalArgs (.type "enumerate") true [(false,cW (.Name ("addr" :aN) p2) env)] []) _ _ _
 refine evalArgs_plain (jr (iO V V.kaddr hm hv (by decide) (vA ⟨λQ h=>pY h,?_⟩)))
 exact call_enumerate_str λh' a b _ c=>h h' a b c
theorem EG (V:Bd env p.L) (hh:A.handled=none) {q:Nat->dM} {mg mb:aN->Option aA} (hg:s.heap.Ns bk mg) (hb:s.heap.Ns cU mb) (h0:mg ("enumerate" :aN)=none) (h1:mb ("enumerate" :aN)=some (.type "enumerate")) (ng:bk≠p.L) (nb:cU≠p.L)
  {m:aN->Option aA} (hm:s.heap.Ns p.L m) (hv:m ("addr" :aN)=some (.str p.x p.t)) (he:p.e=s.heap.objs.size+1) (hi:p.it=s.heap.objs.size) (hgk:p.Gk s₀ s):
  Bk (cK prog w) A p.R (p.Y (bN p.x.cps.toList 0 false)) (bN p.x.cps.toList 0 false).length s₀ (.func (mO q) env) ((cK prog w).den (.func (mO q) env)) [] s:=by
 refine seg_func ?_
 unfold mO
 refine dB (n8 (FB V V.kpos hm λh2 t tk hm2 x2=>?_))
 refine dB (n8 (ol V V.kesc hm2 λh3 hm3 x3=>?_))
 have ng2:h3.Ns bk mg:=(hg.at' λo e=>(x3.2 _ ng).trans ((x2.2 _ ng).trans e))
 have nb2:h3.Ns cU mb:=(hb.at' λo e=>(x3.2 _ nb).trans ((x2.2 _ nb).trans e))
 have sz:h3.objs.size=s.heap.objs.size:=x3.1.trans x2.1
 refine dB (FG (λ_=>rfl) (At V ng2 nb2 h0 h1 hm3 (x:=p.x) (t:=p.t) (by exact hv) λh4 a4 b4 c4=>?_))
 rw[sz,<-he,<-hi]at a4
 rw[sz,<-hi]at b4
 simp only[sz,<-he]
 refine wpAny_pyIter_enum a4 ?_
 intro pp
 have g4:p.Gk s₀ {s with heap:=h4,toks:=tk+1}:=hgk.trans (.of λb o hb _ _ e=>c4 b o ((x3.2 b hb).trans ((x2.2 b hb).trans e)))
 have hm4:h4.Ns p.L _:=hm3.at' λo e=>c4 _ o e
 have L4:p.Loc 0 false {s with heap:=h4,toks:=tk+1}:=⟨⟨_,hm4,rfl,⟨t,rfl⟩,by exact hv⟩,⟨_,a4⟩,b4⟩
 refine EF V rfl rfl (by exact hh) (λs₁ s' esc g' o' hq ys'=>?_) p.x.cps.size 0 false s₀ _ (by lia) g4 L4 ⟨[],rfl⟩
 ·refine nk λcq=>?_
  obtain⟨m',hm',h1',tk',h2'⟩:=hq
  refine cq ?_
  refine seg_again rfl ?_
  show Bk _ A _ _ _ _ _ (leafOf (.ok .next)) _ _
  refine seg_leaf (.ok .next) ?_
  show Bk _ A _ _ _ _ _ ((lW [ud q] env).wrap _ _ id id) [] s'
  refine dB ?_
  unfold ud
  refine xV (tJ V hm' h1' ?_)
  obtain⟨pre,ys'⟩:=ys'
  cases esc with
  |true=>
   rw[if_pos rfl]
   have e0:bN [] p.x.cps.size true=[(p.x.cps.size-1,[92])]:=by simp[bN]
   rw[e0]at ys'⊢
   refine dB (rE V rfl rfl (n:=0) (pc:=(p.x.cps.size-1,[92])) (nE ys') g' o' rfl (λQ h=>?_) λs'' hal=>?_)
   ·exact iO V V.kpos hm' h2' (by decide) (sm (h tk' _ _))
   ·refine cy (cy ?_)
    exact seg_end (.ok (.ret .none)) ⟨rfl,rfl,.refl,o'.alike hal⟩
  |false=>
   rw[if_neg (by decide)]
   have e0:bN [] p.x.cps.size false=[]:=by simp[bN]
   rw[e0]
   refine cy (cy ?_)
   exact seg_end (.ok (.ret .none)) ⟨rfl,rfl,g',o'⟩
end
end
section
open PySem.Spec PySem.Calls PyProof.Rows PySem.W
open Sem (wp)
theorem Dc {prog:g5} {w:dz} {A:aZ} {E:aA->aD->Prop} {s:aD} {a:aG} {g n:Nat} {gs:hU} {P:Nat->aD->aD->Prop} {Y:Protocol} {Q:Option aA->aD->Prop} (hh:A.handled=none)
  (hl:s.heap.NoLimit) (hroom:A.depth<gN) (hg:s.heap.IsGen a g) (hgs:s.gens[g]?=some gs)
  (hgo:gs.Goes (cK prog w) A.in1 (λn s₀ r s₁=>r= .ok (.ret .none)/\P n s₀ s₁) Y n (.send .none) (s.setGen g .running))
  (hY: ∀v s₁ gs',gs'.bare=true->Y (n-1) (s.setGen g .running) v s₁ (λr' s''=>match n with
    |0=>False
    |m+1=>gs'.Goes (cK prog w) A.in1 (λn s₀ r s₁=>r= .ok (.ret .none)/\P n s₀ s₁) Y m r' s'')->Q (some v) (s₁.setGen g gs'))
  (hP: ∀s₁,P n (s.setGen g .running) s₁-> ∀h',(∀b o,s₁.heap.get? b=some o->h'.get? b=some o)->Q none {s₁.setGen g .finished with heap:=h'}):
  aF (cK prog w) A (ms (.ref a)) Q E s:=by
 unfold ms
 refine aE (za (fO (name:=fS "__next__") hg.typeIs slot_gen_next
  (gX slot_gen_next hg.typeIs entry_gen_next ?_ (args_gen_next _))))
 show aF _ A.in1 (m6 (.ref a) (.send .none)) _ _ s
 rw[m6]
 refine aE (ab (wpAny_genNumber hg (aE (wpAny_genState hgs ?_))))
 cases gs with
 |running=>exact hgo.elim
 |finished=>exact hgo.elim
 |_=>
  refine aE (wpAny_roomToWake hl hroom ?_)
  refine wpAny_resumeQ hgs hgo (λx s₁ hx=>?_) (λv s₁ gs' hb hv=>?_)
  ·obtain⟨rfl,hp⟩:=hx
   show aF _ A.in1 (newExc (.type "StopIteration") []>>=_) _ _ _
   refine aE ?_
   refine aE (dc ?_ (by size_fits))
   refine aE (m:=iZ _ _) (oV (a:=gZ) (by first|rfl|(simp only[iZ];rfl)) ?_)
   refine dc ?_ (by size_fits)
   dsimp only[raiseNew]
   refine aE (aE (z8 ?_))
   first|rw[show A.in1.handled=none from hh]|rw[hh]
   refine wpAny_throw ?_
   refine aE (wpAny_isInstance (T:= "StopIteration") (b:=true) ⟨_,aS _ rfl,rfl⟩ isSubtype_stop ?_)
   exact aK (hP s₁ hp _ λb o hb=>aH _ (aH _ hb))
  ·exact aK ⟨v,rfl,aK (hY v s₁ gs' hb hv)⟩
section
variable {G:Gl} {P P':aG->Prop} {h h':ah}
theorem Ns.uniq {L:aG} {m m':aN->Option aA} (a:h.Ns L m) (b:h.Ns L m'):m=m':=a.eq_nsMap.trans b.eq_nsMap.symm
structure mi (G:Gl) (h:ah) (L:aG):Prop where
 ns: ∃m,h.Ns L m/\ ∃x y,m x=some y/\ ∀k,G.atn k≠x
theorem mi.dict {L:aG} (x:mi G h L): ∃o es n,h.get? L=some o/\o.data= .dict es n:=by
 refine nk λcq=>?_
 obtain⟨m,⟨o,es,ep,ho,hd,_⟩,_⟩:=x.ns
 refine cq ?_
 exact⟨o,es,ep,ho,hd⟩
theorem mi.inst {L d:aG} (x:mi G h L) {m:aN->Option aA} {ks:List Nat} (hn:h.Ns d m) (z: ∀x,(∀k∈ks,G.atn k≠x)->m x=none):d≠L:=λe=>by
 obtain⟨m',hm',y,v,hy,hk⟩:=x.ns
 subst e
 rw[Ns.uniq hm' hn,z y λk _=>hk k]at hy
 cases hy
theorem mi.other {L a:aG} (x:mi G h L) {o:db} (ho:h.get? a=some o) (hd: ∀es n,o.data≠ .dict es n):a≠L:=λe=>by
 refine obE32 x.dict λo' es n ho' hd'=>?_
 rw[e,ho']at ho;cases ho
 exact hd _ _ hd'
theorem mi.offN {L:aG} (X:mi G h L):K8 G (· ≠L) h:=
 have m: ∀P':aG->Prop,Mp G true true P' (λa=>P' a/\a≠L) h h:=λP'=>⟨λa i p x=>⟨⟨p,x.elim λn ho=>X.other ho (λ_ _=>aI)⟩,x⟩,λa m ks p x z=>⟨⟨p,X.inst x z⟩,x⟩,λ_ a v p x=>⟨⟨p,x.elim λo q=>X.other q.1 λ_ _ e=>aI (q.2.symm.trans e)⟩,x⟩,λ_ _ e _ _ _=>e,λ_ _ _ e=>e,id⟩
 ⟨λP' x w r=>VR.all (m P') x (.inl rfl) w r,λP' l=>sP.all (m P') l (.inl rfl)⟩
noncomputable def m8 (h:ah) (D:aG) (h':ah):ah:=match h.get? D,h'.get? D with|some _,some o'=>h.update D (λ_=>o')|_,_=>h
theorem D9 {h:ah} {a:aG} {o:db} (e:h.get? a=some o):o.isFreed=false:=by
 unfold Heap.get? at e
 split at e
 ·cases e
 ·rename_i hne
  cases o with
  |mk c d dt sl=>
   cases dt<;>first|rfl|exact(hne _ _ _ e).elim
theorem cc {D b:aG} (hb:b≠D):(m8 h D h').get? b=h.get? b:=by
 unfold m8
 split
 ·exact Heap.get?_update_other _ _ (dE hb)
 ·rfl
theorem rK {D:aG} {o o':db} (e:h.get? D=some o) (e':h'.get? D=some o'):(m8 h D h').get? D=some o':=by
 unfold m8
 rw[e,e']
 exact mC _ e (D9 e')
theorem CB (T:aY G h) {D:aG} (hD: ∀o,h.get? D=some o->ca o\/((∃vs,o.data= .fields vs)/\dF o)) (k: ∀b o,b≠D->h.get? b=some o->h'.get? b=some o):
  aY G h'/\j2 G (· =D) h h':=by
 cases e:h.get? D with
 |none=>
  have k': ∀b o,h.get? b=some o->h'.get? b=some o:=λb o q=>k b o (λh=>by rw[h,e]at q;cases q) q
  exact⟨T.keeps k',j2.ext T (λb o q _=>k' b o q) λb hb=>hb▸e⟩
 |some o=>
  rcases hD o e with hs|⟨hs,hn⟩
  ·exact⟨T.butS e hs k,j2.softAt e hs k⟩
  ·exact⟨T.but e hn k,j2.itAt e hs hn k⟩
theorem j2.then {Z Z':aG->Prop} {h1:ah} (a:j2 G Z h h1) (b:j2 G Z' h1 h') (hs: ∀c o,Z' c-> ¬Z c->h.get? c=some o->h1.get? c=some o)
  (hg: ∀c,Z' c->h1.get? c≠none->h.get? c≠none) (ok: ∀c,Z' c-> ¬Z c) (nt: ∀c,Z' c->c∉G.tb):j2 G (λc=>Z c\/Z' c) h h':=by
 have back: ∀c o,Z' c->h1.get? c=some o->h.get? c=some o:=λc o hc e=>by
  cases e':h.get? c with
  |none=>exact(hg c hc (by rw[e];nofun) e').elim
  |some o'=>rw[hs c o' hc (ok c hc) e']at e;exact e
 refine⟨λc o hc ht e=>b.k c o (λq=>hc (.inr q)) ht (a.k c o (λq=>hc (.inl q)) ht e),λP' x w okx hp r=>?_,λcv q r=>b.code _ _ (a.code _ _ r),λc o hc e=>?_⟩
 ·refine b.v P' x w okx (λc o pc hc e hso=>hp c o pc (.inr hc) (back c o hc e) hso) (a.v P' x w okx (λc o pc hc e hso=>hp c o pc (.inl hc) e hso) r)
 ·rcases hc with hc|hc
  ·exact a.soft c o hc e
  ·exact b.soft c o hc (hs c o hc (ok c hc) e)
def EP.Z (p:EP) (a:aG):Prop:=(a=p.L\/a=p.e)\/a=p.it
structure EP.Wk (p:EP) (G:Gl) (h:ah):Prop where
 ns: ∃m,h.Ns p.L m/\m ("addr" :aN)=some (.str p.x p.t)
 e: ∀o,h.get? p.e=some o->dF o/\ ∃vs,o.data= .fields vs
 it: ∀o,h.get? p.it=some o->dF o/\ ∃vs,o.data= .fields vs
 nt: ∀a,p.Z a->a∉G.tb
theorem EP.Ob.wk {p:EP} (H:p.Ob h) (nt: ∀a,p.Z a->a∉G.tb):p.Wk G h:=by
 obtain⟨n,⟨o1,a1,b1⟩,o2,a2,b2⟩:=H
 exact⟨n,λo e=>by rw[a1]at e;cases e;exact b1,λo e=>by rw[a2]at e;cases e;exact b2,nt⟩
theorem EP.trn {p:EP} (T:aY G h) (H:p.Wk G h) (k: ∀b o,b≠p.L->b≠p.e->b≠p.it->h.get? b=some o->h'.get? b=some o) (O:p.Ob h'):aY G h'/\j2 G p.Z h h':=by
 obtain⟨m,⟨oL,es,ep,eL,dL,_⟩,_⟩:=H.ns
 obtain⟨⟨m',⟨oL',_,_,eL',_⟩,_⟩,⟨oe',ee',_⟩,oi',ei',_⟩:=O
 obtain⟨T1,t1⟩:=CB (h':=m8 h p.L h') T (D:=p.L) (λo e=>by rw[eL]at e;cases e;exact .inl (.inr (.inr ⟨_,_,dL⟩))) λb o hb e=>(cc hb).trans e
 obtain⟨T2,t2⟩:=CB (h':=m8 (m8 h p.L h') p.e h') T1 (D:=p.e) (λo e=>by
  rw[cc (dE p.hLe)]at e;exact .inr ⟨(H.e o e).2,(H.e o e).1⟩) λb o hb e=>(cc hb).trans e
 obtain⟨T3,t3⟩:=CB (h':=h') T2 (D:=p.it) (λo e=>by
  rw[cc (dE p.hei),cc (dE p.hLi)]at e;exact .inr ⟨(H.it o e).2,(H.it o e).1⟩) λb o hb e=>by
   by_cases h1:b=p.e
   ·subst h1
    cases q:(m8 h p.L h').get? p.e with
    |none=>
     exfalso
     unfold m8 at e
     rw[show(match h.get? p.L,h'.get? p.L with|some _,some o'=>h.update p.L (λ_=>o')|_,_=>h)=m8 h p.L h' from rfl,q]at e
     simp only at e
     replace e:=(q)▸e
     cases e
    |some o2=>rw[rK q ee']at e;cases e;exact ee'
   ·rw[cc h1]at e
    by_cases h2:b=p.L
    ·subst h2;rw[rK eL eL']at e;cases e;exact eL'
    ·rw[cc h2]at e;exact k b o h2 h1 hb e
 refine⟨T3,?_⟩
 have t12:=t1.then t2 (λc o hc _ e=>by subst hc;rw[cc (dE p.hLe)];exact e) (λc hc e=>by subst hc;rwa [cc (dE p.hLe)]at e) (λc hc q=>p.hLe (q.symm.trans hc)) λc hc=>H.nt c (.inl (.inr hc))
 exact t12.then t3 (λc o hc _ e=>by subst hc;rw[cc (dE p.hei),cc (dE p.hLi)];exact e) (λc hc e=>by subst hc;rwa [cc (dE p.hei),cc (dE p.hLi)]at e)
  (λc hc q=>by rcases q with q|q;exact p.hLi (q.symm.trans hc);exact p.hei (q.symm.trans hc)) λc hc=>H.nt c (.inr hc)
end
end
section
open PySem.Spec PySem.Calls PyProof.Rows PySem.W
open Sem (wp)
section
variable {G:Gl} {A:aZ} {E:aA->aD->Prop} {P P' P1:aG->Prop} {s₀ s s' s1 s2 s'':aD} {env:cg} {io J J' Z:aG->Prop} {W W' W0:Ow} {h h':ah} {md n:Nat} {st st' st1 st0 stf:St} {r:Ev} {m m':aN->Option aA} {T:TE} {sc:bE} {Pr:cY} {cL:f9} {C D L:aG}
theorem SI.trnL (X:mi G s.heap L) (I:SI G P s₀ env io W st s) (T:j2 G Z s.heap s'.heap) (TT:aY G s'.heap) (hg: ∀a,s'.heap.get? a=none->s₀.heap.get? a=none) (hb: ∀a,Z a->G.h0.get? a=none) (hz: ∀a,Z a-> ¬i9 s₀ env a/\(∀x,W x≠some a)/\ ∀y,env.cells.lookup y≠some a) (hso: ∀a o,Z a->a≠L->s.heap.get? a=some o-> ¬ca o):SI G P s₀ env io W st s':=I.trnN X.offN T TT hg hb hz hso
theorem Mw.closeZ (M:Mw G s₀ env (λa=>J a\/Z a) s s') (h: ∀a,Z a->s.heap.get? a=none):Mw G s₀ env J s s':=
 ⟨λb o e h1 h2 h3=>M.keep b o e h1 h2 λq=>q.elim h3 λq=>cI ((h b q).symm.trans e),
  λP' x v ok hp r=>VR.mono (λa q=>q.1) _ _ (M.val _ x v ok (λa q=>⟨(hp a q.1).1,λq'=>q'.elim (hp a q.1).2 λq'=>q.2 (h a q')⟩) r.taken),M.gone,M.os,M.gens,M.bare⟩
theorem dK.weak (g:dK W st s2 W' st') (h: ∀a,s2.heap.get? a=none->s.heap.get? a=none):dK W st s W' st':=
 ⟨λa q=>(g.mt a q).imp id (h a),λx a q=>(g.ws x a q).imp id (h a),g.ln⟩
theorem letgo_gen {M:i6} {ga g:Nat} (hg:s.heap.IsGen ga g) {target:Expr} {v:aA} {Q:Unit->aD->Prop} (h:Q () s):aF M A (ff target (.ref ga) v) Q E s:=by
 refine obE34 hg λo nm qn ho hc hd _=>?_
 have go:aF M A (do
  let(.ref r,.ref a):=(vD ga,v)|return
  let o <-load r
  match o.cls,o.data with
  | .type n,.fields vs=>
   if["enumerate","zip","dict_itemiterator","dict_reverseitemiterator","odict_iterator","itertools.zip_longest","itertools.pairwise"].contains n&&vs[0]?==some (mr a)then
    rule "for.unpacks-the-owned-tuple"
    updateField r 0 .none
  |_,_=>dC ()) Q E s:=by
  cases v<;>try exact aK h
  refine aE (wo ho ?_)
  rw[hc,hd]
  dsimp only
  rw[show(["enumerate","zip","dict_itemiterator","dict_reverseitemiterator","odict_iterator","itertools.zip_longest","itertools.pairwise"].contains "generator")=false by decide,tG]
  exact aK h
 cases target<;>first|exact go|exact aK h
theorem Db {a b more:Array hU} {g:Nat} {x y:hU} (h:b=a++more) (hg:a.size<=g): ∃more',(b.setIfInBounds g x).setIfInBounds g y=a++more':=by
 subst h
 refine⟨(more.setIfInBounds (g-a.size) x).setIfInBounds (g-a.size) y,?_⟩
 rw[oa (h:=hg),oa (h:=hg)]
theorem Ee {a:Array hU} {g:Nat} {x y:hU} (hy:y.bare=true) (h:jU a) (hg:g<a.size):jU ((a.setIfInBounds g x).setIfInBounds g y):=by
 intro z hz
 obtain⟨i,hi,rfl⟩:=Array.mem_iff_getElem.mp hz
 simp only[Array.size_setIfInBounds]at hi
 rw[sO (by simpa using hi)]
 split
 ·exact hy
 ·rw[sO hi]
  rename_i hne
  rw[if_neg hne]
  exact h _ (Array.getElem_mem hi)
end
end
section
open PySem.Spec PySem.Calls PyProof.Rows PySem.W
open Sem (wp)
section
variable {G:Gl} {A:aZ} {E:aA->aD->Prop} {P P' P1:aG->Prop} {s₀ s s' s1 s2 s'':aD} {env:cg} {io J J' Z:aG->Prop} {W W' W0:Ow} {h h':ah} {md n:Nat} {st st' st1 st0 stf:St} {r:Ev} {m m':aN->Option aA} {T:TE} {sc:bE} {Pr:cY} {cL:f9} {C D L:aG}
theorem HT {p:EP} (H:p.Wk G h) (hn: ∀k,G.atn k≠("addr" :aN)):mi G h p.L:=by
 refine obE12 H.ns λm hm ha=>?_
 exact⟨⟨m,hm,_,_,ha,hn⟩⟩
theorem yd {p:EP} (H:p.Wk G h) {a:aG} {o:db} (hz:p.Z a) (hn:a≠p.L) (e:h.get? a=some o): ¬ca o:=λhs=>by
 rcases hz with(hz|hz)|hz
 ·exact hn hz
 ·obtain⟨vs,hd⟩:=(H.e o (hz▸e)).2;exact hs.fields hd
 ·obtain⟨vs,hd⟩:=(H.it o (hz▸e)).2;exact hs.fields hd
theorem FP {G:Gl} {h:ah} {T:aG} {pc:Nat×List Nat} {tk tk2:Nat} (hT:h.IsTuple T #[.int (pc.1:Nat) tk,.str ⟨pc.2.toArray⟩ tk2]):VR G (λ_=>False) h (lI pc) (.ref T):=
 ⟨T,_,rfl,hT,_,_,rfl,⟨_,rfl⟩,_,_,rfl,⟨_,rfl⟩,rfl⟩
theorem SI.new (S:FX G md P s₀ env io) (I:SI G P s₀ env io W st s) {a:aG} (ha:s.heap.get? a=none):(¬i9 s₀ env a/\a∉G.tb)/\(∀y,env.cells.lookup y≠some a)/\G.h0.get? a=none/\ ∀x,W x≠some a:=
 ⟨⟨i9.notNew S I ha,λq=>by
   obtain⟨q',hq,rfl⟩:=aP.mp q
   obtain⟨_,ps,b,_⟩:=I.tabs q' hq
   exact cI (ha.symm.trans b)⟩,λy hy=>by
   refine obE22 (I.cells y a hy) λv o ho _=>?_
   exact cI (ha.symm.trans ho),gV I.base ha,λx hx=>by
   obtain⟨_,_,o,ho,_⟩:=I.ws x a hx
   exact cI (ha.symm.trans ho)⟩
theorem Jz {p:EP} (ob:p.Ob h) {a:aG} (q:p.Z a): ∃o,h.get? a=some o:=by
 obtain⟨⟨m,⟨o,_,_,ho,_⟩,_⟩,⟨o1,h1,_⟩,o2,h2,_⟩:=ob
 exact q.elim (λq=>q.elim (λq=>q▸⟨o,ho⟩) λq=>q▸⟨o1,h1⟩) λq=>q▸⟨o2,h2⟩
theorem qY {p:EP} {b:aG} (h: ¬p.Z b):b≠p.L/\b≠p.e/\b≠p.it:=⟨λq=>h (.inl (.inl q)),λq=>h (.inl (.inr q)),λq=>h (.inr q)⟩
theorem EK {p:EP} {b:aG} (h:b=p.L\/b=p.e\/b=p.it):p.Z b:=h.elim (λq=> .inl (.inl q)) λh=>h.elim (λq=> .inl (.inr q)) .inr
theorem Jy {p:EP} {ys:List (Nat×List Nat)} {i:Nat} {F:Nat->Resume->aD->Prop} {v:aA} {K:Prop} (hv:p.Y ys (ys.length-i-1) s v s' (λr s=>match ys.length-i with|0=>False|m+1=>F m r s))
  (k: ∀pc T tk tk2,i<ys.length->ys[i]?=some pc->v= .ref T->s'.heap.IsTuple T #[.int (pc.1:Nat) tk,.str ⟨pc.2.toArray⟩ tk2]->p.Gk s s'->p.Ob s'.heap->(∀s'',p.Alike s' s''->F (ys.length-(i+1)) (.send .none) s'')->K):K:=by
 obtain⟨⟨pc,T,tk,tk2,hpc,hv,_,_,_,hT⟩,gk,ob,hk⟩:=hv
 cases hm:ys.length-i with
 |zero=>rw[hm]at hk;exact(hk _ λ_ _ _ e=>e).elim
 |succ m=>
  rw[hm]at hk hpc
  have:=Mi hm
  rw[this.2.1]at hpc
  exact k pc T tk tk2 this.1 hpc hv hT gk ob λs q=>this.2.2.symm▸hk s q
theorem Am {a b more:Array hU} {g:Nat} {x:hU} (h:b=a++more) (e:a[g]?=some x):b[g]?=some x:=by
 rw[h,Array.getElem?_append_left ((so.mp e).elim λq _=>q)];exact e
theorem Fu {p:EP} {g tk:Nat} {gsa gs':hU} (hat: ∀k,G.atn k≠("addr" :aN)) (I:SI G P s₀ env io W st s') (M:Mw G s₀ env J s s') (hJ: ∀a,p.Z a->J a) (wk:p.Wk G s'.heap) (loc: ∀a,p.Z a-> ¬i9 s₀ env a/\(∀x,W x≠some a)/\ ∀y,env.cells.lookup y≠some a) (h00: ∀a,p.Z a->G.h0.get? a=none)
  (kk: ∀b o,b≠p.L->b≠p.e->b≠p.it->s'.heap.get? b=some o->h'.get? b=some o) (ob:p.Ob h') (hgs:s'.gens[g]?=some gsa) (hg0:s.gens.size<=g) (hb:gs'.bare=true) {sb:aD} (e:sb={s' with heap:=h',toks:=tk,gens:=(s'.gens.setIfInBounds g .running).setIfInBounds g gs'}):
  (SI G P s₀ env io W st sb/\Mw G s₀ env J s sb)/\(∀a,sb.heap.get? a=none->s'.heap.get? a=none)/\sb.gens[g]?=some gs':=by
 subst e
 have hlt:g<s'.gens.size:=(so.mp hgs).elim λq _=>q
 have gn: ∀a,h'.get? a=none->s'.heap.get? a=none:=λa ea=>by
  cases hh:s'.heap.get? a with
  |none=>rfl
  |some o=>
   have:=qY (p:=p) (b:=a) λq=>(Jz ob q).elim λ_ q=>cI (ea.symm.trans q)
   exact cI (ea.symm.trans (kk a o this.1 this.2.1 this.2.2 hh))
 refine(EP.trn (G:=G) I.tabs wk kk ob).elim λTT TR=>⟨⟨I.trnL (HT wk hat) TR TT (λa ea=>I.gone a (gn a ea)) h00 loc λa o q hn eo=>yd wk q hn eo,
  λb o e h1 h2 h3=>TR.k b o (λq=>h3 (hJ b q)) h2 (M.keep b o e h1 h2 h3),λP' x v ok hp r=>TR.v P' x v ok (λa o pa q _ _=>(hp a pa).2 (hJ a q)) (M.val P' x v ok hp r),λa ea=>M.gone a (gn a ea),M.os,M.gens.elim λmore hm=>Db hm hg0,λhbr=>Ee hb (M.bare hbr) hlt⟩,gn,?_⟩
 show((s'.gens.setIfInBounds g .running).setIfInBounds g gs')[g]?=some gs'
 simp[hlt]
structure Gp (G:Gl) (A:aZ) (p:EP) (ga g:Nat) (ys:List (Nat×List Nat)) (i:Nat) (s:aD):Prop where
 gen:s.heap.IsGen ga g
 wk:p.Wk G s.heap
 gs: ∃gs:hU,s.gens[g]?=some gs/\gs.Goes G.M A.in1 p.R (p.Y ys) (ys.length-i) (.send .none) (s.setGen g .running)
theorem wN (GO:mB G) (S:FX G md P s₀ env io) (IHs:eH G n r) (O:cw (n+1) A) {k:Nat} {ow:List Nat} {tg:Expr} {t:Tg} {body:List ed} (hT:mX (G.Tl md) env.scope tg=some t)
  {p:EP} {ga g:Nat} (hat: ∀k,G.atn k≠("addr" :aN)) (I:SI G P s₀ env io W st s) (I2:SI G P s₀ env io W st s2) (M0:Mw G s₀ env (iw W st) s s2)
  (hg0:s.gens.size<=g) (fr: ∀a,p.Z a\/a=ga->s.heap.get? a=none) (hne: ¬p.Z ga) {ys:List (Nat×List Nat)} (K0:Gp G A p ga g ys 0 s2)
  (e:r9 r t true (qx (G.Tl md) ow k env.scope body) (ys.map lI) st=some (cL,stf)) {Q:eR->aD->Prop} {E':aA->aD->Prop}
  (h:LQ G P s₀ env io (iw W st) W st s s cL stf Q):
  ec G.M A (.forLoop tg (.ref ga) body [] env) (λr s'=>match r with| .ok f=>Q f s'| .error e=>E' e s') s2:=by
 have hZ: ∀a,p.Z a->s.heap.get? a=none:=λa q=>fr a (.inl q)
 have h':LQ G P s₀ env io (λa=>iw W st a\/p.Z a) W st s2 s cL stf Q:=λf s' W' ho I' M' g'=>h f s' W' ho I' (M'.closeZ hZ) (g'.weak M0.gone)
 clear h
 refine(show∃V:Nat->aD->Prop,∀j sa,V j sa↔ ∃i Wa sta,(i+j=ys.length/\r9 r t true (qx (G.Tl md) ow k env.scope body) ((ys.map lI).drop i) sta=some (cL,stf))/\Lp G P s₀ env io (λa=>iw W st a\/p.Z a) W st s2 s Wa sta sa/\Gp G A p ga g ys i sa from⟨_,λ_ _=> .rfl⟩).elim λV iv=>?_
 refine zJ V (λj sa H E2 K2 B kn kb kr ks k0=>?_) ys.length ((iv ..).mpr ⟨0,W,st,⟨pw _,e⟩,⟨I2,M0.weak λa q=> .inl q,.refl,λ_ x=>x⟩,K0⟩)
 refine obE33 ((iv ..).mp H) λi Wa sta hij L K=>obE12 K.gs λgsa hgsa hgoa=>?_
 have nz: ∀a,p.Z a-> ∀x,Wa x≠some a:=λa q x hx=>(L.gr.ws x a hx).elim (λe=>e.elim λy hy=>(SI.new S I (hZ a q)).2.2.2 y hy) λhn=>by
  obtain⟨_,_,o,ho,hs,_⟩:=L.I.ws x a hx
  exact yd K.wk q (λhl=>by
   obtain⟨m,⟨o,_,_,ho,_⟩,_⟩:=K0.wk.ns
   exact cI (hn.symm.trans (hl▸ho))) ho hs
 have mv:=λh1 tk gs' kk ob hb sb=>Fu (h':=h1) (tk:=tk) (gs':=gs') (sb:=sb) hat L.I L.M (λa q=> .inr q) K.wk (λa q=>⟨(SI.new S I (hZ a q)).1.1,nz a q,(SI.new S I (hZ a q)).2.1⟩) (λa q=>(SI.new S I (hZ a q)).2.2.1) kk ob hgsa hg0 hb
 refine Dc (P:=p.P) O.handled (GO.nolimit _ L.I.base) (aV (bZ _ _) O.depth) K.gen hgsa hgoa (λv s₁ gs' hb hv=>?_) λs₁ hp h'' hk''=>?_
 ·refine Jy hv λpc Ta tk tk2 hlt hpc hvT hTup gk ob hkap=>?_
  refine obE22 gk λh1 tk1 hs1 kk=>?_
  subst hs1 hvT
  generalize hsb:Shared.setGen _ g gs'=sb
  obtain⟨⟨Ib,Mb⟩,gb,hgb⟩:=mv h1 tk1 gs' kk ob hb sb hsb.symm
  cases(hsb▸rfl:h1=sb.heap)
  have tr:=λb (q: ¬p.Z b) o=>kk b o (qY q).1 (qY q).2.1 (qY q).2.2
  refine obE34 K.gen λoG nm qn ho hc hd hr=>?_
  have hoG:=tr ga hne oG ho
  refine ks _ _<|letgo_gen ⟨oG,nm,qn,hoG,hc,hd,hr⟩ ?_
  refine Lp.turn (P1:=λ_=>False) (Q:=Q) ⟨Ib,Mb,L.gr,λa q=>L.gg a (gb a q)⟩ S IHs (O.down (mx _)) (λa q=> .inl q) M0.gone hT (λa pa=>pa.elim) (FP hTup) (EQ hpc▸hij.2) h' kb kr λs4 Wc stc e4 L4 M4=>?_
  have f4:p.Alike sb s4:=λb o hb eb=>M4.keep b o eb (SI.new S I (hZ b (EK hb))).1.1 (SI.new S I (hZ b (EK hb))).1.2 λ⟨x,_,_,_,q⟩=>nz b (EK hb) x q
  have hf:=(SI.new S I (fr ga (.inr rfl))).1
  exact kn (j-1) s4 (HM hij.1 hlt).1 ((iv ..).mpr ⟨i+1,Wc,stc,⟨(HM hij.1 hlt).2,e4⟩,L4,⟨oG,nm,qn,M4.keep ga oG hoG hf.1 hf.2 (jl Ib hoG hd).2,hc,hd,hr⟩,(ob.alike f4).wk K.wk.nt,gs',M4.gens.elim λm hm=>Am hm hgb,hkap _ f4⟩)
 ·obtain⟨h0,⟨h1,tk1,rfl,kk⟩,ob⟩:=hp
  cases Mj hij.1 h0
  refine rN (C:=λcL stf=>LQ G P s₀ env io (λa=>iw W st a\/p.Z a) W st s2 s cL stf Q) ((congrArg (λz=>r9 r t true _ z sta) (wl (xC (aR ..)))).symm.trans hij.2) h'|>λh'=>?_
  have:=mv h'' tk1 .finished (λb o b1 b2 b3 e=>hk'' b o (kk b o b1 b2 b3 e)) (ob.alike λb o _ e=>hk'' b o e) rfl _ rfl
  exact k0 _ (h' .next _ Wa rfl this.1.1 this.1.2 L.gr)
end
end
section
open PySem.Spec PySem.Calls PyProof.Rows PySem.W
open Sem (wp)
structure El (G:Gl) (q:Nat->dM) (a:aG) (o:db) (fd:cV) (ar:Arg):Prop where
 mg:G.mg G.T.esc=some (.ref a)
 dbg:(G.T.esc==("__debug__" :aN))=false
 ob:G.h0.get? a=some o
 data:o.data= .func fd
 body:fd.body= .stmts (mO q)
 gl:fd.globals=bk
 bl:fd.builtins=cU
 clo:fd.closure=[]
 kind:fd.scope.kind= .function
 co:fd.scope.isCoroutine=false
 gen:fd.scope.isGenerator=true
 code:G.h0.CodeRec fd.code fd.qualname
 par:fd.params=⟨[],[ar],none,[],[],none,[]⟩
 arg:ar.arg=("addr" :aN)
 dflt:fd.defaults= .none
 kdf:fd.kwdefaults= .none
 nocell: ∀x∈fd.scope.names,x.2≠ .cell
 addr:fd.scope.names.lookup ("addr" :aN)=some .local
 kinds: ∀env:cg,env.scope=fd.scope->env.kindOf ("pos" :aN)=some .local/\env.kindOf ("escape" :aN)=some .local/\env.kindOf ("ch" :aN)=some .local/\env.kindOf ("addr" :aN)=some .local/\env.kindOf ("enumerate" :aN)=some .globalImplicit
 en0:G.mg ("enumerate" :aN)=none
 en1:G.mb ("enumerate" :aN)=some (.type "enumerate")
 escs: ∀v l,G.W.escs v=some l-> ∃x,v= .str x/\l=(bN x.cps.toList 0 false).map lI
 hat: ∀k,G.atn k≠("addr" :aN)
section
variable {G:Gl} {A:aZ} {E:aA->aD->Prop} {P P' P1:aG->Prop} {s₀ s s' s1 s2 s'':aD} {env:cg} {io J J' Z:aG->Prop} {W W' W0:Ow} {h h':ah} {md n:Nat} {st st' st1 st0 stf:St} {r:Ev} {m m':aN->Option aA} {T:TE} {sc:bE} {Pr:cY} {cL:f9} {C D L:aG}
theorem EE (GO:mB G) {q:Nat->dM} {a:aG} {o:db} {fd:cV} {ar:Arg} (R:El G q a o fd ar) (B:fy G s.heap) (TO:aY G s.heap) (hh:A.handled=none) (hd:A.depth<gN) {x:aN} {t:ze} {Q:aA->aD->Prop}
  (h: ∀(p:EP) (s2:aD) (ga g:Nat) (gs:hU),p.x=x->cD G s s2->s2.heap.IsGen ga g->g=s.gens.size->(∀a,p.Z a\/a=ga->s.heap.get? a=none)-> ¬p.Z ga->p.Wk G s2.heap->s2.gens[g]?=some gs->
   (∀A':aZ,A'.handled=none->gs.Goes G.M A' p.R (p.Y (bN p.x.cps.toList 0 false)) (bN p.x.cps.toList 0 false).length (.send .none) (s2.setGen g .running))->Q (.ref ga) s2):
  aF G.M A (call (.ref a) [.str x t]) Q E s:=by
 refine kX (codeAny_call_generator (o:=o) (fd:=fd) (body:=mO q) hd (B _ _ R.ob) R.data R.co R.gen R.body (R.code.keeps B) ?_)
 refine nH R.par R.dflt R.kdf rfl ?_
 have eb:([ar].map (·.arg)).filterMap (λn=>((([ar].map (·.arg)).zip [vC x t]).lookup n).map (n,·))=[(("addr" :aN),vC x t)]:=by
  simp[R.arg]
 rw[eb]
 refine oX R.nocell (λy hy=>?_) (λh' hn hs=>⟨?_,?_⟩) R.kind
 ·rw[ao]at hy;subst hy;exact R.addr
 ·have k: ∀b o,s.heap.get? b=some o->h'.get? b=some o:=λb o e=>(hs.2 b (am (br e))).trans (aH _ e)
  exact GO.nolimit _ λb o e=>k b o (B b o e)
 ·have k: ∀b o,s.heap.get? b=some o->h'.get? b=some o:=λb o e=>(hs.2 b (am (br e))).trans (aH _ e)
  have sz:h'.objs.size=s.heap.objs.size+1:=by rw[hs.1,ch]
  have none_ge: ∀b,s.heap.objs.size<=b->s.heap.get? b=none:=λb hb=>bA hb
  let p:EP:=⟨x,t,s.heap.objs.size,s.heap.objs.size+3,s.heap.objs.size+2,am (by lia),am (by lia),jX (by lia)⟩
  refine h p _ h'.objs.size s.gens.size _ rfl ?_ ⟨_,_,_,aS _ rfl,rfl,rfl,rfl⟩ rfl (λb hb=>none_ge b ?_) ?_ ?_ (Array.getElem?_push_size ..) λA' hA'=>⟨rfl,?_⟩
  ·refine⟨λb o e _=>aH _ (k b o e),TO.keeps λb o e=>aH _ (k b o e),rfl,⟨#[.fresh (.func (mO q) _)],by simp;rfl⟩,λhb y hy=>?_⟩
   rcases Array.mem_push.mp hy with hy|hy
   ·exact hb y hy
   ·subst hy;rfl
  ·rcases hb with((hb|hb)|hb)|hb
   ·rw[hb];exact bC _
   ·rw[hb];exact bZ _ 3
   ·rw[hb];exact bZ _ 2
   ·rw[hb,sz];exact bZ _ 1
  ·rw[sz]
   intro hz
   rcases hz with(hz|hz)|hz
   ·exact absurd hz (Nat.succ_ne_self _)
   ·exact absurd hz (am (BY (by decide:1<3) _))
   ·exact absurd hz (am (BY (by decide:1<2) _))
  ·have gone: ∀b:Nat,s.heap.objs.size+1<b-> ∀o,(h'.push {cls:= .type "generator",data:= .fields #[.int s.gens.size 0,.str fd.name (s.toks+1),.str fd.qualname (s.toks+1+1)]}).get? b≠some o:=λb hb o e=>by
    have h1:(b:Nat)<_:=br e
    rw[ch,sz]at h1
    lia
   refine⟨⟨_,hn.push _,rfl⟩,λo e=>(gone (s.heap.objs.size+3) (by lia) o e).elim,λo e=>(gone (s.heap.objs.size+2) (by lia) o e).elim,λb hb=>?_⟩
   intro hm
   obtain⟨y,hy,rfl⟩:=aP.mp hm
   obtain⟨_,ps,e,_⟩:=TO y hy
   have h1:(y.2.1:Nat)<s.heap.objs.size:=br e
   rcases hb with(hb|hb)|hb
   ·exact absurd hb (am h1)
   ·exact absurd hb (am (Nat.lt_add_right 3 h1))
   ·exact absurd hb (am (Nat.lt_add_right 2 h1))
  ·have V:Bd (newEnv fd.scope s.heap.objs.size fd.globals fd.closure (fd.qualname++ ".<locals>.") (some a) fd.code none fd.builtins) s.heap.objs.size:=by
    refine obE05 (R.kinds (newEnv fd.scope s.heap.objs.size fd.globals fd.closure (fd.qualname++ ".<locals>.") (some a) fd.code none fd.builtins) rfl) λk1 k2 k3 k4 k5=>?_
    exact⟨R.kind,R.co,rfl,R.gl,R.bl,k1,k2,k3,k4,k5⟩
   have KB: ∀b o,G.h0.get? b=some o->(h'.push {cls:= .type "generator",data:= .fields #[.int s.gens.size 0,.str fd.name (s.toks+1),.str fd.qualname (s.toks+1+1)]}).get? b=some o:=λb o e=>aH _ (k b o (B b o e))
   have lt0: ∀{b:aG} {m:aN->Option aA},G.h0.Ns b m->b≠s.heap.objs.size:=λhm=>by
    refine obE32 hm λo _ _ e _=>?_
    exact am (br (B _ _ e))
   refine EG (p:=p) V hA' (GO.g.keeps KB) (GO.b.keeps KB) R.en0 R.en1 (lt0 GO.g) (lt0 GO.b) (hn.push _) rfl ?_ ?_ .refl
   ·show s.heap.objs.size+3=(h'.push _).objs.size+1
    rw[ch,sz]
   ·show s.heap.objs.size+2=(h'.push _).objs.size
    rw[ch,sz]
theorem IW (GO:mB G) {q:Nat->dM} {a:aG} {o:db} {fd:cV} {ar:Arg} (R:El G q a o fd ar) (H:pL G n r):wg G n r:=by
 intro md P s₀ env io W st A E s Q k ow tg ea f fp cp pos xs i body cL st' hf hgl hT hta he S I O h
 refine bD he λiv hiv l hl he=>?_
 obtain⟨x,hx,rfl⟩:=R.escs _ _ hl
 have hk:=gW hgl
 subst hf
 refine wpAny_For (hs:=λ_=>rfl) (dA (dg (mK GO.toGOk (I.fre S) hk (.inl R.mg) ?_) R.dbg))
 have ha':b9 (cH (G.Tl md) k env.scope) [ea]=some [i]:=by simp[b9,hta]
 have hv':iQ r.e st [i]=some [iv]:=by simp[iQ,hiv]
 refine da (kws:=[]) (kns:=[]) (qs:=[]) (ks:=[]) H.exp ha' rfl rfl hv' rfl (I.fre S) (O.down (by lia)) λvs us s1 X rv ru=>⟨λQ' h'=>gU ((I.up X).base _ _ R.ob) R.data h',?_⟩
 cases ru
 obtain⟨v,rfl,rv1⟩:=rv.uno
 rw[hx]at rv1
 obtain⟨t0,rfl⟩:=rv1
 have I1:=I.up X
 refine EE GO R I1.base X.tabs O.handled (by have:=O.depth;lia) λp s2 ga g gs hpx Y hgen hg fr hne wk hgs hgo=>?_
 clear hx hl rv;subst hpx
 refine wpAny_pyIter_gen hgen ?_
 have hg0:s.gens.size<=g:=by
  obtain⟨more,hm⟩:=X.gens
  rw[hg,hm,Array.size_append];lia
 exact wN GO S H.stmt (O.down (by lia)) (t:= .t xs) hT R.hat I (I1.up Y) (Mw.stp I.tabs (X.trans Y)) hg0 (λb hb=>X.gone I.tabs (fr b hb)) hne ⟨hgen,wk,gs,hgs,hgo _ O.handled⟩ he h
theorem IU (GO:mB G) {q:Nat->dM} {a:aG} {o:db} {fd:cV} {ar:Arg} (R:El G q a o fd ar): ∀k,pL G (4*k+10) (ev G.W k):=HD GO λ_ H=>IW GO R H
end
end
section
open PySem.Spec PySem.Calls PyProof.Rows PySem.W
open Sem (wp)
section
variable {h:ah} {d:aG} {m:aN->Option aA}
theorem tW {o:db} {es:Array B8} {ep:Nat} (hd:o.data= .dict es ep) (hk:StrKeys es) (hm: ∀name,nsFind es name=m name) (x:aN):wu x o=some (m x):=by
 unfold wu
 rw[hd]
 dsimp only
 rw[<-hm x]
 unfold nsFind findBy
 rw[<-Array.find?_toList]
 cases es.toList.find? (λe=>e.key.isStr x)with
 |some e=>rfl
 |none=>
  have:es.toList.any (·.refKey)=false:=by
   rw[List.any_eq_false]
   intro e he
   refine obE21 (hk e (xI.mp he)) λn t q=>?_
   simp[DictEntry.refKey,q]
  rw[this];rfl
end
structure yW (K:xG) (C:aG) (cd:ClassData) (an:List aN) (meths:List (aN×aG)) (cat:List (aN×aN×ze)) (init:aG):Prop where
 cls:clsIn K C=some cd
 dict:cd.hasDict=true
 ga:ww K (.ref C) "__getattribute__" =some (some (.builtin "object.__getattribute__"))
 gt:ww K (.ref C) "__getattr__" =some none
 sa:ww K (.ref C) "__setattr__" =some (some (.builtin "object.__setattr__"))
 plain:plainOver K C=true
 attr: ∀x∈an,ww K (.ref C) x=some none/\copiedNames.contains x=false
 meth: ∀p∈meths,ww K (.ref C) p.1=some (some (.ref p.2))/\typeIn K (.ref p.2)=some (.type "function")
 makes:makesIn K C=true
 init:ww K (.ref C) "__init__" =some (some (.ref init))/\typeIn K (.ref init)=some (.type "function")
 reads:readsIn K C (.type "type")=true
 cat: ∀p∈cat,findCls K (.ref C) (.type "type") p.1=some (.val (.str p.2.1 p.2.2))
section
variable {prog:g5} {w:dz} {A:aZ} {E:aA->aD->Prop} {s:aD} {K:xG} {C:aG} {cd:ClassData} {an:List aN} {meths:List (aN×aG)} {cat:List (aN×aN×ze)} {init:aG} {a d:aG} {m:aN->Option aA} {x:aN} {v:aA}
theorem ub (ho:s.heap.get? a=some (gz C d)) (hn:s.heap.Ns d m): ∃od,InstAt s.heap a (gz C d) C (some od)/\ ∀x,wu x od=some (m x):=by
 refine nk λcq=>?_
 refine obE34 hn λod es ep hd hdd hk hm=>?_
 refine cq ?_
 exact⟨od,⟨ho,rfl,rfl,hd⟩,tW hdd hk hm⟩
theorem IB (Y:yW K C cd an meths cat init) (X:K.In s.heap) {Q:aA->aD->Prop} (ho:s.heap.get? a=some (gz C d)) (hn:s.heap.Ns d m) (hx:x∈an) (hv:m x=some v) (hb: ∀i,v≠ .builtin i) (h: ∀tk,Q v {s with toks:=tk}):aF (cK prog w) A (getAttr (.ref a) x true) Q E s:=by
 refine obE12 (ub ho hn) λod I hl=>?_
 refine get_value X I Y.ga ?_ (by cases v<;>first|rfl|exact(hb _ rfl).elim) (h _)
 have h1:ownOf cd (some od) x=some (some v):=(if_pos Y.dict).trans ((hl x).trans (congrArg some hv))
 show(clsIn K C).bind _=_
 rw[Y.cls]
 show(ww K (.ref C) x).bind _=_
 rw[(Y.attr x hx).1]
 show(ownOf cd (some od) x).bind _=_
 rw[h1];rfl
theorem Hy (Y:yW K C cd an meths cat init) (X:K.In s.heap) {Q:aA×List aA->aD->Prop} {pl:l6 Bool} {f:aG} (ho:s.heap.get? a=some (gz C d)) (hn:s.heap.Ns d m) (hx:(x,f)∈meths) (hv:m x=none) (h:Q (.ref f,[.ref a]) s):aF (cK prog w) A (getMethod (.ref a) x pl) Q E s:=by
 refine obE12 (ub ho hn) λod I hl=>?_
 refine method_fn X I Y.ga Y.gt (Y.meth _ hx).1 (Y.meth _ hx).2 ?_ h
 show(wu x od).map (·.isSome)=some false
 rw[hl,hv];rfl
theorem Jk (Y:yW K C cd an meths cat init) (X:K.In s.heap) {Q:aA->aD->Prop} {y:aN} {t:ze} (hx:(x,y,t)∈cat) (h: ∀t tk,Q (.str y t) {s with toks:=tk}):aF (cK prog w) A (getAttr (.ref C) x true) Q E s:=by
 have e:findCls K (.ref C) (.type "type") x=some (.val (.str y t)):=Y.cat (x,y,t) hx
 exact cls_value X Y.reads e rfl (h t (s.toks+1))
theorem IA (Y:yW K C cd an meths cat init) (X:K.In s.heap) {Q:qq->aD->Prop} (h: ∀κ,Q κ s):aF (cK prog w) A (iY (.ref C)) Q E s:=by
 refine nk λcq=>?_
 obtain⟨⟨oc,od,cd',sl,hC,_⟩,_,_,_,_,call,_⟩:=makes_of (M:=cK prog w) X Y.makes
 refine cq ?_
 unfold iY
 refine aE (wo hC ?_)
 refine aE (call.here ?_)
 split<;>exact aK (h _)
theorem Hz (Y:yW K C cd an meths cat init) (X:K.In s.heap) {Q:aA->aD->Prop}
  (h:ec (cK prog w) (A.under (.builtin "type.__call__" ⟨[.ref C,v],[]⟩)) (.call (.ref init) ⟨[.ref (s.heap.objs.size+1),v],[]⟩)
   (λr s''=>r= .ok (.ret .none)/\Q (.ref (s.heap.objs.size+1)) s'') {s with heap:=(s.heap.push mT).push (gz C s.heap.objs.size)}):aF (cK prog w) A (call (.ref C) [v]) Q E s:=by
 refine kX ?_
 obtain⟨hh,g,d',t,os⟩:=s
 refine make_core (rest:=[v]) (makes_of X Y.makes) (looks_findIn X Y.init.1) (λself=>bind_fn X self Y.init.2) (.inl rfl) ?_
 refine sX h λr s' z=>?_
 obtain⟨rfl,z⟩:=z
 exact⟨rfl,z⟩
theorem Fd (Y:yW K C cd an meths cat init) (X:K.In s.heap) {Q:Unit->aD->Prop} {ns:List aN} (ho:s.heap.get? a=some (gz C d)) (hn:s.heap.Ns1 d m) (hw:Within m ns) (hl:ns.length<=1000) (hx:x∈an) (hx2:x≠bz)
  (h: ∀h' tk,h'.Ns1 d (λy=>if y=x then some v else m y)->de d s.heap h'->Q () {s with heap:=h',toks:=tk}):aF (cK prog w) A (setAttr (.ref a) x v) Q E s:=by
 refine obE12 (ub ho hn.ns) λod I _=>?_
 refine set_plain X I Y.sa ?_
 refine osa_open (s:={s with toks:=s.toks+1}) (r:=none) X I Y.plain (by unfold takerIn;rw[(Y.attr x hx).1];rfl) λb=>?_
 obtain⟨hx',hcl,hno,hdd⟩:=I
 have hc:=looks_clsIn (M:=cK prog w) X Y.cls
 refine aE (aK (aE (aE (wpAny_loadPart hx' (aE (Looks.here (s:={s with toks:=s.toks+1}) hc ?_))))))
 rw[Y.dict]
 refine aK (a:=some d) (aE (aK (aE ?_)))
 refine wpAny_nsSet1 hn λh' hn' hs=>?_
 refine nk λcq=>?_
 refine obE33 (hn'.count (Within.cons x v hw)) λoD esD epD hoD hdD hcD=>?_
 refine cq ?_
 refine aE (wpAny_lookBehind hoD (by rw[hdD];exact pastItsLine_dict (aQ hcD (by simp only[bJ,bT];lia))) ?_)
 exact aK (h h' _ hn' hs)
end
theorem kj {K:xG} {h:ah} {N:aG} {mg:aN->Option aA} {n:aN} {r:Option aA} (X:K.In h) (G:h.Ns N mg) (e:nsIn K N n=some r):mg n=r:=by
 refine obE34 G λo es ep ho hd hk hf=>?_
 have hl:wu n o=some (mg n):=tW hd hk hf n
 cases q:K.lookup N with
 |none=>
  have e:(none:Option (Option aA))=some r:=by delta nsIn at e;rw[q]at e;exact e
  cases e
 |some o'=>
  have h1:=X _ _ q
  rw[ho]at h1
  cases h1
  have e1:nsIn K N n=wu n o:=by
   delta nsIn wu
   rw[q]
   obtain⟨c,d,data,sl⟩:=o
   cases hd;rfl
  exact aC (hl.symm.trans (e1.symm.trans e))
noncomputable def Ha:aA->Option aG
 | .ref b=>some b
 |_=>none
noncomputable def G8 (a:aG) (o:Option (Option aA)):Bool:=(o.bind λv=>v.bind Ha)==some a
theorem C9 {a:aG} {o:Option (Option aA)} (h:G8 a o=true):o=some (some (.ref a)):=
 bD (fQ h) λv hv u hu h=>by
  rw[hv,hu]
  cases u<;>first|(cases h;rfl)|cases h
noncomputable def Di (K:xG) (fa:List aG) (l:List (aN×Nat)):Bool:=l.all λp=>(fa[p.2]?).any λa=>G8 a (nsIn K bk p.1)
theorem IR {K:xG} {h:ah} {mg:aN->Option aA} {fa:List aG} {l:List (aN×Nat)} (X:K.In h) (G:h.Ns bk mg) (e:Di K fa l=true): ∀x k,l.lookup x=some k-> ∃a,fa[k]?=some a/\mg x=some (.ref a):=λx k hk=>by
 have:=aT.mp e _ (dJ hk)
 dsimp only at this
 cases q:fa[k]? with
 |none=>rw[q]at this;cases this
 |some a=>rw[q]at this;exact⟨a,rfl,kj X G (C9 this)⟩
noncomputable def DY (K:xG) (a:aG):Bool:=match K.lookup a with|some o=>(match o.data with| .func _=>true|_=>false)|none=>false
theorem IQ {K:xG} {h:ah} {fa:List aG} (X:K.In h) (e:fa.all (DY K)=true): ∀(k:Nat) (a:aG),fa[k]?=some a-> ∃(o:db) (fd:cV),h.get? a=some o/\o.data= .func fd:=λk a hk=>by
 have:=aT.mp e _ (az hk)
 unfold DY at this
 split at this
 ·rename_i o ho
  split at this
  ·rename_i fd hd
   exact⟨o,fd,X _ _ ho,hd⟩
  ·cases this
 ·cases this
noncomputable def Ge (K:xG) (a:aG):db:=(K.lookup a).getD {cls:= .none,data:= .plain}
noncomputable def Jv (K:xG) (a:aG):Option cV:=match(Ge K a).data with| .func f=>some f|_=>none
noncomputable def AH (f:cV):List ed:=match f.body with| .stmts s=>s|_=>[]
structure yV (K:xG) (T:TE) (d:dY) (a:aG) (fd:cV) (md m:Nat) (ow:List Nat):Prop where
 look:K.lookup a=some (Ge K a)
 data:(Ge K a).data= .func fd
 body:fd.body= .stmts (AH fd)
 gl:fd.globals=bk
 bl:fd.builtins=cU
 clo:fd.closure=[]
 kind:fd.scope.kind= .function
 co:fd.scope.isCoroutine=false
 gen:fd.scope.isGenerator=false
 code:codeIn K fd.code fd.qualname=true
 tr:d.body=qx {T with lam:=md==1,dfs:=md==2} ow m fd.scope (AH fd)
 po:fd.params.posonlyargs=[]
 va:fd.params.vararg=none
 kwa:fd.params.kwarg=none
 ps:fd.params.args.map (·.arg)=d.sg.ps.map λx=>(T.nm[x]?).getD bz
 kwo:fd.params.kwonlyargs.map (·.arg)=d.sg.kwo.map λx=>(T.nm[x]?).getD bz
 ids:(d.sg.ps++d.sg.kwo).all (λx=>T.id ((T.nm[x]?).getD bz)==some x&&eX fd.scope ((T.nm[x]?).getD bz))=true
section
variable {G:Gl} {K:xG} {T:TE} {k:Nat} {d:dY} {a:aG} {fd:cV} {md m:Nat} {ow:List Nat}
theorem yV.plain (F:yV K G.T d a fd md m ow) (X:K.In G.h0) (hfa:G.fa[k]?=some a) (nd:(d.sg.ps++d.sg.kwo).Nodup) (h1:fd.defaults= .none) (h2:fd.kwdefaults= .none) (h3:d.sg.dfl=[])
  (lam:md=1-> ∃c tb,fd.code= .ref c/\(c,tb,(fd.qualname++(".<locals>." :aN))++("<lambda>" :aN))∈G.tabs)
  (dfs:md=2-> ∃c tb,fd.code= .ref c/\ ∀nm∈G.T.nds,(c,tb,(fd.qualname++(".<locals>." :aN))++nm)∈G.tabs): ∃a o fd stmts md m ow dl kd,ux G k d a o fd stmts md m ow dl kd:=
 ⟨a,Ge K a,fd,AH fd,md,m,ow,#[],λ_=>none,hfa,X _ _ F.look,F.data,F.body,F.gl,F.bl,F.clo,F.kind,F.co,F.gen,codeRec_of X F.code,F.tr,F.po,F.va,F.kwa,F.ps,F.kwo,
  λx hx=>by
   have:=aT.mp F.ids x hx
   simp only[ag,beq_iff_eq]at this
   exact this,nd,.inl ⟨h1,rfl⟩,bj _,.inr ⟨h2,λ_=>rfl⟩,λx _ v e=>(by rw[h3]at e;cases e),lam,dfs⟩
theorem yV.dflt (F:yV K G.T d a fd md m ow) (X:K.In G.h0) (hfa:G.fa[k]?=some a) (nd:(d.sg.ps++d.sg.kwo).Nodup) {t1 t2:aG} {tk tk2:ze} {hs:Int} {n:Nat} (hm:md=0) (h1:fd.defaults= .ref t1) (h2:fd.kwdefaults= .ref t2) (h3:d.sg=⟨[1,2,3,4],[5],[(3,V.int 0),(4,V.none),(5,V.none)]⟩)
  (e1:K.lookup t1=some {cls:= .type "tuple",data:= .seq #[.int 0 tk,.none]}) (e2:K.lookup t2=some {cls:= .type "dict",data:= .dict #[⟨hs,.str ("key" :aN) tk2,.none⟩] n}) (hk:G.n 5=("key" :aN)):
  ∃a o fd stmts md m ow dl kd,ux G k d a o fd stmts md m ow dl kd:=by
 subst hm
 refine⟨a,Ge K a,fd,AH fd,0,m,ow,#[.int 0 tk,.none],λx=>if x=("key" :aN)then some .none else none,hfa,X _ _ F.look,F.data,F.body,F.gl,F.bl,F.clo,F.kind,F.co,F.gen,codeRec_of X F.code,F.tr,F.po,F.va,F.kwa,F.ps,F.kwo,
  λx hx=>by
   have:=aT.mp F.ids x hx
   rw[ag,beq_iff_eq]at this
   exact this,nd,.inr ⟨t1,h1,⟨_,X _ _ e1,rfl,0,rfl⟩⟩,(by rw[h3];exact(by decide:2<=4)),.inl ⟨t2,h2,⟨_,_,_,X _ _ e2,rfl,λe he=>?_,λname=>?_⟩⟩,λx _ v e=>?_,nofun,nofun⟩
 ·simp only[List.mem_toArray,aO,aU,or_false]at he
  subst he
  exact⟨_,_,rfl⟩
 ·unfold nsFind findBy
  by_cases hn:name=("key" :aN)
  ·subst hn
   simp[Value.isStr]
  ·show _=(if name=("key" :aN)then some gZ else none)
   rw[if_neg hn]
   have:((("key" :aN)==name)=false):=beq_eq_false_iff_ne.mpr (dE hn)
   simp[Value.isStr,this]
 ·rw[h3]at e⊢
  have hm:=dJ e
  rcases aO.mp hm with q|hm
  ·cases q;exact⟨.int 0 tk,rfl,rfl,λh=>⟨_,rfl⟩⟩
  ·rcases aO.mp hm with q|hm
   ·cases q;exact⟨.none,rfl,rfl,λh=>rfl⟩
   ·cases ao.mp hm
    refine⟨.none,?_,rfl,λh=>rfl⟩
    show(if G.n 5=("key" :aN)then some gZ else none)=_
    rw[if_pos hk]
theorem Dd {α:Type} {R:Nat->α->Prop} {n:Nat} {d:α} {l:List α} (h:R n d) (t: ∀k e,l[k]?=some e->R (k+(n+1)) e): ∀k e,(d::l)[k]?=some e->R (k+n) e:=λk e q=>by
 cases k with
 |zero=>cases aC q;rw[pw];exact h
 |succ k=>rw[vH];exact t k e q
theorem fun_nil {α:Type} {R:Nat->α->Prop} {n:Nat}: ∀k e,([]:List α)[k]?=some e->R (k+n) e:=λk e q=>by cases q
end
end
section
open PySem.Spec PySem.Calls PyProof.Rows PySem.W
section
variable {G:Gl} {l:aG} {h:ah} {s:aD}
theorem DZ {P:aG->Prop} {vs:List aA} {ns:List Int} (e:pN vs ns):bh G P h (ns.map .int) vs:=by
 induction e with
 |nil=>rfl
 |cons n t _ ih=>exact⟨_,_,rfl,⟨t,rfl⟩,ih⟩
theorem Cj {P:ew} {vs:List aA} {xs:List WData} (W:Well P h (.ref l) (.list xs)) (hl:h.IsList l vs.toArray):h.PlainList l vs.toArray:=by
 obtain⟨o,ho,hc,n,hd⟩:=hl
 cases W with
 |list e _=>rw[ho]at e;cases e;cases hd;exact⟨_,ho⟩
theorem Hm {s s':aD} (T:aY G s.heap) (T0: ∀q∈G.tabs,s.heap.get? q.2.1=some (mo #[])) (k:cD G s s'):OldK s.heap s'.heap:=by
 have f: ∀q∈G.tabs,∃ps,s'.heap.get? q.2.1=some (mo ps):=λq hq=>let⟨_,ps,b,_⟩:=k.tabs q hq;⟨ps,b⟩
 refine⟨λb o e=>?_,λb o e=>?_⟩
 ·by_cases hm:b∈G.tb
  ·obtain⟨q,hq,rfl⟩:=aP.mp hm
   obtain⟨ps,hp⟩:=f q hq
   have e0:=T0 q hq
   rw[e]at e0
   cases e0
   obtain⟨⟨c,vs,_,_,_,_,_,_,_,c1,c2,c3,c4,_⟩,_⟩:=T q hq
   exact .inr (.inl ⟨⟨_,_,_,c1,c2,c3,c4⟩,rfl,#[],ps,rfl,by rw[hp];simp[mo]⟩)
  ·exact .inl (k.ext b o e hm)
 ·by_cases hm:b∈G.tb
  ·clear e;obtain⟨q,hq,rfl⟩:=aP.mp hm
   exact(f q hq).elim λps e=>⟨_,e⟩
  ·exact⟨o,k.ext b o e hm⟩
theorem DP (GO:mB G) {q:Nat->dM} {a0:aG} {o:db} {fd:cV} {ar:Arg} (R:El G q a0 o fd ar) {k n:Nat} {a:aG} (ha:G.fa[k]?=some a) (hn:n<=84) {ns:List Int} {b f:Bool} (e:(ev G.W (n+1)).call (.fn k) [(.list (ns.map .int),true)] [] []=some (.bool b,f))
  (T:aY G s.heap) (K:fy G s.heap) {items:Array aA} (hl:s.heap.PlainList l items) (hi:pN items.toList ns):
  ec G.M callerA (.call (.ref a) ⟨[.ref l],[]⟩) (λr s'=>r= .ok (.ret (.bool b))/\cD G s s') s:=by
 have H:=(IU GO R n).stmt
 refine sX (zK (P:=λ_=>True) (fb:=true) (kvs:=[]) (kns:=[]) (ks:=[]) (as:=[.ref l]) GO.toGOk4 H ⟨K,T,λ_ _=>trivial⟩ ?_ e ⟨a,ha,rfl⟩ ⟨_,_,rfl,⟨l,items,rfl,λ_=>trivial,hl,DZ hi⟩,rfl⟩ rfl) λr s' z=>?_
 ·refine⟨rfl,?_,?_⟩
  ·show 1+claimMargin+2*(4*n+10+1)<gN
   unfold claimMargin gN;lia
  ·show 4+20*(4*n+10+1)+100<cLine
   unfold cLine;lia
 ·refine obE13 z λv hr hs hv=>?_
  have hv:v= .bool b:=hv
  exact⟨hv▸hr,hs⟩
end
end
section
noncomputable def LG:List aN:=[("k" :aN),("a" :aN),("x" :aN),("lo" :aN),("hi" :aN),("key" :aN),("mid" :aN),("b" :aN),("n" :aN),("pad" :aN),("half_n" :aN),("mask" :aN),("b1" :aN),("b2" :aN),("q1" :aN),("r" :aN),("q2" :aN),("a12" :aN),("a3" :aN),("q" :aN),("inner" :aN),("a_digits" :aN),("L" :aN),("R" :aN),("shift" :aN),("upper" :aN),("lower" :aN),("digits" :aN),("q_digits" :aN),("a_digit" :aN),("q_digit" :aN),("addr" :aN),("pos" :aN),("escape" :aN),("ch" :aN),("start" :aN),("open_pos" :aN),("result" :aN),("opens" :aN),("self" :aN),("ws" :aN),("count" :aN),("nt" :aN),("S" :aN),("T" :aN),("trailing" :aN),("tabsize" :aN),("il" :aN),("i" :aN),("other" :aN),("ts" :aN),("script" :aN),("cells" :aN),("numbers" :aN),("figures" :aN),("row" :aN),("j" :aN),("rises" :aN),("ways" :aN),("grown" :aN),("free" :aN),("joins" :aN),("opener" :aN),("ahead" :aN),("more" :aN),("join" :aN),("piles" :aN),("number" :aN),("place" :aN),("keys" :aN),("put" :aN),("order" :aN),("first" :aN),("second" :aN),("tied" :aN),("sets" :aN),("one" :aN),("hide" :aN),("pairs" :aN),("menu" :aN),("ends" :aN),("end" :aN),("text" :aN),("turned" :aN),("letters" :aN),("laid" :aN),("picks" :aN),("both" :aN),("leads" :aN),("base" :aN),("side" :aN),("run" :aN),("tops" :aN),("product" :aN),("total" :aN),("deep" :aN),("height" :aN),("rest" :aN),("told" :aN),("weight" :aN),("over" :aN),("places" :aN),("p" :aN),("around" :aN),("across" :aN),("top" :aN)]
noncomputable def qF:TE:={nm:=LG,fns:=[("_wall",0),("insort_right",1),("bisect_right",2),("insort_left",3),("bisect_left",4),("_div2n1n",5),("_div3n2n",6),("_int2digits",7),("_digits2int",8),("_divmod_pos",9),("int_divmod",10),("_strip_quoted_realnames",11),("_check_parenthesis",12),("_law_cells",20),("_law_row",21),("_law_ways",22),("_law_piles",23),("_law_laid",24),("_law_crosses",25),("_law_nests",26),("_law_most",27),("_law_told",28),("law",29)],an:=["raw","n","nt","norm","is_simple"],cls:= "Whitespace",cat:=[("S"," "),("T","\t")],meths:=[("__init__",13),("longest_run_of_spaces",14),("indent_level",15),("equal",16),("not_equal_witness",17),("less",18),("not_less_witness",19)],esc:= "_iter_escaped_chars",nds:=["inner"],nio:= "a_digits",gi:=[("_DIV_LIMIT",4000)],lam:=false,dfs:=false}
noncomputable abbrev pv (n:Nat):PE:= .var n
noncomputable abbrev ci (n:Nat):PE:= .cint (lR n)
noncomputable abbrev fG (n:Nat) (e:PE):PS:= .assign n false e
noncomputable def K3:List PS:=[.whileS (.cbool true) [.fail]]
noncomputable def HC:dY:=⟨⟨[0],[],[]⟩,K3⟩
noncomputable def K1:List PS:=[.ifS (.cmp (pv 5) [.Is] [.cnone]) [fG 3 (.call (.fn 2) [pv 1,pv 2,pv 3,pv 4] [] [])] [fG 3 (.call (.fn 2) [pv 1,.call (pv 5) [pv 2] [] [],pv 3,pv 4] [5] [pv 5])],.insert 1 (pv 3) (pv 2)]
noncomputable def HB:dY:=⟨⟨[1,2,3,4],[5],[(3,.int 0),(4,.none),(5,.none)]⟩,K1⟩
noncomputable def KZ:List PS:=[.ifS (.cmp (pv 3) [.Lt] [ci 0]) [.fail] [],.ifS (.cmp (pv 4) [.Is] [.cnone]) [fG 4 (.bi .len [pv 1])] [],.ifS (.cmp (pv 5) [.Is] [.cnone]) [.whileS (.cmp (pv 3) [.Lt] [pv 4]) [fG 6 (.bin .FloorDiv (.bin .Add (pv 3) (pv 4)) (ci 2)),.ifS (.cmp (pv 2) [.Lt] [.sub (pv 1) (pv 6)]) [fG 4 (pv 6)] [fG 3 (.bin .Add (pv 6) (ci 1))]]] [.whileS (.cmp (pv 3) [.Lt] [pv 4]) [fG 6 (.bin .FloorDiv (.bin .Add (pv 3) (pv 4)) (ci 2)),.ifS (.cmp (pv 2) [.Lt] [.call (pv 5) [.sub (pv 1) (pv 6)] [] []]) [fG 4 (pv 6)] [fG 3 (.bin .Add (pv 6) (ci 1))]]],.ret (pv 3)]
noncomputable def HA:dY:=⟨⟨[1,2,3,4],[5],[(3,.int 0),(4,.none),(5,.none)]⟩,KZ⟩
noncomputable def KY:List PS:=[.ifS (.cmp (pv 5) [.Is] [.cnone]) [fG 3 (.call (.fn 4) [pv 1,pv 2,pv 3,pv 4] [] [])] [fG 3 (.call (.fn 4) [pv 1,.call (pv 5) [pv 2] [] [],pv 3,pv 4] [5] [pv 5])],.insert 1 (pv 3) (pv 2)]
noncomputable def Gz:dY:=⟨⟨[1,2,3,4],[5],[(3,.int 0),(4,.none),(5,.none)]⟩,KY⟩
noncomputable def KW:List PS:=[.ifS (.cmp (pv 3) [.Lt] [ci 0]) [.fail] [],.ifS (.cmp (pv 4) [.Is] [.cnone]) [fG 4 (.bi .len [pv 1])] [],.ifS (.cmp (pv 5) [.Is] [.cnone]) [.whileS (.cmp (pv 3) [.Lt] [pv 4]) [fG 6 (.bin .FloorDiv (.bin .Add (pv 3) (pv 4)) (ci 2)),.ifS (.cmp (.sub (pv 1) (pv 6)) [.Lt] [pv 2]) [fG 3 (.bin .Add (pv 6) (ci 1))] [fG 4 (pv 6)]]] [.whileS (.cmp (pv 3) [.Lt] [pv 4]) [fG 6 (.bin .FloorDiv (.bin .Add (pv 3) (pv 4)) (ci 2)),.ifS (.cmp (.call (pv 5) [.sub (pv 1) (pv 6)] [] []) [.Lt] [pv 2]) [fG 3 (.bin .Add (pv 6) (ci 1))] [fG 4 (pv 6)]]],.ret (pv 3)]
noncomputable def Gy:dY:=⟨⟨[1,2,3,4],[5],[(3,.int 0),(4,.none),(5,.none)]⟩,KW⟩
noncomputable def HK:List PS:=[.ifS (.cmp (.bin .Sub (.bitlen (pv 1)) (pv 8)) [.LtE] [ci 4000]) [.ret (.bi .divmod [pv 1,pv 7])] [],fG 9 (.bin .BitAnd (pv 8) (ci 1)),.ifS (pv 9) [.aug 1 .LShift (ci 1),.aug 7 .LShift (ci 1),.aug 8 .Add (ci 1)] [],fG 10 (.bin .RShift (pv 8) (ci 1)),fG 11 (.bin .Sub (.bin .LShift (ci 1) (pv 10)) (ci 1)),.assignT [12,13] (.tup [.bin .RShift (pv 7) (pv 10),.bin .BitAnd (pv 7) (pv 11)]),.assignT [14,15] (.call (.fn 6) [.bin .RShift (pv 1) (pv 8),.bin .BitAnd (.bin .RShift (pv 1) (pv 10)) (pv 11),pv 7,pv 12,pv 13,pv 10] [] []),.assignT [16,15] (.call (.fn 6) [pv 15,.bin .BitAnd (pv 1) (pv 11),pv 7,pv 12,pv 13,pv 10] [] []),.ifS (pv 9) [.aug 15 .RShift (ci 1)] [],.ret (.tup [.bin .BitOr (.bin .LShift (pv 14) (pv 10)) (pv 16),pv 15])]
noncomputable def Gx:dY:=⟨⟨[1,7,8],[],[]⟩,HK⟩
noncomputable def KV:List PS:=[.ifS (.cmp (.bin .RShift (pv 17) (pv 8)) [.Eq] [pv 12]) [.assignT [19,15] (.tup [.bin .Sub (.bin .LShift (ci 1) (pv 8)) (ci 1),.bin .Add (.bin .Sub (pv 17) (.bin .LShift (pv 12) (pv 8))) (pv 12)])] [.assignT [19,15] (.call (.fn 5) [pv 17,pv 12,pv 8] [] [])],fG 15 (.bin .Sub (.bin .BitOr (.bin .LShift (pv 15) (pv 8)) (pv 18)) (.bin .Mult (pv 19) (pv 13))),.whileS (.cmp (pv 15) [.Lt] [ci 0]) [.aug 19 .Sub (ci 1),.aug 15 .Add (pv 7)],.ret (.tup [pv 19,pv 15])]
noncomputable def Gw:dY:=⟨⟨[17,18,7,12,13,8],[],[]⟩,KV⟩
noncomputable def kL:List PS:=[.assign 21 true (.bin .Mult (.list [ci 0]) (.bin .FloorDiv (.bin .Sub (.bin .Add (.bitlen (pv 1)) (pv 8)) (ci 1)) (pv 8))),.defS 20 [2,22,23] [.ifS (.cmp (.bin .Add (pv 22) (ci 1)) [.Eq] [pv 23]) [.setItem 21 (pv 22) (pv 2),.ret0] [],fG 6 (.bin .RShift (.bin .Add (pv 22) (pv 23)) (ci 1)),fG 24 (.bin .Mult (.bin .Sub (pv 6) (pv 22)) (pv 8)),fG 25 (.bin .RShift (pv 2) (pv 24)),fG 26 (.bin .BitXor (pv 2) (.bin .LShift (pv 25) (pv 24))),.callNS 20 21 [pv 26,pv 22,pv 6],.callNS 20 21 [pv 25,pv 6,pv 23]] [21,8] {dname:={cps:={toList:=[105,110,110,101,114]}},margs:={posonlyargs:=[],args:=[{arg:={cps:={toList:=[120]}},annotation:=none,pos:={line:=88,col:=14,endLine:=88,endCol:=15}},{arg:={cps:={toList:=[76]}},annotation:=none,pos:={line:=88,col:=17,endLine:=88,endCol:=18}},{arg:={cps:={toList:=[82]}},annotation:=none,pos:={line:=88,col:=20,endLine:=88,endCol:=21}}],vararg:=none,kwonlyargs:=[],kw_defaults:=[],kwarg:=none,defaults:=[]},mbody:=[Stmt.If (Expr.Compare (dH (aa {cps:={toList:=[76]}} {line:=89,col:=11,endLine:=89,endCol:=12}) .Add (kW (pz (lR 1)) 0 {line:=89,col:=15,endLine:=89,endCol:=16}) {line:=89,col:=11,endLine:=89,endCol:=16}) [.Eq] [aa {cps:={toList:=[82]}} {line:=89,col:=20,endLine:=89,endCol:=21}] {line:=89,col:=11,endLine:=89,endCol:=21}) [ie [iC (aa {cps:={toList:=[97,95,100,105,103,105,116,115]}} {line:=90,col:=12,endLine:=90,endCol:=20}) (aa {cps:={toList:=[76]}} {line:=90,col:=21,endLine:=90,endCol:=22}) {line:=90,col:=12,endLine:=90,endCol:=23}] (aa {cps:={toList:=[120]}} {line:=90,col:=26,endLine:=90,endCol:=27}) {line:=90,col:=12,endLine:=90,endCol:=27},y9 none {line:=91,col:=12,endLine:=91,endCol:=18}] [] {line:=89,col:=8,endLine:=91,endCol:=18},ie [aa {cps:={toList:=[109,105,100]}} {line:=92,col:=8,endLine:=92,endCol:=11}] (dH (dH (aa {cps:={toList:=[76]}} {line:=92,col:=14,endLine:=92,endCol:=15}) .Add (aa {cps:={toList:=[82]}} {line:=92,col:=18,endLine:=92,endCol:=19}) {line:=92,col:=14,endLine:=92,endCol:=19}) .RShift (kW (pz (lR 1)) 0 {line:=92,col:=23,endLine:=92,endCol:=24}) {line:=92,col:=14,endLine:=92,endCol:=24}) {line:=92,col:=8,endLine:=92,endCol:=24},ie [aa {cps:={toList:=[115,104,105,102,116]}} {line:=93,col:=8,endLine:=93,endCol:=13}] (dH (dH (aa {cps:={toList:=[109,105,100]}} {line:=93,col:=17,endLine:=93,endCol:=20}) .Sub (aa {cps:={toList:=[76]}} {line:=93,col:=23,endLine:=93,endCol:=24}) {line:=93,col:=17,endLine:=93,endCol:=24}) .Mult (aa {cps:={toList:=[110]}} {line:=93,col:=28,endLine:=93,endCol:=29}) {line:=93,col:=16,endLine:=93,endCol:=29}) {line:=93,col:=8,endLine:=93,endCol:=29},ie [aa {cps:={toList:=[117,112,112,101,114]}} {line:=94,col:=8,endLine:=94,endCol:=13}] (dH (aa {cps:={toList:=[120]}} {line:=94,col:=16,endLine:=94,endCol:=17}) .RShift (aa {cps:={toList:=[115,104,105,102,116]}} {line:=94,col:=21,endLine:=94,endCol:=26}) {line:=94,col:=16,endLine:=94,endCol:=26}) {line:=94,col:=8,endLine:=94,endCol:=26},ie [aa {cps:={toList:=[108,111,119,101,114]}} {line:=95,col:=8,endLine:=95,endCol:=13}] (dH (aa {cps:={toList:=[120]}} {line:=95,col:=16,endLine:=95,endCol:=17}) .BitXor (dH (aa {cps:={toList:=[117,112,112,101,114]}} {line:=95,col:=20,endLine:=95,endCol:=25}) .LShift (aa {cps:={toList:=[115,104,105,102,116]}} {line:=95,col:=29,endLine:=95,endCol:=34}) {line:=95,col:=20,endLine:=95,endCol:=34}) {line:=95,col:=16,endLine:=95,endCol:=34}) {line:=95,col:=8,endLine:=95,endCol:=34},Stmt.Expr (vJ (aa {cps:={toList:=[105,110,110,101,114]}} {line:=96,col:=8,endLine:=96,endCol:=13}) [aa {cps:={toList:=[108,111,119,101,114]}} {line:=96,col:=14,endLine:=96,endCol:=19},aa {cps:={toList:=[76]}} {line:=96,col:=21,endLine:=96,endCol:=22},aa {cps:={toList:=[109,105,100]}} {line:=96,col:=24,endLine:=96,endCol:=27}] [] {line:=96,col:=8,endLine:=96,endCol:=28}) {line:=96,col:=8,endLine:=96,endCol:=28},Stmt.Expr (vJ (aa {cps:={toList:=[105,110,110,101,114]}} {line:=97,col:=8,endLine:=97,endCol:=13}) [aa {cps:={toList:=[117,112,112,101,114]}} {line:=97,col:=14,endLine:=97,endCol:=19},aa {cps:={toList:=[109,105,100]}} {line:=97,col:=21,endLine:=97,endCol:=24},aa {cps:={toList:=[82]}} {line:=97,col:=26,endLine:=97,endCol:=27}] [] {line:=97,col:=8,endLine:=97,endCol:=28}) {line:=97,col:=8,endLine:=97,endCol:=28}],mscope:={kind:=ee,names:=[({cps:={toList:=[120]}},NameKind.local),({cps:={toList:=[76]}},NameKind.local),({cps:={toList:=[82]}},NameKind.local),({cps:={toList:=[109,105,100]}},NameKind.local),({cps:={toList:=[115,104,105,102,116]}},NameKind.local),({cps:={toList:=[117,112,112,101,114]}},NameKind.local),({cps:={toList:=[108,111,119,101,114]}},NameKind.local),({cps:={toList:=[97,95,100,105,103,105,116,115]}},bV),({cps:={toList:=[105,110,110,101,114]}},bV),({cps:={toList:=[110]}},bV)],isGenerator:=false,isCoroutine:=false}},.ifS (pv 1) [.callNS 20 21 [pv 1,ci 0,.bi .len [pv 21]]] [],.ret (pv 21)]
noncomputable def Gv:dY:=⟨⟨[1,8],[],[]⟩,kL⟩
noncomputable def lM:List PS:=[.defS 20 [22,23] [.ifS (.cmp (.bin .Add (pv 22) (ci 1)) [.Eq] [pv 23]) [.ret (.sub (pv 27) (pv 22))] [],fG 6 (.bin .RShift (.bin .Add (pv 22) (pv 23)) (ci 1)),fG 24 (.bin .Mult (.bin .Sub (pv 6) (pv 22)) (pv 8)),.ret (.bin .Add (.bin .LShift (.callN 20 [pv 6,pv 23]) (pv 24)) (.callN 20 [pv 22,pv 6]))] [27,8] {dname:={cps:={toList:=[105,110,110,101,114]}},margs:={posonlyargs:=[],args:=[{arg:={cps:={toList:=[76]}},annotation:=none,pos:={line:=103,col:=14,endLine:=103,endCol:=15}},{arg:={cps:={toList:=[82]}},annotation:=none,pos:={line:=103,col:=17,endLine:=103,endCol:=18}}],vararg:=none,kwonlyargs:=[],kw_defaults:=[],kwarg:=none,defaults:=[]},mbody:=[Stmt.If (Expr.Compare (dH (aa {cps:={toList:=[76]}} {line:=104,col:=11,endLine:=104,endCol:=12}) .Add (kW (pz (lR 1)) 0 {line:=104,col:=15,endLine:=104,endCol:=16}) {line:=104,col:=11,endLine:=104,endCol:=16}) [.Eq] [aa {cps:={toList:=[82]}} {line:=104,col:=20,endLine:=104,endCol:=21}] {line:=104,col:=11,endLine:=104,endCol:=21}) [y9 (some (iC (aa {cps:={toList:=[100,105,103,105,116,115]}} {line:=105,col:=19,endLine:=105,endCol:=25}) (aa {cps:={toList:=[76]}} {line:=105,col:=26,endLine:=105,endCol:=27}) {line:=105,col:=19,endLine:=105,endCol:=28})) {line:=105,col:=12,endLine:=105,endCol:=28}] [] {line:=104,col:=8,endLine:=105,endCol:=28},ie [aa {cps:={toList:=[109,105,100]}} {line:=106,col:=8,endLine:=106,endCol:=11}] (dH (dH (aa {cps:={toList:=[76]}} {line:=106,col:=14,endLine:=106,endCol:=15}) .Add (aa {cps:={toList:=[82]}} {line:=106,col:=18,endLine:=106,endCol:=19}) {line:=106,col:=14,endLine:=106,endCol:=19}) .RShift (kW (pz (lR 1)) 0 {line:=106,col:=23,endLine:=106,endCol:=24}) {line:=106,col:=14,endLine:=106,endCol:=24}) {line:=106,col:=8,endLine:=106,endCol:=24},ie [aa {cps:={toList:=[115,104,105,102,116]}} {line:=107,col:=8,endLine:=107,endCol:=13}] (dH (dH (aa {cps:={toList:=[109,105,100]}} {line:=107,col:=17,endLine:=107,endCol:=20}) .Sub (aa {cps:={toList:=[76]}} {line:=107,col:=23,endLine:=107,endCol:=24}) {line:=107,col:=17,endLine:=107,endCol:=24}) .Mult (aa {cps:={toList:=[110]}} {line:=107,col:=28,endLine:=107,endCol:=29}) {line:=107,col:=16,endLine:=107,endCol:=29}) {line:=107,col:=8,endLine:=107,endCol:=29},y9 (some (dH (dH (vJ (aa {cps:={toList:=[105,110,110,101,114]}} {line:=108,col:=16,endLine:=108,endCol:=21}) [aa {cps:={toList:=[109,105,100]}} {line:=108,col:=22,endLine:=108,endCol:=25},aa {cps:={toList:=[82]}} {line:=108,col:=27,endLine:=108,endCol:=28}] [] {line:=108,col:=16,endLine:=108,endCol:=29}) .LShift (aa {cps:={toList:=[115,104,105,102,116]}} {line:=108,col:=33,endLine:=108,endCol:=38}) {line:=108,col:=16,endLine:=108,endCol:=38}) .Add (vJ (aa {cps:={toList:=[105,110,110,101,114]}} {line:=108,col:=42,endLine:=108,endCol:=47}) [aa {cps:={toList:=[76]}} {line:=108,col:=48,endLine:=108,endCol:=49},aa {cps:={toList:=[109,105,100]}} {line:=108,col:=51,endLine:=108,endCol:=54}] [] {line:=108,col:=42,endLine:=108,endCol:=55}) {line:=108,col:=15,endLine:=108,endCol:=55})) {line:=108,col:=8,endLine:=108,endCol:=55}],mscope:={kind:=ee,names:=[({cps:={toList:=[76]}},NameKind.local),({cps:={toList:=[82]}},NameKind.local),({cps:={toList:=[109,105,100]}},NameKind.local),({cps:={toList:=[115,104,105,102,116]}},NameKind.local),({cps:={toList:=[100,105,103,105,116,115]}},bV),({cps:={toList:=[105,110,110,101,114]}},bV),({cps:={toList:=[110]}},bV)],isGenerator:=false,isCoroutine:=false}},.ret (.ite (pv 27) (.callN 20 [ci 0,.bi .len [pv 27]]) (ci 0))]
noncomputable def Dn:dY:=⟨⟨[27,8],[],[]⟩,lM⟩
noncomputable def Eg:List PS:=[fG 8 (.bitlen (pv 7)),fG 21 (.call (.fn 7) [pv 1,pv 8] [] []),fG 15 (ci 0),.assign 28 true (.list []),.forS (.n 29) (.rev (pv 21)) [.assignT [30,15] (.call (.fn 5) [.bin .Add (.bin .LShift (pv 15) (pv 8)) (pv 29),pv 7,pv 8] [] []),.append 28 (pv 30)],.reverse 28,fG 19 (.call (.fn 8) [pv 28,pv 8] [] []),.ret (.tup [pv 19,pv 15])]
noncomputable def Gu:dY:=⟨⟨[1,7],[],[]⟩,Eg⟩
noncomputable def uj:List PS:=[.ifS (.cmp (pv 7) [.Eq] [ci 0]) [.fail] [.ifS (.cmp (pv 7) [.Lt] [ci 0]) [.assignT [19,15] (.call (.fn 10) [.neg (pv 1),.neg (pv 7)] [] []),.ret (.tup [pv 19,.neg (pv 15)])] [.ifS (.cmp (pv 1) [.Lt] [ci 0]) [.assignT [19,15] (.call (.fn 10) [.inv (pv 1),pv 7] [] []),.ret (.tup [.inv (pv 19),.bin .Add (pv 7) (.inv (pv 15))])] [.ret (.call (.fn 9) [pv 1,pv 7] [] [])]]]]
noncomputable def EC:dY:=⟨⟨[1,7],[],[]⟩,uj⟩
noncomputable def pJ:List PS:=[.ifS (.cmp (.cstr {cps:={toList:=[34]}}) [.NotIn] [pv 31]) [.ret (pv 31)] [],fG 35 (ci 0),fG 36 .cnone,.assign 37 true (.list []),.forEsc [32,34] (pv 31) [.ifS (.cmp (pv 34) [.Eq] [.cstr {cps:={toList:=[34]}}]) [.ifS (.cmp (pv 36) [.Is] [.cnone]) [fG 36 (pv 32)] [.ifS (.cmp (pv 35) [.NotEq] [pv 36]) [.append 37 (.slice (pv 31) (some (pv 35)) (some (pv 36)))] [],fG 35 (.bin .Add (pv 32) (ci 1)),fG 36 .cnone]] []],.ifS (.cmp (pv 35) [.Lt] [.bi .len [pv 31]]) [.append 37 (.slice (pv 31) (some (pv 35)) none)] [],.ret (.join (.cstr {cps:={toList:=[]}}) (pv 37))]
noncomputable def EB:dY:=⟨⟨[31],[],[]⟩,pJ⟩
noncomputable def pI:List PS:=[fG 31 (.call (.fn 11) [pv 31] [] []),fG 38 (ci 0),.forEsc [32,34] (pv 31) [.ifS (.cmp (pv 34) [.Eq] [.cstr {cps:={toList:=[40]}}]) [.aug 38 .Add (ci 1)] [.ifS (.cmp (pv 34) [.Eq] [.cstr {cps:={toList:=[41]}}]) [.aug 38 .Sub (ci 1),.ifS (.cmp (pv 38) [.Lt] [ci 0]) [.ret (.cbool false)] []] []]],.ret (.cmp (pv 38) [.Eq] [ci 0])]
noncomputable def EA:dY:=⟨⟨[31],[],[]⟩,pI⟩
noncomputable def Iw:List PS:=[.setAttr 39 0 (pv 40),.assignT [43,44] (.tup [.cstr {cps:={toList:=[32]}},.cstr {cps:={toList:=[9]}}]),.assign 41 true (.list []),.assignM [7,8,42] (ci 0),.forS (.n 34) (.attr (pv 39) 0) [.ifS (.cmp (pv 34) [.Eq] [pv 43]) [fG 8 (.bin .Add (pv 8) (ci 1)),fG 7 (.bin .Add (pv 7) (ci 1))] [.ifS (.cmp (pv 34) [.Eq] [pv 44]) [fG 8 (.bin .Add (pv 8) (ci 1)),fG 42 (.bin .Add (pv 42) (ci 1)),.ifS (.cmp (pv 7) [.GtE] [.bi .len [pv 41]]) [.assign 41 true (.bin .Add (pv 41) (.bin .Mult (.list [ci 0]) (.bin .Add (.bin .Sub (pv 7) (.bi .len [pv 41])) (ci 1))))] [],.setItem 41 (pv 7) (.bin .Add (.sub (pv 41) (pv 7)) (ci 1)),fG 7 (ci 0)] [.brk]]],.setAttr 39 1 (pv 8),.setAttr 39 2 (pv 42),.setAttr 39 3 (.tup [.bi .tupleOf [pv 41],pv 7]),.setAttr 39 4 (.cmp (.bi .len [pv 41]) [.LtE] [ci 1])]
noncomputable def Dz:dY:=⟨⟨[39,40],[],[]⟩,Iw⟩
noncomputable def Iv:List PS:=[.assignT [41,45] (.attr (pv 39) 3),.ret (.bi .max2 [.bin .Sub (.bi .len [pv 41]) (ci 1),pv 45])]
noncomputable def Dy:dY:=⟨⟨[39],[],[]⟩,Iv⟩
noncomputable def Iu:List PS:=[.assignT [41,45] (.attr (pv 39) 3),fG 47 (ci 0),.forS (.n 48) (.range [pv 46,.bi .len [pv 41]]) [fG 47 (.bin .Add (pv 47) (.bin .Mult (.bin .FloorDiv (pv 48) (pv 46)) (.sub (pv 41) (pv 48))))],.ret (.bin .Add (pv 45) (.bin .Mult (pv 46) (.bin .Add (pv 47) (.attr (pv 39) 2))))]
noncomputable def Dx:dY:=⟨⟨[39,46],[],[]⟩,Iu⟩
noncomputable def It:List PS:=[.callS (.fn 0) 0 [ci 0] [] []]
noncomputable def Dw:dY:=⟨⟨[39,49],[],[]⟩,It⟩
noncomputable def Ir:List PS:=[.callS (.fn 0) 0 [ci 1] [] []]
noncomputable def Dv:dY:=⟨⟨[39,49],[],[]⟩,Ir⟩
noncomputable def yN:List PS:=[.ifS (.cmp (.attr (pv 39) 1) [.GtE] [.attr (pv 49) 1]) [.ret (.cbool false)] [],.ifS (.and [.attr (pv 39) 4,.attr (pv 49) 4]) [.ret (.cmp (.attr (pv 39) 2) [.LtE] [.attr (pv 49) 2])] [],fG 8 (.bin .Add (.bi .max2 [.umeth (pv 39) 14 [],.umeth (pv 49) 14 []]) (ci 1)),.forS (.n 50) (.range [ci 2,.bin .Add (pv 8) (ci 1)]) [.ifS (.cmp (.umeth (pv 39) 15 [pv 50]) [.GtE] [.umeth (pv 49) 15 [pv 50]]) [.ret (.cbool false)] []],.ret (.cbool true)]
noncomputable def xw:dY:=⟨⟨[39,49],[],[]⟩,yN⟩
noncomputable def Iq:List PS:=[.callS (.fn 0) 0 [ci 2] [] []]
noncomputable def Du:dY:=⟨⟨[39,49],[],[]⟩,Iq⟩
noncomputable def yM:List PS:=[.assign 52 true (.list [ci 43,.neg (ci 13),ci 0,ci 5137,ci 74]),fG 53 (.slice (pv 51) none (some (ci 60))),.forS (.n 48) (.range [.bi .len [pv 53]]) [.setItem 52 (.bin .Mod (pv 48) (ci 5)) (.bin .Add (.sub (pv 52) (.bin .Mod (pv 48) (ci 5))) (.ite (.cmp (.sub (pv 53) (pv 48)) [.GtE] [ci 0]) (.bin .Mod (.sub (pv 53) (pv 48)) (.bin .Pow (ci 10) (ci 6))) (.neg (.bin .Mod (.neg (.sub (pv 53) (pv 48))) (.bin .Pow (ci 10) (ci 6))))))],.ret (pv 52)]
noncomputable def xu:dY:=⟨⟨[51],[],[]⟩,yM⟩
noncomputable def yL:List PS:=[fG 55 (.cstr {cps:={toList:=[]}}),.forS (.n 56) (.range [ci 8]) [fG 57 (.or [.cmp (.count (pv 55) (.cstr {cps:={toList:=[40]}})) [.Eq] [.count (pv 55) (.cstr {cps:={toList:=[41]}})],.cmp (.bin .Mod (.bin .FloorDiv (pv 54) (.bin .Pow (ci 2) (pv 56))) (ci 2)) [.Eq] [ci 1]]),fG 55 (.bin .Add (pv 55) (.ite (.and [pv 57,.cmp (.count (pv 55) (.cstr {cps:={toList:=[40]}})) [.Lt] [ci 4]]) (.cstr {cps:={toList:=[40]}}) (.cstr {cps:={toList:=[41]}})))],.ret (pv 55)]
noncomputable def xt:dY:=⟨⟨[54],[],[]⟩,yL⟩
noncomputable def Ip:List PS:=[fG 58 (.list [.tup [.list [],.list []]]),.forS (.n 56) (.range [ci 8]) [.assign 59 true (.list []),.forS (.t [60,61]) (pv 58) [.ifS (.cmp (.sub (pv 55) (pv 56)) [.Eq] [.cstr {cps:={toList:=[40]}}]) [.append 59 (.tup [.bin .Add (pv 60) (.list [pv 56]),pv 61])] [.forS (.n 62) (pv 60) [fG 63 (.call (.fn 4) [pv 60,pv 62] [] []),.assign 64 true (.bin .Add (pv 61) (.list [])),.callS (.fn 1) 0 [pv 64,.tup [pv 62,pv 56,pv 63,.bin .Sub (.bin .Sub (.bi .len [pv 60]) (ci 1)) (pv 63)]] [5] [.lam [65] (.neg (.sub (pv 65) (ci 0))) [] {margs:={posonlyargs:=[],args:=[{arg:={cps:={toList:=[106,111,105,110]}},annotation:=none,pos:={line:=256,col:=93,endLine:=256,endCol:=97}}],vararg:=none,kwonlyargs:=[],kw_defaults:=[],kwarg:=none,defaults:=[]},mbody:=Expr.UnaryOp UnaryOp.USub (iC (aa {cps:={toList:=[106,111,105,110]}} {line:=256,col:=100,endLine:=256,endCol:=104}) (kW (pz (lR 0)) 0 {line:=256,col:=105,endLine:=256,endCol:=106}) {line:=256,col:=100,endLine:=256,endCol:=107}) {line:=256,col:=99,endLine:=256,endCol:=107},mscope:={kind:=ee,names:=[({cps:={toList:=[106,111,105,110]}},NameKind.local)],isGenerator:=false,isCoroutine:=false}}],.append 59 (.tup [.bin .Add (.slice (pv 60) none (some (pv 63))) (.slice (pv 60) (some (.bin .Add (pv 63) (ci 1))) none),pv 64])]]],fG 58 (pv 59)],.ret (.comp (.rslice (pv 61)) [(.t [60,61],pv 58,[])] [])]
noncomputable def Dt:dY:=⟨⟨[55],[],[]⟩,Ip⟩
noncomputable def Io:List PS:=[fG 66 (.list []),.forS (.n 67) (pv 53) [fG 68 (.call (.fn 4) [pv 66,pv 67] [] []),fG 66 (.bin .Add (.bin .Add (.slice (pv 66) none (some (pv 68))) (.list [pv 67])) (.slice (pv 66) (some (.bin .Add (pv 68) (ci 1))) none))],.ret (.bi .len [pv 66])]
noncomputable def Ds:dY:=⟨⟨[53],[],[]⟩,Io⟩
noncomputable def Im:List PS:=[.assign 71 true (.list []),.forS (.n 8) (.range [.bi .len [pv 69]]) [.callS (pv 70) 0 [pv 71,pv 8] [5] [.lam [0] (.sub (pv 69) (pv 0)) [69] {margs:={posonlyargs:=[],args:=[{arg:={cps:={toList:=[107]}},annotation:=none,pos:={line:=269,col:=33,endLine:=269,endCol:=34}}],vararg:=none,kwonlyargs:=[],kw_defaults:=[],kwarg:=none,defaults:=[]},mbody:=iC (aa {cps:={toList:=[107,101,121,115]}} {line:=269,col:=36,endLine:=269,endCol:=40}) (aa {cps:={toList:=[107]}} {line:=269,col:=41,endLine:=269,endCol:=42}) {line:=269,col:=36,endLine:=269,endCol:=43},mscope:={kind:=ee,names:=[({cps:={toList:=[107]}},NameKind.local),({cps:={toList:=[107,101,121,115]}},bV)],isGenerator:=false,isCoroutine:=false}}]],.ret (pv 71)]
noncomputable def Dr:dY:=⟨⟨[69,70],[],[]⟩,Im⟩
noncomputable def Ei:List PS:=[.ret (.cmp (.sub (pv 72) (ci 0)) [.Lt,.Lt,.Lt] [.sub (pv 73) (ci 0),.sub (pv 72) (ci 1),.sub (pv 73) (ci 1)])]
noncomputable def Dq:dY:=⟨⟨[72,73],[],[]⟩,Ei⟩
noncomputable def Eh:List PS:=[.ret (.and [.cmp (.sub (pv 72) (ci 0)) [.Lt] [.sub (pv 73) (ci 0)],.cmp (.sub (pv 73) (ci 1)) [.Lt] [.sub (pv 72) (ci 1)]])]
noncomputable def Dp:dY:=⟨⟨[72,73],[],[]⟩,Eh⟩
noncomputable def Il:List PS:=[fG 75 (.list [.list []]),.forS (.n 65) (pv 61) [fG 75 (.bin .Add (pv 75) (.comp (.bin .Add (pv 76) (.list [pv 65])) [(.n 76,pv 75,[.cmp (.comp (pv 49) [(.n 49,pv 76,[.not (.call (pv 74) [pv 49,pv 65] [] [])])] [65,74]) [.Eq] [.list []]])] [65,74]))],.ret (.bi .maxL [.comp (.bi .len [pv 76]) [(.n 76,pv 75,[])] []])]
noncomputable def Do:dY:=⟨⟨[61,74],[],[]⟩,Il⟩
noncomputable def rq:List PS:=[.assignT [79,80] (.tup [.list [.cstr {cps:={toList:=[]}},.cstr {cps:={toList:=[34,41,34]}},.cstr {cps:={toList:=[92,40]}},.cstr {cps:={toList:=[97]}},.cstr {cps:={toList:=[34,40,34]}},.cstr {cps:={toList:=[92,41]}},.cstr {cps:={toList:=[92,92]}},.cstr {cps:={toList:=[92,34]}}],.list [.cstr {cps:={toList:=[]}},.cstr {cps:={toList:=[34]}},.cstr {cps:={toList:=[92]}},.cstr {cps:={toList:=[34,40,41]}},.cstr {cps:={toList:=[34,41]}}]]),fG 78 (.comp (.tup [.sub (pv 61) (pv 1),.sub (pv 61) (pv 7)]) [(.n 7,.range [ci 4],[]),(.n 1,.range [pv 7],[])] [61]),.forS (.n 8) (.range [ci 6]) [.assignT [72,73] (.sub (pv 78) (pv 8)),.assignT [82,83] (.tup [.cstr {cps:={toList:=[]}},.cstr {cps:={toList:=[]}}]),.forS (.n 68) (.range [.sub (pv 72) (ci 0),ci 8]) [.ifS (.cmp (pv 68) [.LtE] [.sub (pv 72) (ci 1)]) [fG 82 (.bin .Add (pv 82) (.ite (.cmp (pv 68) [.In] [.list [.sub (pv 72) (ci 0),.sub (pv 73) (ci 0)]]) (.cstr {cps:={toList:=[40]}}) (.ite (.cmp (pv 68) [.In] [.list [.sub (pv 72) (ci 1),.sub (pv 73) (ci 1)]]) (.cstr {cps:={toList:=[41]}}) (.sub (pv 79) (.bin .Mod (.bin .Add (pv 77) (.bin .Mult (ci 5) (pv 68))) (ci 8))))))] [],fG 83 (.bin .Add (pv 83) (.ite (.cmp (pv 68) [.In] [.list [.sub (pv 72) (ci 0),.sub (pv 73) (ci 1)]]) (.cstr {cps:={toList:=[40]}}) (.ite (.cmp (pv 68) [.In] [.list [.sub (pv 72) (ci 1),.sub (pv 73) (ci 0)]]) (.cstr {cps:={toList:=[41]}}) (.cstr {cps:={toList:=[]}}))))],fG 81 (.sub (pv 80) (.bin .Mod (.bin .Add (.bin .FloorDiv (pv 77) (ci 1920)) (pv 8)) (ci 5))),.ifS (.or [.cmp (.call (.fn 12) [.bin .Add (pv 82) (pv 81)] [] []) [.IsNot] [.cmp (.call (.fn 25) [pv 72,pv 73] [] []) [.Eq] [.cmp (pv 81) [.Eq] [.cstr {cps:={toList:=[34,41]}}]]],.cmp (.call (.fn 12) [pv 83] [] []) [.IsNot] [.call (.fn 26) [pv 72,pv 73] [] []]]) [.ret (.cbool false)] []],.ret (.cbool true)]
noncomputable def xr:dY:=⟨⟨[61,77],[],[]⟩,rq⟩
noncomputable def cZ:List PS:=[fG 52 (.call (.fn 20) [pv 51] [] []),fG 55 (.call (.fn 21) [.sub (pv 52) (ci 0)] [] []),fG 58 (.call (.fn 22) [pv 55] [] []),.assignT [89,90,91] (.tup [.bin .Sub (.bin .Mod (.bin .Add (.sub (pv 52) (ci 1)) (ci 1000)) (ci 2000)) (ci 1000),.bin .Sub (ci 1) (.bin .Mult (ci 2) (.bin .Mod (.bin .FloorDiv (.sub (pv 52) (ci 3)) (ci 960)) (ci 2))),.bin .Mod (.bin .FloorDiv (.sub (pv 52) (ci 3)) (ci 16)) (ci 2)]),fG 84 (.comp (.tup [.bin .Add (pv 89) (pv 56),.bin .Add (.bin .Add (.bin .Add (pv 89) (pv 56)) (ci 5)) (.bin .Mod (.bin .Add (.sub (pv 52) (ci 2)) (pv 56)) (ci 1000))]) [(.n 56,.range [ci 8],[])] [89,52]),.assignO [92,93,94,95] [true,false,false,true] [.comp (pv 56) [(.n 56,.range [ci 7],[.cmp (.bin .Add (.sub (pv 55) (pv 56)) (.sub (pv 55) (.bin .Add (pv 56) (ci 1)))) [.Eq] [.cstr {cps:={toList:=[40,41]}}]])] [55],ci 1,ci 0,.list []],.forS (.n 56) (.comp (pv 68) [(.n 68,.range [ci 8],[.cmp (.sub (pv 55) (pv 68)) [.Eq] [.cstr {cps:={toList:=[41]}}]])] [55]) [.assignT [102,19] (.sub (pv 84) (pv 56)),fG 96 (.bin .Sub (.count (.slice (pv 55) none (some (pv 56))) (.cstr {cps:={toList:=[40]}})) (.count (.slice (pv 55) none (some (pv 56))) (.cstr {cps:={toList:=[41]}}))),fG 97 (.bin .Mult (.neg (pv 90)) (.bin .FloorDiv (.bin .Mult (.bin .Sub (pv 19) (pv 102)) (.bin .Mod (.bin .FloorDiv (.sub (pv 52) (ci 3)) (ci 96)) (ci 8))) (ci 8))),fG 98 (.call (.fn 10) [.bin .Add (.bin .Mult (pv 90) (.bin .Sub (.bin .Pow (pv 102) (pv 96)) (.bin .Pow (pv 19) (pv 96)))) (pv 97),.bin .Mult (pv 90) (.bin .Sub (pv 102) (pv 19))] [] []),.ifS (.cmp (.sub (pv 98) (ci 1)) [.NotEq] [pv 97]) [.ret (.cbool false)] [],fG 93 (.bin .Mult (pv 93) (.sub (pv 98) (ci 0)))],.forS (.n 61) (pv 58) [fG 99 (ci 1),.forS (.n 65) (pv 61) [.assignT [103,104] (.tup [.comp (pv 49) [(.n 49,pv 61,[.and [.cmp (.sub (pv 49) (ci 0)) [.Lt] [.sub (pv 65) (ci 0)],.cmp (.sub (pv 65) (ci 1)) [.Lt] [.sub (pv 49) (ci 1)]]])] [65],.comp (pv 49) [(.n 49,pv 61,[.cmp (.sub (pv 65) (ci 0)) [.Lt,.Lt,.Lt] [.sub (pv 49) (ci 0),.sub (pv 65) (ci 1),.sub (pv 49) (ci 1)]])] [65]]),.ifS (.or [.cmp (.sub (pv 65) (ci 2)) [.NotEq] [.bi .len [pv 103]],.cmp (.sub (pv 65) (ci 3)) [.NotEq] [.bi .len [pv 104]]]) [.ret (.cbool false)] [],fG 99 (.bin .Mult (.bin .Mult (pv 99) (.bin .Pow (.sub (.sub (pv 84) (.sub (pv 65) (ci 1))) (ci 0)) (.sub (pv 65) (ci 2)))) (.bin .Pow (.sub (.sub (pv 84) (.sub (pv 65) (ci 1))) (ci 1)) (.sub (pv 65) (ci 3))))],fG 94 (.bin .Add (pv 94) (pv 99)),fG 100 (.comp (.call (.fn 23) [.comp (.sub (pv 65) (ci 1)) [(.n 65,pv 61,[.cmp (.sub (pv 65) (ci 0)) [.LtE,.Lt] [pv 105,.sub (pv 65) (ci 1)]])] [105]] [] []) [(.n 105,pv 92,[])] [61]),.append 95 (.tup [.bi .maxL [pv 100],.call (.fn 23) [.comp (.neg (.sub (pv 65) (ci 1))) [(.n 65,pv 61,[])] []] [] []]),.ifS (.cmp (pv 61) [.NotEq] [.bi .sorted [pv 61]]) [.ret (.cbool false)] []],.assignT [101,83] (.tup [.bi .listOf [.range [.bi .len [pv 58]]],.comp (.tup [pv 7,pv 1]) [(.t [1,7],pv 95,[])] []]),fG 85 (.list [.call (.fn 24) [pv 95,.fn 1] [] [],.call (.fn 24) [pv 83,.fn 3] [] []]),.ifS (.or [.cmp (pv 93) [.NotEq] [pv 94],.cmp (pv 85) [.NotEq] [.list [.sortK (pv 101) (.lam [8] (.tup [.sub (pv 95) (pv 8),pv 8]) [95] {margs:={posonlyargs:=[],args:=[{arg:={cps:={toList:=[110]}},annotation:=none,pos:={line:=324,col:=7,endLine:=324,endCol:=8}}],vararg:=none,kwonlyargs:=[],kw_defaults:=[],kwarg:=none,defaults:=[]},mbody:=Expr.Tuple [iC (aa {cps:={toList:=[100,101,101,112]}} {line:=324,col:=11,endLine:=324,endCol:=15}) (aa {cps:={toList:=[110]}} {line:=324,col:=16,endLine:=324,endCol:=17}) {line:=324,col:=11,endLine:=324,endCol:=18},aa {cps:={toList:=[110]}} {line:=324,col:=20,endLine:=324,endCol:=21}] 0 {line:=324,col:=10,endLine:=324,endCol:=22},mscope:={kind:=ee,names:=[({cps:={toList:=[110]}},NameKind.local),({cps:={toList:=[100,101,101,112]}},bV)],isGenerator:=false,isCoroutine:=false}}),.sortK (pv 101) (.lam [8] (.tup [.sub (pv 83) (pv 8),.neg (pv 8)]) [83] {margs:={posonlyargs:=[],args:=[{arg:={cps:={toList:=[110]}},annotation:=none,pos:={line:=325,col:=7,endLine:=325,endCol:=8}}],vararg:=none,kwonlyargs:=[],kw_defaults:=[],kwarg:=none,defaults:=[]},mbody:=Expr.Tuple [iC (aa {cps:={toList:=[116,117,114,110,101,100]}} {line:=325,col:=11,endLine:=325,endCol:=17}) (aa {cps:={toList:=[110]}} {line:=325,col:=18,endLine:=325,endCol:=19}) {line:=325,col:=11,endLine:=325,endCol:=20},Expr.UnaryOp UnaryOp.USub (aa {cps:={toList:=[110]}} {line:=325,col:=23,endLine:=325,endCol:=24}) {line:=325,col:=22,endLine:=325,endCol:=24}] 0 {line:=325,col:=10,endLine:=325,endCol:=25},mscope:={kind:=ee,names:=[({cps:={toList:=[110]}},NameKind.local),({cps:={toList:=[116,117,114,110,101,100]}},bV)],isGenerator:=false,isCoroutine:=false}})]],.cmp (.comp (.sub (pv 95) (pv 8)) [(.n 8,.sub (pv 85) (ci 0),[])] [95]) [.NotEq] [.comp (.sub (pv 83) (pv 8)) [(.n 8,.sub (pv 85) (ci 1),[])] [83]]]) [.ret (.cbool false)] [],fG 86 (.list [.bin .Mod (.sub (pv 52) (ci 4)) (.bi .len [pv 58]),.bin .Mod (.bin .FloorDiv (.sub (pv 52) (ci 4)) (ci 24)) (.bi .len [pv 58])]),fG 87 (.comp (.sub (pv 58) (pv 8)) [(.n 8,pv 86,[])] [58]),.ifS (.cmp (.comp (.sub (pv 95) (pv 8)) [(.n 8,pv 86,[])] [95]) [.NotEq] [.comp (.tup [.call (.fn 27) [pv 61,.fn 25] [] [],.call (.fn 27) [pv 61,.fn 26] [] []]) [(.n 61,pv 87,[])] []]) [.ret (.cbool false)] [],fG 88 (.comp (.comp (.mk (.bin .Add (.bin .Add (.bin .Mult (.bin .Add (.bin .Mult (.cstr {cps:={toList:=[32]}}) (pv 91)) (.cstr {cps:={toList:=[9]}})) (.sub (pv 65) (ci 0))) (.bin .Mult (.cstr {cps:={toList:=[32]}}) (.bin .Sub (.bin .Add (.bin .Mult (ci 5) (pv 91)) (.sub (pv 65) (ci 1))) (.bin .Mult (.bin .Add (pv 91) (ci 1)) (.sub (pv 65) (ci 0)))))) (.cstr {cps:={toList:=[120,9,32]}}))) [(.n 65,pv 61,[])] [91]) [(.n 61,pv 87,[])] [91]),.forS (.n 1) (.range [ci 4]) [.forS (.n 7) (.range [ci 4]) [.ifS (.cmp (.umeth (.sub (.sub (pv 88) (ci 0)) (pv 1)) 18 [.sub (.sub (pv 88) (ci 1)) (pv 7)]) [.IsNot] [.and [.cmp (.sub (.sub (.sub (pv 87) (ci 0)) (pv 1)) (ci 0)) [.LtE] [.sub (.sub (.sub (pv 87) (ci 1)) (pv 7)) (ci 0)],.cmp (.sub (.sub (.sub (pv 87) (ci 0)) (pv 1)) (ci 1)) [.Lt] [.sub (.sub (.sub (pv 87) (ci 1)) (pv 7)) (ci 1)]]]) [.ret (.cbool false)] []]],.ret (.call (.fn 28) [.sub (pv 87) (ci 0),.sub (pv 52) (ci 3)] [] [])]
noncomputable def xq:dY:=⟨⟨[51],[],[]⟩,cZ⟩
noncomputable def bg:cY:=⟨[HC,HB,HA,Gz,Gy,Gx,Gw,Gv,Dn,Gu,EC,EB,EA,Dz,Dy,Dx,Dw,Dv,xw,Du,xu,xt,Dt,Ds,Dr,Dq,Dp,Do,xr,xq],13,39,Lg,λ_ _=>none⟩
end
section
section
variable {W:cY} {n:Nat} {st:St}
theorem oJ {x}:(ev W (n+1)).e st (.var x)=((st.get x).bind cA.get:Option VB):=rfl
theorem KH {op a b}:(ev W (n+1)).e st (.bin op a b)=(do
   let x <-(ev W n).e st a
   let y <-(ev W n).e st b
   let v <-lz op x.1 y.1
   some (cL v (x.2&&y.2)):Option VB):=rfl
theorem KE {a}:(ev W (n+1)).e st (.neg a)=(do
   let x <-(ev W n).e st a
   let i <-x.1.int?
   some (.int (-i),true):Option VB):=rfl
theorem KI {l}:(ev W (n+1)).e st (.and l)=(lx (ev W n).e true st l:Option VB):=rfl
theorem Lj {l}:(ev W (n+1)).e st (.or l)=(lx (ev W n).e false st l:Option VB):=rfl
theorem KG {a ops l}:(ev W (n+1)).e st (.cmp a ops l)=(do
   let x <-(ev W n).e st a
   let b <-iR (ev W n).e st x.1 ops l
   some (.bool b,true):Option VB):=rfl
theorem KF {c a b}:(ev W (n+1)).e st (.ite c a b)=(do
   let t <-(ev W n).t st c
   if t then(ev W n).e st a else(ev W n).e st b:Option VB):=rfl
theorem I9 {f args kns kvs}:(ev W (n+1)).e st (.call f args kns kvs)=(do
   let g <-(ev W n).e st f
   let as <-iQ (ev W n).e st args
   let ks <-iQ (ev W n).e st kvs
   (ev W n).call g.1 as kns ks:Option VB):=rfl
theorem GB {b args}:(ev W (n+1)).e st (.bi b args)=(do
   let as <-iQ (ev W n).e st args
   let v <-Ij b (fT as)
   some (cL v (fx as)):Option VB):=rfl
theorem zN {args}:(ev W (n+1)).e st (.range args)=(do
   let as <-iQ (ev W n).e st args
   let v <-xX (fT as)
   some (v,true):Option VB):=rfl
theorem Fy {o a}:(ev W (n+1)).e st (.count o a)=(do
   let x <-(ev W n).e st o
   let y <-(ev W n).e st a
   uf x.1 y.1:Option VB):=rfl
theorem I7 {o a}:(ev W (n+1)).e st (.join o a)=(do
   let x <-(ev W n).e st o
   let y <-(ev W n).e st a
   let s <-x.1.str?
   let l <-y.1.list?
   let ss <-k7 l
   if s.length=0&&cR ((ss.map je).sum)then some (.str ⟨(ss.flatMap λt=>t.cps.toList).toArray⟩,true)else none:Option VB):=rfl
theorem Fv {o k args}:(ev W (n+1)).e st (.umeth o k args)=(do
   let x <-(ev W n).e st o
   let as <-iQ (ev W n).e st args
   let _ <-x.1.inst?
   (ev W n).call (.fn k) (x::as) [] []:Option VB):=rfl
theorem KD {o i}:(ev W (n+1)).e st (.sub o i)=(do
   let x <-(ev W n).e st o
   let y <-(ev W n).e st i
   let v <-vT x.1 y.1
   some (cL v x.2):Option VB):=rfl
theorem Fw {o lo hi}:(ev W (n+1)).e st (.slice o lo hi)=(do
   let x <-(ev W n).e st o
   let a <-rQ (ev W n).e st lo
   let b <-rQ (ev W n).e st hi
   let v <-jG x.1 a b
   some (cL v x.2):Option VB):=rfl
theorem KA {l}:(ev W (n+1)).e st (.tup l)=(do
   let as <-iQ (ev W n).e st l
   if bo (fT as)&&cR as.length then some (cL (.tup (fT as)) (fx as))else none:Option VB):=rfl
theorem xx {elt gens free}:(ev W (n+1)).e st (.comp elt gens free)=(qb (ev W n) elt free st gens:Option VB):=rfl
theorem GA {f args}:(ev W (n+1)).e st (.callN f args)=(do
   let sl <-st.get f
   let as <-iQ (ev W n).e st args
   let p <-sl.nd?
   if as.length=p.1.length&&bo (fT as)then do
    let cs <-gK st p.2.2
    let q <-af (ev W n).s p.2.1 ((p.1.zip as).map (λp=>(p.1,ai p.2.1 p.2.2))++cs++ [(f,sl)])
    n9 q.1
   else none:Option VB):=rfl
theorem JO {l}:(ev W (n+1)).t st (.and l)=(lg (ev W n).t true st l:Option Bool):=rfl
theorem JM {l}:(ev W (n+1)).t st (.or l)=(lg (ev W n).t false st l:Option Bool):=rfl
theorem JN {a ops l}:(ev W (n+1)).t st (.cmp a ops l)=(do
   let x <-(ev W n).e st a
   iR (ev W n).e st x.1 ops l:Option Bool):=rfl
theorem vZ {x own e}:(ev W (n+1)).s st (.assign x own e)=(do
   let v <-(ev W n).e (freeze st (be e)) e
   if own then do
    let l <-v.1.list?
    if cj l&&freshPE e then some (.next,(freeze st (be e)).put x ⟨.own,.list l⟩)else none
   else do
    let st' <-k9 (freeze st (be e)) x v.1 v.2
    some (.next,st'):Option (f9×St)):=rfl
theorem AP {xs e}:(ev W (n+1)).s st (.assignT xs e)=(do
   let v <-(ev W n).e st e
   let l <-v.1.tup?
   let st' <-pS st xs l v.2
   some (.next,st'):Option (f9×St)):=rfl
theorem AN {x i e}:(ev W (n+1)).s st (.setItem x i e)=(do
   let v <-(ev W n).e st e
   let j <-(ev W n).e st i
   let l <-ce st x
   let j <-j.1.int?
   if(v.2||v.1.flat)&&v.1.firm&&decide (0<=j)&&decide (j<l.length)then some (.next,fw st x (l.set j.toNat v.1))else none:Option (f9×St)):=rfl
theorem CZ {x e}:(ev W (n+1)).s st (.append x e)=(do
   let l <-ce (freeze st (be e)) x
   let v <-(ev W n).e (freeze st (be e)) e
   if(v.2||v.1.flat)&&v.1.firm&&cR (l.length+1)then some (.next,fw (freeze st (be e)) x (l++ [v.1]))else none:Option (f9×St)):=rfl
theorem AO {x}:(ev W (n+1)).s st (.reverse x)=(do
   let l <-ce st x
   some (.next,fw st x l.reverse):Option (f9×St)):=rfl
theorem JS {c a b}:(ev W (n+1)).s st (.ifS c a b)=(do
   let t <-(ev W n).t st c
   if t then af (ev W n).s a st else af (ev W n).s b st:Option (f9×St)):=rfl
theorem H6 {tg it b}:(ev W (n+1)).s st (.forS tg it b)=(do
   let iv <-(ev W n).e st it
   let l <-jL it iv.1
   match kh st it.var? with
   |some p=>do
    let q <-lT (λst v=>dr st tg v iv.2) (λst=>af (ev W n).s b st) l (st.put p.1 ⟨.lent,p.2⟩)
    let sl <-q.2.get p.1
    if sl.k= .lent then some (q.1,q.2.put p.1 ⟨.own,sl.v⟩)else none
   |none=>if iv.2||(iv.1.still&&cj l)||(st.noOwn&&gu l)then lT (λst v=>dr st tg v iv.2) (λst=>af (ev W n).s b st) l st else none:Option (f9×St)):=rfl
theorem CX {xs it b}:(ev W (n+1)).s st (.forEsc xs it b)=(do
   let iv <-(ev W n).e st it
   let l <-W.escs iv.1
   lT (λst v=>dr st (.t xs) v true) (λst=>af (ev W n).s b st) l st:Option (f9×St)):=rfl
theorem G7 {e}:(ev W (n+1)).s st (.ret e)=(do
   let v <-(ev W n).e (freeze st (be e)) e
   if v.1.firm then some (.ret v.1 v.2,freeze st (be e))else none:Option (f9×St)):=rfl
theorem CY {f io args}:(ev W (n+1)).s st (.callNS f io args)=(do
   let sl <-st.get f
   let l <-ce st io
   let as <-iQ (ev W n).e st args
   let p <-sl.nd?
   if as.length=p.1.length&&bo (fT as)&&fx as&&!p.1.contains io&&p.2.2.contains io&&cj l then do
    let cs <-gK st (p.2.2.filter (·!=io))
    if cs.all λp=>p.2.v.flat then do
     let q <-af (ev W n).s p.2.1 ((p.1.zip as).map (λp=>(p.1,ai p.2.1 p.2.2))++(io,⟨.inout,.list l⟩)::cs++ [(f,sl)])
     if nq q.1 then do
      let l' <-q.2.listAt io .inout
      if cj l' then some (.next,fw st io l')else none
     else none
    else none
   else none:Option (f9×St)):=rfl
theorem JL {x:Nat}:(ev W (n+1)).t st (.var x)=((ev W n).e st (.var x)).bind λx=>lf x.1:=rfl
end
end
section
section
variable {W:cY} {n:Nat} {st st':St} {a b c:PE} {x y:VB} {v w:V} {o:f9×St}
theorem cM {op:kZ} (ha:(ev W n).e st a=some x) (hb:(ev W n).e st b=some y) (hv:lz op x.1 y.1=some v):(ev W (n+1)).e st (.bin op a b)=some (cL v (x.2&&y.2)):=by
 rw[KH,ha];show((ev W n).e st b).bind _=_;rw[hb];show(lz _ _ _).bind _=_;rw[hv];rfl
theorem gH (ha:(ev W n).e st a=some x) (hb:(ev W n).e st b=some y) (hv:vT x.1 y.1=some v):(ev W (n+1)).e st (.sub a b)=some (cL v x.2):=by
 rw[KD,ha];show((ev W n).e st b).bind _=_;rw[hb];show(vT _ _).bind _=_;rw[hv];rfl
theorem bx {z:Nat} (he:be a=[]) (ha:(ev W n).e st a=some x) (hf:(x.1.firm&&(x.2||x.1.flat))=true):(ev W (n+1)).s st (.assign z false a)=some (.next,st.put z (ai x.1 x.2)):=by
 rw[vZ,he];show((ev W n).e st a).bind _=_;rw[ha]
 show(k9 st z x.1 x.2).bind _=_
 unfold k9
 rw[ag]at hf
 rw[if_pos (by rw[hf.1,hf.2];rfl)];rfl
theorem gT {xs:List Nat} {l:List V} {f:Bool} (ha:(ev W n).e st a=some (.tup l,f)) (hp:pS st xs l f=some st'):(ev W (n+1)).s st (.assignT xs a)=some (.next,st'):=by
 rw[AP,ha];show(pS st xs l f).bind _=_;rw[hp];rfl
theorem dI {t:Bool} {p q:List PS} (ht:(ev W n).t st a=some t) (hb:af (ev W n).s (if t then p else q) st=some o):(ev W (n+1)).s st (.ifS a p q)=some o:=by
 rw[JS,ht];clear ht;cases t<;>exact hb
theorem JU {z:Nat} {l:List V} {f:Bool} (he:be a=[]) (ha:(ev W n).e st a=some (.list l,f)) (hf:cj l=true) (hp:freshPE a=true):(ev W (n+1)).s st (.assign z true a)=some (.next,st.put z ⟨.own,.list l⟩):=by
 rw[vZ,he];show((ev W n).e st a).bind _=_;rw[ha]
 show(if(cj l&&freshPE a)=true then some (f9.next,st.put z ⟨.own,.list l⟩)else none)=_
 rw[hf,hp];rfl
theorem jh (ha:(ev W n).e (freeze st (be a)) a=some x) (hf:x.1.firm=true):(ev W (n+1)).s st (.ret a)=some (.ret x.1 x.2,freeze st (be a)):=by
 rw[G7];show((ev W n).e _ a).bind _=_;rw[ha];show(if _ then _ else _)=_;rw[if_pos hf]
theorem uU {z:Nat} {t:Bool} (ha:(ev W n).e st (.var z)=some x) (ht:lf x.1=some t):(ev W (n+1)).t st (.var z)=some t:=by
 rw[JL,ha];exact ht
theorem v6 {l:List V} {f:Bool} (ha:(ev W n).e st a=some (.list l,f)) (hn:l.length<=100000):(ev W (n+1)).e st (.bi .len [a])=some (.int (l.length:Nat),true):=by
 rw[GB];show(cP (((ev W n).e st a).bind _) _)=_;rw[ha]
 show((if jK l.length then some (V.int (l.length:Nat))else none).bind _)=_
 rw[if_pos (show jK l.length=true from decide_eq_true (aV hn (by decide)))]
 exact congrArg (λt=>some (V.int (l.length:Nat),t)) (wm _)
theorem He {l:aN} {f:Bool} (ha:(ev W n).e st a=some (.str l,f)) (hn:l.length<=100000):(ev W (n+1)).e st (.bi .len [a])=some (.int (l.length:Nat),true):=by
 rw[GB];show(cP (((ev W n).e st a).bind _) _)=_;rw[ha]
 show((if jK l.length then some (V.int (l.length:Nat))else none).bind _)=_
 rw[if_pos (show jK l.length=true from decide_eq_true (aV hn (by decide)))]
 exact congrArg (λt=>some (V.int (l.length:Nat),t)) (wm _)
theorem Hf {l:List V} {f g:Bool} {ss:List aN} {j:aN} (ha:(ev W n).e st a=some (.str j,f)) (hb:(ev W n).e st b=some (.list l,g)) (hj:j.length=0) (hl:k7 l=some ss) (hn:cR (ss.map je).sum=true):(ev W (n+1)).e st (.join a b)=some (.str ⟨(ss.flatMap λt=>t.cps.toList).toArray⟩,true):=by
 rw[I7,ha];show((ev W n).e st b).bind _=_;rw[hb];show(k7 l).bind _=_;rw[hl]
 show(if(decide (j.length=0)&&cR (ss.map je).sum)=true then _ else _)=_
 rw[if_pos (by rw[hj,hn];rfl)]
theorem v7 {xs:List Nat} {body:List PS} {l:List V} (he:(ev W n).e st a=some x) (hl:W.escs x.1=some l) (h:lT (λst v=>dr st (.t xs) v true) (λst=>af (ev W n).s body st) l st=some o):(ev W (n+1)).s st (.forEsc xs a body)=some o:=by
 rw[CX,he];show(W.escs x.1).bind _=_;rw[hl];exact h
theorem xN {l:List V} (hn:l.length<=100000):lf (.list l)=some (!l.isEmpty):=by
 show(if jK l.length then some (!l.isEmpty)else none)=_
 rw[if_pos (show jK l.length=true from decide_eq_true (aV hn (by decide)))]
theorem nh (he:be a=[]) (ha:(ev W n).e st a=some x) (hf:x.1.firm=true):(ev W (n+1)).s st (.ret a)=some (.ret x.1 x.2,st):=by
 rw[G7,he];show((ev W n).e st a).bind _=_;rw[ha];show(if _ then _ else _)=_;rw[if_pos hf];rfl
theorem ae {s:St->PS->Option (f9×St)} {d:PS} {ds:List PS} (h:s st d=some (.next,st')) (k:af s ds st'=some o):af s (d::ds) st=some o:=by
 show(s st d).bind _=_;rw[h];exact k
theorem cX {s:St->PS->Option (f9×St)} {d:PS} {ds:List PS} {v:V} {f:Bool} (h:s st d=some (.ret v f,st')):af s (d::ds) st=some (.ret v f,st'):=by
 show(s st d).bind _=_;rw[h];rfl
theorem cf {s:St->PS->Option (f9×St)} {d:PS} (h:s st d=some o):af s [d] st=some o:=by
 show(s st d).bind _=_;rw[h]
 obtain⟨q,t⟩:=o
 clear h;cases q<;>rfl
theorem JW {s:St->PS->Option (f9×St)} {ds es:List PS} (h:af s ds st=some (.next,st')) (k:af s es st'=some o):af s (ds++es) st=some o:=by
 induction ds generalizing st with
 |nil=>cases h;exact k
 |cons d ds ih=>
  show(s st d).bind _=_
  have h:(s st d).bind _=_:=h
  cases e:s st d with
  |none=>rw[e]at h;cases h
  |some p=>
   obtain⟨q,t⟩:=p
   rw[e]at h
   clear e;cases q with
   |next=>exact ih h
   |brk=>cases h
   |ret _ _=>cases h
theorem AS {k:Nat} {d:dY} {args:List VB} {kns:List Nat} {kvs:List VB} {bs:List (Nat×VB)} {vb:VB} (hp:W.prim=λ_ _=>none) (hd:W.funs[k]?=some d) (ha:(args.all (·.1.okV)&&kvs.all (·.1.okV))=true) (hb:dO d.sg args kns kvs=some bs)
  (hq:af (ev W n).s d.body (bs.map λp=>(p.1,ai p.2.1 p.2.2))=some o) (hr:n9 o.1=some vb):(ev W (n+1)).call (.fn k) args kns kvs=some vb:=by
 show(if _ then wX W (ev W n) (.fn k) args kns kvs else none)=_
 rw[if_pos ha]
 unfold wX
 rw[hp]
 show(W.funs[k]?).bind _=_;rw[hd]
 show(dO d.sg args kns kvs).bind _=_;rw[hb]
 show(af _ _ _).bind _=_;rw[hq]
 exact hr
theorem m7 {k:Nat} {args:List VB} {kns:List Nat} {kvs:List VB} {body:List PS} {st0:St} {vb:VB} (h0:(ev W (n+1)).call (.fn k) args kns kvs=(af (ev W n).s body st0).bind λq=>n9 q.1) (hq:af (ev W n).s body st0=some o) (hr:n9 o.1=some vb):(ev W (n+1)).call (.fn k) args kns kvs=some vb:=by
 rw[h0,hq];exact hr
theorem f6 {f:PE} {as:List PE} {g vb:VB} {args:List VB} (hf:(ev W n).e st f=some g) (ha:iQ (ev W n).e st as=some args) (hc:(ev W n).call g.1 args [] []=some vb):(ev W (n+1)).e st (.call f as [] [])=some vb:=by
 rw[I9,hf];show(iQ (ev W n).e st as).bind _=_;rw[ha];exact hc
theorem lH:iQ (ev W n).e st []=some []:=rfl
theorem gq {as:List PE} {args:List VB} (ha:(ev W n).e st a=some x) (hs:iQ (ev W n).e st as=some args):iQ (ev W n).e st (a::as)=some (x::args):=by
 show((ev W n).e st a).bind _=_;rw[ha];show(iQ (ev W n).e st as).bind _=_;rw[hs];rfl
theorem cx {op:jp} {t:Bool} (ha:(ev W n).e st a=some x) (hb:(ev W n).e st b=some y) (hc:nU op x.1 y.1=some t):(ev W (n+1)).t st (.cmp a [op] [b])=some t:=by
 rw[JN,ha];show((ev W n).e st b).bind _=_;rw[hb];show(nU _ _ _).bind _=_;rw[hc];rfl
theorem Cb {l:List PE} {as:List VB} (ha:iQ (ev W n).e st l=some as) (hf:(bo (fT as)&&cR as.length)=true):(ev W (n+1)).e st (.tup l)=some (cL (.tup (fT as)) (fx as)):=by
 rw[KA,ha];show(if _ then _ else _)=_;rw[if_pos hf]
theorem Ga {i:Int} {f:Bool} (ha:(ev W n).e st a=some (.int i,f)):(ev W (n+1)).e st (.neg a)=some (.int (-i),true):=by rw[KE,ha];rfl
theorem tP {t:Bool} (hc:(ev W n).t st c=some t) (hb:(ev W n).e st (if t then a else b)=some x):(ev W (n+1)).e st (.ite c a b)=some x:=by
 rw[KF,hc];clear hc;cases t<;>exact hb
theorem jk {z:Nat} {l:List V} {k:SK} (h:st.get z=some ⟨k,.list l⟩) (hk:k= .own\/k= .inout) (hn:cR l.length=true):ce st z=some l:=by
 unfold ce
 rw[h]
 show(if k= .own\/k= .inout then(if cR l.length then some l else none)else none)=_
 rw[if_pos hk,if_pos hn]
theorem tO {z j:Nat} {l:List V} {f g:Bool} (hv:(ev W n).e st b=some (v,f)) (hj:(ev W n).e st a=some (.int (j:Int),g)) (hl:ce st z=some l) (hf:((f||v.flat)&&v.firm)=true) (hjl:j<l.length):(ev W (n+1)).s st (.setItem z a b)=some (.next,fw st z (l.set j v)):=by
 rw[AN,hv];show((ev W n).e st a).bind _=_;rw[hj];show(ce st z).bind _=_;rw[hl]
 show(if((f||v.flat)&&v.firm&&decide (0<=(j:Int))&&decide ((j:Int)<l.length))=true then some (f9.next,fw st z (l.set j v))else none)=_
 rw[hf,decide_eq_true (bI j),decide_eq_true (di.mpr hjl)];rfl
theorem ni {z:Nat} {l:List V} {f:Bool} (hs:freeze st (be b)=st') (hv:(ev W n).e st' b=some (v,f)) (hl:ce st' z=some l) (hf:((f||v.flat)&&v.firm)=true) (hn:cR (l.length+1)=true):(ev W (n+1)).s st (.append z b)=some (.next,fw st' z (l++ [v])):=by
 rw[CZ,hs];show(ce st' z).bind _=_;rw[hl];show((ev W n).e st' b).bind _=_;rw[hv]
 show(if((f||v.flat)&&v.firm&&cR (l.length+1))=true then some (f9.next,fw st' z (l++ [v]))else none)=_
 rw[hf,hn];rfl
theorem AR {z:Nat} {l:List V} (hl:ce st z=some l):(ev W (n+1)).s st (.reverse z)=some (.next,fw st z l.reverse):=by
 rw[AO,hl];rfl
theorem rH {f io:Nat} {args:List PE} {as:List VB} {ps:List Nat} {body:List PS} {caps:List Nat} {dd:pM} {l l':List V} {cs:St} (hs:st.get f=some ⟨.nd,.ndef ps body caps dd⟩) (hl:ce st io=some l) (ha:iQ (ev W n).e st args=some as)
  (hc1:(decide (as.length=ps.length)&&bo (fT as)&&fx as&&!ps.contains io&&caps.contains io)=true) (hfl:cj l=true) (hc:gK st (caps.filter (·!=io))=some cs) (hcf:cs.all (λp=>p.2.v.flat)=true)
  (hq:af (ev W n).s body ((ps.zip as).map (λp=>(p.1,ai p.2.1 p.2.2))++(io,⟨.inout,.list l⟩)::cs++ [(f,⟨.nd,.ndef ps body caps dd⟩)])=some o) (hr:nq o.1=true) (hla:o.2.listAt io .inout=some l') (hfl':cj l'=true):(ev W (n+1)).s st (.callNS f io args)=some (.next,fw st io l'):=by
 rw[CY,hs];show(ce st io).bind _=_;rw[hl];show(iQ (ev W n).e st args).bind _=_;rw[ha]
 show(if(decide (as.length=ps.length)&&bo (fT as)&&fx as&&!ps.contains io&&caps.contains io&&cj l)=true then _ else _)=_
 rw[if_pos (by rw[hc1,hfl];rfl)]
 show(gK st _).bind _=_;rw[hc]
 show(if _ then _ else _)=_
 rw[if_pos hcf]
 show(af _ _ _).bind _=_;rw[hq]
 show(if _ then _ else _)=_
 rw[if_pos hr]
 show(o.2.listAt io .inout).bind _=_;rw[hla]
 show(if _ then _ else _)=_
 rw[if_pos hfl']
theorem uV {f:Nat} {args:List PE} {as:List VB} {ps:List Nat} {body:List PS} {caps:List Nat} {dd:pM} {cs:St} {vb:VB} (hs:st.get f=some ⟨.nd,.ndef ps body caps dd⟩) (ha:iQ (ev W n).e st args=some as)
  (hc1:(decide (as.length=ps.length)&&bo (fT as))=true) (hc:gK st caps=some cs)
  (hq:af (ev W n).s body ((ps.zip as).map (λp=>(p.1,ai p.2.1 p.2.2))++cs++ [(f,⟨.nd,.ndef ps body caps dd⟩)])=some o) (hr:n9 o.1=some vb):(ev W (n+1)).e st (.callN f args)=some vb:=by
 rw[GA,hs];show(iQ (ev W n).e st args).bind _=_;rw[ha]
 show(if(decide (as.length=ps.length)&&bo (fT as))=true then _ else _)=_
 rw[if_pos hc1]
 show(gK st _).bind _=_;rw[hc]
 show(af _ _ _).bind _=_;rw[hq]
 exact hr
theorem qQ {lo hi:Option PE} {p q:Option V} (ho:(ev W n).e st a=some x) (hp:rQ (ev W n).e st lo=some p) (hq:rQ (ev W n).e st hi=some q) (hv:jG x.1 p q=some v):(ev W (n+1)).e st (.slice a lo hi)=some (cL v x.2):=by
 rw[Fw,ho];show(rQ (ev W n).e st lo).bind _=_;rw[hp];show(rQ (ev W n).e st hi).bind _=_;rw[hq];show(jG x.1 p q).bind _=_;rw[hv];rfl
theorem yo {op:jp} {ops:List jp} {es:List PE} {c d:Bool} (hb:(ev W n).e st b=some y) (hc:nU op v y.1=some c) (hn:(ops.isEmpty&&es.isEmpty)=false) (hr:iR (ev W n).e st y.1 ops es=some d):iR (ev W n).e st v (op::ops) (b::es)=some (c&&d):=by
 show((ev W n).e st b).bind _=_;rw[hb];show(nU op v y.1).bind _=_;rw[hc]
 show(if(ops.isEmpty&&es.isEmpty)=true then some c else if c=true then iR (ev W n).e st y.1 ops es else some false)=_
 rw[hn,hr];clear hc;cases c<;>rfl
theorem gI {op:jp} {c:Bool} (hb:(ev W n).e st b=some y) (hc:nU op v y.1=some c):iR (ev W n).e st v [op] [b]=some c:=by
 show((ev W n).e st b).bind _=_;rw[hb];show(nU op v y.1).bind _=_;rw[hc];rfl
theorem ji {ops:List jp} {l:List PE} {t:Bool} (ha:(ev W n).e st a=some x) (h:iR (ev W n).e st x.1 ops l=some t):(ev W (n+1)).e st (.cmp a ops l)=some (.bool t,true):=by
 rw[KG,ha];show(iR (ev W n).e st x.1 ops l).bind _=_;rw[h];rfl
theorem Cd {s t:Bool} (ha:(ev W n).e st a=some (.bool s,true)) (hb:(ev W n).e st b=some (.bool t,true)):(ev W (n+1)).e st (.and [a,b])=some (.bool (s&&t),true):=by
 rw[KI];show((ev W n).e st a).bind _=_;rw[ha];clear ha;cases s
 ·rfl
 ·exact hb
theorem G9 {s t:Bool} (ha:(ev W n).t st a=some s) (hb:(ev W n).t st b=some t):(ev W (n+1)).t st (.or [a,b])=some (s||t):=by
 rw[JM];show((ev W n).t st a).bind _=_;rw[ha];clear ha;cases s
 ·show((ev W n).t st b).bind _=_;rw[hb];clear hb;cases t<;>rfl
 ·rfl
theorem nf {k:Nat} {as:List PE} {args:List VB} {ks:List Nat} {vs:List V} {f:Bool} {vb:VB} (ho:(ev W n).e st a=some (.inst ks vs,f)) (ha:iQ (ev W n).e st as=some args) (hc:(ev W n).call (.fn k) ((.inst ks vs,f)::args) [] []=some vb):(ev W (n+1)).e st (.umeth a k as)=some vb:=by
 rw[Fv,ho];show(iQ (ev W n).e st as).bind _=_;rw[ha];exact hc
theorem Hd {i j:Int} {f g:Bool} (ha:(ev W n).e st a=some (.int i,f)) (hb:(ev W n).e st b=some (.int j,g)):(ev W (n+1)).e st (.bi .max2 [a,b])=some (.int (if i<j then j else i),true):=by
 rw[GB];show(cP (((ev W n).e st a).bind _) _)=_;rw[ha]
 show(cP ((cP (((ev W n).e st b).bind _) _)) _)=_;rw[hb]
 exact congrArg (λt=>some (V.int (if i<j then j else i),t)) (wm _)
theorem yp {s t:Bool} (ha:(ev W n).t st a=some s) (hb:(ev W n).t st b=some t):(ev W (n+1)).t st (.and [a,b])=some (s&&t):=by
 rw[JO];show((ev W n).t st a).bind _=_;rw[ha];clear ha;cases s
 ·rfl
 ·show((ev W n).t st b).bind _=_;rw[hb];clear hb;cases t<;>rfl
theorem Hc {s t:Bool} (ha:(ev W n).e st a=some (.bool s,true)) (hb:(ev W n).e st b=some (.bool t,true)):(ev W (n+1)).e st (.or [a,b])=some (.bool (s||t),true):=by
 rw[Lj];show((ev W n).e st a).bind _=_;rw[ha];clear ha;cases s
 ·exact hb
 ·rfl
theorem li {tg:Tg} {body:List PS} {l:List V} (he:(ev W n).e st a=some (v,true)) (hi:jL a v=some l) (ho:kh st a.var?=none) (h:lT (λst v=>dr st tg v true) (λst=>af (ev W n).s body st) l st=some o):(ev W (n+1)).s st (.forS tg a body)=some o:=by
 rw[H6,he];show(jL a v).bind _=_;rw[hi]
 show(match kh st a.var? with|some p=>_|none=>_)=_
 rw[ho];exact h
theorem mL {bind:St->V->Option St} {body:St->Option (f9×St)} {l:List V} {st1:St} (hb:bind st v=some st1) (hs:body st1=some (.next,st')) (h:lT bind body l st'=some o):lT bind body (v::l) st=some o:=by
 show(bind st v).bind _=_;rw[hb];show(body st1).bind _=_;rw[hs];exact h
theorem t7 {bind:St->V->Option St} {body:St->Option (f9×St)} {l:List V} {st1:St} {f:Bool} (hb:bind st v=some st1) (hs:body st1=some (.ret w f,st')):lT bind body (v::l) st=some (.ret w f,st'):=by
 show(bind st v).bind _=_;rw[hb];show(body st1).bind _=_;rw[hs];rfl
theorem gJ {α:Type} {bind:St->V->Option St} {body:St->Option (f9×St)} {f:α->V} (I:List α->St->Prop) (H: ∀x r st,I (x::r) st-> ∃st1 st2,bind st (f x)=some st1/\body st1=some (.next,st2)/\I r st2): ∀(l:List α) (st:St),I l st-> ∃st',lT bind body (l.map f) st=some (.next,st')/\I [] st':=by
 intro l
 induction l with
 |nil=>exact λst h=>⟨st,rfl,h⟩
 |cons x r ih=>
  intro st h
  refine obE23 (H x r st h) λst1 st2 h1 h2 h3=>?_
  refine obE12 (ih st2 h3) λst' h4 h5=>?_
  exact⟨st',mL h1 h2 h4,h5⟩
end
noncomputable abbrev sN (k:Nat):cA:=⟨.safe,.int (k:Int)⟩
noncomputable abbrev iN (k:Nat):VB:=(.int (k:Int),true)
noncomputable abbrev iI (x:Int):VB:=(.int x,true)
noncomputable abbrev sI (x:Int):cA:=⟨.safe,.int x⟩
theorem gG {x:Nat} (h:x<2^64):x<2^4096:=cT h (bF (by decide) (by decide))
theorem ll {x y:Int} (hx:x.natAbs<2^4096) (hy:y.natAbs<2^4096):lz .Mult (.int x) (.int y)=some (.int (x*y)):=by
 show(if tT x y then _ else _)=_
 rw[if_pos (by unfold tT;rw[decide_eq_true hx,decide_eq_true hy];rfl)]
theorem DA {x k:Nat} (hx:x<2^64) (hk:k<=1000000):lz .LShift (.int (x:Int)) (.int (k:Int))=some (.int ((x*2^k:Nat):Int)):=by
 show(if m9 _ _ then _ else _)=_
 rw[if_pos (by unfold m9;rw[decide_eq_true (bI k),decide_eq_true (show(k:Int)<=1000000 from dj.mpr hk),decide_eq_true (show(x:Int).natAbs<2^64 from hx)];rfl)]
 rw[sf,Int.natCast_pow];rfl
theorem Cz {x k:Nat}:lz .RShift (.int (x:Int)) (.int (k:Int))=some (.int ((x/2^k:Nat):Int)):=by
 show(if(0:Int)<=k then some (V.int ((x:Int).fdiv (2^(k:Int).toNat)))else none)=_
 rw[if_pos (bI k),my,Int.natCast_pow];rfl
theorem vh {x:Int} {k:Nat} (hx:x.natAbs<2^64) (hk:k<=1000000):lz .Pow (.int x) (.int (k:Int))=some (.int (x^k)):=by
 show(if m9 _ _ then _ else _)=_
 rw[if_pos (by unfold m9;rw[decide_eq_true (bI k),decide_eq_true (show(k:Int)<=1000000 from dj.mpr hk),decide_eq_true hx];rfl)];rfl
theorem yw {x y:Nat} (h:y<=x):lz .Sub (.int (x:Int)) (.int (y:Int))=some (.int ((x-y:Nat):Int)):=by
 rw[Int.ofNat_sub h];rfl
theorem J6 {x y:Nat} (h0:y≠0) (h:y<2^64):lz .FloorDiv (.int (x:Int)) (.int (y:Int))=some (.int ((x/y:Nat):Int)):=by
 show(if jO _ then _ else _)=_
 rw[if_pos (by unfold jO;rw[show((y:Int)==0)=false from beq_eq_false_iff_ne.mpr (λe=>h0 (gA e)),decide_eq_true (show(y:Int).natAbs<2^4096 from gG h)];rfl),my]
theorem J5 {x y:Nat} (h0:y≠0) (h:y<2^64):lz .Mod (.int (x:Int)) (.int (y:Int))=some (.int ((x%y:Nat):Int)):=by
 show(if jO _ then _ else _)=_
 rw[if_pos (by unfold jO;rw[show((y:Int)==0)=false from beq_eq_false_iff_ne.mpr (λe=>h0 (gA e)),decide_eq_true (show(y:Int).natAbs<2^4096 from gG h)];rfl),uH]
theorem F0 {j k:Nat} (h:j<k) (hk:k<=100000):ma (j:Int) k=some j:=by
 unfold ma
 rw[if_pos (by unfold jK;rw[decide_eq_true (show k<2^62 by lia),decide_eq_true (show -(k:Int)<=j by lia),decide_eq_true (show(j:Int)<k by lia)];rfl),if_pos (bI j)];rfl
theorem nu {l:List V} {j:Nat} (h:j<l.length) (hk:l.length<=100000):vT (.list l) (.int (j:Int))=l[j]?:=by
 show(ma (j:Int) l.length).bind _=_
 rw[F0 h hk];rfl
theorem oN (k n:Nat):yE (k:Int) n=min k n:=clipAt_nat n k
theorem qZ {α:Type} (l:List α) (a b:Nat):ue l (min a l.length) (min b l.length)=(l.take b).drop a:=by
 unfold ue
 rw[show l.take (min b l.length)=l.take b from by rw[List.take_eq_take_iff];lia]
 by_cases h:a<=l.length
 ·rw[Nat.min_eq_left h]
 ·rw[Nat.min_eq_right (by lia),iB (by rw[dm];lia),iB (by rw[dm];lia)]
theorem FZ {l:List Nat} {a b:Nat} (hl:l.length<=100000) (ha:a<=100000) (hb:b<=100000):jG (.str ⟨l.toArray⟩) (some (.int (a:Int))) (some (.int (b:Int)))=some (.str ⟨((l.take b).drop a).toArray⟩):=by
 show(if cR l.length then(nV 0 l.length (some (.int (a:Int)))).bind λx=>(nV l.length l.length (some (.int (b:Int)))).bind λy=>some (V.str ⟨(ue l x y).toArray⟩)else none)=_
 rw[if_pos (show cR l.length=true from decide_eq_true hl)]
 show((if(a:Int).natAbs<2^62 then some (yE a l.length)else none).bind _)=_
 rw[if_pos (by lia)]
 show((if(b:Int).natAbs<2^62 then some (yE b l.length)else none).bind _)=_
 rw[if_pos (by lia),oN,oN]
 show some (V.str ⟨(ue l (min a l.length) (min b l.length)).toArray⟩)=_
 rw[qZ]
theorem Cx {l:List Nat} {a:Nat} (hl:l.length<=100000) (ha:a<=100000):jG (.str ⟨l.toArray⟩) (some (.int (a:Int))) none=some (.str ⟨(l.drop a).toArray⟩):=by
 show(if cR l.length then(nV 0 l.length (some (.int (a:Int)))).bind λx=>some (V.str ⟨(ue l x l.length).toArray⟩)else none)=_
 rw[if_pos (show cR l.length=true from decide_eq_true hl)]
 show((if(a:Int).natAbs<2^62 then some (yE a l.length)else none).bind _)=_
 rw[if_pos (by lia),oN]
 show some (V.str ⟨(ue l (min a l.length) l.length).toArray⟩)=_
 have:=qZ l a l.length
 rw[Nat.min_self,List.take_length]at this
 rw[this]
theorem u4 {l r:List Nat} (h:l.length+r.length<=100000):lz .Add (.str ⟨l.toArray⟩) (.str ⟨r.toArray⟩)=some (.str ⟨(l++r).toArray⟩):=by
 show(if cR (l.length+r.length)then some (V.str (⟨l.toArray⟩++⟨r.toArray⟩))else none)=_
 rw[if_pos (show cR _=true from decide_eq_true h)]
 exact congrArg (λa=>some (V.str ⟨a⟩)) (List.append_toArray l r)
theorem j9 {tl:St} {x:Nat} {sl:cA}:(tl.put x sl).get x=some sl:=by
 induction tl with
 |nil=>show fH x [(x,sl)]=_;rw[aM,beq_self_eq_true]
 |cons p r ih=>
  show fH x (if p.1=x then(x,sl)::r else(p.1,p.2)::St.put r x sl)=_
  by_cases h:p.1=x
  ·rw[if_pos h,aM,beq_self_eq_true]
  ·rw[if_neg h,aM,show(x==p.1)=false from beq_eq_false_iff_ne.mpr (dE h)];exact ih
theorem v5 {W:cY} {n:Nat} {st:St} {a b:PE} {x y:Int} {f g:Bool} (ha:(ev W n).e st a=some (.int x,f)) (hb:(ev W n).e st b=some (.int y,g)) (h:y<2^62/\ -(2^62)<y/\x<2^62/\ -(2^62)<x):(ev W (n+1)).e st (.range [a,b])=some (.range x (y-x).toNat,true):=by
 rw[zN];show(cP (((ev W n).e st a).bind _) _)=_;rw[ha]
 show(cP ((cP (((ev W n).e st b).bind _) _)) _)=_;rw[hb]
 show((if y<2^62/\ -(2^62)<y/\x<2^62/\ -(2^62)<x then some (V.range x (y-x).toNat)else none).bind _)=_
 rw[if_pos h];rfl
theorem rG (n:Nat):gR (.range 0 n)=some ((ak n).map λk=> .int (k:Nat)):=congrArg (λf:Nat->V=>some ((ak n).map f)) (funext λk=>congrArg V.int (Int.zero_add _))
theorem Cc {W:cY} {n:Nat} {st:St} {a:PE} {x:Int} {f:Bool} (ha:(ev W n).e st a=some (.int x,f)) (h:x<2^62/\ -(2^62)<x):(ev W (n+1)).e st (.range [a])=some (.range 0 x.toNat,true):=by
 rw[zN];show(cP (((ev W n).e st a).bind _) _)=_;rw[ha]
 show((if x<2^62/\ -(2^62)<x then some (V.range 0 x.toNat)else none).bind _)=_
 rw[if_pos h];rfl
theorem Cw {l:List V} {b:Nat} (hl:l.length<=100000) (hb:b<=100000):jG (.list l) none (some (.int (b:Int)))=some (.list (l.take b)):=by
 show(if cR l.length then(nV l.length l.length (some (.int (b:Int)))).bind λy=>some (V.list (ue l 0 y))else none)=_
 rw[if_pos (show cR l.length=true from decide_eq_true hl)]
 show((if(b:Int).natAbs<2^62 then some (yE b l.length)else none).bind _)=_
 rw[if_pos (by lia),oN]
 have:=qZ l 0 b
 rw[Nat.zero_min]at this
 exact congrArg (λx=>some (V.list x)) this
theorem mG (k:Nat) (l:List Int):fC k (l.map V.int)=true:=by
 induction l with
 |nil=>cases k<;>rfl
 |cons x l ih=>exact ih
theorem DD {x y:Int} (h0:y≠0) (h:y.natAbs<2^64):lz .FloorDiv (.int x) (.int y)=some (.int (x.fdiv y)):=by
 show(if jO _ then _ else _)=_
 rw[if_pos (by unfold jO;rw[show(y==0)=false from beq_eq_false_iff_ne.mpr h0,decide_eq_true (gG h)];rfl)]
theorem gp {tl:St} {x y:Nat} {sl:cA} (h:y≠x):(tl.put x sl).get y=tl.get y:=by
 have hb:(y==x)=false:=beq_eq_false_iff_ne.mpr h
 induction tl with
 |nil=>show fH y [(x,sl)]=_;rw[aM,hb];rfl
 |cons p r ih=>
  obtain⟨a,b⟩:=p
  show fH y (if a=x then(x,sl)::r else(a,b)::St.put r x sl)=fH y ((a,b)::r)
  by_cases hp:a=x
  ·clear ih;subst hp
   rw[if_pos rfl,aM,aM,hb]
  ·rw[if_neg hp,aM,aM]
   cases y==a
   ·exact ih
   ·rfl
theorem Ly {tl:St} {x y:Nat} {sl s':cA} (h:y≠x) (g:tl.get y=some s'):(tl.put x sl).get y=some s':=(gp h).trans g
theorem KC {W:cY} {n:Nat} {Z tl:St} {x:Nat} {v:V} (h0:(Z++tl).get x=tl.get x) (g:tl.get x=some ⟨.safe,v⟩):(ev W (n+1)).e (Z++tl) (.var x)=some (v,true):=by
 rw[oJ,h0,g];rfl
theorem Cy {l:List Nat} {b:Nat} (hl:l.length<=100000) (hb:b<=100000):jG (.str ⟨l.toArray⟩) none (some (.int (b:Int)))=some (.str ⟨(l.take b).toArray⟩):=by
 show(if cR l.length then(nV l.length l.length (some (.int (b:Int)))).bind λy=>some (V.str ⟨(ue l 0 y).toArray⟩)else none)=_
 rw[if_pos (show cR l.length=true from decide_eq_true hl)]
 show((if(b:Int).natAbs<2^62 then some (yE b l.length)else none).bind _)=_
 rw[if_pos (by lia),oN]
 have:=qZ l 0 b
 rw[Nat.zero_min]at this
 exact congrArg (λx:List Nat=>some (V.str ⟨x.toArray⟩)) this
theorem yn {W:cY} {n:Nat} {st:St} {a b:PE} {s:List Nat} {c:Nat} {f g:Bool} (ha:(ev W n).e st a=some (.str ⟨s.toArray⟩,f)) (hb:(ev W n).e st b=some (.str ⟨#[c]⟩,g)):(ev W (n+1)).e st (.count a b)=some (.int (s.count c:Nat),true):=by
 rw[Fy,ha];show((ev W n).e st b).bind _=_;rw[hb];rfl
theorem u3 {x y:Int}:nU .Eq (.int x) (.int y)=some (decide (x=y)):=by
 rfl
theorem DC {x y:Int}:nU .Lt (.int x) (.int y)=some (decide (x<y)):=rfl
theorem DB {x y:Int}:nU .NotEq (.int x) (.int y)=some (!decide (x=y)):=by
 rfl
end
section
theorem Cn (x s:Nat):x|||(x/2^s*2^s)=x/\x&&&(x/2^s*2^s)=x/2^s*2^s:=by
 rw[<-Nat.shiftRight_eq_div_pow,<-Nat.shiftLeft_eq]
 have h: ∀i,(x>>>s<<<s).testBit i=true->x.testBit i=true:=λi=>by
  rw[Nat.testBit_shiftLeft,Nat.testBit_shiftRight]
  intro h
  rw[ag,decide_eq_true_iff]at h
  have:=h.2
  rwa [Nat.add_sub_cancel' h.1]at this
 refine⟨zk λi=>?_,zk λi=>?_⟩
 ·rw[Nat.testBit_or]
  have:=h i
  revert this
  cases(x>>>s<<<s).testBit i<;>cases x.testBit i<;>decide
 ·rw[Nat.testBit_and]
  have:=h i
  revert this
  cases(x>>>s<<<s).testBit i<;>cases x.testBit i<;>decide
theorem BG (x y:Nat):sn (x:Int) (y:Int)=((x|||y:Nat):Int):=by
 have hx: ∀z:Nat,¬(0<=eV (z:Int)):=λz=>by unfold eV;lia
 have hy: ∀z:Int,eV (eV z)=z:=λz=>by unfold eV;lia
 unfold sn lc
 rw[decide_eq_false (hx x),decide_eq_false (hx y)]
 show eV (eV _)=_
 rw[hy,hy,hy];rfl
theorem yF (x y:Nat):lc (x:Int) (y:Int)=((x&&&y:Nat):Int):=by
 unfold lc
 rw[decide_eq_true (bI x),decide_eq_true (bI y)];rfl
theorem Eo (x s:Nat):qt (x:Int) ((x/2^s*2^s:Nat):Int)=((x%2^s:Nat):Int):=by
 unfold qt
 rw[BG,yF,(Cn x s).1,(Cn x s).2]
 have:=qp x (2^s)
 lia
noncomputable def g8 (B:Nat):Nat->Nat->List Nat
 |0,_=>[]
 |k+1,x=>x%B::g8 B k (x/B)
theorem wQ (B:Nat): ∀k x,(g8 B k x).length=k:=by
 intro k
 induction k with
 |zero=>intro x;rfl
 |succ k ih=>intro x;exact congrArg (· +1) (ih _)
theorem ER (B:Nat): ∀k x,g8 B k (x%B^k)=g8 B k x:=by
 intro k
 induction k with
 |zero=>intro x;rfl
 |succ k ih=>
  intro x
  show _::_=_::_
  rw[eU,Nat.mod_mul_right_div_self,ih,Nat.mod_mul_right_mod]
theorem ES (B:Nat) (k:Nat): ∀j x,g8 B (j+k) x=g8 B j x++g8 B k (x/B^j):=by
 intro j
 induction j with
 |zero=>intro x;simp[g8]
 |succ j ih=>
  intro x
  rw[Nat.succ_add]
  show _::_=_::_
  rw[ih,eU,Nat.div_div_eq_div_mul];rfl
noncomputable def gQ (B:Nat):List Nat->Nat
 | []=>0
 |d::r=>d+B*gQ B r
theorem vM (B:Nat) (l r:List Nat):gQ B (l++r)=gQ B l+B^l.length*gQ B r:=by
 induction l with
 |nil=>simp[gQ]
 |cons d l ih=>rw[List.cons_append,gQ,ih,gQ,bJ,eU,sF,k6,dk]
theorem zw (B:Nat): ∀k x,gQ B (g8 B k x)=x%B^k:=by
 intro k
 induction k with
 |zero=>intro x;rw[Nat.pow_zero,Nat.mod_one];rfl
 |succ k ih=>
  intro x
  show x%B+B*gQ B (g8 B k (x/B))=_
  rw[ih,eU,Nat.mod_mul]
end
section
open PySem.W PyProof.Rows
theorem F8 {a b c:Nat} (h:a<=b) (e:b=c):a<=c:=e▸h
theorem Ar {a b c:Nat} (e:a=b) (h:b<=c):a<=c:=e▸h
theorem ro {t k:Nat} (h:t<2^k):jQ (t:Int)<=k:=by
 unfold jQ
 split
 ·lia
 ·rename_i h0
  have:=(sG (show t≠0 by lia)).mpr h
  rw[Br];lia
section
variable {m:Nat}
theorem d5 {t b n:Nat} (ht:t<2^64) (hb0:b≠0) (hb:b<2^64):(ev bg (m+8)).call (.fn 5) [(.int (t:Int),true),(.int (b:Int),true),(.int (n:Int),true)] [] []=some (.tup [.int ((t/b:Nat):Int),.int ((t%b:Nat):Int)],true):=by
 refine m7 (body:=HK) (st0:=[(1,⟨.safe,.int (t:Int)⟩),(7,⟨.safe,.int (b:Int)⟩),(8,⟨.safe,.int (n:Int)⟩)]) (by rfl') (o:=(.ret (.tup [.int ((t/b:Nat):Int),.int ((t%b:Nat):Int)]) true,[(1,⟨.safe,.int (t:Int)⟩),(7,⟨.safe,.int (b:Int)⟩),(8,⟨.safe,.int (n:Int)⟩)])) ?_ (by rfl')
 refine cX (dI (t:=true) (cx (x:=(.int (jQ t-n),true)) (y:=(.int 4000,true)) (by rfl') (by rfl') ?_) (cX (nh (x:=(.tup [.int ((t/b:Nat):Int),.int ((t%b:Nat):Int)],true)) rfl ?_ rfl)))
 ·show some (decide _)=_
  have:=ro ht
  rw[decide_eq_true (by lia)]
 ·show((if jO (b:Int)then some (V.tup [.int ((t:Int).fdiv b),.int ((t:Int).fmod b)])else none).bind _:Option VB)=_
  rw[if_pos (by unfold jO;rw[show((b:Int)==0)=false from beq_eq_false_iff_ne.mpr (λe=>hb0 (gA e)),decide_eq_true (show(b:Int).natAbs<2^4096 from gG hb)];rfl),my,uH];rfl
noncomputable def gj (l:List Nat):List V:=l.map λk=> .int (k:Nat)
theorem jH (l:List Nat):cj (gj l)=true:=by
 induction l with
 |nil=>rfl
 |cons x l ih=>exact ih
theorem fX (l:List Nat):(gj l).length=l.length:=aR ..
noncomputable def Ba (l:List PS) (k:Nat):List PS:=match l[k]? with|some (.defS _ _ b _ _)=>b|_=>[]
noncomputable def Gg (l:List PS) (k:Nat):pM:=match l[k]? with|some (.defS _ _ _ _ d)=>d|_=>⟨bz,⟨[],[],none,[],[],none,[]⟩,[],⟨.function,[],false,false,[]⟩⟩
noncomputable abbrev Kd:cA:=⟨.nd,.ndef [2,22,23] (Ba kL 1) [21,8] (Gg kL 1)⟩
noncomputable def S7 (x L R n:Nat) (ds:List Nat):St:=[(2,sN x),(22,sN L),(23,sN R),(21,⟨.inout,.list (gj ds)⟩),(8,sN n),(20,Kd)]
theorem Hn {k:Nat} (h:k<=100):cR k=true:=decide_eq_true (by lia)
theorem FT (l:List Nat) (j x:Nat):(gj l).set j (.int (x:Int))=gj (l.set j x):=List.map_set.symm
theorem FC {l:List Nat} {j x:Nat} (h:j<l.length):l.set j x=l.take j++ [x]++l.drop (j+1):=by
 rw[List.set_eq_take_append_cons_drop,if_pos h,eJ];rfl
theorem HJ {n x L k:Nat} {ds:List Nat} (hl:L<ds.length) (hd:ds.length<=90):
  ∃o,af (ev bg (k+10)).s (Ba kL 1) (S7 x L (L+1) n ds)=some o/\nq o.1=true/\o.2.listAt 21 .inout=some (gj (ds.take L++ [x]++ds.drop (L+1))):=by
 refine⟨(.ret .none true,fw (S7 x L (L+1) n ds) 21 ((gj ds).set L (.int (x:Int)))),?_,rfl,?_⟩
 ·refine cX (dI (t:=true) (cx (x:=iN (L+1)) (y:=iN (L+1)) (by rfl') (by rfl') (u3.trans (congrArg some (decide_eq_true rfl)))) (ae (tO (v:= .int (x:Int)) (f:=true) (g:=true) (j:=L) (by rfl') (by rfl') (jk (k:= .inout) (l:=gj ds) (by rfl') (.inr rfl) (Hn (by rw[fX];lia))) rfl (by rw[fX];exact hl)) (cX (by rfl'))))
 ·rw[<-FC hl,<-FT];rfl'
theorem D7 {L R t:Nat} (h:L<R) (hn:R≠L+1) (ht:R-L<=2*t): ∃a b,0<a/\0<b/\a<=t/\b<=t/\(L+R)/2=L+a/\R=L+a+b:=by
 obtain⟨c,rfl⟩: ∃c,R=L+c:=⟨R-L,(Nat.add_sub_of_le (jZ h)).symm⟩
 rw[bL]at ht
 have hc:=Nat.div_add_mod c 2
 generalize c/2=a at hc
 rcases Nat.mod_two_eq_zero_or_one c with e|e
 all_goals
  rw[e]at hc
  clear e
  subst hc
 ·have a0:0<a:=gm λe=>ig L (by rw[e]at h;exact h)
  have at':a<=t:=Nat.le_of_mul_le_mul_left ht (by decide)
  exact⟨a,a,a0,a0,at',at',by rw[<-dk,<-sD,Nat.add_zero,<-sF,Nat.mul_div_cancel_left _ (by decide)],by rewrite (occs:= .all) [Nat.add_zero,sD,dk];rfl⟩
 ·have a0:0<a:=gm λe=>hn (by rw[e])
  have at':a<t:=Nat.lt_of_mul_lt_mul_left ht
  exact⟨a,a+1,a0,xA a,jZ at',at',by rw[<-dk,<-sD,<-dk,<-sF,Nat.mul_add_div (by decide)];rfl,by rw[sD,dk,dk]⟩
theorem IK {n:Nat} (hn:n<=64): ∀(d x L R:Nat) (ds:List Nat),L<R->R<=ds.length->ds.length<=90->R-L<=2^d->x<2^62->x<(2^n)^(R-L)->
  ∃o,af (ev bg (m+d+10)).s (Ba kL 1) (S7 x L R n ds)=some o/\nq o.1=true/\o.2.listAt 21 .inout=some (gj (ds.take L++g8 (2^n) (R-L) x++ds.drop R)):=by
 intro d
 induction d with
 |zero=>
  intro x L R ds h1 h2 h3 h4 h5 h6
  obtain rfl:R=L+1:=s9 (xB.mp h4) h1
  rw[bL]at h6⊢
  rw[show g8 (2^n) 1 x=[x]from congrArg (λy=>[y]) (qo (by rwa [sE]at h6))]
  exact HJ h2 h3
 |succ d ih=>
  intro x L R ds h1 h2 h3 h4 h5 h6
  by_cases hR:R=L+1
  ·clear h1 h4;subst hR
   rw[bL]at h6⊢
   rw[show g8 (2^n) 1 x=[x]from congrArg (λy=>[y]) (qo (by rwa [sE]at h6))]
   exact HJ h2 h3
  ·obtain⟨a,b,a0,b0,at',bt,hM,rfl⟩:=D7 h1 hR (F8 h4 eU)
   have s0:L+a+b-L=a+b:=dk .. ▸bL ..
   have s1:L+a-L=a:=bL ..
   have s2:L+a+b-(L+a)=b:=bL ..
   rw[s0]at h6⊢
   have hLa:L+a<=ds.length:=aQ (bZ _ b) h2
   have a9:a<=90:=aQ (aQ (jC a L) hLa) h3
   generalize hsh:a*n=sh
   have hsl:sh<=100000:=hsh▸aQ (fA a9 hn) (by decide)
   have hB:(2^n)^a=2^sh:=by rw[<-zf,px,hsh]
   have hsp:x<2^sh*(2^n)^b:=by rw[<-hB,<-Nat.pow_add];exact h6
   have e0:g8 (2^n) (a+b) x=g8 (2^n) a (x%2^sh)++g8 (2^n) b (x/2^sh):=by
    rw[ES,hB,<-ER _ a x,hB]
   have l1:(ds.take L++g8 (2^n) a (x%2^sh)).length=L+a:=by rw[bO,l3 (aQ (bZ L a) hLa),wQ]
   have l2:(ds.take L++g8 (2^n) a (x%2^sh)++ds.drop (L+a)).length=ds.length:=by rw[bO,l1,et,Nat.add_sub_of_le hLa]
   have d9:=Ar l2 h3
   obtain⟨o1,p1,p2,p3⟩:=ih (x%2^sh) L (L+a) ds (hG a0) hLa h3 (Ar s1 at') (aV (Nat.mod_le ..) h5) (by rw[s1,hB];exact i0 _ (s8 _))
   obtain⟨o2,q1,q2,q3⟩:=ih (x/2^sh) (L+a) (L+a+b) (ds.take L++g8 (2^n) a (x%2^sh)++ds.drop (L+a)) (hG b0) (F8 h2 l2.symm) d9 (Ar s2 bt) (aV (se ..) h5) (by rw[s2];exact Nat.div_lt_of_lt_mul hsp)
   rw[s1]at p3
   rw[s2,List.take_left' l1,eJ (ds.take L),<-e0,List.drop_append,l1,s2,iB (Ar l1 (bZ ..)),sH,List.drop_drop]at q3
   have hx64:x/2^sh<2^64:=aV (se ..) (jY h5 (by decide))
   have y1:=ae (dI (W:=bg) (n:=m+d+10) (st:=S7 x L (L+a+b) n ds) (a:= .cmp (.bin .Add (.var 22) (.cint 1)) [.Eq] [.var 23]) (p:=[.setItem 21 (.var 22) (.var 2),.ret0]) (q:=[]) (t:=false) (cx (x:=iN (L+1)) (y:=iN (L+a+b)) (by rfl') (by rfl') (u3.trans (congrArg some (decide_eq_false λe=>hR (gA e).symm)))) rfl)
    (ae (bx (z:=6) (a:= .bin .RShift (.bin .Add (.var 22) (.var 23)) (.cint 1)) (x:=iN (L+a)) rfl (cM (x:=iN (L+(L+a+b))) (y:=iN 1) (by rfl') (by rfl') (Cz.trans (by rw[sE,hM]))) rfl)
    (ae (bx (z:=24) (a:= .bin .Mult (.bin .Sub (.var 6) (.var 22)) (.var 8)) (x:=iN sh) rfl (cM (x:=iN a) (y:=iN n) (cM (x:=iN (L+a)) (y:=iN L) (by rfl') (by rfl') ((yw (bZ ..)).trans (by rw[s1]))) (by rfl') ((ll (x:=(a:Int)) (y:=(n:Int)) (gG (aV a9 (by decide))) (gG (aV hn (by decide)))).trans (by rw[<-sf,hsh]))) rfl)
    (ae (bx (z:=25) (a:= .bin .RShift (.var 2) (.var 24)) (x:=iN (x/2^sh)) rfl (cM (x:=iN x) (y:=iN sh) (by rfl') (by rfl') Cz) rfl)
    (ae (bx (z:=26) (a:= .bin .BitXor (.var 2) (.bin .LShift (.var 25) (.var 24))) (x:=iN (x%2^sh)) rfl (cM (x:=iN x) (y:=iN (x/2^sh*2^sh)) (by rfl') (cM (x:=iN (x/2^sh)) (y:=iN sh) (by rfl') (by rfl') (DA hx64 (aQ hsl (by decide)))) (congrArg (λi=>some (V.int i)) (Eo x sh))) rfl)
    (ae (rH (f:=20) (io:=21) (ps:=[2,22,23]) (body:=Ba kL 1) (caps:=[21,8]) (dd:=Gg kL 1) (args:=[.var 26,.var 22,.var 6]) (as:=[iN (x%2^sh),iN L,iN (L+a)]) (cs:=[(8,sN n)]) (by rfl') (jk (k:= .inout) (l:=gj ds) (by rfl') (.inr rfl) (Hn (fX ds▸aQ h3 (by decide)))) (by rfl') (by rfl') (jH _) (by rfl') (by rfl') p1 p2 p3 (jH _))
    (cf (rH (f:=20) (io:=21) (ps:=[2,22,23]) (body:=Ba kL 1) (caps:=[21,8]) (dd:=Gg kL 1) (args:=[.var 25,.var 6,.var 23]) (as:=[iN (x/2^sh),iN (L+a),iN (L+a+b)]) (cs:=[(8,sN n)]) (by rfl') (jk (k:= .inout) (l:=gj (ds.take L++g8 (2^n) a (x%2^sh)++ds.drop (L+a))) (by rfl') (.inr rfl) (Hn (fX _▸aQ d9 (by decide)))) (by rfl') (by rfl') (jH _) (by rfl') (by rfl') q1 q2 q3 (jH _))))))))
   exact⟨_,y1,rfl,by rfl'⟩
noncomputable def bl (a:Nat):Nat:=if a=0 then 0 else a.log2+1
theorem Eb (a:Nat):jQ (a:Int)=(bl a:Nat):=by
 unfold jQ bl
 by_cases h:a=0
 ·rw[if_pos h,if_pos (by lia)];rfl
 ·rw[if_neg h,if_neg (by lia),Br];rfl
theorem HF (a:Nat):a<2^bl a:=by
 unfold bl
 by_cases h:a=0
 ·rw[if_pos h,h];decide
 ·rw[if_neg h];exact(sG h).mp (gF _)
theorem HG {a k:Nat} (h:a<2^k):bl a<=k:=by
 have:=ro h
 rw[Eb]at this;lia
theorem FL (k:Nat):qC [V.int 0] k=gj (bU k 0):=by
 induction k with
 |zero=>rfl
 |succ k ih=>show V.int 0::qC [V.int 0] k=_;rw[ih];rfl
theorem kq (k:Nat) (l:List Nat):fC k (gj l)=true:=by
 induction l with
 |nil=>cases k<;>rfl
 |cons x l ih=>exact ih
theorem d7 {a n:Nat} (ha:a<2^62) (h1:1<=n) (hn:n<=64): ∃D,D<=64/\a<(2^n)^D/\(ev bg (m+20)).call (.fn 7) [iN a,iN n] [] []=some (.list (gj (g8 (2^n) D a)),true):=by
 have hb:=HG ha
 have hD:(bl a+n-1)/n<=64:=Nat.div_le_of_le_mul (by lia)
 have hD2:bl a<=n*((bl a+n-1)/n):=by
  have:=Nat.div_add_mod (bl a+n-1) n
  have:=i0 (bl a+n-1) h1
  lia
 have e0:lz .FloorDiv (.int ((bl a+n-1:Nat):Int)) (.int (n:Int))=some (.int (((bl a+n-1)/n:Nat):Int)):=J6 (by lia) (by lia)
 generalize (bl a+n-1)/n=D at hD hD2 e0
 have hlt:a<(2^n)^D:=by
  rw[<-zf];exact cT (HF a) (bF (by decide) hD2)
 refine⟨D,hD,hlt,?_⟩
 have e1:(ev bg (m+18)).e [(1,sN a),(8,sN n)] (.bin .Mult (.list [.cint 0]) (.bin .FloorDiv (.bin .Sub (.bin .Add (.bitlen (.var 1)) (.var 8)) (.cint 1)) (.var 8)))=some (.list (gj (bU D 0)),true):=by
  refine cM (x:=(.list [.int 0],true)) (y:=iN D) (by rfl') (cM (x:=iN (bl a+n-1)) (y:=iN n) (cM (x:=iN (bl a+n)) (y:=iN 1) (cM (x:=iN (bl a)) (y:=iN n) ?_ (by rfl') rfl) (by rfl') (yw (by lia))) (by rfl') e0) (v:= .list (gj (bU D 0))) ?_
  ·rw[show iN (bl a)=(V.int (jQ (a:Int)),true)from by rw[Eb]];rfl'
  ·show(if(cR (1*(D:Int).toNat)&&decide ((D:Int)<=100000)&&decide ((-100000:Int)<=D))=true then some (V.list (qC [V.int 0] (D:Int).toNat))else none)=_
   rw[if_pos (by rw[decide_eq_true (show(D:Int)<=100000 by lia),decide_eq_true (show(-100000:Int)<=D by lia),show(D:Int).toNat=D from rfl,zg,Hn (by lia)];rfl),<-FL];rfl
 have e2:(ev bg (m+19)).s [(1,sN a),(8,sN n)] (.assign 21 true (.bin .Mult (.list [.cint 0]) (.bin .FloorDiv (.bin .Sub (.bin .Add (.bitlen (.var 1)) (.var 8)) (.cint 1)) (.var 8))))=some (.next,[(1,sN a),(8,sN n),(21,⟨.own,.list (gj (bU D 0))⟩)]):=JU rfl e1 (jH _) rfl
 have e3: ∃l',af (ev bg (m+19)).s (kL.drop 2) [(1,sN a),(8,sN n),(21,⟨.own,.list (gj (bU D 0))⟩),(20,Kd)]=some (.ret (.list (gj (g8 (2^n) D a))) true,l'):=by
  by_cases h0:a=0
  ·clear ha hb hD2 e0 hlt e1 e2;subst h0
   refine⟨_,ae (dI (a:= .var 1) (p:=[.callNS 20 21 [.var 1,.cint 0,.bi .len [.var 21]]]) (q:=[]) (t:=false) (uU (x:=iN 0) (by rfl') rfl) rfl) (cX (jh (a:= .var 21) (x:=(.list (gj (g8 (2^n) D 0)),true)) ?_ (kq 2 _)))⟩
   have e:g8 (2^n) D 0=bU D 0:=by
    clear hD
    induction D with
    |zero=>rfl
    |succ k ih=>show 0%_::g8 _ k (0/_)=_;rw[Nat.zero_mod,Nat.zero_div,ih];rfl
   rw[e];rfl'
  ·have h1:0<D:=by
    rcases Bm D with h|h
    ·rw[h,Nat.pow_zero]at hlt;lia
    ·exact h
   obtain⟨o,p1,p2,p3⟩:=IK (m:=m) hn 7 a 0 D (bU D 0) h1 (by rw[dw];exact bC _) (by rw[dw];lia) (by lia) ha hlt
   rw[List.take_zero,sH,la,iB (by rw[dw];exact bC _),dU]at p3
   have hq:=rH (W:=bg) (n:=m+17) (st:=[(1,sN a),(8,sN n),(21,⟨.own,.list (gj (bU D 0))⟩),(20,Kd)]) (f:=20) (io:=21) (args:=[.var 1,.cint 0,.bi .len [.var 21]]) (ps:=[2,22,23]) (body:=Ba kL 1) (caps:=[21,8]) (dd:=Gg kL 1) (as:=[iN a,iN 0,iN D]) (cs:=[(8,sN n)]) (l:=gj (bU D 0)) (by rfl') (jk (k:= .own) (by rfl') (.inl rfl) (Hn (by rw[fX,dw];lia))) ?_ (by rfl') (jH _) (by rfl') (by rfl') p1 p2 p3 (jH _)
   ·exact⟨_,ae (dI (a:= .var 1) (p:=[.callNS 20 21 [.var 1,.cint 0,.bi .len [.var 21]]]) (q:=[]) (t:=true) (uU (x:=iN a) (by rfl') (congrArg some (bne_iff_ne.mpr (by lia)))) (cf hq)) (cX (jh (a:= .var 21) (x:=(.list (gj (g8 (2^n) D a)),true)) (by rfl') (kq 2 _)))⟩
   ·refine gq (by rfl') (gq (by rfl') (gq ((v6 (l:=gj (bU D 0)) (f:=false) (by rfl') (by rw[fX,dw];lia)).trans (by rw[fX,dw])) lH))
 obtain⟨l',e3⟩:=e3
 refine m7 (body:=kL) (st0:=[(1,sN a),(8,sN n)]) (by rfl') (o:=(.ret (.list (gj (g8 (2^n) D a))) true,l')) (ae e2 (ae (st':=[(1,sN a),(8,sN n),(21,⟨.own,.list (gj (bU D 0))⟩),(20,Kd)]) (by rfl') e3)) rfl
noncomputable def uS (ds:List Nat) (L R:Nat):List Nat:=(ds.drop L).take (R-L)
theorem FF {ds:List Nat} {L a b:Nat}:uS ds L (L+a+b)=uS ds L (L+a)++uS ds (L+a) (L+a+b):=by
 unfold uS
 rw[dk,bL,bL,<-dk,bL,List.take_add,List.drop_drop]
theorem FE {ds:List Nat} {L R:Nat} (h:R<=ds.length):(uS ds L R).length=R-L:=l3 (F8 (Nat.sub_le_sub_right h L) (et ..).symm)
noncomputable abbrev LI:cA:=⟨.nd,.ndef [22,23] (Ba lM 0) [27,8] (Gg lM 0)⟩
noncomputable def S8 (L R n:Nat) (ds:List Nat):St:=[(22,sN L),(23,sN R),(27,⟨.loose,.list (gj ds)⟩),(8,sN n),(20,LI)]
theorem HI {n L k:Nat} {ds:List Nat} (hl:L<ds.length) (hd:ds.length<=90):
  ∃st',af (ev bg (k+10)).s (Ba lM 0) (S8 L (L+1) n ds)=some (.ret (.int ((gQ (2^n) (uS ds L (L+1)):Nat):Int)) true,st'):=by
 have e:uS ds L (L+1)=[ds[L]]:=by
  unfold uS;rw[show L+1-L=1 by lia,eF hl];rfl
 have ev:gQ (2^n) [ds[L]]=ds[L]:=by show ds[L]+2^n*0=_;lia
 rw[e,ev]
 refine⟨_,cX (dI (t:=true) (cx (x:=iN (L+1)) (y:=iN (L+1)) (by rfl') (by rfl') (u3.trans (congrArg some (decide_eq_true rfl)))) (cX (nh (x:=iN ds[L]) rfl (gH (x:=(.list (gj ds),false)) (y:=iN L) (by rfl') (by rfl') ((nu (by rw[fX];exact hl) (by rw[fX];lia)).trans ?_)) rfl)))⟩
 unfold gj;rw[bH,aW hl];rfl
theorem IJ {n:Nat} (hn:n<=64) {ds:List Nat} (hd:ds.length<=90): ∀(d F L R:Nat),4*d+12<=F->L<R->R<=ds.length->R-L<=2^d->gQ (2^n) (uS ds L R)<2^62->
  ∃st',af (ev bg F).s (Ba lM 0) (S8 L R n ds)=some (.ret (.int ((gQ (2^n) (uS ds L R):Nat):Int)) true,st'):=by
 intro d
 induction d with
 |zero=>
  intro F L R h0 h1 h2 h4 h5
  obtain⟨k,rfl⟩: ∃k,F=k+10:=⟨F-10,(Bl (aQ (by decide) h0)).symm⟩
  clear h5;obtain rfl:R=L+1:=s9 (xB.mp h4) h1
  exact HI h2 hd
 |succ d ih=>
  intro F L R h0 h1 h2 h4 h5
  obtain⟨k,rfl⟩: ∃k,F=k+12:=⟨F-12,(Bl (aQ (jC 12 _) h0)).symm⟩
  have hk:4*d+12<=k+8:=Nat.add_le_add_right (Nat.le_of_add_le_add_right h0:4*d+4<=k) 8
  by_cases hR:R=L+1
  ·clear h1 h4 h5;subst hR
   exact HI (k:=k+2) h2 hd
  ·obtain⟨a,b,a0,b0,at',bt,hM,rfl⟩:=D7 h1 hR (F8 h4 eU)
   have s1:L+a-L=a:=bL ..
   have s2:L+a+b-(L+a)=b:=bL ..
   have hLa:L+a<=ds.length:=aQ (bZ _ b) h2
   have a9:a<=90:=aQ (aQ (jC a L) hLa) hd
   generalize hsh:a*n=sh
   have hsl:sh<=100000:=hsh▸aQ (fA a9 hn) (by decide)
   have hv:gQ (2^n) (uS ds L (L+a+b))=gQ (2^n) (uS ds (L+a) (L+a+b))*2^sh+gQ (2^n) (uS ds L (L+a)):=by
    rw[FF,vM,FE hLa,s1,<-zf,px n,hsh,px,Nat.add_comm]
   rw[hv]at h5⊢
   have b1:gQ (2^n) (uS ds (L+a) (L+a+b))<2^62:=aV (aQ (lQ _ (s8 sh)) (bZ ..)) h5
   have b2:gQ (2^n) (uS ds L (L+a))<2^62:=aV (jC ..) h5
   obtain⟨s1',p1⟩:=ih (k+8) (L+a) (L+a+b) hk (hG b0) h2 (Ar s2 bt) b1
   obtain⟨s2',p2⟩:=ih (k+9) L (L+a) (py hk) (hG a0) hLa (Ar s1 at') b2
   generalize gQ (2^n) (uS ds (L+a) (L+a+b))=u at*
   generalize gQ (2^n) (uS ds L (L+a))=v at*
   have y1:=ae (dI (W:=bg) (n:=k+11) (st:=S8 L (L+a+b) n ds) (a:= .cmp (.bin .Add (.var 22) (.cint 1)) [.Eq] [.var 23]) (p:=[.ret (.sub (.var 27) (.var 22))]) (q:=[]) (t:=false) (cx (x:=iN (L+1)) (y:=iN (L+a+b)) (by rfl') (by rfl') (u3.trans (congrArg some (decide_eq_false λe=>hR (gA e).symm)))) rfl)
    (ae (bx (z:=6) (a:= .bin .RShift (.bin .Add (.var 22) (.var 23)) (.cint 1)) (x:=iN (L+a)) rfl (cM (x:=iN (L+(L+a+b))) (y:=iN 1) (by rfl') (by rfl') (Cz.trans (by rw[sE,hM]))) rfl)
    (ae (bx (z:=24) (a:= .bin .Mult (.bin .Sub (.var 6) (.var 22)) (.var 8)) (x:=iN sh) rfl (cM (x:=iN a) (y:=iN n) (cM (x:=iN (L+a)) (y:=iN L) (by rfl') (by rfl') ((yw (bZ ..)).trans (by rw[s1]))) (by rfl') ((ll (x:=(a:Int)) (y:=(n:Int)) (gG (aV a9 (by decide))) (gG (aV hn (by decide)))).trans (by rw[<-sf,hsh]))) rfl)
    (cX (ds:=[]) (nh (a:= .bin .Add (.bin .LShift (.callN 20 [.var 6,.var 23]) (.var 24)) (.callN 20 [.var 22,.var 6])) (x:=iN (u*2^sh+v)) rfl (cM (x:=iN (u*2^sh)) (y:=iN v) (cM (x:=iN u) (y:=iN sh) (uV (f:=20) (ps:=[22,23]) (body:=Ba lM 0) (caps:=[27,8]) (dd:=Gg lM 0) (as:=[iN (L+a),iN (L+a+b)]) (cs:=[(27,⟨.loose,.list (gj ds)⟩),(8,sN n)]) (by rfl') (by rfl') (by rfl') (by rfl') p1 (by rfl')) (by rfl') (DA (jY b1 (by decide)) (aQ hsl (by decide))))
     (uV (f:=20) (ps:=[22,23]) (body:=Ba lM 0) (caps:=[27,8]) (dd:=Gg lM 0) (as:=[iN L,iN (L+a)]) (cs:=[(27,⟨.loose,.list (gj ds)⟩),(8,sN n)]) (by rfl') (by rfl') (by rfl') (by rfl') p2 (by rfl')) rfl) rfl))))
   exact⟨_,y1⟩
theorem d8 {n:Nat} (hn:n<=64) {ds:List Nat} (hd:ds.length<=64) (hv:gQ (2^n) ds<2^62):(ev bg (m+42)).call (.fn 8) [(.list (gj ds),false),iN n] [] []=some (.int ((gQ (2^n) ds:Nat):Int),true):=by
 have e3: ∃l',af (ev bg (m+41)).s (lM.drop 1) [(27,⟨.loose,.list (gj ds)⟩),(8,sN n),(20,LI)]=some (.ret (.int ((gQ (2^n) ds:Nat):Int)) true,l'):=by
  refine⟨_,cX (nh (x:=iN (gQ (2^n) ds)) rfl (tP (t:=!(gj ds).isEmpty) (uU (x:=(.list (gj ds),false)) (by rfl') (xN (by rw[fX];lia))) ?_) rfl)⟩
  cases ds with
  |nil=>rfl'
  |cons d r=>
   have e:uS (d::r) 0 (d::r).length=d::r:=by unfold uS;rw[List.drop_zero,la,List.take_length]
   obtain⟨s1,p1⟩:=IJ hn (ds:=d::r) (by lia) 6 (m+38) 0 (d::r).length (by lia) (Nat.zero_lt_succ _) (bC _) (by lia) (by rw[e];exact hv)
   rw[e]at p1
   exact uV (f:=20) (args:=[.cint 0,.bi .len [.var 27]]) (ps:=[22,23]) (body:=Ba lM 0) (caps:=[27,8]) (dd:=Gg lM 0) (as:=[iN 0,iN (d::r).length]) (cs:=[(27,⟨.loose,.list (gj (d::r))⟩),(8,sN n)]) (by rfl')
    (gq (by rfl') (gq ((v6 (l:=gj (d::r)) (f:=false) (by rfl') (by rw[fX];lia)).trans (by rw[fX])) lH)) (by rfl') (by rfl') p1 (by rfl')
 obtain⟨l',e3⟩:=e3
 exact AS (d:=Dn) (bs:=[(27,(.list (gj ds),false)),(8,iN n)]) (by rfl') (by rfl') (by show(fC 2 (gj ds)&&true&&true)=true;rw[kq];rfl) (by rfl') (o:=(.ret (.int ((gQ (2^n) ds:Nat):Int)) true,l')) (ae (st':=[(27,⟨.loose,.list (gj ds)⟩),(8,sN n),(20,LI)]) (by rfl') e3) rfl
noncomputable def Ik (B:Nat) (l:List Nat):Nat:=gQ B l.reverse
theorem w6 (B d:Nat) (l:List Nat):Ik B (l++ [d])=d+B*Ik B l:=by
 unfold Ik;rw[List.reverse_append];rfl
theorem GC {B:Nat} (hB:0<B): ∀k x,∀d∈g8 B k x,d<B:=by
 intro k
 induction k with
 |zero=>intro x d h;cases h
 |succ k ih=>
  intro x d h
  rcases aO.mp h with rfl|h
  ·exact i0 _ hB
  ·exact ih _ _ h
theorem yr (l:List Nat):(gj l).reverse=gj l.reverse:=dG.symm
theorem Cp (l:List Nat) (d:Nat):gj l++ [.int (d:Int)]=gj (l++ [d]):=by unfold gj;rw[fV];rfl
noncomputable def S9 (a b n r:Nat) (ds qs:List Nat):St:=[(1,sN a),(7,sN b),(8,sN n),(21,⟨.safe,.list (gj ds)⟩),(15,sN r),(28,⟨.own,.list (gj qs)⟩)]
theorem d9 {a b:Nat} (ha:a<2^62) (hb0:b≠0) (hb:b<2^16):(ev bg (m+50)).call (.fn 9) [iN a,iN b] [] []=some (.tup [.int ((a/b:Nat):Int),.int ((a%b:Nat):Int)],true):=by
 have hn:=HG hb
 have hn1:1<=bl b:=by unfold bl;rw[if_neg hb0];lia
 have hbB:=HF b
 have eb:iN (bl b)=(V.int (jQ (b:Int)),true):=by rw[Eb]
 obtain⟨D,hD,haD,hc7⟩:=d7 (m:=m+27) ha hn1 (by lia:bl b<=64)
 have hB16:2^bl b<=2^16:=bF (by decide) hn
 have hval:gQ (2^bl b) (g8 (2^bl b) D a)=a:=(zw _ D a).trans (qo haD)
 have hlt:=GC (s8 (bl b)) D a
 have hlen:=wQ (2^bl b) D a
 have e1:(ev bg (m+49)).s [(1,sN a),(7,sN b)] (.assign 8 false (.bitlen (.var 7)))=some (.next,[(1,sN a),(7,sN b),(8,sN (bl b))]):=bx (x:=iN (bl b)) rfl (by rw[eb];rfl') rfl
 generalize bl b=n at*
 generalize g8 (2^n) D a=ds at*
 have e3:=gJ (bind:=λst v=>dr st (.n 29) v true) (body:=λst=>af (ev bg (m+48)).s [.assignT [30,15] (.call (.fn 5) [.bin .Add (.bin .LShift (.var 15) (.var 8)) (.var 29),.var 7,.var 8] [] []),.append 28 (.var 30)] st) (f:=λk:Nat=>V.int (k:Int))
  (λrest st=> ∃dn qs r tl,ds.reverse=dn++rest/\r<b/\Ik (2^n) qs*b+r=Ik (2^n) dn/\qs.length=dn.length/\st=S9 a b n r ds qs++tl/\(tl=[]\/ ∃x y,tl=[(29,sN x),(30,sN y)])) ?_ ds.reverse (S9 a b n 0 ds []) ⟨[],[],0,[],rfl,gm hb0,by simp[Ik,gQ],rfl,rfl,.inl rfl⟩
 ·obtain⟨st',h1,dn,qs,r,tl,h2,h3,h4,h5,h6,h7⟩:=e3
  rw[dU]at h2
  rw[<-h2]at h4 h5
  rw[jD,hlen]at h5
  have h4:gQ (2^n) qs.reverse*b+r=a:=h4.trans (by unfold Ik;rw[yb,hval])
  have hq:gQ (2^n) qs.reverse=a/b:=by
   refine(Nat.div_eq_of_lt_le ?_ ?_).symm
   ·lia
   ·rw[zm,zg];lia
  have hr:r=a%b:=by
   have:=qp a b
   rw[<-hq]at this;lia
  have hv:gQ (2^n) qs.reverse<2^62:=by rw[hq];exact aV (se ..) ha
  have hc8:=d8 (m:=m+5) (by lia:n<=64) (ds:=qs.reverse) (by rw[jD,h5];exact hD) hv
  rw[hq]at hc8
  have e2:=li (W:=bg) (n:=m+48) (st:=S9 a b n 0 ds []) (tg:= .n 29) (a:= .rev (.var 21)) (v:= .rev (gj ds)) (l:=gj ds.reverse)
   (by rfl') (by show(if bo (gj ds)then some (gj ds).reverse else none)=_;rw[if_pos (kq 2 _),yr]) rfl h1
  have e4: ∃s',af (ev bg (m+49)).s (Eg.drop 5) st'=some (.ret (.tup [.int ((a/b:Nat):Int),.int ((a%b:Nat):Int)]) true,s'):=by
   clear h3 h4;clear h4;subst hr
   have hl: ∀tl,ce (S9 a b n (a%b) ds qs++tl) 28=some (gj qs):=λtl=>jk (k:= .own) (by rfl') (.inl rfl) (Hn (by rw[fX];lia))
   rcases h7 with h7|⟨x,y,h7⟩<;>subst h6<;>(clear h1 e2;subst h7)
   all_goals exact⟨_,ae (AR (hl _)) (ae (bx (z:=19) (a:= .call (.fn 8) [.var 28,.var 8] [] []) (x:=iN (a/b)) rfl (f6 (g:=(.fn 8,true)) (args:=[(.list (gj qs.reverse),false),iN n]) (by rfl') (by rw[<-yr];rfl') hc8) rfl) (cX (ds:=[]) (jh (a:= .tup [.var 19,.var 15]) (x:=(.tup [.int ((a/b:Nat):Int),.int ((a%b:Nat):Int)],true)) (by rfl') rfl)))⟩
  obtain⟨s',e4⟩:=e4
  exact m7 (body:=Eg) (st0:=[(1,sN a),(7,sN b)]) (by rfl') (ae e1 (ae (bx (z:=21) (a:= .call (.fn 7) [.var 1,.var 8] [] []) (x:=(.list (gj ds),true)) rfl (f6 (g:=(.fn 7,true)) (args:=[iN a,iN n]) (by rfl') (by rfl') hc7) (by show(fC 2 (gj ds)&&true)=true;rw[kq];rfl)) (ae (st':=[(1,sN a),(7,sN b),(8,sN n),(21,⟨.safe,.list (gj ds)⟩),(15,sN 0)]) (by rfl') (ae (st':=S9 a b n 0 ds []) (by rfl') (ae e2 e4))))) (by rfl')
 ·rintro d rest st ⟨dn,qs,r,tl,h2,h3,h4,h5,h6,h7⟩
  have hd:d<2^n:=hlt d (ef.mp (by rw[h2];exact cJ.mpr (.inr (.head _))))
  have ht:r*2^n+d<2^64:=by
   have:r*2^n<=2^16*2^16:=fA (by lia) hB16
   lia
  have hc5:=d5 (m:=m+38) (n:=n) ht hb0 (by lia:b<2^64)
  have hqs:cR ((gj qs).length+1)=true:=Hn (by
   rw[fX,h5]
   have:=congrArg jt h2
   rw[jD,hlen,bO,bJ]at this
   lia)
  have hv: ∀tl,ce (S9 a b n ((r*2^n+d)%b) ds qs++tl) 28=some (gj qs):=λtl=>jk (k:= .own) (by rfl') (.inl rfl) (decide_eq_true (by have:=of_decide_eq_true hqs;lia))
  refine⟨(S9 a b n r ds qs++tl).put 29 (sN d),S9 a b n ((r*2^n+d)%b) ds (qs++ [(r*2^n+d)/b])++ [(29,sN d),(30,sN ((r*2^n+d)/b))],?_,?_,dn++ [d],qs++ [(r*2^n+d)/b],(r*2^n+d)%b,[(29,sN d),(30,sN ((r*2^n+d)/b))],by rw[h2,eJ];rfl,i0 _ (gm hb0),?_,by rw[bO,bO,h5];rfl,rfl,.inr ⟨_,_,rfl⟩⟩
  ·subst h6;rcases h7 with h7|⟨x,y,h7⟩<;>subst h7<;>rfl'
  ·subst h6
   rcases h7 with h7|⟨x,y,h7⟩<;>subst h7
   all_goals
    exact ae (gT (a:= .call (.fn 5) [.bin .Add (.bin .LShift (.var 15) (.var 8)) (.var 29),.var 7,.var 8] [] []) (l:=[.int (((r*2^n+d)/b:Nat):Int),.int (((r*2^n+d)%b:Nat):Int)]) (f:=true) (st':=S9 a b n ((r*2^n+d)%b) ds qs++ [(29,sN d),(30,sN ((r*2^n+d)/b))])
     (f6 (g:=(.fn 5,true)) (args:=[iN (r*2^n+d),iN b,iN n]) (by rfl') (gq (cM (x:=iN (r*2^n)) (y:=iN d) (cM (x:=iN r) (y:=iN n) (by rfl') (by rfl') (DA (by lia) (by lia))) (by rfl') rfl) (by rfl')) hc5) (by rfl'))
     (cf ((ni (b:= .var 30) (v:= .int (((r*2^n+d)/b:Nat):Int)) (f:=true) (st':=S9 a b n ((r*2^n+d)%b) ds qs++ [(29,sN d),(30,sN ((r*2^n+d)/b))]) (by rfl') (by rfl') (hv _) rfl hqs).trans (by rw[Cp];rfl')))
  ·rw[w6,w6,zm,<-h4]
   have:=qp (r*2^n+d) b
   generalize (r*2^n+d)/b=q at*
   generalize (r*2^n+d)%b=r' at*
   rw[sF,k6,px (2^n) r];lia
noncomputable abbrev qr (a b:Int):V:= .tup [.int (a.fdiv b),.int (a.fmod b)]
noncomputable def K7 (a b:Int):St:=[(1,sI a),(7,sI b)]
theorem KM {x y:Nat} (ha:x<2^62) (hb0:y≠0) (hb:y<2^16):(ev bg (m+58)).call (.fn 10) [iI x,iI y] [] []=some (qr x y,true):=by
 have h:=d9 (m:=m+2) ha hb0 hb
 rw[show qr (x:Int) (y:Int)= .tup [.int ((x/y:Nat):Int),.int ((x%y:Nat):Int)]from by rw[my,uH]]
 exact m7 (body:=uj) (st0:=K7 x y) (by rfl') (cf (dI (t:=false) (cx (x:=iI y) (y:=iN 0) (by rfl') (by rfl') (u3.trans (congrArg some (decide_eq_false λe=>hb0 (gA e)))))
  (cf (dI (t:=false) (cx (x:=iI y) (y:=iN 0) (by rfl') (by rfl') (DC.trans (congrArg some (decide_eq_false (o6.mpr (bI _))))))
  (cf (dI (t:=false) (cx (x:=iI x) (y:=iN 0) (by rfl') (by rfl') (DC.trans (congrArg some (decide_eq_false (o6.mpr (bI _))))))
  (cf (nh (a:= .call (.fn 9) [.var 1,.var 7] [] []) (x:=(.tup [.int ((x/y:Nat):Int),.int ((x%y:Nat):Int)],true)) rfl (f6 (g:=(.fn 9,true)) (args:=[iN x,iN y]) (by rfl') (by rfl') h) rfl)))))))) rfl
theorem M8 {y r q k:Int} (h:r+y*q=k):y+(-r-1)+y*(-q-1)= -k-1:=by
 rw[Int.mul_sub,Int.mul_neg,zp,<-h]
 generalize y*q=z
 lia
theorem MD {y r:Int} (h0:0<=r) (h1:r<y):0<=y+(-r-1)/\y+(-r-1)<y:=by constructor<;>lia
theorem KL {x:Int} {y:Nat} (ha:x.natAbs<2^61) (hb0:y≠0) (hb:y<2^16):(ev bg (m+64)).call (.fn 10) [iI x,iI y] [] []=some (qr x y,true):=by
 cases x with
 |ofNat k=>exact KM (m:=m+6) (jY ha (by decide)) hb0 hb
 |negSucc k=>
  have hk: -(mz k)-1=k:=Int.add_sub_cancel (k:Int) 1
  have hx:mz k= -(k:Int)-1:=(Int.negSucc_eq k).trans Int.neg_add
  generalize hX:mz k=x at hk hx
  have hx0:x<0:=hX▸n4 k
  have h:=KM (m:=m) (x:=k) (jY (Nat.lt_of_succ_lt ha) (by decide)) hb0 hb
  have hy:(0:Int)<y:=di.mpr (gm hb0)
  have e:x.fdiv y= -((k:Int).fdiv y)-1/\x.fmod y=y+(-((k:Int).fmod y)-1):=by
   have q:=(nB (a:=(k:Int)) hy).mp ⟨rfl,rfl⟩
   exact(nB hy).mpr ⟨(M8 q.1).trans hx.symm,(MD q.2.1 q.2.2).1,(MD q.2.1 q.2.2).2⟩
  rw[show qr x y= .tup [.int (-((k:Int).fdiv y)-1),.int (y+(-((k:Int).fmod y)-1))]from by unfold qr;rw[e.1,e.2]]
  exact m7 (body:=uj) (st0:=K7 x y) (by rfl') (cf (dI (t:=false) (cx (x:=iI y) (y:=iN 0) (by rfl') (by rfl') (u3.trans (congrArg some (decide_eq_false λe=>hb0 (gA e)))))
   (cf (dI (t:=false) (cx (x:=iI y) (y:=iN 0) (by rfl') (by rfl') (DC.trans (congrArg some (decide_eq_false (o6.mpr (bI _))))))
   (cf (dI (t:=true) (cx (x:=iI x) (y:=iN 0) (by rfl') (by rfl') (DC.trans (congrArg some (decide_eq_true hx0))))
   (ae (gT (xs:=[19,15]) (a:= .call (.fn 10) [.inv (.var 1),.var 7] [] []) (st':=K7 x y++ [(19,sI ((k:Int).fdiv y)),(15,sI ((k:Int).fmod y))]) (f6 (g:=(.fn 10,true)) (args:=[iI k,iI y]) (by rfl') (by rw[<-hk];rfl') h) (by rfl'))
    (cX (ds:=[]) (nh (a:= .tup [.inv (.var 19),.bin .Add (.var 7) (.inv (.var 15))]) (x:=(.tup [.int (-((k:Int).fdiv y)-1),.int (y+(-((k:Int).fmod y)-1))],true)) rfl (by rfl') rfl))))))))) rfl
theorem Mh {x y:Int} (ha:x.natAbs<2^61) (hb0:y≠0) (hb:y.natAbs<2^16):(ev bg (m+70)).call (.fn 10) [iI x,iI y] [] []=some (qr x y,true):=by
 cases y with
 |ofNat k=>exact KL (m:=m+6) ha (λe=>hb0 (congrArg lR e)) hb
 |negSucc k=>
  have hk: -(mz k)=((k+1:Nat):Int):=rfl
  have hy0:=n4 k
  have h:=KL (m:=m+1) (x:= -x) (y:=k+1) (nA x▸ha) (Nat.succ_ne_zero k) hb
  generalize mz k=y at hk hb0 hy0⊢
  generalize k+1=k at hk h
  have e:x.fdiv y=(-x).fdiv k/\x.fmod y= -((-x).fmod k):=by
   rw[<-hk]
   exact⟨(Int.neg_fdiv_neg x y).symm,by rw[Int.neg_fmod_neg,zo]⟩
  rw[show qr x y= .tup [.int ((-x).fdiv k),.int (-((-x).fmod k))]from by unfold qr;rw[e.1,e.2]]
  exact m7 (body:=uj) (st0:=K7 x y) (by rfl') (cf (dI (t:=false) (cx (x:=iI y) (y:=iN 0) (by rfl') (by rfl') (u3.trans (congrArg some (decide_eq_false hb0))))
   (cf (dI (t:=true) (cx (x:=iI y) (y:=iN 0) (by rfl') (by rfl') (DC.trans (congrArg some (decide_eq_true hy0))))
   (ae (gT (xs:=[19,15]) (a:= .call (.fn 10) [.neg (.var 1),.neg (.var 7)] [] []) (st':=K7 x y++ [(19,sI ((-x).fdiv k)),(15,sI ((-x).fmod k))]) (f6 (g:=(.fn 10,true)) (args:=[iI (-x),iI k]) (by rfl') (by rw[<-hk];rfl') h) (by rfl'))
    (cX (ds:=[]) (jh (a:= .tup [.var 19,.neg (.var 15)]) (x:=(.tup [.int ((-x).fdiv k),.int (-((-x).fmod k))],true)) (by rfl') rfl))))))) rfl
end
end
section
open PySem.W PyProof.Rows
noncomputable abbrev sV (l:List Nat):V:= .str ⟨l.toArray⟩
noncomputable abbrev sS (l:List Nat):cA:=⟨.safe,sV l⟩
theorem yx {l l':List Nat}:nU .Eq (sV l) (sV l')=some (decide (l=l')):=by
 show some (decide ((⟨l.toArray⟩:aN)=⟨l'.toArray⟩))=_
 exact congrArg some (decide_eq_decide.mpr ⟨λe=>by injection e with e;injection e,λe=>by rw[e]⟩)
noncomputable def zT:List (Nat×List Nat)->Int->Bool
 | [],k=>decide (k=0)
 |pc::r,k=>if pc.2=[40]then zT r (k+1)else if pc.2=[41]then(if k-1<0 then false else zT r (k-1))else zT r k
noncomputable def vF (s:List Nat) (k:Int):St:=[(31,⟨.safe,.str ⟨s.toArray⟩⟩),(38,⟨.safe,.int k⟩)]
noncomputable def vo:List PS:=match pI.drop 2 with| .forEsc _ _ b::_=>b|_=>[]
section
variable {m:Nat} {s:List Nat}
def HN (tl:St):Prop:=tl=[]\/ ∃p c,tl=[(32,⟨.safe,.int p⟩),(34,⟨.safe,.str c⟩)]
theorem w7 {p:Nat} {c:List Nat} {k:Int} {tl:St} (ht:HN tl):(dr (vF s k++tl) (.t [32,34]) (lI (p,c)) true)=some (vF s k++ [(32,⟨.safe,.int (p:Nat)⟩),(34,sS c)]):=by
 rcases ht with rfl|⟨_,_,rfl⟩<;>rfl'
def yY (s:List Nat) (l:List (Nat×List Nat)) (k:Int) (o:f9×St):Prop:=(o.1= .ret (.bool false) true/\zT l k=false)\/ ∃k' tl',o=(.next,vF s k'++tl')/\HN tl'/\zT l k=decide (k'=0)
theorem Ef: ∀(l:List (Nat×List Nat)) (k:Int) (tl:St),HN tl-> ∃o,lT (λst v=>dr st (.t [32,34]) v true) (λst=>af (ev bg (m+10)).s vo st) (l.map lI) (vF s k++tl)=some o/\yY s l k o:=by
 intro l
 induction l with
 |nil=>exact λk tl ht=>⟨_,rfl,.inr ⟨k,tl,rfl,ht,rfl⟩⟩
 |cons pc l ih=>
  intro k tl ht
  obtain⟨p,c⟩:=pc
  have ht':HN [(32,⟨.safe,.int (p:Nat)⟩),(34,sS c)]:= .inr ⟨_,_,rfl⟩
  have go: ∀k',zT ((p,c)::l) k=zT l k'->af (ev bg (m+10)).s vo (vF s k++ [(32,⟨.safe,.int (p:Nat)⟩),(34,sS c)])=some (.next,vF s k'++ [(32,⟨.safe,.int (p:Nat)⟩),(34,sS c)])-> ∃o,lT (λst v=>dr st (.t [32,34]) v true) (λst=>af (ev bg (m+10)).s vo st) (((p,c)::l).map lI) (vF s k++tl)=some o/\yY s ((p,c)::l) k o:=λk' e h=>(ih k' _ ht').elim λo ho=>⟨o,mL (w7 ht) h ho.1,by unfold yY;rw[e];exact ho.2⟩
  have c1:(ev bg (m+9)).t (vF s k++ [(32,⟨.safe,.int (p:Nat)⟩),(34,sS c)]) (.cmp (.var 34) [.Eq] [.cstr ⟨#[40]⟩])=some (decide (c=[40])):=cx (x:=(sV c,true)) (y:=(sV [40],true)) (by rfl') (by rfl') yx
  have c2:(ev bg (m+8)).t (vF s k++ [(32,⟨.safe,.int (p:Nat)⟩),(34,sS c)]) (.cmp (.var 34) [.Eq] [.cstr ⟨#[41]⟩])=some (decide (c=[41])):=cx (x:=(sV c,true)) (y:=(sV [41],true)) (by rfl') (by rfl') yx
  by_cases h1:c=[40]
  ·exact go (k+1) (by rw[zT,if_pos h1]) (cf (dI c1 (by rw[decide_eq_true h1];rfl')))
  ·by_cases h2:c=[41]
   ·have c3:(ev bg (m+6)).t (vF s (k-1)++ [(32,⟨.safe,.int (p:Nat)⟩),(34,sS c)]) (.cmp (.var 38) [.Lt] [.cint 0])=some (decide (k-1<0)):=cx (x:=(.int (k-1),true)) (y:=(.int 0,true)) (by rfl') (by rfl') rfl
    by_cases h3:k-1<0
    ·refine⟨(.ret (.bool false) true,vF s (k-1)++ [(32,⟨.safe,.int (p:Nat)⟩),(34,sS c)]),?_,.inl ⟨rfl,by rw[zT,if_neg h1,if_pos h2,if_pos h3]⟩⟩
     have hb:af (ev bg (m+10)).s vo (vF s k++ [(32,⟨.safe,.int (p:Nat)⟩),(34,sS c)])=some (.ret (.bool false) true,vF s (k-1)++ [(32,⟨.safe,.int (p:Nat)⟩),(34,sS c)]):=
      cf (dI c1 (by rw[decide_eq_false h1];exact cf (dI c2 (by rw[decide_eq_true h2];exact ae (st':=vF s (k-1)++ [(32,⟨.safe,.int (p:Nat)⟩),(34,sS c)]) (by rfl') (cf (dI c3 (by rw[decide_eq_true h3];rfl')))))))
     exact t7 (w7 ht) hb
    ·exact go (k-1) (by rw[zT,if_neg h1,if_pos h2,if_neg h3]) (cf (dI c1 (by rw[decide_eq_false h1];exact cf (dI c2 (by rw[decide_eq_true h2];exact ae (st':=vF s (k-1)++ [(32,⟨.safe,.int (p:Nat)⟩),(34,sS c)]) (by rfl') (cf (dI c3 (by rw[decide_eq_false h3];rfl'))))))))
   ·exact go k (by rw[zT,if_neg h1,if_neg h2]) (cf (dI c1 (by rw[decide_eq_false h1];exact cf (dI c2 (by rw[decide_eq_false h2];rfl')))))
noncomputable abbrev Sg:=Nat×Option Nat×List (List Nat)
noncomputable def yj (s:List Nat) (σ:Sg) (pc:Nat×List Nat):Sg:=
 if pc.2=[34]then(match σ.2.1 with
  |none=>(σ.1,some pc.1,σ.2.2)
  |some o=>(pc.1+1,none,if σ.1=o then σ.2.2 else σ.2.2++ [(s.take o).drop σ.1]))else σ
noncomputable def oj (l:List (List Nat)):List V:=l.map sV
noncomputable def MM:Option Nat->V
 |none=> .none
 |some p=> .int (p:Nat)
noncomputable def tt (s:List Nat) (σ:Sg):St:=[(31,sS s),(35,⟨.safe,.int (σ.1:Nat)⟩),(36,⟨.safe,MM σ.2.1⟩),(37,⟨.own,.list (oj σ.2.2)⟩)]
noncomputable def DJ:List PS:=match pJ.drop 4 with| .forEsc _ _ b::_=>b|_=>[]
theorem tL (l:List (List Nat)) (x:List Nat):oj l++ [sV x]=oj (l++ [x]):=by unfold oj;rw[fV];rfl
structure JB (k:Nat) (σ:Sg):Prop where
 a:σ.1<=300
 o: ∀o,σ.2.1=some o->o<=300
 n:σ.2.2.length+k<=300
 l: ∀x∈σ.2.2,x.length<=300
theorem Hg {p:Nat} {c:List Nat} {σ:Sg} {tl:St} (ht:HN tl):(dr (tt s σ++tl) (.t [32,34]) (lI (p,c)) true)=some (tt s σ++ [(32,⟨.safe,.int (p:Nat)⟩),(34,sS c)]):=by
 rcases ht with rfl|⟨_,_,rfl⟩<;>rfl'
theorem Hh (hs:s.length<=300): ∀(l:List (Nat×List Nat)) (σ:Sg) (tl:St),HN tl->JB l.length σ->(∀q∈l,q.1<300)-> ∃tl',lT (λst v=>dr st (.t [32,34]) v true) (λst=>af (ev bg (m+10)).s DJ st) (l.map lI) (tt s σ++tl)=some (.next,tt s (l.foldl (yj s) σ)++tl')/\HN tl'/\JB 0 (l.foldl (yj s) σ):=by
 intro l
 induction l with
 |nil=>exact λk tl ht hf _=>⟨_,rfl,ht,hf⟩
 |cons pc l ih=>
  intro σ tl ht hf hp
  obtain⟨p,c⟩:=pc
  have ht':HN [(32,⟨.safe,.int (p:Nat)⟩),(34,sS c)]:= .inr ⟨_,_,rfl⟩
  have p3:p<300:=hp _ (.head _)
  suffices h:JB l.length (yj s σ (p,c))/\af (ev bg (m+10)).s DJ (tt s σ++ [(32,⟨.safe,.int (p:Nat)⟩),(34,sS c)])=some (.next,tt s (yj s σ (p,c))++ [(32,⟨.safe,.int (p:Nat)⟩),(34,sS c)]) by
   exact(ih _ _ ht' h.1 λq hq=>hp q (.tail _ hq)).imp λtl' z=>⟨mL (Hg ht) h.2 z.1,z.2⟩
  have c1:(ev bg (m+9)).t (tt s σ++ [(32,⟨.safe,.int (p:Nat)⟩),(34,sS c)]) (.cmp (.var 34) [.Eq] [.cstr ⟨#[34]⟩])=some (decide (c=[34])):=cx (x:=(sV c,true)) (y:=(sV [34],true)) (by rfl') (by rfl') yx
  obtain⟨f1,f2,f3,f4⟩:=hf
  obtain⟨a,o,res⟩:=σ
  have f3:res.length+(l.length+1)<=300:=f3
  by_cases h1:c=[34]
  ·cases o with
   |none=>
    rw[show yj s (a,none,res) (p,c)=(a,some p,res)from if_pos h1]
    exact⟨⟨f1,λo e=>by cases e;exact jZ p3,by show res.length+l.length<=300;lia,f4⟩,cf (dI c1 (by rw[decide_eq_true h1];rfl'))⟩
   |some o=>
    have o3:=f2 o rfl
    have c3:(ev bg (m+6)).t (tt s (a,some o,res)++ [(32,⟨.safe,.int (p:Nat)⟩),(34,sS c)]) (.cmp (.var 35) [.NotEq] [.var 36])=some (!decide ((a:Int)=o)):=cx (x:=iI a) (y:=iI o) (by rfl') (by rfl') DB
    have e0:yj s (a,some o,res) (p,c)=(p+1,none,if a=o then res else res++ [(s.take o).drop a]):=if_pos h1
    rw[e0]
    by_cases h2:a=o
    ·rw[if_pos h2]
     exact⟨⟨by show p+1<=300;lia,λo e=>(cI e.symm.symm),by show res.length+l.length<=300;lia,f4⟩,cf (dI c1 (by rw[decide_eq_true h1];exact cf (dI (t:=false) (by rfl') (ae (dI c3 (by rw[decide_eq_true (by lia)];rfl)) (by rfl')))))⟩
    ·rw[if_neg h2]
     refine⟨⟨by show p+1<=300;lia,λo e=>(cI e.symm.symm),by show(res++ [_]).length+l.length<=300;rw[bO];show res.length+1+l.length<=300;lia,λx hx=>?_⟩,?_⟩
     ·rcases cJ.mp hx with hx|hx
      ·exact f4 x hx
      ·rw[ao.mp hx,et,dm];lia
     ·have hl:ce (tt s (a,some o,res)++ [(32,⟨.safe,.int (p:Nat)⟩),(34,sS c)]) 37=some (oj res):=jk (k:= .own) (by rfl') (.inl rfl) (decide_eq_true (by unfold oj;rw[aR];lia))
      have e4:(ev bg (m+6)).s (tt s (a,some o,res)++ [(32,⟨.safe,.int (p:Nat)⟩),(34,sS c)]) (.append 37 (.slice (.var 31) (some (.var 35)) (some (.var 36))))=some (.next,tt s (a,some o,res++ [(s.take o).drop a])++ [(32,⟨.safe,.int (p:Nat)⟩),(34,sS c)]):=
       (ni (v:=sV ((s.take o).drop a)) (f:=true) rfl (qQ (x:=(sV s,true)) (p:=some (.int (a:Nat))) (q:=some (.int (o:Nat))) (by rfl') (by rfl') (by rfl') (FZ (by lia) (by lia) (by lia))) hl rfl (decide_eq_true (by unfold oj;rw[aR];lia))).trans (by rw[tL];rfl')
      exact cf (dI c1 (by rw[decide_eq_true h1];exact cf (dI (t:=false) (by rfl') (ae (dI c3 (by rw[decide_eq_false (by lia)];exact cf e4)) (by rfl')))))
  ·rw[show yj s (a,o,res) (p,c)=(a,o,res)from if_neg h1]
   exact⟨⟨f1,f2,by show res.length+l.length<=300;lia,f4⟩,cf (dI c1 (by rw[decide_eq_false h1];rfl'))⟩
noncomputable def vU (s:List Nat):List Nat:=
 if s.contains 34 then(let σ:=(bN s 0 false).foldl (yj s) (0,none,[]);(if σ.1<s.length then σ.2.2++ [s.drop σ.1]else σ.2.2).flatten)else s
noncomputable def GL (s:List Nat):Bool:=zT (bN (vU s) 0 false) 0
theorem EH: ∀(s:List Nat) (i:Nat) (e:Bool),(bN s i e).length<=s.length+1/\ ∀q∈bN s i e,q.1<i+s.length+1:=by
 intro s
 induction s with
 |nil=>
  intro i e
  cases e
  ·exact⟨bj _,λq h=>by cases h⟩
  ·exact⟨bC _,λq h=>by rw[ao.mp h];show i-1<i+0+1;lia⟩
 |cons c r ih=>
  intro i e
  have H: ∀(x:List Nat) e',(((i,x)::bN r (i+1) e').length<=(c::r).length+1/\ ∀q∈(i,x)::bN r (i+1) e',q.1<i+(c::r).length+1):=λx e'=>by
   obtain⟨h1,h2⟩:=ih (i+1) e'
   refine⟨ez h1,λq hq=>?_⟩
   rw[bJ]
   rcases aO.mp hq with rfl|hq
   ·show i<_;lia
   ·have:=h2 q hq;lia
  rw[bN]
  cases e
  ·rw[if_neg bR]
   by_cases hc:c=92
   ·rw[if_pos hc]
    obtain⟨h1,h2⟩:=ih (i+1) true
    refine⟨py h1,λq hq=>?_⟩
    have:=h2 q hq
    rw[bJ];lia
   ·rw[if_neg hc];exact H _ _
  ·rw[if_pos rfl];exact H _ _
theorem HZ (l:List (List Nat)):k7 (oj l)=some (l.map λx=>(⟨x.toArray⟩:aN)):=by
 induction l with
 |nil=>rfl
 |cons x l ih=>show(k7 (oj l)).bind _=_;rw[ih];rfl
theorem IS (l:List (List Nat)):((l.map λx=>(⟨x.toArray⟩:aN)).flatMap λt=>t.cps.toList)=l.flatten:=by
 induction l with
 |nil=>rfl
 |cons x l ih=>rw[au,List.flatMap_cons,ih];rfl
theorem JP {l:List (List Nat)} (h: ∀x∈l,x.length<=300):((l.map λx=>(⟨x.toArray⟩:aN)).map je).sum<=l.length*300:=by
 induction l with
 |nil=>exact bC _
 |cons x l ih=>
  have h1:=ih λy hy=>h y (.tail _ hy)
  have h2:=h x (.head _)
  rw[au,au,List.sum_cons,bJ]
  show x.length+_<=_
  lia
theorem Mg (hs:s.length<=200):(ev bg (m+20)).call (.fn 11) [(sV s,true)] [] []=some (sV (vU s),true):=by
 have c0:(ev bg (m+18)).t [(31,sS s)] (.cmp (.cstr ⟨#[34]⟩) [.NotIn] [.var 31])=some (!(s.contains 34)):=cx (x:=(sV [34],true)) (y:=(sV s,true)) (by rfl') (by rfl') (by rfl')
 suffices h: ∃st',af (ev bg (m+19)).s pJ [(31,sS s)]=some (.ret (sV (vU s)) true,st')from h.elim λst' h=>m7 (body:=pJ) (st0:=[(31,sS s)]) (by rfl') h rfl
 unfold vU
 cases hc:s.contains 34 with
 |false=>
  rw[hc]at c0
  exact⟨_,cX (dI c0 (cX (ds:=[]) (jh (a:= .var 31) (x:=(sV s,true)) (by rfl') rfl)))⟩
 |true=>
  rw[hc]at c0
  obtain⟨e1,e2⟩:=EH s 0 false
  obtain⟨tl,h1,h2,h3⟩:=Hh (m:=m+8) (by lia:s.length<=300) (bN s 0 false) (0,none,[]) [] (.inl rfl) ⟨bj _,λo e=>cI e,by show 0+_<=300;lia,λx h=>by cases h⟩ (λq hq=>by have:=e2 q hq;lia)
  generalize (bN s 0 false).foldl (yj s) (0,none,[])=σ at h1 h3⊢
  obtain⟨f1,f2,f3,f4⟩:=h3
  have hF:(ev bg (m+19)).s (tt s (0,none,[])) (.forEsc [32,34] (.var 31) DJ)=some (.next,tt s σ++tl):=v7 (x:=(sV s,true)) (l:=(bN s 0 false).map lI) (by rfl') (by rfl') h1
  rw[if_pos rfl]
  suffices hE: ∃st',af (ev bg (m+19)).s (pJ.drop 5) (tt s σ++tl)=some (.ret (sV (if σ.1<s.length then σ.2.2++ [s.drop σ.1]else σ.2.2).flatten) true,st')from
   hE.imp λst' hE=>ae (dI c0 rfl) (ae (st':=[(31,sS s),(35,⟨.safe,.int 0⟩)]) (by rfl') (ae (st':=[(31,sS s),(35,⟨.safe,.int 0⟩),(36,⟨.safe,.none⟩)]) (by rfl') (ae (st':=tt s (0,none,[])) (by rfl') (ae hF hE))))
  have c1: ∀tl,(ev bg (m+18)).t (tt s σ++tl) (.cmp (.var 35) [.Lt] [.bi .len [.var 31]])=some (decide (((σ.1:Nat):Int)<(s.length:Nat))):=λtl=>cx (x:=iI (σ.1:Nat)) (y:=iI (s.length:Nat)) (by rfl') (He (l:=⟨s.toArray⟩) (f:=true) (by rfl') (by show s.length<=100000;lia)) rfl
  have fin: ∀(res:List (List Nat)) (tl:St),res.length<=301->(∀x∈res,x.length<=300)-> ∃st',af (ev bg (m+19)).s (pJ.drop 6) (tt s (σ.1,σ.2.1,res)++tl)=some (.ret (sV res.flatten) true,st'):=λres tl r1 r2=>
   ⟨_,cX (ds:=[]) (jh (a:= .join (.cstr ⟨#[]⟩) (.var 37)) (x:=(sV res.flatten,true)) ((Hf (j:=⟨#[]⟩) (f:=true) (g:=false) (l:=oj res) (by rfl') (by rfl') rfl (HZ res) (decide_eq_true (aQ (JP r2) (by lia)))).trans (by rw[IS])) rfl)⟩
  by_cases h5:σ.1<s.length
  ·rw[if_pos h5]
   have hl: ∀tl,ce (tt s σ++tl) 37=some (oj σ.2.2):=λtl=>jk (k:= .own) (by rfl') (.inl rfl) (decide_eq_true (by unfold oj;rw[aR];lia))
   have e4:(ev bg (m+18)).s (tt s σ++tl) (.append 37 (.slice (.var 31) (some (.var 35)) none))=some (.next,tt s (σ.1,σ.2.1,σ.2.2++ [s.drop σ.1])++tl):=
    (ni (v:=sV (s.drop σ.1)) (f:=true) rfl (qQ (x:=(sV s,true)) (p:=some (.int (σ.1:Nat))) (q:=none) (by rfl') (by rfl') rfl (Cx (by lia) (by lia))) (hl tl) rfl (decide_eq_true (by unfold oj;rw[aR];lia))).trans (by rw[tL];rfl')
   refine(fin (σ.2.2++ [s.drop σ.1]) tl (by rw[bO];show _+1<=_;lia) (λx hx=>?_)).imp λst' h=>ae (dI (c1 tl) (by rw[decide_eq_true (by lia)];exact cf e4)) h
   rcases cJ.mp hx with hx|hx
   ·exact f4 x hx
   ·rw[ao.mp hx,et];lia
  ·rw[if_neg h5]
   exact(fin σ.2.2 tl (by lia) f4).imp λst' h=>ae (dI (c1 tl) (by rw[decide_eq_false (by lia)];rfl)) h
theorem ME (hs:s.length<=200):(ev bg (m+26)).call (.fn 12) [(sV s,true)] [] []=some (.bool (GL s),true):=by
 suffices h: ∃st',af (ev bg (m+25)).s pI [(31,sS s)]=some (.ret (.bool (GL s)) true,st')from h.elim λst' h=>m7 (body:=pI) (st0:=[(31,sS s)]) (by rfl') h rfl
 have h1:=Mg (m:=m+3) hs
 unfold GL
 generalize vU s=u at h1⊢
 refine obE12 (Ef (m:=m+14) (s:=u) (bN u 0 false) 0 [] (.inl rfl)) λo h2 h3=>?_
 have hF:(ev bg (m+25)).s (vF u 0) (.forEsc [32,34] (.var 31) vo)=some o:=v7 (x:=(sV u,true)) (l:=(bN u 0 false).map lI) (by rfl') (by rfl') h2
 have go: ∀st',af (ev bg (m+25)).s (pI.drop 2) (vF u 0)=some (.ret (.bool (zT (bN u 0 false) 0)) true,st')->af (ev bg (m+25)).s pI [(31,sS s)]=some (.ret (.bool (zT (bN u 0 false) 0)) true,st'):=λst' h=>
  ae (bx (z:=31) (a:= .call (.fn 11) [.var 31] [] []) (x:=(sV u,true)) rfl (f6 (g:=(.fn 11,true)) (args:=[(sV s,true)]) (by rfl') (by rfl') h1) rfl) (ae (st':=vF u 0) (by rfl') h)
 rcases h3 with⟨h3,h4⟩|⟨k,tl,h3,h4,h5⟩
 ·obtain⟨o1,o2⟩:=o
  clear h2;cases h3
  rw[h4]at go⊢
  exact⟨_,go _ (cX hF)⟩
 ·clear h2;subst h3
  rw[h5]at go⊢
  refine⟨_,go _ (ae hF (cX (ds:=[]) (jh (a:= .cmp (.var 38) [.Eq] [.cint 0]) (x:=(.bool (decide (k=0)),true)) ?_ rfl)))⟩
  rfl'
end
end
section
open PySem.W PyProof.Rows
noncomputable abbrev Q4:=Nat×Nat×Nat×Nat
noncomputable def jV (x:Q4):V:= .tup [.int x.1,.int x.2.1,.int x.2.2.1,.int x.2.2.2]
noncomputable def wV (l:List Q4):V:= .list (l.map jV)
noncomputable def Jl (x:Q4):List Q4->List Q4
 | []=>[x]
 |y::r=>if gc y.1 x.1 then x::y::r else y::Jl x r
noncomputable def DS (j:Nat) (fj:List Nat×List Q4):List (List Nat×List Q4):=
 (ak fj.1.length).map λa=>(fj.1.take a++fj.1.drop (a+1),Jl (fj.1.getD a 0,j,a,fj.1.length-1-a) fj.2)
noncomputable def Bv (row:List Nat) (ways:List (List Nat×List Q4)) (j:Nat):List (List Nat×List Q4):=
 ways.flatMap λfj=>if row.getD j 0==40 then[(fj.1++ [j],fj.2)]else DS j fj
noncomputable def bu (row:List Nat):List (List Q4):=((ak 8).foldl (Bv row) [([],[])]).map λx=>x.2.reverse
end
section
open PySem.W PyProof.Rows
noncomputable def pV:List (List Nat):=[[],[34,41,34],[92,40],[97],[34,40,34],[92,41],[92,92],[92,34]]
noncomputable def ja:List (List Nat):=[[],[34],[92],[34,40,41],[34,41]]
noncomputable def i8 (k:Nat) (a b c d p:Nat):List Nat:=if p=a\/p=b then[40]else if p=c\/p=d then[41]else pV.getD k []
noncomputable def lA (a b c d:Nat):Bool:=decide (a<b)&&(decide (b<c)&&decide (c<d))
noncomputable def pU (a b c d:Nat):Bool:=decide (a<b)&&decide (d<c)
noncomputable def vQ (mk:Nat->Nat) (x y:Q4) (q:List Nat×List Nat) (k:Nat):List Nat×List Nat:=
 (if x.1+k<=x.2.1 then q.1++i8 (mk (x.1+k)) x.1 y.1 x.2.1 y.2.1 (x.1+k)else q.1,q.2++(if x.1+k=x.1\/x.1+k=y.2.1 then[40]else if x.1+k=x.2.1\/x.1+k=y.1 then[41]else[]))
noncomputable def jz (mk:Nat->Nat) (x y:Q4):List Nat×List Nat:=(ak (8-x.1)).foldl (vQ mk x y) ([],[])
noncomputable abbrev sJ (x:Q4):cA:=⟨.safe,jV x⟩
theorem rX (a b:Nat):decide ((a:Int)<b)=decide (a<b):=decide_eq_decide.mpr di
section
variable {m:Nat} {x y:Q4}
theorem Mc:(ev bg (m+10)).call (.fn 25) [(jV x,true),(jV y,true)] [] []=some (.bool (lA x.1 y.1 x.2.1 y.2.1),true):=by
 refine m7 (body:=Ei) (st0:=[(72,sJ x),(73,sJ y)]) (by rfl') (cX (ds:=[]) (nh (x:=(.bool (lA x.1 y.1 x.2.1 y.2.1),true)) rfl (ji (x:=(.int x.1,true)) (by rfl')
  (yo (y:=(.int y.1,true)) (by rfl') (c:=decide (x.1<y.1)) (by rw[<-rX];rfl) rfl (yo (y:=(.int x.2.1,true)) (by rfl') (c:=decide (y.1<x.2.1)) (by rw[<-rX];rfl) rfl (gI (y:=(.int y.2.1,true)) (by rfl') (c:=decide (x.2.1<y.2.1)) (by rw[<-rX];rfl))))) rfl)) rfl
theorem Ma:(ev bg (m+10)).call (.fn 26) [(jV x,true),(jV y,true)] [] []=some (.bool (pU x.1 y.1 x.2.1 y.2.1),true):=by
 refine m7 (body:=Eh) (st0:=[(72,sJ x),(73,sJ y)]) (by rfl') (cX (ds:=[]) (nh (x:=(.bool (pU x.1 y.1 x.2.1 y.2.1),true)) rfl (Cd (ji (x:=(.int x.1,true)) (by rfl') (gI (y:=(.int y.1,true)) (by rfl') (c:=decide (x.1<y.1)) (by rw[<-rX];rfl)))
  (ji (x:=(.int y.2.1,true)) (by rfl') (gI (y:=(.int x.2.1,true)) (by rfl') (c:=decide (y.2.1<x.2.1)) (by rw[<-rX];rfl)))) rfl)) rfl
noncomputable def zA:V:= .list (pV.map sV)
noncomputable def zM:V:= .list (ja.map sV)
noncomputable def Kq (l:List (Q4×Q4)):V:= .list (l.map λq=> .tup [jV q.1,jV q.2])
noncomputable def JJ (J:List Q4) (h:Int) (prs:List (Q4×Q4)):St:=[(61,⟨.safe,wV J⟩),(77,⟨.safe,.int h⟩),(79,⟨.safe,zA⟩),(80,⟨.safe,zM⟩),(78,⟨.safe,Kq prs⟩)]
noncomputable def qh (J:List Q4) (h:Int) (prs:List (Q4×Q4)) (n:Nat) (x y:Q4) (t u:List Nat):St:=JJ J h prs++ [(8,⟨.safe,.int (n:Int)⟩),(72,sJ x),(73,sJ y),(82,sS t),(83,sS u)]
noncomputable def LM:List PS:=match rq.drop 2 with| .forS _ _ (_::_:: .forS _ _ b::_)::_=>b|_=>[]
noncomputable def Hl:List PS:=match rq.drop 2 with| .forS _ _ b::_=>b|_=>[]
variable {J:List Q4} {h:Int} {prs:List (Q4×Q4)} {n:Nat} {t u:List Nat} {tl:St} {mk:Nat->Nat} {p:Nat}
theorem Lx (a b p:Nat):[(a:Int),(b:Int)].contains (p:Int)=decide (p=a\/p=b):=by
 rw[fM,fM,List.contains_nil,gS]
 exact Bool.eq_iff_iff.mpr (by rw[iy,beq_iff_eq,beq_iff_eq,decide_eq_true_iff];exact or_congr vI vI)
theorem zO {st:St} {a b c d:Nat} {A B C D E:PE} {w:List Nat} (ep:(ev bg (m+4)).e st (.var 68)=some (.int (p:Int),true)) (ep':(ev bg (m+3)).e st (.var 68)=some (.int (p:Int),true)) (eA:(ev bg (m+4)).e st (.list [A,B])=some (.list [.int (a:Int),.int (b:Int)],true)) (eC:(ev bg (m+3)).e st (.list [C,D])=some (.list [.int (c:Int),.int (d:Int)],true)) (eE:(ev bg (m+4)).e st E=some (sV w,true)):
  (ev bg (m+6)).e st (.ite (.cmp (.var 68) [.In] [.list [A,B]]) (.cstr ⟨#[40]⟩) (.ite (.cmp (.var 68) [.In] [.list [C,D]]) (.cstr ⟨#[41]⟩) E))=some (sV (if p=a\/p=b then[40]else if p=c\/p=d then[41]else w),true):=by
 refine tP (cx ep eA (t:=decide (p=a\/p=b)) (congrArg some (Lx a b p))) ?_
 by_cases h1:p=a\/p=b
 ·rw[if_pos h1,decide_eq_true h1];rfl
 ·rw[if_neg h1,decide_eq_false h1]
  refine tP (cx ep' eC (t:=decide (p=c\/p=d)) (congrArg some (Lx c d p))) ?_
  by_cases h2:p=c\/p=d
  ·rw[if_pos h2,decide_eq_true h2];rfl
  ·rw[if_neg h2,decide_eq_false h2];exact eE
theorem Eu (hp:p<8) (hmk:(h+5*(p:Int)).fmod 8=(mk p:Nat)) (hm8:mk p<8) (ht:t.length<=1000) (hu:u.length<=1000) (hg:tl.get 68=some ⟨.safe,.int (p:Int)⟩):
  af (ev bg (m+12)).s LM (qh J h prs n x y t u++tl)=some (.next,qh J h prs n x y (if p<=x.2.1 then t++i8 (mk p) x.1 y.1 x.2.1 y.2.1 p else t) (u++(if p=x.1\/p=y.2.1 then[40]else if p=x.2.1\/p=y.1 then[41]else[]))++tl):=by
 have ev68: ∀k t,(ev bg (k+1)).e (qh J h prs n x y t u++tl) (.var 68)=some (.int (p:Int),true):=λk t=>by
  rw[oJ,show(qh J h prs n x y t u++tl).get 68=tl.get 68 by rfl',hg];rfl
 have hmenu:((pV.map sV).length=8):=rfl
 have eM:(ev bg (m+7)).e (qh J h prs n x y t u++tl) (.sub (.var 79) (.bin .Mod (.bin .Add (.var 77) (.bin .Mult (.cint 5) (.var 68))) (.cint 8)))=some (sV (pV.getD (mk p) []),true):=by
  refine gH (x:=(zA,true)) (y:=iI (mk p)) (by rfl') (cM (x:=iI (h+5*p)) (y:=iI 8) (cM (x:=iI h) (y:=iI (5*p)) (by rfl') (cM (x:=iI 5) (y:=iI p) (by rfl') (ev68 _ t) (ll (gG (by lia)) (gG (by lia)))) rfl) (by rfl') (congrArg (λi=>some (V.int i)) hmk)) ((nu (l:=pV.map sV) (by rw[hmenu];exact hm8) (by rw[hmenu];decide)).trans ?_)
  rw[bH,bn,aW (show mk p<pV.length from hm8)];rfl
 have eP:(ev bg (m+9)).e (qh J h prs n x y t u++tl) (.ite (.cmp (.var 68) [.In] [.list [.sub (.var 72) (.cint 0),.sub (.var 73) (.cint 0)]]) (.cstr ⟨#[40]⟩) (.ite (.cmp (.var 68) [.In] [.list [.sub (.var 72) (.cint 1),.sub (.var 73) (.cint 1)]]) (.cstr ⟨#[41]⟩) (.sub (.var 79) (.bin .Mod (.bin .Add (.var 77) (.bin .Mult (.cint 5) (.var 68))) (.cint 8)))))=some (sV (i8 (mk p) x.1 y.1 x.2.1 y.2.1 p),true):=
  zO (ev68 _ t) (ev68 _ t) (by rfl') (by rfl') eM
 have hpl:(i8 (mk p) x.1 y.1 x.2.1 y.2.1 p).length<=3:=by
  unfold i8
  split
  ·decide
  ·split
   ·decide
   ·exact(by decide: ∀k<8,(pV.getD k []).length<=3) _ hm8
 have e1:(ev bg (m+12)).s (qh J h prs n x y t u++tl) (.ifS (.cmp (.var 68) [.LtE] [.sub (.var 72) (.cint 1)]) [.assign 82 false (.bin .Add (.var 82) (.ite (.cmp (.var 68) [.In] [.list [.sub (.var 72) (.cint 0),.sub (.var 73) (.cint 0)]]) (.cstr ⟨#[40]⟩) (.ite (.cmp (.var 68) [.In] [.list [.sub (.var 72) (.cint 1),.sub (.var 73) (.cint 1)]]) (.cstr ⟨#[41]⟩) (.sub (.var 79) (.bin .Mod (.bin .Add (.var 77) (.bin .Mult (.cint 5) (.var 68))) (.cint 8))))))] [])=
   some (.next,qh J h prs n x y (if p<=x.2.1 then t++i8 (mk p) x.1 y.1 x.2.1 y.2.1 p else t) u++tl):=by
  refine dI (t:=decide (p<=x.2.1)) (cx (x:=iI p) (y:=iI x.2.1) (ev68 _ t) (by rfl') (congrArg some (decide_eq_decide.mpr dj))) ?_
  by_cases hc:p<=x.2.1
  ·rw[if_pos hc,decide_eq_true hc]
   exact cf ((bx (x:=(sV (t++i8 (mk p) x.1 y.1 x.2.1 y.2.1 p),true)) rfl (cM (x:=(sV t,true)) (y:=(sV (i8 (mk p) x.1 y.1 x.2.1 y.2.1 p),true)) (by rfl') eP (u4 (by lia))) rfl).trans (by rfl'))
  ·rw[if_neg hc,decide_eq_false hc];rfl
 generalize (if p<=x.2.1 then t++i8 (mk p) x.1 y.1 x.2.1 y.2.1 p else t)=t' at e1⊢
 have eQ:(ev bg (m+10)).e (qh J h prs n x y t' u++tl) (.ite (.cmp (.var 68) [.In] [.list [.sub (.var 72) (.cint 0),.sub (.var 73) (.cint 1)]]) (.cstr ⟨#[40]⟩) (.ite (.cmp (.var 68) [.In] [.list [.sub (.var 72) (.cint 1),.sub (.var 73) (.cint 0)]]) (.cstr ⟨#[41]⟩) (.cstr ⟨#[]⟩)))=some (sV (if p=x.1\/p=y.2.1 then[40]else if p=x.2.1\/p=y.1 then[41]else[]),true):=
  zO (ev68 _ t') (ev68 _ t') (by rfl') (by rfl') rfl
 have hql:(if p=x.1\/p=y.2.1 then[40]else if p=x.2.1\/p=y.1 then[41]else[]:List Nat).length<=1:=by split<;>first|decide|(split<;>decide)
 generalize (if p=x.1\/p=y.2.1 then[40]else if p=x.2.1\/p=y.1 then[41]else[]:List Nat)=w at eQ hql⊢
 exact ae e1 (cf ((bx (x:=(sV (u++w),true)) rfl (cM (x:=(sV u,true)) (y:=(sV w,true)) (by rfl') eQ (u4 (by lia))) rfl).trans (by rfl')))
theorem AX {k a b c d p:Nat} (h:k<8):(i8 k a b c d p).length<=3:=by
 unfold i8
 split
 ·decide
 ·split
  ·decide
  ·exact(by decide: ∀k<8,(pV.getD k []).length<=3) _ h
structure yS (mk me:Nat->Nat) (n:Nat) (x y:Q4):Prop where
 lt:x.1<8
 text:GL ((jz mk x y).1++ja.getD (me n) [])=(lA x.1 y.1 x.2.1 y.2.1==decide (ja.getD (me n) []=[34,41]))
 turned:GL (jz mk x y).2=pU x.1 y.1 x.2.1 y.2.1
structure uw (h:Int) (mk me:Nat->Nat):Prop where
 km: ∀p:Nat,p<8->(h+5*(p:Int)).fmod 8=(mk p:Nat)/\mk p<8
 ke: ∀n:Nat,n<6->(h.fdiv 1920+(n:Int)).fmod 5=(me n:Nat)/\me n<5
theorem AD {mk me:Nat->Nat} (K:uw h mk me) (hx:x.1<8): ∃tl',(ev bg (m+13)).s (qh J h prs n x y [] []++tl) (.forS (.n 68) (.range [.sub (.var 72) (.cint 0),.cint 8]) LM)=some (.next,qh J h prs n x y (jz mk x y).1 (jz mk x y).2++tl')/\(jz mk x y).1.length<=100/\(jz mk x y).2.length<=100:=by
 refine obE12 (gJ (bind:=λst v=>dr st (.n 68) v true) (body:=λst=>af (ev bg (m+12)).s LM st) (f:=λk:Nat=>V.int ((x.1:Int)+(k:Int)))
  (λrest st=> ∃t u tl,st=qh J h prs n x y t u++tl/\rest.foldl (vQ mk x y) (t,u)=jz mk x y/\t.length+3*rest.length<=100/\u.length+3*rest.length<=100/\ ∀k∈rest,x.1+k<8)
  (λk r st zq=>by
   refine obE35 zq λt u tl h2 h3 h4 h5 h6=>?_
   have hk:=h6 k (.head _)
   rw[bJ]at h4 h5
   obtain⟨k1,k2⟩:=K.km _ hk
   refine⟨qh J h prs n x y t u++tl.put 68 ⟨.safe,.int ((x.1:Int)+(k:Int))⟩,_,by rw[h2];rfl',Eu (m:=m) (p:=x.1+k) hk k1 k2 (by clear h3 h2 K;lia) (by clear h3 h2 K;lia) j9,_,_,_,rfl,h3,?_,?_,λj hj=>h6 j (.tail _ hj)⟩
   ·show(if x.1+k<=x.2.1 then t++i8 (mk (x.1+k)) x.1 y.1 x.2.1 y.2.1 (x.1+k)else t).length+3*r.length<=100
    split
    ·rw[bO]
     have:=AX (a:=x.1) (b:=y.1) (c:=x.2.1) (d:=y.2.1) (p:=x.1+k) k2
     clear h3 h2 K;lia
    ·clear h3 h2 K;lia
   ·show(u++_).length+3*r.length<=100
    rw[bO]
    have:(if x.1+k=x.1\/x.1+k=y.2.1 then[40]else if x.1+k=x.2.1\/x.1+k=y.1 then[41]else[]:List Nat).length<=1:=by split<;>first|decide|(split<;>decide)
    clear h3 h2 K;lia) (ak (8-x.1)) (qh J h prs n x y [] []++tl) ⟨[],[],tl,rfl,rfl,by rw[dR];show 0+3*(8-x.1)<=100;lia,by rw[dR];show 0+3*(8-x.1)<=100;lia,λk hk=>by have:=dN.mp hk;lia⟩) λst' h1 zq=>?_
 refine obE35 zq λt u tl' h2 h3 h4 h5 _=>?_
 have h3:(t,u)=jz mk x y:=h3
 rw[<-h3]
 refine⟨tl',?_,h4,h5⟩
 rw[<-h2]
 refine li (v:= .range (x.1:Int) ((8:Int)-x.1).toNat) (v5 (x:=x.1) (y:=8) (f:=true) (g:=true) (by rfl') (by rfl') ⟨by decide,by decide,by lia,by lia⟩) ?_ rfl h1
 show some ((ak ((8:Int)-x.1).toNat).map λk=>V.int ((x.1:Int)+(k:Nat)))=_
 rw[show((8:Int)-x.1).toNat=8-x.1 by lia]
theorem tK {mk me:Nat->Nat} (K:uw h mk me) (hn:n<6) (P:yS mk me n x y): ∃t u tl',af (ev bg (m+30)).s (Hl.drop 2) (qh J h prs n x y [] []++tl)=some (.next,qh J h prs n x y t u++tl'):=by
 refine obE13 (AD (m:=m+17) (n:=n) (J:=J) (prs:=prs) (tl:=tl) (y:=y) K P.lt) λtl' h1 h2 h3=>?_
 have P2:=P.text
 have P3:=P.turned
 generalize (jz mk x y).1=t at*
 generalize (jz mk x y).2=u at*
 obtain⟨k1,k2⟩:=K.ke n hn
 refine⟨t,u,tl'.put 81 (sS (ja.getD (me n) [])),ae h1 (ae (st':=qh J h prs n x y t u++tl'.put 81 (sS (ja.getD (me n) []))) ((bx (z:=81) (a:= .sub (.var 80) (.bin .Mod (.bin .Add (.bin .FloorDiv (.var 77) (.cint 1920)) (.var 8)) (.cint 5))) (x:=(sV (ja.getD (me n) []),true)) rfl (gH (x:=(zM,true)) (y:=iI (me n)) (by rfl') (cM (x:=iI (h.fdiv 1920+n)) (y:=iI 5) (by rfl') (by rfl') (congrArg (λi=>some (V.int i)) k1)) ((nu (l:=ja.map sV) (by exact k2) (by decide)).trans ?_)) rfl).trans (by rfl')) ?_)⟩
 ·rw[bH,bn,aW (show me n<ja.length from k2)];rfl
 ·have hel:(ja.getD (me n) []).length<=3:=(by decide: ∀k<5,(ja.getD k []).length<=3) _ k2
  generalize ja.getD (me n) []=w at*
  have hg:(tl'.put 81 (sS w)).get 81=some (sS w):=j9
  generalize tl'.put 81 (sS w)=tl2 at*
  have e81: ∀k,(ev bg (k+1)).e (qh J h prs n x y t u++tl2) (.var 81)=some (sV w,true):=λk=>by
   rw[oJ,show(qh J h prs n x y t u++tl2).get 81=tl2.get 81 by rfl',hg];rfl
  have c1:=ME (m:=m) (s:=t++w) (by rw[bO];lia)
  have c2:=ME (m:=m) (s:=u) (by lia)
  rw[P2]at c1
  rw[P3]at c2
  refine cf (dI (t:=false) ((G9 (s:=false) (t:=false) (cx (x:=(.bool (lA x.1 y.1 x.2.1 y.2.1==decide (w=[34,41])),true)) (y:=(.bool (lA x.1 y.1 x.2.1 y.2.1==decide (w=[34,41])),true)) (f6 (g:=(.fn 12,true)) (args:=[(sV (t++w),true)]) (by rfl') (gq (cM (x:=(sV t,true)) (y:=(sV w,true)) (by rfl') (e81 _) (u4 (by lia))) lH) c1)
   (ji (x:=(.bool (lA x.1 y.1 x.2.1 y.2.1),true)) (f6 (g:=(.fn 25,true)) (args:=[(jV x,true),(jV y,true)]) (by rfl') (by rfl') Mc) (gI (y:=(.bool (decide (w=[34,41])),true)) (ji (x:=(sV w,true)) (e81 _) (gI (y:=(sV [34,41],true)) (by rfl') yx)) ?_)) ?_)
   (cx (x:=(.bool (pU x.1 y.1 x.2.1 y.2.1),true)) (y:=(.bool (pU x.1 y.1 x.2.1 y.2.1),true)) (f6 (g:=(.fn 12,true)) (args:=[(sV u,true)]) (by rfl') (by rfl') c2) (f6 (g:=(.fn 26,true)) (args:=[(jV x,true),(jV y,true)]) (by rfl') (by rfl') Ma) ?_))) rfl)
  ·rfl
  ·generalize (lA x.1 y.1 x.2.1 y.2.1==decide (w=[34,41]))=b
   cases b<;>rfl
  ·generalize pU x.1 y.1 x.2.1 y.2.1=b
   cases b<;>rfl
noncomputable def jj (x0 x1 x2 x3:Q4):List (Q4×Q4):=[(x0,x1),(x0,x2),(x1,x2),(x0,x3),(x1,x3),(x2,x3)]
theorem M9 {x0 x1 x2 x3:Q4} {mk me:Nat->Nat} (K:uw h mk me) (P: ∀n q,(jj x0 x1 x2 x3)[n]?=some q->yS mk me n q.1 q.2):(ev bg (m+40)).call (.fn 28) [(wV [x0,x1,x2,x3],true),(.int h,true)] [] []=some (.bool true,true):=by
 refine obE12 (gJ (bind:=λst v=>dr st (.n 8) v true) (body:=λst=>af (ev bg (m+38)).s Hl st) (f:=λk:Nat=>V.int (k:Nat))
  (λrest st=>(∀k∈rest,k<6)/\(st=JJ [x0,x1,x2,x3] h (jj x0 x1 x2 x3)\/ ∃n x y t u tl,st=qh [x0,x1,x2,x3] h (jj x0 x1 x2 x3) n x y t u++tl))
  (λn r st zq=>by
   obtain⟨h1,h2⟩:=zq
   have hn:=h1 n (.head _)
   have hq:(jj x0 x1 x2 x3)[n]?=some ((jj x0 x1 x2 x3)[n]'hn):=aW hn
   generalize (jj x0 x1 x2 x3)[n]'hn=q at hq
   obtain⟨x,y⟩:=q
   have hP:=P n _ hq
   have hs: ∀st1:St,(st1.get 78=some ⟨.safe,Kq (jj x0 x1 x2 x3)⟩)->st1.get 8=some (sN n)->(ev bg (m+37)).e st1 (.sub (.var 78) (.var 8))=some (.tup [jV x,jV y],true):=λst1 g1 g2=>gH (x:=(Kq (jj x0 x1 x2 x3),true)) (y:=iN n) (by rw[oJ,g1];rfl) (by rw[oJ,g2];rfl) ((nu (l:=(jj x0 x1 x2 x3).map λq:Q4×Q4=>V.tup [jV q.1,jV q.2]) (show n<6 from hn) (show 6<=100000 by decide)).trans (by rw[bH,hq];rfl))
   rcases h2 with h2|⟨n0,x',y',t,u,tl,h2⟩
   ·obtain⟨t2,u2,tl2,h3⟩:=tK (m:=m+8) (J:=[x0,x1,x2,x3]) (prs:=jj x0 x1 x2 x3) (tl:=[]) K hn hP
    exact⟨JJ [x0,x1,x2,x3] h (jj x0 x1 x2 x3)++ [(8,sN n)],_,by rw[h2];rfl',ae (gT (xs:=[72,73]) (st':=JJ [x0,x1,x2,x3] h (jj x0 x1 x2 x3)++ [(8,sN n),(72,sJ x),(73,sJ y)]) (hs _ (by rfl') (by rfl')) (by rfl')) (ae (st':=qh [x0,x1,x2,x3] h (jj x0 x1 x2 x3) n x y [] []++ []) (by rfl') h3),λk hk=>h1 k (.tail _ hk),.inr ⟨_,_,_,_,_,_,rfl⟩⟩
   ·obtain⟨t2,u2,tl2,h3⟩:=tK (m:=m+8) (J:=[x0,x1,x2,x3]) (prs:=jj x0 x1 x2 x3) (tl:=tl) K hn hP
    exact⟨qh [x0,x1,x2,x3] h (jj x0 x1 x2 x3) n x' y' t u++tl,_,by rw[h2];rfl',ae (gT (xs:=[72,73]) (st':=qh [x0,x1,x2,x3] h (jj x0 x1 x2 x3) n x y t u++tl) (hs _ (by rfl') (by rfl')) (by rfl')) (ae (st':=qh [x0,x1,x2,x3] h (jj x0 x1 x2 x3) n x y [] []++tl) (by rfl') h3),λk hk=>h1 k (.tail _ hk),.inr ⟨_,_,_,_,_,_,rfl⟩⟩)
  (ak 6) _ ⟨λk hk=>dN.mp hk,.inl rfl⟩) λst' h1 zq=>?_
 have y0:(ev bg (m+39)).s [(61,⟨.safe,wV [x0,x1,x2,x3]⟩),(77,⟨.safe,.int h⟩)] (rq.getD 0 .fail)=some (.next,[(61,⟨.safe,wV [x0,x1,x2,x3]⟩),(77,⟨.safe,.int h⟩),(79,⟨.safe,zA⟩),(80,⟨.safe,zM⟩)]):=by rfl'
 have y1:(ev bg (m+39)).s [(61,⟨.safe,wV [x0,x1,x2,x3]⟩),(77,⟨.safe,.int h⟩),(79,⟨.safe,zA⟩),(80,⟨.safe,zM⟩)] (rq.getD 1 .fail)=some (.next,JJ [x0,x1,x2,x3] h (jj x0 x1 x2 x3)):=by rfl'
 have y2:(ev bg (m+39)).s (JJ [x0,x1,x2,x3] h (jj x0 x1 x2 x3)) (.forS (.n 8) (.range [.cint 6]) Hl)=some (.next,st'):=li (v:= .range 0 6) (by rfl') (rG 6) rfl h1
 have y3:(ev bg (m+39)).s st' (.ret (.cbool true))=some (.ret (.bool true) true,st'):=rfl
 exact AS (d:=xr) (bs:=[(61,(wV [x0,x1,x2,x3],true)),(77,(.int h,true))]) (by rfl') (by rfl') (by rfl') (by rfl') (ae y0 (ae y1 (ae y2 (cX (ds:=[]) y3)))) rfl
end
end
section
open PySem.W PyProof.Rows
noncomputable def jJ {α β:Type} (f:α->β):List α->List β
 | []=>[]
 |a::l=>f a::jJ f l
theorem cu {α β:Type} {f g:α->β} {l:List α} (h:l.map f=jJ g l): ∀x∈l,f x=g x:=by
 induction l with
 |nil=>intro x h;cases h
 |cons a l ih=>
  intro x hx
  injection h with h1 h2
  rcases aO.mp hx with rfl|hx
  ·exact h1
  ·exact ih h2 x hx
noncomputable def oy:List (Nat×Nat):=(ak 7).flatMap λo=>(ak (7-o)).map λk=>(o,o+k+1)
noncomputable def Ko (r o c:Nat):List Nat:=(bU o (bU r 32++ [9])).flatten++bU (5*r+c-(r+1)*o) 32++ [120,9,32]
noncomputable def zF (r o c:Nat):Nat:=5*r+c-(r+1)*o
noncomputable def Lo (r o:Nat):List V:=if o=0 then[]else if r=0 then[.int (o:Nat)]else[.int 0,.int (o:Nat)]
noncomputable def pO (r o c:Nat):V:= .inst [0,1,2,3,4] [sV (Ko r o c),.int ((5*r+c:Nat):Int),.int (o:Nat),.tup [.tup (Lo r o),.int (zF r o c:Nat)],.bool (decide (r=0\/o=0))]
noncomputable def J8:PE:=match cZ.drop 14 with| .assign _ _ (.comp (.comp e _ _) _ _)::_=>e|_=> .cnone
theorem MR (m n1 n2:Nat):oy.map (λp=>(ev bg (m+20)).e [(91,sN 0),(65,sJ (p.1,p.2,n1,n2))] J8)=jJ (λp=>some (pO 0 p.1 p.2,true)) oy:=by rfl'
theorem MQ (m n1 n2:Nat):oy.map (λp=>(ev bg (m+20)).e [(91,sN 1),(65,sJ (p.1,p.2,n1,n2))] J8)=jJ (λp=>some (pO 1 p.1 p.2,true)) oy:=by rfl'
noncomputable def pX (o c:Nat):Nat:=if o=0 then zF 1 o c else max 1 (zF 1 o c)
noncomputable def oF (o c ts:Nat):Nat:=zF 1 o c+ts*o
noncomputable def vx (r o c o' c':Nat):Bool:=
 if c'<=c then false else if(r=0\/o=0)/\(r=0\/o'=0)then decide (o<=o')else(ak (max (pX o c) (pX o' c'))).all λk=>decide (oF o c (2+k)<oF o' c' (2+k))
theorem DL:(oy.all λp=>oy.all λq=>(vx 0 p.1 p.2 q.1 q.2==decide (p.1<=q.1/\p.2<q.2))&&(vx 1 p.1 p.2 q.1 q.2==decide (p.1<=q.1/\p.2<q.2)))=true:=by decide+kernel
theorem Gj (m:Nat):oy.map (λp=>(ev bg (m+12)).call (.fn 14) [(pO 1 p.1 p.2,true)] [] [])=jJ (λp=>some (.int (pX p.1 p.2:Nat),true)) oy:=by rfl'
theorem LL (m:Nat):(oy.flatMap λp=>(ak 12).map λk=>(p,2+k)).map (λp=>(ev bg (m+12)).call (.fn 15) [(pO 1 p.1.1 p.1.2,true),iN p.2] [] [])=jJ (λp=>some (.int (oF p.1.1 p.1.2 p.2:Nat),true)) (oy.flatMap λp=>(ak 12).map λk=>(p,2+k)):=by rfl'
section
variable {m:Nat} {o c o' c':Nat} {tl:St}
noncomputable def z5 (r o c o' c':Nat):St:=[(39,⟨.safe,pO r o c⟩),(49,⟨.safe,pO r o' c'⟩)]
noncomputable def Gn:List PS:=match yN.drop 3 with| .forS _ _ b::_=>b|_=>[]
theorem Ae {n:V} (h1:(o,c)∈oy) (h2:(o',c')∈oy): ∀(l:List Nat) (tl:St),(∀k∈l,k<12)-> ∃q,lT (λst v=>dr st (.n 50) v true) (λst=>af (ev bg (m+18)).s Gn st) (l.map λk=>V.int ((2:Int)+(k:Nat))) (z5 1 o c o' c'++(8,⟨.safe,n⟩)::tl)=some q/\
  ((q.1= .ret (.bool false) true/\(l.all λk=>decide (oF o c (2+k)<oF o' c' (2+k)))=false)\/(q.1= .next/\(l.all λk=>decide (oF o c (2+k)<oF o' c' (2+k)))=true)):=by
 intro l
 induction l with
 |nil=>exact λtl _=>⟨_,rfl,.inr ⟨rfl,rfl⟩⟩
 |cons k l ih=>
  intro tl hk
  have k12:=hk k (.head _)
  have hi: ∀{a b:Nat},(a,b)∈oy->(ev bg (m+15)).call (.fn 15) [(pO 1 a b,true),iN (2+k)] [] []=some (.int (oF a b (2+k):Nat),true):=λ{a b} h=>cu (LL (m+3)) ((a,b),2+k) (ej.mpr ⟨_,h,aP.mpr ⟨k,dN.mpr k12,rfl⟩⟩)
  have hb:dr (z5 1 o c o' c'++(8,⟨.safe,n⟩)::tl) (.n 50) (.int ((2:Int)+(k:Nat))) true=some (z5 1 o c o' c'++(8,⟨.safe,n⟩)::tl.put 50 (sN (2+k))):=by rfl'
  have hg:(tl.put 50 (sN (2+k))).get 50=some (sN (2+k)):=j9
  generalize tl.put 50 (sN (2+k))=tl' at hb hg
  have e50: ∀j,iQ (ev bg (j+1)).e (z5 1 o c o' c'++(8,⟨.safe,n⟩)::tl') [.var 50]=some [iN (2+k)]:=λj=>gq (by rw[oJ,show(z5 1 o c o' c'++(8,⟨.safe,n⟩)::tl').get 50=tl'.get 50 by rfl',hg];rfl) lH
  have ht:(ev bg (m+17)).t (z5 1 o c o' c'++(8,⟨.safe,n⟩)::tl') (.cmp (.umeth (.var 39) 15 [.var 50]) [.GtE] [.umeth (.var 49) 15 [.var 50]])=some (!decide (oF o c (2+k)<oF o' c' (2+k))):=
   cx (x:=iN (oF o c (2+k))) (y:=iN (oF o' c' (2+k))) (nf (f:=true) (args:=[iN (2+k)]) (by rfl') (e50 _) (hi h1)) (nf (f:=true) (args:=[iN (2+k)]) (by rfl') (e50 _) (hi h2)) (congrArg some (by rw[<-decide_not];exact decide_eq_decide.mpr ⟨λq=>uC.mpr (dj.mp q),λq=>dj.mpr (uC.mp q)⟩))
  rw[fY]
  by_cases hc:oF o c (2+k)<oF o' c' (2+k)
  ·rw[decide_eq_true hc]at ht⊢
   exact(ih tl' λj hj=>hk j (.tail _ hj)).imp λq z=>⟨mL hb (cf (dI ht rfl)) z.1,by rw[Bool.true_and];exact z.2⟩
  ·rw[decide_eq_false hc]at ht⊢
   exact⟨_,t7 hb (cX (dI ht (cX (ds:=[]) (v:= .bool false) (f:=true) (st':=z5 1 o c o' c'++(8,⟨.safe,n⟩)::tl') rfl))),.inl ⟨rfl,rfl⟩⟩
theorem yc {r o c:Nat}:(pO r o c).okV=true:=by
 have h: ∀w:List V,fC 2 w=true-> ∀(a b d:Int) (e:Bool) (l:List Nat),(V.inst [0,1,2,3,4] [sV l,.int a,.int b,.tup [.tup w,.int d],.bool e]).okV=true:=λw h a b d e l=>by
  show(true&&(true&&(true&&(true&&((fC 2 w&&(true&&true))&&(true&&true))))))=true
  rw[h];rfl
 refine h _ ?_ _ _ _ _ _
 unfold Lo
 split
 ·rfl
 ·split<;>rfl
theorem zD: ∀p∈oy,pX p.1 p.2<=12:=by decide+kernel
theorem Mf {r:Nat} (hr:r=0\/r=1) (h1:(o,c)∈oy) (h2:(o',c')∈oy):(ev bg (m+24)).call (.fn 18) [(pO r o c,true),(pO r o' c',true)] [] []=some (.bool (decide (o<=o'/\c<c')),true):=by
 have hN:vx r o c o' c'=decide (o<=o'/\c<c'):=by
  have:=aT.mp (aT.mp DL _ h1) _ h2
  rw[ag,beq_iff_eq,beq_iff_eq]at this
  rcases hr with rfl|rfl
  ·exact this.1
  ·exact this.2
 rw[<-hN]
 have c1:(ev bg (m+22)).t (z5 r o c o' c') (.cmp (.attr (.var 39) 1) [.GtE] [.attr (.var 49) 1])=some (decide (c'<=c)):=cx (x:=iN (5*r+c)) (y:=iN (5*r+c')) (by rfl') (by rfl') (congrArg some (decide_eq_decide.mpr ⟨λq=>Nat.le_of_add_le_add_left (dj.mp q),λq=>dj.mpr (BZ q _)⟩))
 have c2:(ev bg (m+22)).t (z5 r o c o' c') (.and [.attr (.var 39) 4,.attr (.var 49) 4])=some (decide ((r=0\/o=0)/\(r=0\/o'=0))):=by
  rw[Bool.decide_and];exact yp (by rfl') (by rfl')
 suffices h: ∃st',af (ev bg (m+23)).s yN (z5 r o c o' c')=some (.ret (.bool (vx r o c o' c')) true,st')from
  h.elim λst' h=>AS (d:=xw) (bs:=[(39,(pO r o c,true)),(49,(pO r o' c',true))]) (by rfl') (by rfl') (by show((pO r o c).okV&&((pO r o' c').okV&&true)&&true)=true;rw[yc,yc];rfl) (by rfl') h rfl
 unfold vx
 by_cases q1:c'<=c
 ·rw[if_pos q1]
  rw[decide_eq_true q1]at c1
  exact⟨_,cX (dI c1 (cX (ds:=[]) (v:= .bool false) (f:=true) (st':=z5 r o c o' c') rfl))⟩
 ·rw[if_neg q1]
  rw[decide_eq_false q1]at c1
  by_cases q2:(r=0\/o=0)/\(r=0\/o'=0)
  ·rw[if_pos q2]
   rw[decide_eq_true q2]at c2
   exact⟨_,ae (dI c1 rfl) (cX (dI c2 (cX (ds:=[]) (nh (x:=(.bool (decide (o<=o')),true)) rfl (ji (x:=iN o) (by rfl') (gI (y:=iN o') (by rfl') (congrArg some (decide_eq_decide.mpr dj)))) rfl))))⟩
  ·rw[if_neg q2]
   rw[decide_eq_false q2]at c2
   obtain rfl:r=1:=hr.elim (λe=>absurd ⟨.inl e,.inl e⟩ q2) id
   have l1:=zD _ h1
   have l2:=zD _ h2
   have L1:(ev bg (m+19)).call (.fn 14) [(pO 1 o c,true)] [] []=some (.int (pX o c:Nat),true):=cu (Gj (m+7)) (o,c) h1
   have L2:(ev bg (m+19)).call (.fn 14) [(pO 1 o' c',true)] [] []=some (.int (pX o' c':Nat),true):=cu (Gj (m+7)) (o',c') h2
   dsimp only at l1 l2
   generalize pX o c=A at*
   generalize pX o' c'=B at*
   have e8:(ev bg (m+23)).s (z5 1 o c o' c') (.assign 8 false (.bin .Add (.bi .max2 [.umeth (.var 39) 14 [],.umeth (.var 49) 14 []]) (.cint 1)))=some (.next,z5 1 o c o' c'++(8,sN (max A B+1))::[]):=
    (bx (x:=iN (max A B+1)) rfl (cM (x:=iN (max A B)) (y:=iN 1) ((Hd (i:=A) (j:=B) (f:=true) (g:=true) (nf (f:=true) (args:=[]) (by rfl') lH L1) (nf (f:=true) (args:=[]) (by rfl') lH L2)).trans (by
     by_cases q:(A:Int)<B
     ·rw[if_pos q,Nat.max_eq_right (by lia)]
     ·rw[if_neg q,Nat.max_eq_left (by lia)])) (by rfl') rfl) rfl).trans (by rfl')
   obtain⟨q,y1,y2⟩:=Ae (m:=m+4) (n:= .int ((max A B+1:Nat):Int)) h1 h2 (ak (max A B)) [] (λk hk=>by have:=dN.mp hk;lia)
   have e9:(ev bg (m+23)).s (z5 1 o c o' c'++(8,sN (max A B+1))::[]) (.forS (.n 50) (.range [.cint 2,.bin .Add (.var 8) (.cint 1)]) Gn)=some q:=by
    refine li (v:= .range 2 (((max A B+1+1:Nat):Int)-2).toNat) (v5 (x:=2) (y:=((max A B+1+1:Nat):Int)) (f:=true) (g:=true) (by rfl') (by rfl') ⟨by lia,by lia,by decide,by decide⟩) ?_ rfl y1
    show some ((ak (((max A B+1+1:Nat):Int)-2).toNat).map λk=>V.int ((2:Int)+(k:Nat)))=_
    rw[show(((max A B+1+1:Nat):Int)-2).toNat=max A B by lia]
   obtain⟨q0,q3⟩:=q
   rcases y2 with⟨y2,y3⟩|⟨y2,y3⟩
   ·rw[y3]
    have y2:q0=_:=y2
    clear y1;subst y2
    exact⟨_,ae (dI c1 rfl) (ae (dI c2 rfl) (ae e8 (cX e9)))⟩
   ·rw[y3]
    have y2:q0=_:=y2
    clear y1;subst y2
    exact⟨_,ae (dI c1 rfl) (ae (dI c2 rfl) (ae e8 (ae e9 (cX (ds:=[]) (v:= .bool true) (f:=true) (st':=q3) rfl))))⟩
end
end
section
open PySem.W PyProof.Rows
section
variable {m:Nat} {ns N l:List Int} {tl:St}
noncomputable def Bc (ns N l:List Int):St:=[(51,⟨.safe,.list (ns.map .int)⟩),(52,⟨.own,.list (l.map .int)⟩),(53,⟨.safe,.list (N.map .int)⟩)]
noncomputable def zR:List PS:=match yM.drop 2 with| .forS _ _ b::_=>b|_=>[]
noncomputable def KP:PE:=match zR with| .setItem _ _ e::_=>e|_=> .cnone
theorem ul {l:List Int} {k:Nat} (h:k<l.length):(l.map V.int)[k]?=some (.int l[k]):=by rw[bH,aW h];rfl
theorem BB {k:Nat} (hl:l.length=5) (hN:N.length<=100) (hk:k<N.length) (hg:tl.get 48=some (sN k)): ∃z,af (ev bg (m+12)).s zR (Bc ns N l++tl)=some (.next,Bc ns N (l.set (k%5) z)++tl):=by
 have e48: ∀j,(ev bg (j+1)).e (Bc ns N l++tl) (.var 48)=some (iN k):=λj=>by rw[oJ,show(Bc ns N l++tl).get 48=tl.get 48 by rfl',hg];rfl
 have h5:k%5<l.length:=by rw[hl];exact i0 _ (by decide)
 have eI: ∀j,(ev bg (j+2)).e (Bc ns N l++tl) (.bin .Mod (.var 48) (.cint 5))=some (iN (k%5)):=λj=>cM (x:=iN k) (y:=iN 5) (e48 _) (by rfl') (J5 (by decide) (by decide))
 have e53: ∀j,(ev bg (j+2)).e (Bc ns N l++tl) (.sub (.var 53) (.var 48))=some (iI N[k]):=λj=>gH (x:=(.list (N.map .int),true)) (y:=iN k) (by rfl') (e48 _) ((nu (by rw[aR];exact hk) (by rw[aR];lia)).trans (ul hk))
 have eZ: ∃z,(ev bg (m+11)).e (Bc ns N l++tl) KP=some (iI z):=by
  by_cases hc:(0:Int)<=N[k]
  ·exact⟨_,cM (x:=iI l[k%5]) (y:=iI (N[k].fmod (10^6))) (gH (x:=(.list (l.map .int),false)) (y:=iN (k%5)) (by rfl') (eI _) ((nu (by rw[aR];exact h5) (by rw[aR];lia)).trans (ul h5)))
    (tP (t:=true) (cx (x:=iI N[k]) (y:=iI 0) (e53 _) (by rfl') (congrArg some (decide_eq_true hc))) (cM (x:=iI N[k]) (y:=iI (10^6)) (e53 _) (by rfl') (by rfl'))) rfl⟩
  ·exact⟨_,cM (x:=iI l[k%5]) (y:=iI (-((-N[k]).fmod (10^6)))) (gH (x:=(.list (l.map .int),false)) (y:=iN (k%5)) (by rfl') (eI _) ((nu (by rw[aR];exact h5) (by rw[aR];lia)).trans (ul h5)))
    (tP (t:=false) (cx (x:=iI N[k]) (y:=iI 0) (e53 _) (by rfl') (congrArg some (decide_eq_false hc))) (Ga (f:=true) (cM (x:=iI (-N[k])) (y:=iI (10^6)) (Ga (f:=true) (e53 _)) (by rfl') (by rfl')))) rfl⟩
 obtain⟨z,eZ⟩:=eZ
 refine⟨z,cf ((tO (v:= .int z) (f:=true) (g:=true) eZ (eI _) (jk (k:= .own) (l:=l.map .int) (by rfl') (.inl rfl) (decide_eq_true (by rw[aR];lia))) rfl (by rw[aR];exact h5)).trans ?_)⟩
 rw[show(l.map V.int).set (k%5) (.int z)=(l.set (k%5) z).map .int from List.map_set.symm];rfl'
theorem Me (hn:ns.length<=1000): ∃l:List Int,l.length=5/\(ev bg (m+20)).call (.fn 20) [(.list (ns.map .int),true)] [] []=some (.list (l.map .int),true):=by
 obtain⟨st',h1,_,l,tl,h2,h3⟩:=gJ (bind:=λst v=>dr st (.n 48) v true) (body:=λst=>af (ev bg (m+18)).s zR st) (f:=λk:Nat=>V.int (k:Nat))
  (λrest st=>(∀k∈rest,k<(ns.take 60).length)/\ ∃l tl,l.length=5/\st=Bc ns (ns.take 60) l++tl)
  (λk r st ⟨h1,l,tl,h2,h3⟩=>(BB (m:=m+6) (tl:=tl.put 48 (sN k)) h2 (by rw[dm];lia) (h1 k (.head _)) j9).elim λz hz=>
   ⟨Bc ns (ns.take 60) l++tl.put 48 (sN k),_,by rw[h3];rfl',hz,λj hj=>h1 j (.tail _ hj),_,_,by rw[List.length_set];exact h2,rfl⟩)
  (ak (ns.take 60).length) (Bc ns (ns.take 60) [43,-13,0,5137,74]++ []) ⟨λk hk=>dN.mp hk,_,[],rfl,rfl⟩
 refine⟨l,h2,?_⟩
 have y1:(ev bg (m+19)).s [(51,⟨.safe,.list (ns.map .int)⟩)] (yM.getD 0 .fail)=some (.next,[(51,⟨.safe,.list (ns.map .int)⟩),(52,⟨.own,.list (([43,-13,0,5137,74]:List Int).map .int)⟩)]):=by rfl'
 have y2:(ev bg (m+19)).s [(51,⟨.safe,.list (ns.map .int)⟩),(52,⟨.own,.list (([43,-13,0,5137,74]:List Int).map .int)⟩)] (.assign 53 false (.slice (.var 51) none (some (.cint 60))))=some (.next,Bc ns (ns.take 60) [43,-13,0,5137,74]++ []):=
  (bx (x:=(.list ((ns.take 60).map .int),true)) rfl (qQ (x:=(.list (ns.map .int),true)) (p:=none) (q:=some (.int ((60:Nat):Int))) (by rfl') rfl (by rfl') ((Cw (by rw[aR];lia) (by decide)).trans (by rw[List.map_take]))) (by show(fC 2 ((ns.take 60).map V.int)&&true)=true;rw[mG];rfl)).trans (by rfl')
 have y3:(ev bg (m+19)).s (Bc ns (ns.take 60) [43,-13,0,5137,74]++ []) (.forS (.n 48) (.range [.bi .len [.var 53]]) zR)=some (.next,st'):=by
  refine li (v:= .range 0 ((((ns.take 60).length:Nat):Int)).toNat) (Cc (x:=((ns.take 60).length:Nat)) (f:=true) ((v6 (l:=(ns.take 60).map .int) (f:=true) (by rfl') (by rw[aR,dm];lia)).trans (by rw[aR])) ⟨by rw[dm];lia,by rw[dm];lia⟩) ?_ rfl h1
  exact rG _
 have y4:(ev bg (m+19)).s st' (.ret (.var 52))=some (.ret (.list (l.map .int)) true,[(51,⟨.safe,.list (ns.map .int)⟩),(52,⟨.safe,.list (l.map .int)⟩),(53,⟨.safe,.list ((ns.take 60).map .int)⟩)]++tl):=by
  rw[h3]
  exact(jh (x:=(.list (l.map .int),true)) (by rfl') (mG 2 l)).trans (by rfl')
 exact AS (d:=xu) (bs:=[(51,(.list (ns.map .int),true))]) (by rfl') (by rfl') (by show(fC 2 (ns.map V.int)&&true&&true)=true;rw[mG];rfl) (by rfl') (ae y1 (ae y2 (ae y3 (cX (ds:=[]) y4)))) rfl
end
end
section
open PySem.W PyProof.Rows
noncomputable def tN (r:List Nat) (b:Bool):List Nat:=r++(if(decide (r.count 40=r.count 41)||b)&&decide (r.count 40<4)then[40]else[41])
noncomputable def C5 (bs:List Bool):List Nat:=bs.foldl tN []
noncomputable def yl (j:Nat):List (List Nat)->List (List Nat)
 | []=>[]
 |r::l=>(let o:=r.count 40;if o==r.length-o then[r++ [40]]else if iE o 4 then[r++ [41],r++ [40]]else[r++ [41]])++yl j l
noncomputable def eK:List (List Nat):=(ak 8).foldl (λl j=>yl j l) [[]]
theorem C2: ∀b0 b1 b2 b3 b4 b5 b6 b7:Bool,C5 [b0,b1,b2,b3,b4,b5,b6,b7]∈eK:=by decide+kernel
noncomputable def bitP (f:Int) (j:Nat):Bool:=decide ((f.fdiv (2^j)).fmod 2=1)
section
variable {m:Nat} {f:Int} {r:List Nat} {tl:St} {j:Nat}
noncomputable def zZ (f:Int) (r:List Nat):St:=[(54,⟨.safe,.int f⟩),(55,sS r)]
noncomputable def C4:List PS:=match yL.drop 1 with| .forS _ _ b::_=>b|_=>[]
theorem C3 (hj:j<8) (hr:r.length<=1000) (hg:tl.get 56=some (sN j)): ∃tl',af (ev bg (m+14)).s C4 (zZ f r++tl)=some (.next,zZ f (tN r (bitP f j))++tl'):=by
 have e56: ∀k,(ev bg (k+1)).e (zZ f r++tl) (.var 56)=some (iN j):=λk=>by rw[oJ,show(zZ f r++tl).get 56=tl.get 56 by rfl',hg];rfl
 have hp:(2:Int)^j≠0/\((2:Int)^j).natAbs<2^64:=(by decide: ∀j<8,(2:Int)^j≠0/\((2:Int)^j).natAbs<2^64) j hj
 have e1:(ev bg (m+13)).e (zZ f r++tl) (.or [.cmp (.count (.var 55) (.cstr ⟨#[40]⟩)) [.Eq] [.count (.var 55) (.cstr ⟨#[41]⟩)],.cmp (.bin .Mod (.bin .FloorDiv (.var 54) (.bin .Pow (.cint 2) (.var 56))) (.cint 2)) [.Eq] [.cint 1]])=some (.bool (decide (r.count 40=r.count 41)||bitP f j),true):=
  Hc (ji (x:=iN (r.count 40)) (by rfl') (gI (y:=iN (r.count 41)) (by rfl') (u3.trans (congrArg some (decide_eq_decide.mpr vI)))))
   (ji (x:=iI ((f.fdiv (2^j)).fmod 2)) (cM (x:=iI (f.fdiv (2^j))) (y:=iI 2) (cM (x:=iI f) (y:=iI (2^j)) (by rfl') (cM (x:=iI 2) (y:=iN j) (by rfl') (e56 _) (vh (by decide) (by lia))) (DD hp.1 hp.2)) (by rfl') (by rfl')) (gI (y:=iI 1) (by rfl') u3))
 generalize hb:(decide (r.count 40=r.count 41)||bitP f j)=b at e1
 have hg2:(tl.put 57 ⟨.safe,.bool b⟩).get 57=some ⟨.safe,.bool b⟩:=j9
 refine⟨tl.put 57 ⟨.safe,.bool b⟩,ae (st':=zZ f r++tl.put 57 ⟨.safe,.bool b⟩) ((bx (z:=57) (x:=(.bool b,true)) rfl e1 rfl).trans (by rfl')) ?_⟩
 generalize tl.put 57 ⟨.safe,.bool b⟩=tl2 at*
 have e57: ∀k,(ev bg (k+1)).e (zZ f r++tl2) (.var 57)=some (.bool b,true):=λk=>by rw[oJ,show(zZ f r++tl2).get 57=tl2.get 57 by rfl',hg2];rfl
 have e2:(ev bg (m+11)).t (zZ f r++tl2) (.and [.var 57,.cmp (.count (.var 55) (.cstr ⟨#[40]⟩)) [.Lt] [.cint 4]])=some (b&&decide (r.count 40<4)):=
  yp (uU (e57 _) rfl) (cx (x:=iN (r.count 40)) (y:=iN 4) (by rfl') (by rfl') (congrArg some (decide_eq_decide.mpr di)))
 have e3:tN r (bitP f j)=r++(if b&&decide (r.count 40<4)then[40]else[41]):=by unfold tN;rw[hb]
 rw[e3]
 generalize (b&&decide (r.count 40<4))=c at e2
 refine cf ((bx (z:=55) (x:=(sV (r++(if c then[40]else[41])),true)) rfl (cM (x:=(sV r,true)) (y:=(sV (if c then[40]else[41]),true)) (by rfl') (tP e2 (by clear e2;cases c<;>rfl)) (u4 (by clear e2;cases c<;>(show r.length+1<=_;lia)))) rfl).trans (by rfl'))
theorem Md:(ev bg (m+20)).call (.fn 21) [(.int f,true)] [] []=some (sV (C5 ((ak 8).map (bitP f))),true):=by
 obtain⟨st',h1,_,_,r,tl,h2,h3⟩:=gJ (bind:=λst v=>dr st (.n 56) v true) (body:=λst=>af (ev bg (m+18)).s C4 st) (f:=λk:Nat=>V.int (k:Nat))
  (λrest st=>(∀k∈rest,k<8)/\rest.length<=8/\ ∃r tl,r.length+rest.length=8/\st=zZ f r++tl/\(rest.map (bitP f)).foldl tN r=C5 ((ak 8).map (bitP f)))
  (λk l st ⟨h1,h0,r,tl,h2,h3,h4⟩=>(C3 (m:=m+4) (tl:=tl.put 56 (sN k)) (h1 k (.head _)) (show r.length<=1000 by lia) j9).elim λtl' hz=>
   ⟨zZ f r++tl.put 56 (sN k),_,by rw[h3];rfl',hz,λj hj=>h1 j (.tail _ hj),kT h0,_,_,by
    unfold tN;rw[bO];rw[bJ]at h2
    split<;>(show r.length+1+l.length=8;lia),rfl,h4⟩)
  (ak 8) (zZ f []++ []) ⟨λk hk=>dN.mp hk,bC _,[],[],rfl,rfl,rfl⟩
 obtain⟨h3,h4⟩:=h3
 have h4:r=_:=h4
 rw[<-h4]
 have y1:(ev bg (m+19)).s [(54,⟨.safe,.int f⟩)] (yL.getD 0 .fail)=some (.next,zZ f []++ []):=by rfl'
 have y2:(ev bg (m+19)).s (zZ f []++ []) (.forS (.n 56) (.range [.cint 8]) C4)=some (.next,st'):=li (v:= .range 0 8) (by rfl') (rG 8) rfl h1
 have y3:(ev bg (m+19)).s st' (.ret (.var 55))=some (.ret (sV r) true,st'):=by
  rw[h3]
  exact(jh (x:=(sV r,true)) (by rfl') rfl).trans (by rfl')
 exact AS (d:=xt) (bs:=[(54,(.int f,true))]) (by rfl') (by rfl') (by rfl') (by rfl') (ae y1 (ae y2 (cX (ds:=[]) y3))) rfl
theorem FK:C5 ((ak 8).map (bitP f))∈eK:=C2 _ _ _ _ _ _ _ _
end
end
section
open PySem.W PyProof.Rows
noncomputable def Sm:Nat->Int->Int->Int
 |0,_,_=>0
 |h+1,p,q=>p*Sm h p q+q^h
theorem Iz (h:Nat) (p q:Int):(p-q)*Sm h p q=p^h-q^h:=by
 induction h with
 |zero=>rw[Int.pow_zero,Int.pow_zero];show(p-q)*0=0;rw[Int.mul_zero]
 |succ h ih=>
  show(p-q)*(p*Sm h p q+q^h)=_
  rw[Int.mul_add,Int.mul_left_comm,ih,Int.pow_succ,Int.pow_succ,Int.mul_sub,Int.sub_mul,Int.mul_comm (p^h),Int.mul_comm (q^h)]
  lia
theorem nG {x:Int} {B h:Nat} (hx:x.natAbs<=B):(x^h).natAbs<=B^h:=by
 rw[Int.natAbs_pow];exact Nat.pow_le_pow_left hx h
theorem HP {p q:Int} {B:Nat} (hB:1<=B) (hp:p.natAbs<=B) (hq:q.natAbs<=B) (h:Nat):(Sm h p q).natAbs<=h*B^h:=by
 induction h with
 |zero=>exact bj _
 |succ h ih=>
  show(p*Sm h p q+q^h).natAbs<=_
  refine aQ (Int.natAbs_add_le _ _) ?_
  rw[fB,zm,zg]
  refine Nat.add_le_add (aQ (fA hp ih) ?_) (aQ (nG hq) (bF hB (mx h)))
  rw[eU,Nat.mul_left_comm];exact bC _
theorem Ju {d S r:Int} (h0:0<=r) (h1:r<d):(d*S+r).fdiv d=S/\(d*S+r).fmod d=r:=
 (nB (o7 h0 h1)).mpr ⟨Int.add_comm _ _,h0,h1⟩
theorem Ew {p q sd c:Int} (hs:sd=1\/sd= -1) (hd:0<q-p) (h0:0<=c) (h8:c<8) (h:Nat):
  (sd*(p^h-q^h)+ -sd*((q-p)*c).fdiv 8).fdiv (sd*(p-q))=Sm h p q/\(sd*(p^h-q^h)+ -sd*((q-p)*c).fdiv 8).fmod (sd*(p-q))= -sd*((q-p)*c).fdiv 8:=by
 have hr:0<=((q-p)*c).fdiv 8/\((q-p)*c).fdiv 8<q-p:=by
  have h1:0<=(q-p)*c:=Int.mul_nonneg (xF hd) h0
  have h2:(q-p)*c<=(q-p)*7:=Int.mul_le_mul_of_nonneg_left (by lia) (xF hd)
  rw[uI _ (by decide)]
  generalize (q-p)*c=t at h1 h2
  generalize q-p=d at hd h2
  lia
 rw[<-Iz]
 have e:p-q= -(q-p):=(Int.neg_sub q p).symm
 rw[e]
 generalize ((q-p)*c).fdiv 8=r at hr
 generalize Sm h p q=S
 generalize q-p=d at hr
 obtain⟨k1,k2⟩:=Ju (S:=S) hr.1 hr.2
 rcases hs with rfl|rfl
 ·rw[show(1:Int)*(-d*S)+ -1*r= -(d*S+r) by rw[kU,sK,sK,kU,Int.neg_add],show(1:Int)* -d= -d from kU _,Int.neg_fdiv_neg,Int.neg_fmod_neg,k1,k2]
  exact⟨rfl,by lia⟩
 ·rw[show(-1:Int)*(-d*S)+ - -1*r=d*S+r by rw[sK,kU,sK,zo,zo,kU],show(-1:Int)* -d=d by lia,k1,k2]
  exact⟨rfl,by lia⟩
end
section
open PySem.W PyProof.Rows
noncomputable def rY (p q:Nat->Int):V:= .list ((ak 8).map λj=> .tup [.int (p j),.int (q j)])
noncomputable def zs (W:List (List Q4)):V:= .list (W.map wV)
structure LP where
 ns:List Int
 c0:Int
 c1:Int
 c2:Int
 c3:Int
 c4:Int
 row:List Nat
 bs:Int
 sd:Int
 rn:Int
 p:Nat->Int
 q:Nat->Int
noncomputable def CG (row:List Nat):List Nat:=(ak 7).filter λj=>row.getD j 0==40&&row.getD (j+1) 0==41
noncomputable def kJ (row:List Nat):List Nat:=(ak 8).filter λj=>row.getD j 0==41
noncomputable def Z0 (X:LP):St:=[(51,⟨.safe,.list (X.ns.map .int)⟩),(52,⟨.safe,.list [.int X.c0,.int X.c1,.int X.c2,.int X.c3,.int X.c4]⟩),(55,sS X.row),(58,⟨.safe,zs (bu X.row)⟩),(89,sI X.bs),(90,sI X.sd),(91,sI X.rn)]
noncomputable def Z (X:LP) (pr to:Int) (D:List V):St:=Z0 X++ [(84,⟨.safe,rY X.p X.q⟩),(92,⟨.own,.list ((CG X.row).map λk=> .int (k:Nat))⟩),(93,sI pr),(94,sI to),(95,⟨.own,.list D⟩)]
noncomputable def T6 (j h:Nat) (p q r S:Int):St:=[(56,sN j),(102,sI p),(19,sI q),(96,sN h),(97,sI r),(98,⟨.safe,.tup [.int S,.int r]⟩)]
structure we (X:LP):Prop where
 sd:X.sd=1\/X.sd= -1
 rn:X.rn=0\/X.rn=1
 d: ∀j,j<8->0<X.q j-X.p j/\X.q j-X.p j<=2000
 p: ∀j,j<8->(X.p j).natAbs<=2100
 q: ∀j,j<8->(X.q j).natAbs<=2100
noncomputable def GJ:List PS:=match cZ.drop 6 with| .forS _ _ b::_=>b|_=>[]
section
variable {m:Nat} {X:LP} {pr to:Int} {D:List V} {tl:St} {j h:Nat}
theorem zU {p q:Nat->Int} (hj:j<8):vT (rY p q) (.int (j:Int))=some (.tup [.int (p j),.int (q j)]):=by
 refine(nu (l:=(ak 8).map λj=>V.tup [.int (p j),.int (q j)]) (by rw[aR,dR];exact hj) (by rw[aR,dR];decide)).trans ?_
 rw[bH,List.getElem?_range hj];rfl
theorem EZ (K:we X) (hj:j<8) (hrow:X.row.length<=100) (hh:(X.row.take j).count 40=h+(X.row.take j).count 41) (h4:h<=4) (hpr:pr.natAbs<2^2000) (ht:tl=[]\/ ∃j h p q r S,tl=T6 j h p q r S):
  ∃r,af (ev bg (m+72)).s GJ ((Z X pr to D++tl).put 56 (sN j))=some (.next,Z X (pr*Sm h (X.p j) (X.q j)) to D++T6 j h (X.p j) (X.q j) r (Sm h (X.p j) (X.q j))):=by
 obtain⟨d1,d2⟩:=K.d j hj
 have p1:=K.p j hj
 have q1:=K.q j hj
 have hs:=K.sd
 obtain⟨c,hc,c0,c8⟩: ∃c,(X.c3.fdiv 96).fmod 8=c/\0<=c/\c<8:=⟨_,rfl,cm _ (by decide),dy _ (by decide)⟩
 obtain⟨t1,t2⟩:=Ew hs d1 c0 c8 h
 have pB:((X.p j)^h).natAbs<=2^48:=aQ (nG p1) (aQ (bF (by decide) h4) (by decide))
 have qB:((X.q j)^h).natAbs<=2^48:=aQ (nG q1) (aQ (bF (by decide) h4) (by decide))
 have sB:(Sm h (X.p j) (X.q j)).natAbs<=2^50:=aQ (HP (by decide) p1 q1 h) (aQ (fA h4 (bF (by decide) h4)) (by decide))
 generalize Sm h (X.p j) (X.q j)=S at t1 sB⊢
 have rB:((X.q j-X.p j)*c).natAbs<=16000:=by
  rw[fB];exact aQ (fA (show(X.q j-X.p j).natAbs<=2000 by lia) (show c.natAbs<=8 by lia)) (by decide)
 have rB2:(((X.q j-X.p j)*c).fdiv 8).natAbs<=16000:=by
  rw[uI _ (by decide)]
  generalize (X.q j-X.p j)*c=t at rB
  lia
 clear c8 rB;subst hc
 generalize hr: -X.sd*((X.q j-X.p j)*(X.c3.fdiv 96).fmod 8).fdiv 8=r at t1 t2
 have r16:r.natAbs<=16000:=by
  rw[<-hr,fB,nA]
  rcases hs with e|e<;>rw[e]<;>(show 1*_<=_;lia)
 have aB:(X.sd*(X.p j^h-X.q j^h)+r).natAbs<2^61:=by
  refine aV (Int.natAbs_add_le _ _) ?_
  have:=Int.natAbs_sub_le (X.p j^h) (X.q j^h)
  rw[fB]
  rcases hs with e|e<;>rw[e]<;>(show 1*_+_<_;lia)
 have bB:(X.sd*(X.p j-X.q j)).natAbs<2^16/\X.sd*(X.p j-X.q j)≠0:=by rcases hs with e|e<;>rw[e]<;>lia
 have sd1:X.sd.natAbs=1:=by rcases hs with e|e<;>rw[e]<;>rfl
 have hc10:=Mh (m:=m) (x:=X.sd*(X.p j^h-X.q j^h)+r) (y:=X.sd*(X.p j-X.q j)) aB bB.2 bB.1
 rw[show qr (X.sd*(X.p j^h-X.q j^h)+r) (X.sd*(X.p j-X.q j))= .tup [.int S,.int r]from by unfold qr;rw[t1,t2]]at hc10
 refine⟨r,?_⟩
 have P64:(2:Nat)^48<2^64:=by decide
 have bp:(X.p j).natAbs<2^64:=aV p1 (by decide)
 have bq:(X.q j).natAbs<2^64:=aV q1 (by decide)
 have bs:X.sd.natAbs<2^4096:=by rw[sd1];exact gG (by decide)
 have bpq:(X.p j^h-X.q j^h).natAbs<2^4096:=gG (by have:=Int.natAbs_sub_le (X.p j^h) (X.q j^h);lia)
 have bpr:pr.natAbs<2^4096:=cT hpr (bF (by decide) (by decide))
 have b1:(X.q j-X.p j).natAbs<2^4096:=gG (by lia)
 have b3:(((X.q j-X.p j)*(X.c3.fdiv 96).fmod 8).fdiv 8).natAbs<2^4096:=gG (aV rB2 (by decide))
 have b2:((X.c3.fdiv 96).fmod 8).natAbs<2^4096:=gG (by lia)
 have bs':(-X.sd).natAbs<2^4096:=by rw[nA];exact bs
 have bd:(X.p j-X.q j).natAbs<2^4096:=gG (by lia)
 have bS:S.natAbs<2^4096:=gG (aV sB (by decide))
 have hcnt: ∀(st:St) (k:Nat),(ev bg (k+1)).e st (.var 55)=some (sV X.row,true)->(ev bg (k+1)).e st (.var 56)=some (iN j)->(ev bg (k+4)).e st (.bin .Sub (.count (.slice (.var 55) none (some (.var 56))) (.cstr ⟨#[40]⟩)) (.count (.slice (.var 55) none (some (.var 56))) (.cstr ⟨#[41]⟩)))=some (iN h):=λst k g1 g2=>by
  have g3:(ev bg (k+2)).e st (.slice (.var 55) none (some (.var 56)))=some (sV (X.row.take j),true):=qQ (x:=(sV X.row,true)) (p:=none) (q:=some (.int (j:Int))) g1 rfl (by show((ev bg (k+1)).e st (.var 56)).bind _=_;rw[g2];rfl) (Cy (by lia) (by lia))
  exact cM (x:=iN ((X.row.take j).count 40)) (y:=iN ((X.row.take j).count 41)) (yn (f:=true) (g:=true) g3 rfl) (yn (f:=true) (g:=true) g3 rfl) ((yw (by rw[hh];exact jC ..)).trans (by rw[hh,Nat.add_sub_cancel]))
 clear hh K rB2 aB sB qB pB hpr bB r16 p1 q1 d1 d2 c0 sd1
 rcases ht with rfl|⟨j',h',p',q',r',S',rfl⟩
 all_goals
  refine ae (gT (xs:=[102,19]) (a:= .sub (.var 84) (.var 56)) (l:=[.int (X.p j),.int (X.q j)]) (f:=true) (gH (x:=(rY X.p X.q,true)) (y:=iN j) (by rfl') (by rfl') (zU hj)) rfl) ?_
  refine ae (bx (z:=96) (x:=iN h) rfl (hcnt _ _ (by rfl') (by rfl')) rfl) ?_
  refine ae (bx (z:=97) (x:=iI r) rfl (hr▸cM (x:=iI (-X.sd)) (y:=iI (((X.q j-X.p j)*(X.c3.fdiv 96).fmod 8).fdiv 8)) (by rfl') (cM (x:=iI ((X.q j-X.p j)*(X.c3.fdiv 96).fmod 8)) (y:=iI 8) (cM (x:=iI (X.q j-X.p j)) (y:=iI ((X.c3.fdiv 96).fmod 8)) (by rfl') (by rfl') (ll b1 b2)) (by rfl') (DD (by decide) (by decide))) (ll bs' b3)) rfl) ?_
  refine ae (bx (z:=98) (x:=(.tup [.int S,.int r],true)) rfl (f6 (g:=(.fn 10,true)) (args:=[iI (X.sd*(X.p j^h-X.q j^h)+r),iI (X.sd*(X.p j-X.q j))]) (by rfl')
   (gq (cM (x:=iI (X.sd*(X.p j^h-X.q j^h))) (y:=iI r) (cM (x:=iI X.sd) (y:=iI (X.p j^h-X.q j^h)) (by rfl') (cM (x:=iI (X.p j^h)) (y:=iI (X.q j^h)) (cM (x:=iI (X.p j)) (y:=iN h) (by rfl') (by rfl') (vh bp (by lia))) (cM (x:=iI (X.q j)) (y:=iN h) (by rfl') (by rfl') (vh bq (by lia))) rfl) (ll bs bpq)) (by rfl') rfl)
    (gq (cM (x:=iI X.sd) (y:=iI (X.p j-X.q j)) (by rfl') (by rfl') (ll bs bd)) lH)) hc10) rfl) ?_
  refine ae (dI (t:=false) (cx (x:=iI r) (y:=iI r) (by rfl') (by rfl') (DB.trans (by rw[decide_eq_true rfl];rfl))) rfl) ?_
  exact cf ((bx (z:=93) (x:=iI (pr*S)) rfl (cM (x:=iI pr) (y:=iI S) (by rfl') (by rfl') (ll bpr bS)) rfl).trans (by rfl'))
noncomputable def mJ (row:List Nat) (j:Nat):Nat:=(row.take j).count 40-(row.take j).count 41
theorem FJ: ∀row∈eK,row.length=8/\(kJ row).length=4/\ ∀j∈kJ row,j<8/\(row.take j).count 40=mJ row j+(row.take j).count 41/\mJ row j<=4:=by decide+kernel
noncomputable def v9 (X:LP) (l:List Nat):Int:=l.foldr (λj a=>Sm (mJ X.row j) (X.p j) (X.q j)*a) 1
noncomputable def Ie:PE:=match cZ.drop 6 with| .forS _ e _::_=>e|_=> .cnone
theorem Ay (X:LP):eK.map (λr=>(ev bg (m+30)).e (Z {X with row:=r} 1 0 []) Ie)=jJ (λr=>some (.list ((kJ r).map λk=> .int (k:Nat)),true)) eK:=by rfl'
theorem E0 (K:we X) (hr:X.row∈eK): ∃j h p q r S,(ev bg (m+73)).s (Z X 1 0 []) (.forS (.n 56) Ie GJ)=some (.next,Z X (v9 X (kJ X.row)) 0 []++T6 j h p q r S):=by
 refine obE03 (FJ _ hr) λr8 r4 rj=>?_
 refine obE12 (gJ (bind:=λst v=>dr st (.n 56) v true) (body:=λst=>af (ev bg (m+72)).s GJ st) (f:=λk:Nat=>V.int (k:Nat))
  (λrest st=> ∃pr tl,st=Z X pr 0 []++tl/\((tl=[]/\rest.length=4)\/ ∃j h p q r S,tl=T6 j h p q r S)/\pr.natAbs*(2^50)^rest.length<2^2000/\pr*v9 X rest=v9 X (kJ X.row)/\ ∀j∈rest,j∈kJ X.row)
  (λj l st zq=>by
   refine obE25 zq λpr tl h2 h3 h4 h5 h6=>?_
   obtain⟨k1,k2,k3⟩:=rj j (h6 j (.head _))
   have hb:pr.natAbs<2^2000:=aV (lQ _ (Nat.pow_pos (by decide))) h4
   obtain⟨r,hq⟩:=EZ (m:=m) (to:=0) (D:=[]) (tl:=tl) K k1 (by rw[r8];decide) k2 k3 hb (h3.imp (λz=>z.1) id)
   refine⟨_,_,by rw[h2];rfl',hq,_,_,rfl,.inr ⟨_,_,_,_,_,_,rfl⟩,?_,?_,λi hi=>h6 i (.tail _ hi)⟩
   ·have sB:(Sm (mJ X.row j) (X.p j) (X.q j)).natAbs<=2^50:=aQ (HP (by decide) (K.p j k1) (K.q j k1) _) (aQ (fA k3 (bF (by decide) k3)) (by decide))
    rw[fB]
    refine aV ?_ h4
    rw[bJ,show((2:Nat)^50)^(l.length+1)=2^50*(2^50)^l.length from eU ..,<-k6]
    exact zj _ (nZ _ sB)
   ·rw[<-h5,Int.mul_assoc];rfl)
  (kJ X.row) (Z X 1 0 []) ⟨1,[],rfl,.inl ⟨rfl,r4⟩,by rw[r4];decide+kernel,kU _,λj hj=>hj⟩) λst' h1 zq=>?_
 refine obE25 zq λpr tl h2 h3 _ h5 _=>?_
 rcases h3 with⟨_,h3⟩|⟨j,h,p,q,r,S,h3⟩
 ·cases h3
 ·refine⟨j,h,p,q,r,S,?_⟩
  have h5:pr*1=_:=h5
  rw[zp]at h5
  rw[h2,h3,h5]at h1
  exact li (v:= .list ((kJ X.row).map λk=> .int (k:Nat))) (cu (Ay (m:=m+42) X) X.row hr) (by show(if bo (gj (kJ X.row))then some _ else none)=_;rw[if_pos (kq 2 _)]) rfl h1
end
end
section
open PySem.W PyProof.Rows
noncomputable def Ck (x:Int):List Int->List Int
 | []=>[x]
 |y::r=>if y<x then y::Ck x r else x::r
noncomputable def xY (l:List Int):Nat:=(l.foldl (λp x=>Ck x p) []).length
noncomputable def JZ (J:List Q4) (t:Nat):List Int:=(J.filter λx=>gc x.1 t&&iE t x.2.1).map λx=>((x.2.1:Nat):Int)
noncomputable def Ct (J:List Q4):List Int:=J.map λx=> -((x.2.1:Nat):Int)
noncomputable def iL (l:List Int):V:= .list (l.map .int)
noncomputable def nL (l:List Nat):V:= .list (l.map λk=> .int (k:Nat))
noncomputable def qd (J:List Q4) (x:Q4):List Q4:=J.filter λy=>iE y.1 x.1&&iE x.2.1 y.2.1
noncomputable def qf (J:List Q4) (x:Q4):List Q4:=J.filter λy=>iE x.1 y.1&&iE y.1 x.2.1&&iE x.2.1 y.2.1
noncomputable def iU:List (List Nat×List Q4):=eK.flatMap λr=>(bu r).map λJ=>(r,J)
noncomputable def kM:List (List Q4×Q4):=iU.flatMap λp=>p.2.map λx=>(p.2,x)
noncomputable def sq:List PS:=match cZ.drop 7 with| .forS _ _ b::_=>b|_=>[]
noncomputable def r0:List PS:=match sq.drop 1 with| .forS _ _ b::_=>b|_=>[]
noncomputable def zV:PE:=match r0 with| .assignT _ (.tup (e::_))::_=>e|_=> .cnone
noncomputable def zW:PE:=match r0 with| .assignT _ (.tup (_::e::_))::_=>e|_=> .cnone
noncomputable def Gd:PE:=match sq.drop 3 with| .assign _ _ e::_=>e|_=> .cnone
noncomputable def LH:PE:=match sq.drop 4 with| .append _ (.tup (_:: .call _ (e::_) _ _::_))::_=>e|_=> .cnone
noncomputable def iG (r:List Nat) (J:List Q4):List Nat:=(CG r).map λt=>xY (JZ J t)
noncomputable def tf (r:List Nat) (J:List Q4):Nat×Nat:=((iG r J).foldl max 0,xY (Ct J))
theorem vy:(kM.all λp=>(qd p.1 p.2).length==p.2.2.2.1&&(qf p.1 p.2).length==p.2.2.2.2&&iE p.2.2.1 8&&gc p.2.2.2.1 3&&gc p.2.2.2.2 3)=true:=by decide+kernel
theorem yP (m:Nat):kM.map (λp=>(ev bg (m+20)).e [(61,⟨.safe,wV p.1⟩),(65,sJ p.2)] zV)=jJ (λp=>some (.list ((qd p.1 p.2).map jV),true)) kM:=by rfl'
theorem yQ (m:Nat):kM.map (λp=>(ev bg (m+20)).e [(61,⟨.safe,wV p.1⟩),(65,sJ p.2)] zW)=jJ (λp=>some (.list ((qf p.1 p.2).map jV),true)) kM:=by rfl'
theorem Cm (m:Nat):iU.map (λp=>(ev bg (m+30)).e [(61,⟨.safe,wV p.2⟩),(92,⟨.own,nL (CG p.1)⟩)] Gd)=jJ (λp=>some (nL (iG p.1 p.2),true)) iU:=by rfl'
theorem FV (m:Nat):iU.map (λp=>(ev bg (m+20)).e [(61,⟨.safe,wV p.2⟩)] LH)=jJ (λp=>some (iL (Ct p.2),true)) iU:=by rfl'
theorem AW (m:Nat):iU.map (λp=>(ev bg (m+20)).call (.fn 23) [(iL (Ct p.2),true)] [] [])=jJ (λp=>some (.int (xY (Ct p.2):Nat),true)) iU:=by rfl'
theorem F2:iU.map (λp=>Ij .maxL [nL (iG p.1 p.2)])=jJ (λp=>some (.int ((tf p.1 p.2).1:Nat))) iU:=by rfl'
theorem CR:iU.map (λp=>Ij .sorted [wV p.2])=jJ (λp=>some (wV p.2)) iU:=by rfl'
theorem CW:iU.map (λp=>nU .NotEq (wV p.2) (wV p.2))=jJ (λ_=>some false) iU:=by rfl'
end
section
open PySem.W PyProof.Rows
section
variable {W:cY} {n:Nat} {st st2:St} {a b:PE} {x y:VB} {v:V}
theorem q9 {elt it:PE} {tg:Tg} {ifs:List PE} {gs:List (Tg×PE×List PE)} {free:List Nat} (hf:(st.filter λp=>free.contains p.1)=st2.filter λp=>free.contains p.1) (hc:pF st free=pF st2 free) (hi:(ev W n).e st it=(ev W n).e st2 it):
  (ev W (n+1)).e st (.comp elt ((tg,it,ifs)::gs) free)=(ev W (n+1)).e st2 (.comp elt ((tg,it,ifs)::gs) free):=by
 rw[xx,xx]
 unfold qb
 dsimp only
 rw[hf,hc,hi]
theorem uW {z:Nat} (h:v.firm=true):k9 st z v true=some (st.put z (ai v true)):=by
 unfold k9;rw[h];rfl
theorem Kp {z:Nat} {l:List V} (h:fC 2 l=true):dr st (.n z) (.list l) true=some (st.put z ⟨.safe,.list l⟩):=uW (v:= .list l) h
theorem Hi {z z':Nat} {u v:V} (h:u.firm=true) (h':v.firm=true):pS st [z,z'] [u,v] true=some ((st.put z (ai u true)).put z' (ai v true)):=by
 show(k9 st z u true).bind _=_
 rw[uW h]
 show(k9 _ z' v true).bind _=_
 rw[uW h'];rfl
theorem Gb {b:Bi} (ha:(ev W n).e st a=some x) (h:Ij b [x.1]=some v):(ev W (n+1)).e st (.bi b [a])=some (cL v (x.2&&true)):=by
 rw[GB];show(cP (((ev W n).e st a).bind _) _)=_;rw[ha];show(Ij b [x.1]).bind _=_;rw[h];rfl
end
noncomputable def Y (X:LP) (pr to:Int) (D:List V) (t:Nat×Nat×Int×Int×Int×Int):St:=Z X pr to D++T6 t.1 t.2.1 t.2.2.1 t.2.2.2.1 t.2.2.2.2.1 t.2.2.2.2.2
noncomputable abbrev sW (J:List Q4):cA:=⟨.safe,wV J⟩
noncomputable def R5 (x:Q4) (a b:V):St:=[(65,sJ x),(103,⟨.safe,a⟩),(104,⟨.safe,b⟩)]
noncomputable def JC (X:LP) (w:Int) (x:Q4):Int:=w*X.p x.2.1^x.2.2.1*X.q x.2.1^x.2.2.2
noncomputable def B9 (X:LP) (J:List Q4):Int:=J.foldl (JC X) 1
def Sh (t:St):Prop:=t=[]\/(∃x a b,t=R5 x a b)\/ ∃x a b o,t=R5 x a b++ [(100,⟨.safe,o⟩)]
section
variable {m:Nat} {X:LP} {pr to w:Int} {D:List V} {t:Nat×Nat×Int×Int×Int×Int} {J:List Q4} {x:Q4} {t5:St}
theorem Ai (K:we X) (hx:(J,x)∈kM) (hw:w.natAbs<2^2000) (hs:Sh t5):
  af (ev bg (m+40)).s r0 ((Y X pr to D t++(61,sW J)::(99,sI w)::t5).put 65 (sJ x))=some (.next,Y X pr to D t++(61,sW J)::(99,sI (JC X w x))::R5 x (.list ((qd J x).map jV)) (.list ((qf J x).map jV))++t5.drop 3):=by
 have hj:=aT.mp vy _ hx
 simp only[ag,beq_iff_eq,uD,uE]at hj
 obtain⟨⟨⟨⟨h1,h2⟩,h3⟩,h4⟩,h5⟩:=hj
 have p1:=K.p _ h3
 have q1:=K.q _ h3
 have pB:(X.p x.2.1^x.2.2.1).natAbs<=2^48:=aQ (nG p1) (aQ (bF (by decide) h4) (by decide))
 have qB:(X.q x.2.1^x.2.2.2).natAbs<=2^48:=aQ (nG q1) (aQ (bF (by decide) h5) (by decide))
 have bp:(X.p x.2.1).natAbs<2^64:=aV p1 (by decide)
 have bq:(X.q x.2.1).natAbs<2^64:=aV q1 (by decide)
 have bw:w.natAbs<2^4096:=cT hw (bF (by decide) (by decide))
 have bP:(X.p x.2.1^x.2.2.1).natAbs<2^4096:=gG (aV pB (by decide))
 have bQ:(X.q x.2.1^x.2.2.2).natAbs<2^4096:=gG (aV qB (by decide))
 have bwP:(w*X.p x.2.1^x.2.2.1).natAbs<2^4096:=by
  rw[fB]
  refine cT (Nat.mul_lt_mul_of_lt_of_le hw pB (by decide)) ?_
  rw[<-Nat.pow_add];exact bF (by decide) (by decide)
 have eA:=cu (yP (m+18)) _ hx
 have eB:=cu (yQ (m+18)) _ hx
 dsimp only at eA eB h1 h2 h3 h4 h5
 generalize qd J x=A at*
 generalize qf J x=B at*
 have hfA:fC 2 (A.map jV)=true:=by
  clear eA h1
  induction A with
  |nil=>rfl
  |cons a l ih=>exact ih
 have hfB:fC 2 (B.map jV)=true:=by
  clear eB h2
  induction B with
  |nil=>rfl
  |cons a l ih=>exact ih
 have hlA:A.length<=100000:=by rw[h1];exact aQ h4 (by decide)
 have hlB:B.length<=100000:=by rw[h2];exact aQ h5 (by decide)
 clear qB pB p1 q1 hw K
 have y1:(ev bg (m+40)).s ((Y X pr to D t++(61,sW J)::(99,sI w)::t5).put 65 (sJ x)) (.assignT [103,104] (.tup [zV,zW]))=some (.next,Y X pr to D t++(61,sW J)::(99,sI w)::R5 x (.list (A.map jV)) (.list (B.map jV))++t5.drop 3):=by
  have hF:(bo (fT [(V.list (A.map jV),true),(V.list (B.map jV),true)])&&cR 2)=true:=by show((fC 2 (A.map jV))&&((fC 2 (B.map jV))&&true)&&true)=true;rw[hfA,hfB];rfl
  rcases hs with rfl|⟨x',a',b',rfl⟩|⟨x',a',b',o',rfl⟩
  all_goals
   refine gT (l:=[.list (A.map jV),.list (B.map jV)]) (f:=true) (Cb (as:=[(.list (A.map jV),true),(.list (B.map jV),true)]) (gq ((q9 (by rfl') (by rfl') (by rfl')).trans eA) (gq ((q9 (by rfl') (by rfl') (by rfl')).trans eB) lH)) hF) ?_
   exact(Hi (u:= .list (A.map jV)) (v:= .list (B.map jV)) hfA hfB).trans (by rfl')
 generalize t5.drop 3=t6 at y1⊢
 have y2:(ev bg (m+40)).s (Y X pr to D t++(61,sW J)::(99,sI w)::R5 x (.list (A.map jV)) (.list (B.map jV))++t6) (r0.getD 1 .fail)=some (.next,Y X pr to D t++(61,sW J)::(99,sI w)::R5 x (.list (A.map jV)) (.list (B.map jV))++t6):=by
  refine dI (t:=false) (G9 (s:=false) (t:=false) (cx (x:=iN x.2.2.1) (y:=iN A.length) (by rfl') ((v6 (l:=A.map jV) (f:=true) (by rfl') (by rw[aR];exact hlA)).trans (by rw[aR])) (DB.trans (by rw[h1,decide_eq_true rfl];rfl)))
   (cx (x:=iN x.2.2.2) (y:=iN B.length) (by rfl') ((v6 (l:=B.map jV) (f:=true) (by rfl') (by rw[aR];exact hlB)).trans (by rw[aR])) (DB.trans (by rw[h2,decide_eq_true rfl];rfl)))) rfl
 have eL: ∀k,(ev bg (k+8)).e (Y X pr to D t++(61,sW J)::(99,sI w)::R5 x (.list (A.map jV)) (.list (B.map jV))++t6) (.sub (.var 84) (.sub (.var 65) (.cint 1)))=some (.tup [.int (X.p x.2.1),.int (X.q x.2.1)],true):=λk=>gH (x:=(rY X.p X.q,true)) (y:=iN x.2.1) (by rfl') (by rfl') (zU h3)
 have y3:(ev bg (m+40)).s (Y X pr to D t++(61,sW J)::(99,sI w)::R5 x (.list (A.map jV)) (.list (B.map jV))++t6) (r0.getD 2 .fail)=some (.next,Y X pr to D t++(61,sW J)::(99,sI (JC X w x))::R5 x (.list (A.map jV)) (.list (B.map jV))++t6):=
  (bx (z:=99) (x:=iI (JC X w x)) rfl (cM (x:=iI (w*X.p x.2.1^x.2.2.1)) (y:=iI (X.q x.2.1^x.2.2.2)) (cM (x:=iI w) (y:=iI (X.p x.2.1^x.2.2.1)) (by rfl') (cM (x:=iI (X.p x.2.1)) (y:=iN x.2.2.1) (gH (x:=(.tup [.int (X.p x.2.1),.int (X.q x.2.1)],true)) (y:=iN 0) (eL _) (by rfl') (by rfl')) (by rfl') (vh bp (aQ h4 (by decide)))) (ll bw bP)) (cM (x:=iI (X.q x.2.1)) (y:=iN x.2.2.2) (gH (x:=(.tup [.int (X.p x.2.1),.int (X.q x.2.1)],true)) (y:=iN 1) (eL _) (by rfl') (by rfl')) (by rfl') (vh bq (aQ h5 (by decide)))) (ll bwP bQ)) rfl).trans (by rfl')
 exact ae y1 (ae y2 (cf y3))
theorem im (l:List Q4):fC 2 (l.map jV)=true:=by
 induction l with
 |nil=>rfl
 |cons x l ih=>exact ih
noncomputable def f7 (r:List Nat) (J:List Q4):V:= .tup [.int ((tf r J).1:Nat),.int ((tf r J).2:Nat)]
def Tl (tl:St):Prop:=tl=[]\/ ∃o,tl=[(100,⟨.safe,o⟩)]
theorem Aj (K:we X) (hJ:J.length=4/\ ∀x∈J,(J,x)∈kM) {t0:St} (h0:t0=[]\/ ∃x a b o,t0=R5 x a b++ [(100,⟨.safe,o⟩)]):
  ∃x a b tl,Tl tl/\(ev bg (m+41)).s (Y X pr to D t++(61,sW J)::(99,sI 1)::t0) (.forS (.n 65) (.var 61) r0)=some (.next,Y X pr to D t++(61,sW J)::(99,sI (B9 X J))::R5 x a b++tl):=by
 obtain⟨h4,hx⟩:=hJ
 refine obE12 (gJ (bind:=λst v=>dr st (.n 65) v true) (body:=λst=>af (ev bg (m+40)).s r0 st) (f:=jV)
  (λrest st=> ∃w t5,st=Y X pr to D t++(61,sW J)::(99,sI w)::t5/\((t5=[]/\rest.length=4)\/ ∃x a b tl,Tl tl/\t5=R5 x a b++tl)/\w.natAbs*(2^100)^rest.length<2^2000/\rest.foldl (JC X) w=B9 X J/\ ∀x∈rest,(J,x)∈kM)
  (λx l st zq=>by
   refine obE25 zq λw t5 h2 h3 h4 h5 h6=>?_
   have hx:=h6 x (.head _)
   have hw:w.natAbs<2^2000:=aV (lQ _ (Nat.pow_pos (by decide))) h4
   have hs:Sh t5:=by
    rcases h3 with⟨e,_⟩|⟨x,a,b,tl,(rfl|⟨o,rfl⟩),e⟩
    ·exact .inl e
    ·exact .inr (.inl ⟨x,a,b,e⟩)
    ·exact .inr (.inr ⟨x,a,b,o,e⟩)
   have hq:=Ai (m:=m) (pr:=pr) (to:=to) (D:=D) (t:=t) (t5:=t5) K hx hw hs
   refine⟨_,_,by rw[h2];rfl',hq,_,_,rfl,.inr ⟨_,_,_,t5.drop 3,?_,rfl⟩,?_,h5,λi hi=>h6 i (.tail _ hi)⟩
   ·clear h2 hq;rcases h3 with⟨rfl,_⟩|⟨x,a,b,tl,h,rfl⟩
    ·exact .inl rfl
    ·exact h
   ·have hj:=aT.mp vy _ hx
    simp only[ag,beq_iff_eq,uD,uE]at hj
    obtain⟨⟨⟨_,h8⟩,hp⟩,hq⟩:=hj
    have pB:(X.p x.2.1^x.2.2.1).natAbs<=2^48:=aQ (nG (K.p _ h8)) (aQ (bF (by decide) hp) (by decide))
    have qB:(X.q x.2.1^x.2.2.2).natAbs<=2^48:=aQ (nG (K.q _ h8)) (aQ (bF (by decide) hq) (by decide))
    refine aV ?_ h4
    unfold JC
    rw[fB,fB,bJ,show((2:Nat)^100)^(l.length+1)=2^100*(2^100)^l.length from eU ..,<-k6]
    refine zj _ ?_
    rw[k6]
    exact nZ _ (aQ (fA pB qB) (by decide)))
  J (Y X pr to D t++(61,sW J)::(99,sI 1)::t0) ⟨1,t0,rfl,h0.imp (λe=>⟨e,h4⟩) (λ⟨x,a,b,o,e⟩=>⟨x,a,b,_,.inr ⟨o,rfl⟩,e⟩),by rw[h4];decide+kernel,rfl,hx⟩) λst' h1 zq=>?_
 refine obE25 zq λw t5 h2 h3 _ h5 _=>?_
 rcases h3 with⟨_,h3⟩|⟨x,a,b,tl,h,h3⟩
 ·cases h3
 ·refine⟨x,a,b,tl,h,?_⟩
  have h5:w=_:=h5
  rw[h2,h3,h5]at h1
  exact li (v:=wV J) (by rfl') (by show(if bo (J.map jV)then some _ else none)=_;rw[if_pos (im J)]) (by rfl') h1
theorem ye:(iU.all λp=>p.2.length==4)=true:=by decide+kernel
theorem Bw (K:we X) (hW:(X.row,J)∈iU) (hD:D.length<=1000) {t0:St} (h0:t0=[]\/ ∃J' w x a b o,t0=(61,sW J')::(99,sI w)::R5 x a b++ [(100,⟨.safe,o⟩)]):
  ∃x a b o,af (ev bg (m+41)).s sq ((Y X pr to D t++t0).put 61 (sW J))=some (.next,Y X pr (to+B9 X J) (D++ [f7 X.row J]) t++(61,sW J)::(99,sI (B9 X J))::R5 x a b++ [(100,⟨.safe,o⟩)]):=by
 have h4:J.length=4:=beq_iff_eq.mp (aT.mp ye _ hW)
 have hx: ∀x∈J,(J,x)∈kM:=λx h=>ej.mpr ⟨_,hW,aP.mpr ⟨x,h,rfl⟩⟩
 have y1: ∃t1,(t1=[]\/ ∃x a b o,t1=R5 x a b++ [(100,⟨.safe,o⟩)])/\(ev bg (m+41)).s ((Y X pr to D t++t0).put 61 (sW J)) (sq.getD 0 .fail)=some (.next,Y X pr to D t++(61,sW J)::(99,sI 1)::t1):=by
  rcases h0 with rfl|⟨J',w,x,a,b,o,rfl⟩
  ·exact⟨[],.inl rfl,by rfl'⟩
  ·exact⟨_,.inr ⟨x,a,b,o,rfl⟩,by rfl'⟩
 refine obE12 y1 λt1 h1 y1=>?_
 refine obE42 (Aj (m:=m) (pr:=pr) (to:=to) (D:=D) (t:=t) K ⟨h4,hx⟩ h1) λx a b tl hT y2=>?_
 have y3:(ev bg (m+41)).s (Y X pr to D t++(61,sW J)::(99,sI (B9 X J))::R5 x a b++tl) (sq.getD 2 .fail)=some (.next,Y X pr (to+B9 X J) D t++(61,sW J)::(99,sI (B9 X J))::R5 x a b++tl):=
  (bx (z:=94) (a:= .bin .Add (.var 94) (.var 99)) (x:=iI (to+B9 X J)) rfl (by rfl') rfl).trans (by rfl')
 generalize B9 X J=w at*
 have eO:=cu (Cm (m+10)) _ hW
 have eN:=cu (FV (m+18)) _ hW
 have eP:=cu (AW (m+18)) _ hW
 have eM:=cu F2 _ hW
 have eS:=cu CR _ hW
 have eE:=cu CW _ hW
 dsimp only at eO eN eP eM eS eE
 refine⟨x,a,b,nL (iG X.row J),ae y1 (ae y2 (ae y3 ?_))⟩
 have y4:(ev bg (m+41)).s (Y X pr (to+w) D t++(61,sW J)::(99,sI w)::R5 x a b++tl) (.assign 100 false Gd)=some (.next,Y X pr (to+w) D t++(61,sW J)::(99,sI w)::R5 x a b++ [(100,⟨.safe,nL (iG X.row J)⟩)]):=by
  clear y2 y3;rcases hT with rfl|⟨o,rfl⟩
  all_goals exact(bx (z:=100) (x:=(nL (iG X.row J),true)) rfl ((q9 (by rfl') (by rfl') (by rfl')).trans eO) (by show(fC 2 (gj (iG X.row J))&&true)=true;rw[kq];rfl)).trans (by rfl')
 have y5:(ev bg (m+41)).s (Y X pr (to+w) D t++(61,sW J)::(99,sI w)::R5 x a b++ [(100,⟨.safe,nL (iG X.row J)⟩)]) (sq.getD 4 .fail)=some (.next,Y X pr (to+w) (D++ [f7 X.row J]) t++(61,sW J)::(99,sI w)::R5 x a b++ [(100,⟨.safe,nL (iG X.row J)⟩)]):=
  (ni (st':=Y X pr (to+w) D t++(61,sW J)::(99,sI w)::R5 x a b++ [(100,⟨.safe,nL (iG X.row J)⟩)]) (v:=f7 X.row J) (f:=true) (by rfl')
   (Cb (as:=[iN (tf X.row J).1,iN (tf X.row J).2]) (gq (Gb (x:=(nL (iG X.row J),true)) (by rfl') eM) (gq (f6 (g:=(.fn 23,true)) (args:=[(iL (Ct J),true)]) (by rfl') (gq ((q9 (by rfl') (by rfl') (by rfl')).trans eN) lH) eP) lH)) rfl)
   (jk (k:= .own) (l:=D) (by rfl') (.inl rfl) (decide_eq_true (aQ hD (by decide)))) rfl (decide_eq_true (aQ (ez hD) (by decide)))).trans (by rfl')
 have y6:(ev bg (m+41)).s (Y X pr (to+w) (D++ [f7 X.row J]) t++(61,sW J)::(99,sI w)::R5 x a b++ [(100,⟨.safe,nL (iG X.row J)⟩)]) (sq.getD 5 .fail)=some (.next,Y X pr (to+w) (D++ [f7 X.row J]) t++(61,sW J)::(99,sI w)::R5 x a b++ [(100,⟨.safe,nL (iG X.row J)⟩)]):=
  dI (t:=false) (cx (x:=(wV J,true)) (y:=(cL (wV J) (true&&true))) (by rfl') (Gb (x:=(wV J,true)) (by rfl') eS) eE) rfl
 exact ae y4 (ae y5 (cf y6))
end
end
section
open PySem.W PyProof.Rows
noncomputable abbrev GE:=Lean.Grind.CommRing.Expr
noncomputable def MG (p q:Nat):Nat->GE
 |0=> .num 0
 |h+1=> .add (.mul (.var p) (MG p q h)) (.pow (.var q) h)
noncomputable def Cg (r:List Nat):GE:=(kJ r).foldr (λj (a:GE)=> .mul (MG j (8+j) (mJ r j)) a) (.num 1)
noncomputable def MH (J:List Q4):GE:=J.foldl (λ(w:GE) x=> .mul (.mul w (.pow (.var x.2.1) x.2.2.1)) (.pow (.var (8+x.2.1)) x.2.2.2)) (.num 1)
noncomputable def HV (r:List Nat):GE:=(bu r).foldl (λ(t:GE) J=> .add t (MH J)) (.num 0)
noncomputable def KN (p q:Nat->Int):Lean.RArray Int:= .branch 8 (.branch 4 (.branch 2 (.branch 1 (.leaf (p 0)) (.leaf (p 1))) (.branch 3 (.leaf (p 2)) (.leaf (p 3)))) (.branch 6 (.branch 5 (.leaf (p 4)) (.leaf (p 5))) (.branch 7 (.leaf (p 6)) (.leaf (p 7)))))
 (.branch 12 (.branch 10 (.branch 9 (.leaf (q 0)) (.leaf (q 1))) (.branch 11 (.leaf (q 2)) (.leaf (q 3)))) (.branch 14 (.branch 13 (.leaf (q 4)) (.leaf (q 5))) (.branch 15 (.leaf (q 6)) (.leaf (q 7)))))
theorem Ch:(eK.all λr=>(Cg r).toPoly==(HV r).toPoly)=true:=by decide+kernel
noncomputable def Cf (p q:Nat->Int) (r:List Nat):Int:=(kJ r).foldr (λj a=>Sm (mJ r j) (p j) (q j)*a) 1
noncomputable def Ln (p q:Nat->Int) (J:List Q4):Int:=J.foldl (λw x=>w*p x.2.1^x.2.2.1*q x.2.1^x.2.2.2) 1
noncomputable def uN (p q:Nat->Int) (l:List (List Q4)):Int:=l.foldl (λt J=>t+Ln p q J) 0
theorem GF (p q:Nat->Int):eK.map (λr=>(Cf p q r,uN p q (bu r)))=jJ (λr=>(Lean.Grind.CommRing.Expr.denote (KN p q) (Cg r),Lean.Grind.CommRing.Expr.denote (KN p q) (HV r))) eK:=by rfl'
theorem HX {p q:Nat->Int} {r:List Nat} (h:r∈eK):Cf p q r=uN p q (bu r):=by
 have h1:=cu (GF p q) _ h
 have h2:=beq_iff_eq.mp (aT.mp Ch _ h)
 generalize Cg r=A at*
 generalize HV r=B at*
 generalize Cf p q r=a at*
 generalize uN p q (bu r)=b at*
 cases h1
 rw[<-Lean.Grind.CommRing.Expr.denote_toPoly,<-Lean.Grind.CommRing.Expr.denote_toPoly,h2]
end
section
open PySem.W PyProof.Rows
noncomputable def TW (J:List Q4) (w:Int) (x:Q4) (a b o:V):St:=(61,sW J)::(99,sI w)::R5 x a b++ [(100,⟨.safe,o⟩)]
theorem vL:(eK.all λr=>iE 0 (bu r).length&&gc (bu r).length 100)=true:=by decide+kernel
theorem qX (l:List (List Q4)):fC 2 (l.map wV)=true:=by
 induction l with
 |nil=>rfl
 |cons x l ih=>show(fC 2 (x.map jV)&&fC 2 (l.map wV))=true;rw[im,ih];rfl
theorem oB {it:PE} {l:List V} (h:fC 2 l=true):jL it (.list l)=some l:=if_pos h
section
variable {m:Nat} {X:LP} {pr:Int} {t:Nat×Nat×Int×Int×Int×Int}
theorem zv (K:we X) (hr:X.row∈eK): ∃J w x a b o,(ev bg (m+42)).s (Y X pr 0 [] t) (.forS (.n 61) (.var 58) sq)=some (.next,Y X pr (uN X.p X.q (bu X.row)) ((bu X.row).map (f7 X.row)) t++TW J w x a b o):=by
 have hl:=aT.mp vL _ hr
 rw[ag,uD,uE]at hl
 have eT:(bu X.row).foldl (λt J=>t+B9 X J) 0=uN X.p X.q (bu X.row):=congrArg (λf:Int->List Q4->Int=>B5 f 0 (bu X.row)) (funext λt=>funext λJ=>congrArg (t+ ·) (show B9 X J=Ln X.p X.q J from rfl))
 generalize uN X.p X.q (bu X.row)=T at*
 refine obE12 (gJ (bind:=λst v=>dr st (.n 61) v true) (body:=λst=>af (ev bg (m+41)).s sq st) (f:=wV)
  (λrest st=> ∃to D t0,st=Y X pr to D t++t0/\((t0=[]/\rest≠ [])\/ ∃J w x a b o,t0=TW J w x a b o)/\rest.foldl (λt J=>t+B9 X J) to=T/\D++rest.map (f7 X.row)=(bu X.row).map (f7 X.row)/\D.length+rest.length<=1000/\ ∀J∈rest,(X.row,J)∈iU)
  (λJ l st zq=>by
   refine obE36 zq λto D t0 h2 h3 h4 h5 h6 h7=>?_
   rw[bJ]at h6
   obtain⟨x,a,b,o,hq⟩:=Bw (m:=m) (pr:=pr) (to:=to) (D:=D) (t:=t) (t0:=t0) K (h7 J (.head _)) (by clear h4 h5 K;lia) (h3.imp (λz=>z.1) (λ⟨J,w,x,a,b,o,e⟩=>⟨J,w,x,a,b,o,e⟩))
   refine⟨_,_,by rw[h2];exact(Kp (im J)),hq,_,_,_,rfl,.inr ⟨_,_,_,_,_,_,rfl⟩,h4,by rw[eJ];exact h5,by rw[bO];show D.length+1+l.length<=1000;clear h4 h5 K;lia,λi hi=>h7 i (.tail _ hi)⟩)
  (bu X.row) (Y X pr 0 [] t) ⟨0,[],[],(dU _).symm,.inl ⟨rfl,λe=>by rw[e]at hl;exact absurd hl.1 (by decide)⟩,eT,sH _,by show 0+_<=1000;clear K;lia,λJ hJ=>ej.mpr ⟨_,hr,aP.mpr ⟨J,hJ,rfl⟩⟩⟩) λst' h1 zq=>?_
 refine obE35 zq λto D t0 h2 h3 h4 h5 _=>?_
 rcases h3 with⟨_,h3⟩|⟨J,w,x,a,b,o,h3⟩
 ·exact absurd rfl h3
 ·rw[lY,dU]at h5
  have h4:to=_:=h4
  rw[h2,h3,h4,h5]at h1
  exact⟨J,w,x,a,b,o,li (v:= .list ((bu X.row).map wV)) (by rfl') (oB (qX _)) (by rfl') h1⟩
end
end
section
open PySem.W PyProof.Rows
noncomputable def D3 (lt:Nat->Nat->Bool) (x:Nat):List Nat->List Nat
 | []=>[x]
 |y::r=>if lt x y then x::y::r else y::D3 lt x r
noncomputable def Jf (a b:Nat×Nat):Bool:=iE a.1 b.1||(a.1==b.1&&iE a.2 b.2)
noncomputable def yA (r:List Nat):List (Nat×Nat):=(bu r).map (tf r)
noncomputable def Ji (d:List (Nat×Nat)):List Nat:=(ak d.length).foldl (λl k=>D3 (λa b=>Jf (d.getD a (0,0)) (d.getD b (0,0))) k l) []
noncomputable def Jh (d:List (Nat×Nat)):List Nat:=(ak d.length).foldl (λl k=>D3 (λa b=>!Jf (d.getD b (0,0)) (d.getD a (0,0))) k l) []
noncomputable def G5 (d:List (Nat×Nat)):List (Nat×Nat):=d.map λp=>(p.2,p.1)
noncomputable def Hj (d:List (Nat×Nat)):V:= .list (d.map λp=> .tup [.int (p.1:Nat),.int (p.2:Nat)])
noncomputable def L3 (r:List Nat):St:=[(101,⟨.safe,nL (ak (bu r).length)⟩),(83,⟨.safe,Hj (G5 (yA r))⟩),(85,⟨.safe,.list [nL (Ji (yA r)),nL (Jh (G5 (yA r)))]⟩)]
noncomputable def Fz (X:LP) (r:List Nat) (pr to:Int) (t:Nat×Nat×Int×Int×Int×Int):St:=Y {X with row:=r} pr to ((bu r).map (f7 r)) t
noncomputable def JD (k:Nat):PE:=match cZ.drop 10 with| .ifS (.or l) _ _::_=>l.getD k .cnone|_=> .cnone
variable (m:Nat) (X:LP) (pr to:Int) (t:Nat×Nat×Int×Int×Int×Int) (J:List Q4) (w:Int) (x:Q4) (a b o:V)
theorem FH:eK.map (λr=>af (ev bg (m+45)).s ((cZ.drop 8).take 2) (Fz X r pr to t++TW J w x a b o))=jJ (λr=>some (.next,Fz X r pr to t++TW J w x a b o++L3 r)) eK:=by rfl'
theorem C1:eK.map (λr=>(ev bg (m+45)).t (Fz X r pr to t++TW J w x a b o++L3 r) (JD 1))=jJ (λr=>some false) eK:=by rfl'
theorem C0:eK.map (λr=>(ev bg (m+45)).t (Fz X r pr to t++TW J w x a b o++L3 r) (JD 2))=jJ (λr=>some false) eK:=by rfl'
theorem FI:eK.map (λr=>(ev bg (m+45)).s (Fz X r pr to t++TW J w x a b o++L3 r) (cZ.getD 11 .fail))=jJ (λr=>some (.next,Fz X r pr to t++TW J w x a b o++L3 r++ [(86,⟨.safe,.list [.int (X.c4.fmod ((bu r).length:Nat)),.int ((X.c4.fdiv 24).fmod ((bu r).length:Nat))]⟩)])) eK:=by rfl'
end
section
open PySem.W PyProof.Rows
noncomputable def yy:PE:=match cZ.drop 13 with| .ifS (.cmp _ _ (.comp e _ _::_)) _ _::_=>e|_=> .cnone
theorem DE (m:Nat):iU.map (λp=>(ev bg (m+40)).e [(61,sW p.2)] yy)=jJ (λp=>some (f7 p.1 p.2,true)) iU:=by rfl'
end
section
open PySem.W PyProof.Rows
theorem FO {st:St} {x:Nat} {a b:cA}:(st.put x a).put x b=st.put x b:=by
 induction st with
 |nil=>show(if x=x then _ else _)=_;rw[if_pos rfl];rfl
 |cons p r ih=>
  obtain⟨y,c⟩:=p
  show St.put (if y=x then(x,a)::r else(y,c)::St.put r x a) x b=(if y=x then(x,b)::r else(y,c)::St.put r x b)
  by_cases h:y=x
  ·rw[if_pos h,if_pos h];show(if x=x then _ else _)=_;rw[if_pos rfl]
  ·rw[if_neg h,if_neg h];show(if y=x then _ else _)=_;rw[if_neg h,ih]
section
variable {W:cY} {n:Nat} {st F:St} {it elt:PE} {free:List Nat} {x:Nat} {α:Type} {f g:α->V}
theorem ly {l:List α} {v:V} (hF:(st.filter λp=>free.contains p.1)=F) (hn:kB F (.n x)=true) (hc:pF st free=true) (hi:(ev W n).e st it=some (v,true)) (hv:jL it v=some (l.map f)) (hl:l.length<=1000)
  (he: ∀a∈l,(f a).firm=true/\(g a).firm=true/\(ev W n).e (F.put x (ai (f a) true)) elt=some (g a,true)):(ev W (n+1)).e st (.comp elt [(.n x,it,[])] free)=some (.list (l.map g),true):=by
 have key: ∀(l:List α) (acc:List V) (fl:Bool) (st0:St),(∀s,st0.put x s=F.put x s)->acc.length+l.length<=1000->(∀a∈l,(f a).firm=true/\(g a).firm=true/\(ev W n).e (F.put x (ai (f a) true)) elt=some (g a,true))->
   ∃q fl',qv (ev W n).t (ti (ev W n).e (ev W n).t elt []) (.n x) [] true (l.map f) st0 (acc,fl)=some (q,(acc++l.map g,fl')):=by
  intro l
  induction l with
  |nil=>exact λacc fl st0 _ _ _=>⟨st0,fl,by show some (st0,(acc,fl))=some (st0,(acc++ [],fl));rw[dU]⟩
  |cons a l ih=>
   intro acc fl st0 h0 hk h
   refine obE03 (h a (.head _)) λh1 h2 h3=>?_
   rw[bJ]at hk
   obtain⟨q,fl',hq⟩:=ih (acc++ [g a]) true (F.put x (ai (f a) true)) (λs=>FO) (by rw[bO];show acc.length+1+l.length<=1000;lia) λb hb=>h b (.tail _ hb)
   refine⟨q,fl',?_⟩
   rw[eJ]at hq
   rw[<-show acc++([g a]++l.map g)=acc++(a::l).map g from rfl,<-hq]
   show(cP (if(f a).firm then some (st0.put x (ai (f a) true))else none) _).bind _=_
   rw[if_pos h1,h0]
   show(cP (cP (cP ((ev W n).e (F.put x (ai (f a) true)) elt) _) _) _)=_
   rw[h3]
   show(cP (cP (if((g a).firm&&(true||(g a).flat)&&cR (acc.length+1))=true then some (acc++ [g a],true)else none) _) _)=_
   rw[if_pos (by rw[h2,show cR (acc.length+1)=true from decide_eq_true (by lia)];rfl)]
   rfl
 obtain⟨q,fl',hq⟩:=key l [] true F (λ_=>rfl) (by show 0+_<=_;lia) he
 rw[xx]
 unfold qb
 dsimp only
 rw[hF,hn,hc]
 show(cP ((ev W n).e st it) _)=_
 rw[hi]
 show(jL it v).bind _=_
 rw[hv]
 show(qv _ _ _ _ true (l.map f) F ([],true)).bind _=_
 rw[hq];rfl
end
end
section
open PySem.W PyProof.Rows
theorem Hp:(kM.all λp=>oy.contains (p.2.1,p.2.2.1))=true:=by decide+kernel
theorem rR {J:List Q4} {x:Q4} (h:(J,x)∈kM):(x.1,x.2.1)∈oy:=b8.mp (aT.mp Hp _ h)
section
variable {m:Nat} {X:LP} {pr to w:Int} {t:Nat×Nat×Int×Int×Int×Int} {J J1 J2:List Q4} {x:Q4} {a b o:V} {i k r:Nat}
noncomputable def G0 (X:LP) (pr to:Int) (t:Nat×Nat×Int×Int×Int×Int) (J:List Q4) (w:Int) (x:Q4) (a b o:V) (i k:Nat):St:=Fz X X.row pr to t++TW J w x a b o++L3 X.row++ [(86,⟨.safe,.list [.int (i:Nat),.int (k:Nat)]⟩)]
noncomputable def pj (J1 J2:List Q4):V:= .list [wV J1,wV J2]
theorem Ia (h1:(bu X.row)[i]?=some J1) (h2:(bu X.row)[k]?=some J2) (hn:(bu X.row).length<=1000):(ev bg (m+10)).e (G0 X pr to t J w x a b o i k) (.comp (.sub (.var 58) (.var 8)) [(.n 8,.var 86,[])] [58])=some (pj J1 J2,true):=by
 have hs: ∀{i J},(bu X.row)[i]?=some J->(ev bg (m+9)).e [(58,⟨.safe,zs (bu X.row)⟩),(8,sN i)] (.sub (.var 58) (.var 8))=some (wV J,true):=λ{i J} h=>gH (x:=(zs (bu X.row),true)) (y:=iN i) rfl rfl ((nu (l:=(bu X.row).map wV) (by rw[aR];exact(al.mp h).1) (by rw[aR];exact aQ hn (by decide))).trans (by rw[bH,h];rfl))
 refine(ly (F:=[(58,⟨.safe,zs (bu X.row)⟩)]) (f:=λp:Nat×List Q4=> .int (p.1:Nat)) (g:=λp=>wV p.2) (l:=[(i,J1),(k,J2)]) (v:= .list [.int (i:Nat),.int (k:Nat)]) (by rfl') (by rfl') (by rfl') (by rfl') (by rfl') (show 2<=1000 by decide) λp hp=>?_)
 rcases aO.mp hp with rfl|hp
 ·exact⟨rfl,im _,hs h1⟩
 ·cases ao.mp hp
  exact⟨rfl,im _,hs h2⟩
theorem FW (a b c d:Int):nU .NotEq (.list [.tup [.int a,.int b],.tup [.int c,.int d]]) (.list [.tup [.int a,.int b],.tup [.int c,.int d]])=some false:=by
 show some (!((a==a&&(b==b&&true))&&((c==c&&(d==d&&true))&&true)))=_
 rw[beq_self_eq_true,beq_self_eq_true,beq_self_eq_true,beq_self_eq_true];rfl
noncomputable def G1 (X:LP) (pr to:Int) (t:Nat×Nat×Int×Int×Int×Int) (J:List Q4) (w:Int) (x:Q4) (a b o:V) (i k:Nat) (J1 J2:List Q4):St:=G0 X pr to t J w x a b o i k++ [(87,⟨.safe,pj J1 J2⟩)]
theorem I8 (h1:(bu X.row)[i]?=some J1) (h2:(bu X.row)[k]?=some J2) (hn:(bu X.row).length<=1000):(ev bg (m+10)).e (G1 X pr to t J w x a b o i k J1 J2) (.comp (.sub (.var 95) (.var 8)) [(.n 8,.var 86,[])] [95])=some (.list [f7 X.row J1,f7 X.row J2],true):=by
 have hs: ∀{i J},(bu X.row)[i]?=some J->(ev bg (m+9)).e [(95,⟨.own,.list ((bu X.row).map (f7 X.row))⟩),(8,sN i)] (.sub (.var 95) (.var 8))=some (f7 X.row J,true):=λ{i J} h=>gH (x:=(.list ((bu X.row).map (f7 X.row)),false)) (y:=iN i) rfl rfl ((nu (l:=(bu X.row).map (f7 X.row)) (by rw[aR];exact(al.mp h).1) (by rw[aR];exact aQ hn (by decide))).trans (by rw[bH,h];rfl))
 refine(ly (F:=[(95,⟨.own,.list ((bu X.row).map (f7 X.row))⟩)]) (f:=λp:Nat×List Q4=> .int (p.1:Nat)) (g:=λp=>f7 X.row p.2) (l:=[(i,J1),(k,J2)]) (v:= .list [.int (i:Nat),.int (k:Nat)]) (by rfl') (by rfl') (by rfl') (by rfl') (by rfl') (show 2<=1000 by decide) λp hp=>?_)
 rcases aO.mp hp with rfl|hp
 ·exact⟨rfl,rfl,hs h1⟩
 ·cases ao.mp hp
  exact⟨rfl,rfl,hs h2⟩
theorem I6 (h1:(X.row,J1)∈iU) (h2:(X.row,J2)∈iU):(ev bg (m+41)).e (G1 X pr to t J w x a b o i k J1 J2) (.comp yy [(.n 61,.var 87,[])] [])=some (.list [f7 X.row J1,f7 X.row J2],true):=by
 refine(ly (F:=[]) (f:=wV) (g:=f7 X.row) (l:=[J1,J2]) (v:=pj J1 J2) (by rfl') (by rfl') (by rfl') (by rfl') (oB (l:=[wV J1,wV J2]) (qX [J1,J2])) (show 2<=1000 by decide) λp hp=>?_)
 have hs: ∀J,(X.row,J)∈iU->(wV J).firm=true/\(f7 X.row J).firm=true/\(ev bg (m+40)).e (St.put [] 61 (ai (wV J) true)) yy=some (f7 X.row J,true):=λJ h=>⟨im _,rfl,cu (DE m) _ h⟩
 rcases aO.mp hp with rfl|hp
 ·exact hs _ h1
 ·cases ao.mp hp
  exact hs _ h2
theorem Km (h1:(bu X.row)[i]?=some J1) (h2:(bu X.row)[k]?=some J2) (hn:(bu X.row).length<=1000) (hr:X.row∈eK):(ev bg (m+44)).s (G1 X pr to t J w x a b o i k J1 J2) (cZ.getD 13 .fail)=some (.next,G1 X pr to t J w x a b o i k J1 J2):=by
 have hW: ∀{i J},(bu X.row)[i]?=some J->(X.row,J)∈iU:=λh=>ej.mpr ⟨_,hr,aP.mpr ⟨_,az h,rfl⟩⟩
 exact dI (a:= .cmp (.comp (.sub (.var 95) (.var 8)) [(.n 8,.var 86,[])] [95]) [.NotEq] [.comp yy [(.n 61,.var 87,[])] []]) (p:=[.ret (.cbool false)]) (q:=[]) (t:=false) (cx (I8 (m:=m+32) h1 h2 hn) (I6 (m:=m+1) (hW h1) (hW h2)) (FW _ _ _ _)) rfl
noncomputable def gx (r:Nat) (J:List Q4):V:= .list (J.map λx=>pO r x.1 x.2.1)
theorem mH (r:Nat) (J:List Q4):(gx r J).firm=true:=by
 show fC 2 (J.map λx=>pO r x.1 x.2.1)=true
 induction J with
 |nil=>rfl
 |cons x l ih=>show((pO r x.1 x.2.1).okV&&fC 2 (l.map λx=>pO r x.1 x.2.1))=true;rw[yc,ih];rfl
theorem EN (hr:r=0\/r=1) (hJ:J.length=4/\ ∀x∈J,(J,x)∈kM):(ev bg (m+21)).e [(91,sN r),(61,sW J)] (.comp J8 [(.n 65,.var 61,[])] [91])=some (gx r J,true):=by
 refine ly (F:=[(91,sN r)]) (f:=jV) (g:=λx=>pO r x.1 x.2.1) (l:=J) (v:=wV J) rfl rfl rfl rfl (oB (im J)) (by rw[hJ.1];decide) λx hx=>⟨rfl,yc,?_⟩
 have hx:=rR (hJ.2 x hx)
 obtain⟨x1,x2,x3,x4⟩:=x
 rcases hr with rfl|rfl
 ·have h:=cu (MR m x3 x4) (x1,x2) hx
  exact h
 ·have h:=cu (MQ m x3 x4) (x1,x2) hx
  exact h
theorem Fx (hrn:X.rn=(r:Int)) (hr:r=0\/r=1) (h1:J1.length=4/\ ∀x∈J1,(J1,x)∈kM) (h2:J2.length=4/\ ∀x∈J2,(J2,x)∈kM):(ev bg (m+22)).e (G1 X pr to t J w x a b o i k J1 J2) (.comp (.comp J8 [(.n 65,.var 61,[])] [91]) [(.n 61,.var 87,[])] [91])=some (.list [gx r J1,gx r J2],true):=by
 have hF:((G1 X pr to t J w x a b o i k J1 J2).filter λp=>[91].contains p.1)=[(91,sN r)]:=(show _=[(91,sI X.rn)] by rfl').trans (by rw[hrn])
 refine(ly (f:=wV) (g:=gx r) (l:=[J1,J2]) (v:=pj J1 J2) hF (by rfl') (by rfl') (by rfl') (oB (l:=[wV J1,wV J2]) (qX [J1,J2])) (show 2<=1000 by decide) λp hp=>?_)
 rcases aO.mp hp with rfl|hp
 ·exact⟨im _,mH _ _,EN hr h1⟩
 ·cases ao.mp hp
  exact⟨im _,mH _ _,EN hr h2⟩
noncomputable def G2 (X:LP) (pr to:Int) (t:Nat×Nat×Int×Int×Int×Int) (J:List Q4) (w:Int) (x:Q4) (a b o:V) (i k:Nat) (J1 J2:List Q4) (r:Nat):St:=G1 X pr to t J w x a b o i k J1 J2++ [(88,⟨.safe,.list [gx r J1,gx r J2]⟩)]
noncomputable def Gm:PE:=match cZ.drop 15 with| .forS _ _ (.forS _ _ (.ifS c _ _::_)::_)::_=>c|_=> .cnone
set_option maxHeartbeats 400000 in
theorem Ad {tl:St} {u v:Q4} {c d:Nat} (hr:r=0\/r=1) (h1:J1[c]?=some u) (h2:J2[d]?=some v) (l1:J1.length=4) (l2:J2.length=4) (o1:(u.1,u.2.1)∈oy) (o2:(v.1,v.2.1)∈oy) (g1:tl.get 1=some (sN c)) (g7:tl.get 7=some (sN d)):
  (ev bg (m+30)).t (G2 X pr to t J w x a b o i k J1 J2 r++tl) Gm=some false:=by
 have e1: ∀j,(ev bg (j+1)).e (G2 X pr to t J w x a b o i k J1 J2 r++tl) (.var 1)=some (iN c):=λj=>KC (by rfl') g1
 have e7: ∀j,(ev bg (j+1)).e (G2 X pr to t J w x a b o i k J1 J2 r++tl) (.var 7)=some (iN d):=λj=>KC (by rfl') g7
 have c4:c<J1.length:=(al.mp h1).1
 have d4:d<J2.length:=(al.mp h2).1
 have A1: ∀j,(ev bg (j+3)).e (G2 X pr to t J w x a b o i k J1 J2 r++tl) (.sub (.sub (.var 88) (.cint 0)) (.var 1))=some (pO r u.1 u.2.1,true):=λj=>gH (x:=(gx r J1,true)) (y:=iN c) (by rfl') (e1 _) ((nu (l:=J1.map λx:Q4=>pO r x.1 x.2.1) (by rw[aR];exact c4) (by rw[aR,l1];decide)).trans (by rw[bH,h1];rfl))
 have A2: ∀j,(ev bg (j+3)).e (G2 X pr to t J w x a b o i k J1 J2 r++tl) (.sub (.sub (.var 88) (.cint 1)) (.var 7))=some (pO r v.1 v.2.1,true):=λj=>gH (x:=(gx r J2,true)) (y:=iN d) (by rfl') (e7 _) ((nu (l:=J2.map λx:Q4=>pO r x.1 x.2.1) (by rw[aR];exact d4) (by rw[aR,l2];decide)).trans (by rw[bH,h2];rfl))
 have B1: ∀j,(ev bg (j+3)).e (G2 X pr to t J w x a b o i k J1 J2 r++tl) (.sub (.sub (.var 87) (.cint 0)) (.var 1))=some (jV u,true):=λj=>gH (x:=(wV J1,true)) (y:=iN c) (by rfl') (e1 _) ((nu (l:=J1.map jV) (by rw[aR];exact c4) (by rw[aR,l1];decide)).trans (by rw[bH,h1];rfl))
 have B2: ∀j,(ev bg (j+3)).e (G2 X pr to t J w x a b o i k J1 J2 r++tl) (.sub (.sub (.var 87) (.cint 1)) (.var 7))=some (jV v,true):=λj=>gH (x:=(wV J2,true)) (y:=iN d) (by rfl') (e7 _) ((nu (l:=J2.map jV) (by rw[aR];exact d4) (by rw[aR,l2];decide)).trans (by rw[bH,h2];rfl))
 have hc:=Mf (m:=m+4) hr o1 o2
 have y1:(ev bg (m+29)).e (G2 X pr to t J w x a b o i k J1 J2 r++tl) (.umeth (.sub (.sub (.var 88) (.cint 0)) (.var 1)) 18 [.sub (.sub (.var 88) (.cint 1)) (.var 7)])=some (.bool (decide (u.1<=v.1/\u.2.1<v.2.1)),true):=nf (f:=true) (args:=[(pO r v.1 v.2.1,true)]) (A1 _) (gq (A2 _) lH) hc
 have y2:(ev bg (m+29)).e (G2 X pr to t J w x a b o i k J1 J2 r++tl) (.and [.cmp (.sub (.sub (.sub (.var 87) (.cint 0)) (.var 1)) (.cint 0)) [.LtE] [.sub (.sub (.sub (.var 87) (.cint 1)) (.var 7)) (.cint 0)],.cmp (.sub (.sub (.sub (.var 87) (.cint 0)) (.var 1)) (.cint 1)) [.Lt] [.sub (.sub (.sub (.var 87) (.cint 1)) (.var 7)) (.cint 1)]])=some (.bool (decide (u.1<=v.1)&&decide (u.2.1<v.2.1)),true):=
  Cd (ji (x:=iN u.1) (gH (x:=(jV u,true)) (y:=iN 0) (B1 _) rfl rfl) (gI (y:=iN v.1) (gH (x:=(jV v,true)) (y:=iN 0) (B2 _) rfl rfl) (congrArg some (decide_eq_decide.mpr dj)))) (ji (x:=iN u.2.1) (gH (x:=(jV u,true)) (y:=iN 1) (B1 _) rfl rfl) (gI (y:=iN v.2.1) (gH (x:=(jV v,true)) (y:=iN 1) (B2 _) rfl rfl) (congrArg some (decide_eq_decide.mpr di))))
 have y3:nU .IsNot (.bool (decide (u.1<=v.1/\u.2.1<v.2.1))) (.bool (decide (u.1<=v.1)&&decide (u.2.1<v.2.1)))=some false:=by
  rw[Bool.decide_and]
  generalize (decide (u.1<=v.1)&&decide (u.2.1<v.2.1))=b
  cases b<;>rfl
 exact cx y1 y2 y3
end
end
section
open PySem.W PyProof.Rows
section
variable {m:Nat} {X:LP} {pr to w:Int} {t:Nat×Nat×Int×Int×Int×Int} {J J1 J2:List Q4} {x:Q4} {a b o:V} {i k r:Nat} {tl:St} {c:Nat}
noncomputable def Fj:List PS:=[.ifS Gm [.ret (.cbool false)] []]
theorem JQ (hr:r=0\/r=1) (h1:J1.length=4/\ ∀x∈J1,(J1,x)∈kM) (h2:J2.length=4/\ ∀x∈J2,(J2,x)∈kM) (hc:c<4) (hg:tl.get 1=some (sN c)):
  ∃tl',(ev bg (m+33)).s (G2 X pr to t J w x a b o i k J1 J2 r++tl) (.forS (.n 7) (.range [.cint 4]) Fj)=some (.next,G2 X pr to t J w x a b o i k J1 J2 r++tl'):=by
 have hc':c<J1.length:=by rw[h1.1];exact hc
 obtain⟨st',y1,_,tl',h3,_⟩:=gJ (bind:=λst v=>dr st (.n 7) v true) (body:=λst=>af (ev bg (m+32)).s Fj st) (f:=λk:Nat=>V.int (k:Nat))
  (λrest st=>(∀d∈rest,d<4)/\ ∃tl,st=G2 X pr to t J w x a b o i k J1 J2 r++tl/\tl.get 1=some (sN c))
  (λd l st zq=>by
   obtain⟨h3,tl,h4,h5⟩:=zq
   have d4:=h3 d (.head _)
   have d4':d<J2.length:=by rw[h2.1];exact d4
   have hq:=Ad (m:=m+1) (X:=X) (pr:=pr) (to:=to) (t:=t) (J:=J) (w:=w) (x:=x) (a:=a) (b:=b) (o:=o) (i:=i) (k:=k) (tl:=tl.put 7 (sN d)) hr (aW hc') (aW d4') h1.1 h2.1 (rR (h1.2 _ (iW _))) (rR (h2.2 _ (iW _))) (Ly (by decide) h5) j9
   exact⟨_,_,by rw[h4];rfl',cf (dI hq rfl),λe he=>h3 e (.tail _ he),tl.put 7 (sN d),rfl,Ly (by decide) h5⟩)
  (ak 4) (G2 X pr to t J w x a b o i k J1 J2 r++tl) ⟨λd hd=>dN.mp hd,tl,rfl,hg⟩
 exact⟨tl',li (v:= .range 0 4) (by rfl') (rG 4) rfl (h3▸y1)⟩
theorem Kl (hr:r=0\/r=1) (h1:J1.length=4/\ ∀x∈J1,(J1,x)∈kM) (h2:J2.length=4/\ ∀x∈J2,(J2,x)∈kM):
  ∃tl',(ev bg (m+34)).s (G2 X pr to t J w x a b o i k J1 J2 r++ []) (cZ.getD 15 .fail)=some (.next,G2 X pr to t J w x a b o i k J1 J2 r++tl'):=by
 obtain⟨st',y1,_,tl',h3⟩:=gJ (bind:=λst v=>dr st (.n 1) v true) (body:=λst=>af (ev bg (m+33)).s [.forS (.n 7) (.range [.cint 4]) Fj] st) (f:=λk:Nat=>V.int (k:Nat))
  (λrest st=>(∀d∈rest,d<4)/\ ∃tl,st=G2 X pr to t J w x a b o i k J1 J2 r++tl)
  (λc l st ⟨h3,tl,h4⟩=>(JQ (m:=m) (X:=X) (pr:=pr) (to:=to) (t:=t) (J:=J) (w:=w) (x:=x) (a:=a) (b:=b) (o:=o) (i:=i) (k:=k) (tl:=tl.put 1 (sN c)) hr h1 h2 (h3 c (.head _)) j9).elim λtl' hq=>
   ⟨_,_,by rw[h4];rfl',cf hq,λe he=>h3 e (.tail _ he),tl',rfl⟩)
  (ak 4) (G2 X pr to t J w x a b o i k J1 J2 r++ []) ⟨λd hd=>dN.mp hd,[],rfl⟩
 exact⟨tl',li (a:= .range [.cint 4]) (tg:= .n 1) (body:=[.forS (.n 7) (.range [.cint 4]) Fj]) (v:= .range 0 4) (by rfl') (rG 4) rfl (h3▸y1)⟩
end
end
section
open PySem.W PyProof.Rows
noncomputable def Gc:List ((Nat×Nat)×Nat×Nat):=oy.flatMap λp=>(oy.filter λq=>iE p.1 q.1&&p.2 !=q.1&&p.2 !=q.2).map λq=>(p,q)
noncomputable def Ho (h e:Nat) (p q:Nat×Nat):Bool:=
 let x:Q4:=(p.1,p.2,0,0);let y:Q4:=(q.1,q.2,0,0);let tu:=jz (λk=>(h+5*k)%8) x y;let w:=ja.getD e []
 (GL (tu.1++w)==(lA x.1 y.1 x.2.1 y.2.1==decide (w=[34,41])))&&(GL tu.2==pU x.1 y.1 x.2.1 y.2.1)
theorem CJ:(Gc.all λpq=>(ak 8).all λh=>(ak 5).all λe=>Ho h e pq.1 pq.2)=true:=by decide+kernel
end
section
open PySem.W PyProof.Rows
noncomputable def JR (x y:Q4):Bool:=iE x.1 y.1&&x.2.1 !=y.1&&x.2.1 !=y.2.1
theorem FD:(iU.all λp=>match p.2 with
  | [x0,x1,x2,x3]=>(jj x0 x1 x2 x3).all λq=>JR q.1 q.2
  |_=>false)=true:=by decide+kernel
noncomputable def Ke (h:Int) (p:Nat):Nat:=((h.fmod 8).toNat+5*p)%8
noncomputable def J9 (h:Int) (n:Nat):Nat:=(((h.fdiv 1920).fmod 5).toNat+n)%5
theorem Dj {h:Int} {n k:Nat} (hn:0<n):(h+(k:Int)).fmod (n:Int)=((((h.fmod n).toNat+k)%n:Nat):Int):=by
 rw[jf _ (bI n),jf _ (bI n),Int.natCast_emod,Int.natCast_add,n3 (Int.emod_nonneg _ (Int.ne_of_gt (di.mpr hn))),Int.emod_add_emod]
theorem Fm (h:Int):uw h (Ke h) (J9 h) where
 km:=λp _=>⟨Dj (n:=8) (k:=5*p) (by decide),i0 _ (by decide)⟩
 ke:=λn _=>⟨Dj (n:=5) (by decide),i0 _ (by decide)⟩
theorem FQ {h:Int} {n:Nat} {x y:Q4} (hx:(x.1,x.2.1)∈oy) (hy:(y.1,y.2.1)∈oy) (hs:JR x y=true):yS (Ke h) (J9 h) n x y:=by
 have hq:((x.1,x.2.1),y.1,y.2.1)∈Gc:=ej.mpr ⟨_,hx,aP.mpr ⟨_,cb.mpr ⟨hy,hs⟩,rfl⟩⟩
 have h8:(h.fmod 8).toNat<8:=by rw[jf _ (by decide)];lia
 have h5:J9 h n<5:=i0 _ (by decide)
 have hk:=aT.mp (aT.mp (aT.mp CJ _ hq) _ (dN.mpr h8)) _ (dN.mpr h5)
 have hk:((GL ((jz (Ke h) x y).1++ja.getD (J9 h n) [])==(lA x.1 y.1 x.2.1 y.2.1==decide (ja.getD (J9 h n) []=[34,41])))&&(GL (jz (Ke h) x y).2==pU x.1 y.1 x.2.1 y.2.1))=true:=hk
 rw[ag,beq_iff_eq,beq_iff_eq]at hk
 have o8: ∀p∈oy,p.1<8:=by decide+kernel
 exact⟨o8 _ hx,hk.1,hk.2⟩
section
variable {m:Nat} {X:LP} {pr to w:Int} {t:Nat×Nat×Int×Int×Int×Int} {J J1 J2:List Q4} {x:Q4} {a b o:V} {i k r:Nat} {tl:St} {c:Nat}
theorem Kk (hW:(X.row,J1)∈iU) (h1:J1.length=4/\ ∀x∈J1,(J1,x)∈kM):(ev bg (m+42)).s (G2 X pr to t J w x a b o i k J1 J2 r++tl) (cZ.getD 16 .fail)=some (.ret (.bool true) true,G2 X pr to t J w x a b o i k J1 J2 r++tl):=by
 have hc:(ev bg (m+40)).call (.fn 28) [(wV J1,true),(.int X.c3,true)] [] []=some (.bool true,true):=by
  have hs:=aT.mp FD _ hW
  obtain⟨l1,o1⟩:=h1
  match J1,l1,o1,hs with
  | [x0,x1,x2,x3],_,o1,hs=>
   refine M9 (m:=m) (Fm X.c3) λn q hq=>?_
   have hm:=az hq
   have hp:=aT.mp hs _ hm
   have h0:=rR (o1 x0 (.head _))
   have h1:=rR (o1 x1 (.tail _ (.head _)))
   have h2:=rR (o1 x2 (.tail _ (.tail _ (.head _))))
   have h3:=rR (o1 x3 (.tail _ (.tail _ (.tail _ (.head _)))))
   have hb:(q.1.1,q.1.2.1)∈oy/\(q.2.1,q.2.2.1)∈oy:=by
    unfold jj at hm
    simp only[aO,aU,or_false]at hm
    clear hq hp;rcases hm with rfl|rfl|rfl|rfl|rfl|rfl<;>exact⟨by assumption,by assumption⟩
   exact FQ hb.1 hb.2 hp
 exact jh (a:= .call (.fn 28) [.sub (.var 87) (.cint 0),.sub (.var 52) (.cint 3)] [] []) (x:=(.bool true,true)) (f6 (g:=(.fn 28,true)) (args:=[(wV J1,true),(.int X.c3,true)]) (by rfl') (by rfl') hc) rfl
end
end
section
open PySem.W PyProof.Rows
theorem Bu (m:Nat):eK.map (λr=>(ev bg (m+30)).call (.fn 22) [(sV r,true)] [] [])=jJ (λr=>some (zs (bu r),true)) eK:=by rfl'
end
section
open PySem.W PyProof.Rows
theorem H7 (m:Nat) (X:LP):eK.map (λr=>(ev bg (m+45)).s (Z0 {X with row:=r}++ [(84,⟨.safe,rY X.p X.q⟩)]) (cZ.getD 5 .fail))=jJ (λr=>some (.next,Z {X with row:=r} 1 0 [])) eK:=by rfl'
noncomputable def qD (ns:List Int) (c0 c1 c2 c3 c4:Int) (row:List Nat):LP:=
 {ns,c0,c1,c2,c3,c4,row,bs:=(c1+1000).fmod 2000-1000,sd:=1-2*(c3.fdiv 960).fmod 2,rn:=(c3.fdiv 16).fmod 2,p:=λj=>(c1+1000).fmod 2000-1000+(0+(j:Nat)),q:=λj=>(c1+1000).fmod 2000-1000+(0+(j:Nat))+5+(c2+(0+(j:Nat))).fmod 1000}
theorem Jd (ns:List Int) (c0 c1 c2 c3 c4:Int) (row:List Nat):we (qD ns c0 c1 c2 c3 c4 row):=by
 have b0:=cm (c1+1000) (b:=2000) (by decide)
 have b1:=dy (c1+1000) (b:=2000) (by decide)
 have d0: ∀j:Nat,0<=(c2+(0+(j:Int))).fmod 1000/\(c2+(0+(j:Int))).fmod 1000<1000:=λj=>⟨cm _ (by decide),dy _ (by decide)⟩
 refine⟨?_,?_,λj hj=>?_,λj hj=>?_,λj hj=>?_⟩
 ·have h0:=cm (c3.fdiv 960) (b:=2) (by decide)
  have h1:=dy (c3.fdiv 960) (b:=2) (by decide)
  show 1-2*(c3.fdiv 960).fmod 2=1\/1-2*(c3.fdiv 960).fmod 2= -1
  generalize (c3.fdiv 960).fmod 2=z at h0 h1
  lia
 ·have h0:=cm (c3.fdiv 16) (b:=2) (by decide)
  have h1:=dy (c3.fdiv 16) (b:=2) (by decide)
  show(c3.fdiv 16).fmod 2=0\/(c3.fdiv 16).fmod 2=1
  generalize (c3.fdiv 16).fmod 2=z at h0 h1
  lia
 ·obtain⟨h0,h1⟩:=d0 j
  show 0<(c1+1000).fmod 2000-1000+(0+(j:Int))+5+(c2+(0+(j:Int))).fmod 1000-((c1+1000).fmod 2000-1000+(0+(j:Int)))/\(c1+1000).fmod 2000-1000+(0+(j:Int))+5+(c2+(0+(j:Int))).fmod 1000-((c1+1000).fmod 2000-1000+(0+(j:Int)))<=2000
  generalize (c2+(0+(j:Int))).fmod 1000=z at h0 h1
  generalize (c1+1000).fmod 2000=u at b0 b1
  clear d0
  lia
 ·show((c1+1000).fmod 2000-1000+(0+(j:Int))).natAbs<=2100
  generalize (c1+1000).fmod 2000=u at b0 b1
  clear d0
  lia
 ·obtain⟨h0,h1⟩:=d0 j
  show((c1+1000).fmod 2000-1000+(0+(j:Int))+5+(c2+(0+(j:Int))).fmod 1000).natAbs<=2100
  generalize (c2+(0+(j:Int))).fmod 1000=z at h0 h1
  generalize (c1+1000).fmod 2000=u at b0 b1
  clear d0
  lia
theorem Bt (W:List (List Q4)):((zs W,true).1.firm&&((zs W,true).2||(zs W,true).1.flat))=true:=by
 show(fC 2 (W.map wV)&&true)=true
 rw[qX];rfl
theorem DN (m:Nat) (ns:List Int) (hn:ns.length<=1000): ∃c0 c1 c2 c3 c4 row,row∈eK/\ ∀{o:f9×St},af (ev bg (m+45)).s (cZ.drop 6) (Z (qD ns c0 c1 c2 c3 c4 row) 1 0 [])=some o->af (ev bg (m+45)).s cZ [(51,⟨.safe,.list (ns.map .int)⟩)]=some o:=by
 refine obE12 (Me (m:=m+23) hn) λl h5 hc=>?_
 match l,h5,hc with
 | [c0,c1,c2,c3,c4],_,hc=>
  have hr:=Md (m:=m+23) (f:=c0)
  have hm:=FK (f:=c0)
  generalize C5 ((ak 8).map (bitP c0))=row at hr hm
  refine⟨c0,c1,c2,c3,c4,row,hm,λ{o} h=>?_⟩
  have hw:(ev bg (m+43)).call (.fn 22) [(sV row,true)] [] []=some (zs (bu row),true):=cu (Bu (m+13)) row hm
  have hwf:((zs (bu row),true).1.firm&&((zs (bu row),true).2||(zs (bu row),true).1.flat))=true:=Bt _
  generalize hW:zs (bu row)=WV at hw hwf
  have z0:=cm (c3.fdiv 960) (b:=2) (by decide)
  have z1:=dy (c3.fdiv 960) (b:=2) (by decide)
  have hc:(ev bg (m+43)).call (.fn 20) [(.list (ns.map .int),true)] [] []=some (.list [.int c0,.int c1,.int c2,.int c3,.int c4],true):=hc
  have y0:(ev bg (m+45)).s [(51,⟨.safe,.list (ns.map .int)⟩)] (cZ.getD 0 .fail)=some (.next,[(51,⟨.safe,.list (ns.map .int)⟩),(52,⟨.safe,.list [.int c0,.int c1,.int c2,.int c3,.int c4]⟩)]):=
   bx (z:=52) (a:= .call (.fn 20) [.var 51] [] []) (x:=(.list [.int c0,.int c1,.int c2,.int c3,.int c4],true)) rfl (f6 (g:=(.fn 20,true)) (args:=[(.list (ns.map .int),true)]) (by rfl') (by rfl') hc) rfl
  have y1:(ev bg (m+45)).s [(51,⟨.safe,.list (ns.map .int)⟩),(52,⟨.safe,.list [.int c0,.int c1,.int c2,.int c3,.int c4]⟩)] (cZ.getD 1 .fail)=some (.next,[(51,⟨.safe,.list (ns.map .int)⟩),(52,⟨.safe,.list [.int c0,.int c1,.int c2,.int c3,.int c4]⟩),(55,sS row)]):=
   bx (z:=55) (a:= .call (.fn 21) [.sub (.var 52) (.cint 0)] [] []) (x:=(sV row,true)) rfl (f6 (g:=(.fn 21,true)) (args:=[iI c0]) (by rfl') (by rfl') hr) rfl
  have y2:(ev bg (m+45)).s [(51,⟨.safe,.list (ns.map .int)⟩),(52,⟨.safe,.list [.int c0,.int c1,.int c2,.int c3,.int c4]⟩),(55,sS row)] (cZ.getD 2 .fail)=some (.next,[(51,⟨.safe,.list (ns.map .int)⟩),(52,⟨.safe,.list [.int c0,.int c1,.int c2,.int c3,.int c4]⟩),(55,sS row),(58,⟨.safe,WV⟩)]):=
   bx (z:=58) (a:= .call (.fn 22) [.var 55] [] []) (x:=(WV,true)) rfl (f6 (g:=(.fn 22,true)) (args:=[(sV row,true)]) (by rfl') (by rfl') hw) hwf
  have y3:(ev bg (m+45)).s [(51,⟨.safe,.list (ns.map .int)⟩),(52,⟨.safe,.list [.int c0,.int c1,.int c2,.int c3,.int c4]⟩),(55,sS row),(58,⟨.safe,WV⟩)] (cZ.getD 3 .fail)=some (.next,Z0 (qD ns c0 c1 c2 c3 c4 row)):=
   gT (xs:=[89,90,91]) (l:=[.int ((c1+1000).fmod 2000-1000),.int (1-2*(c3.fdiv 960).fmod 2),.int ((c3.fdiv 16).fmod 2)]) (f:=true) (Cb (as:=[iI ((c1+1000).fmod 2000-1000),iI (1-2*(c3.fdiv 960).fmod 2),iI ((c3.fdiv 16).fmod 2)]) (gq (by rfl') (gq (cM (x:=iI 1) (y:=iI (2*(c3.fdiv 960).fmod 2)) (by rfl') (cM (x:=iI 2) (y:=iI ((c3.fdiv 960).fmod 2)) (by rfl') (by rfl') (ll (gG (by decide)) (gG (by generalize (c3.fdiv 960).fmod 2=z at z0 z1;clear hn;lia)))) rfl) (gq (by rfl') lH))) rfl) (by rw[<-hW];rfl')
  have y4:(ev bg (m+45)).s (Z0 (qD ns c0 c1 c2 c3 c4 row)) (cZ.getD 4 .fail)=some (.next,Z0 (qD ns c0 c1 c2 c3 c4 row)++ [(84,⟨.safe,rY (qD ns c0 c1 c2 c3 c4 row).p (qD ns c0 c1 c2 c3 c4 row).q⟩)]):=by rfl'
  have y5:(ev bg (m+45)).s (Z0 (qD ns c0 c1 c2 c3 c4 row)++ [(84,⟨.safe,rY (qD ns c0 c1 c2 c3 c4 row).p (qD ns c0 c1 c2 c3 c4 row).q⟩)]) (cZ.getD 5 .fail)=some (.next,Z (qD ns c0 c1 c2 c3 c4 row) 1 0 []):=cu (H7 m (qD ns c0 c1 c2 c3 c4 row)) _ hm
  exact ae y0 (ae y1 (ae y2 (ae y3 (ae y4 (ae y5 h)))))
end
section
open PySem.W PyProof.Rows
theorem yz (c:Int) {n:Nat} (h:0<n): ∃i,i<n/\c.fmod (n:Nat)=(i:Nat):=by
 have h0:=cm c (b:=(n:Int)) (by lia)
 have h1:=dy c (b:=(n:Int)) (by lia)
 exact⟨(c.fmod n).toNat,by lia,by lia⟩
theorem Kn {n:Nat} {st:St} {i:Int} (h1:(ev bg (n+1)).e st (.var 93)=some (iI i)) (h2:(ev bg (n+1)).e st (.var 94)=some (iI i)):(ev bg (n+2)).t st (.cmp (.var 93) [.NotEq] [.var 94])=some false:=
 cx h1 h2 (DB.trans (by rw[decide_eq_true rfl];rfl))
theorem JV {W:cY} {n:Nat} {st:St} {a b c:PE} (ha:(ev W n).t st a=some false) (hb:(ev W n).t st b=some false) (hc:(ev W n).t st c=some false):(ev W (n+1)).t st (.or [a,b,c])=some false:=by
 rw[JM];show((ev W n).t st a).bind _=_;rw[ha]
 show((ev W n).t st b).bind _=_;rw[hb]
 show((ev W n).t st c).bind _=_;rw[hc];rfl
theorem DM {X:LP} (K:we X) (hr:X.row∈eK) (n:Nat): ∃st',af (ev bg (n+73)).s (cZ.drop 6) (Z X 1 0 [])=some (.ret (.bool true) true,st'):=by
 refine obE61 (E0 (m:=n) K hr) λj h p q r S y6=>?_
 generalize ht:(j,h,p,q,r,S)=t
 have y6:(ev bg (n+73)).s (Z X 1 0 []) (.forS (.n 56) Ie GJ)=some (.next,Y X (v9 X (kJ X.row)) 0 [] t):=by rw[<-ht];exact y6
 clear ht
 have hs:v9 X (kJ X.row)=uN X.p X.q (bu X.row):=HX (p:=X.p) (q:=X.q) hr
 rw[hs]at y6
 refine obE61 (zv (m:=n+31) (pr:=uN X.p X.q (bu X.row)) (t:=t) K hr) λJ w x a b o y7=>?_
 generalize uN X.p X.q (bu X.row)=T at y6 y7
 have hl:=aT.mp vL _ hr
 rw[ag,uD,uE]at hl
 obtain⟨hl0,hl1⟩:=hl
 refine obE12 (yz X.c4 hl0) λi hi ei=>?_
 refine obE12 (yz (X.c4.fdiv 24) hl0) λk hk ek=>?_
 have g1:(bu X.row)[i]?=some (bu X.row)[i]:=aW hi
 have g2:(bu X.row)[k]?=some (bu X.row)[k]:=aW hk
 generalize (bu X.row)[i]=J1 at g1
 generalize (bu X.row)[k]=J2 at g2
 have hW: ∀{i J},(bu X.row)[i]?=some J->(X.row,J)∈iU:=λh=>ej.mpr ⟨_,hr,aP.mpr ⟨_,az h,rfl⟩⟩
 have hJ: ∀{J},(X.row,J)∈iU->J.length=4/\ ∀x∈J,(J,x)∈kM:=λh=>⟨beq_iff_eq.mp (aT.mp ye _ h),λx hx=>ej.mpr ⟨_,h,aP.mpr ⟨x,hx,rfl⟩⟩⟩
 have w1:=hW g1
 have w2:=hW g2
 have y8:af (ev bg (n+73)).s ((cZ.drop 8).take 2) (Fz X X.row T T t++TW J w x a b o)=some (.next,Fz X X.row T T t++TW J w x a b o++L3 X.row):=cu (FH (n+28) X T T t J w x a b o) X.row hr
 have y10b:(ev bg (n+71)).t (Fz X X.row T T t++TW J w x a b o++L3 X.row) (JD 1)=some false:=cu (C1 (n+26) X T T t J w x a b o) X.row hr
 have y10c:(ev bg (n+71)).t (Fz X X.row T T t++TW J w x a b o++L3 X.row) (JD 2)=some false:=cu (C0 (n+26) X T T t J w x a b o) X.row hr
 have y10:(ev bg (n+73)).s (Fz X X.row T T t++TW J w x a b o++L3 X.row) (cZ.getD 10 .fail)=some (.next,Fz X X.row T T t++TW J w x a b o++L3 X.row):=
  dI (a:= .or [.cmp (.var 93) [.NotEq] [.var 94],JD 1,JD 2]) (p:=[.ret (.cbool false)]) (q:=[]) (t:=false) (JV (Kn (n:=n+69) (i:=T) (by rfl') (by rfl')) y10b y10c) rfl
 have y11:(ev bg (n+73)).s (Fz X X.row T T t++TW J w x a b o++L3 X.row) (cZ.getD 11 .fail)=some (.next,Fz X X.row T T t++TW J w x a b o++L3 X.row++ [(86,⟨.safe,.list [.int (X.c4.fmod ((bu X.row).length:Nat)),.int ((X.c4.fdiv 24).fmod ((bu X.row).length:Nat))]⟩)]):=cu (FI (n+28) X T T t J w x a b o) X.row hr
 rw[ei,ek]at y11
 have y11:(ev bg (n+73)).s (Fz X X.row T T t++TW J w x a b o++L3 X.row) (cZ.getD 11 .fail)=some (.next,G0 X T T t J w x a b o i k):=y11
 have hbf:((pj J1 J2,true).1.firm&&((pj J1 J2,true).2||(pj J1 J2,true).1.flat))=true:=Bt [J1,J2]
 have y12:(ev bg (n+73)).s (G0 X T T t J w x a b o i k) (cZ.getD 12 .fail)=some (.next,G1 X T T t J w x a b o i k J1 J2):=
  (bx (z:=87) (a:= .comp (.sub (.var 58) (.var 8)) [(.n 8,.var 86,[])] [58]) (x:=(pj J1 J2,true)) rfl (Ia (m:=n+62) g1 g2 (aQ hl1 (by decide))) hbf).trans (by rfl')
 have y13:=Km (m:=n+29) (X:=X) (pr:=T) (to:=T) (t:=t) (J:=J) (w:=w) (x:=x) (a:=a) (b:=b) (o:=o) (i:=i) (k:=k) g1 g2 (aQ hl1 (by decide)) hr
 obtain⟨r1,er,hr1⟩: ∃r1:Nat,X.rn=(r1:Int)/\(r1=0\/r1=1):=by
  rcases K.rn with e|e
  ·exact⟨0,e,.inl rfl⟩
  ·exact⟨1,e,.inr rfl⟩
 have hlf:(((V.list [gx r1 J1,gx r1 J2],true):VB).1.firm&&(((V.list [gx r1 J1,gx r1 J2],true):VB).2||((V.list [gx r1 J1,gx r1 J2],true):VB).1.flat))=true:=by
  show((gx r1 J1).firm&&((gx r1 J2).firm&&true)&&true)=true
  rw[mH,mH];rfl
 have y14:(ev bg (n+73)).s (G1 X T T t J w x a b o i k J1 J2) (cZ.getD 14 .fail)=some (.next,G2 X T T t J w x a b o i k J1 J2 r1++ []):=
  (bx (z:=88) (a:= .comp (.comp J8 [(.n 65,.var 61,[])] [91]) [(.n 61,.var 87,[])] [91]) (x:=(.list [gx r1 J1,gx r1 J2],true)) rfl (Fx (m:=n+50) er hr1 (hJ w1) (hJ w2)) hlf).trans (by rfl')
 obtain⟨tl,y15⟩:=Kl (m:=n+39) (X:=X) (pr:=T) (to:=T) (t:=t) (J:=J) (w:=w) (x:=x) (a:=a) (b:=b) (o:=o) (i:=i) (k:=k) hr1 (hJ w1) (hJ w2)
 have y16:=Kk (m:=n+31) (X:=X) (pr:=T) (to:=T) (t:=t) (J:=J) (w:=w) (x:=x) (a:=a) (b:=b) (o:=o) (i:=i) (k:=k) (J2:=J2) (r:=r1) (tl:=tl) w1 (hJ w1)
 have z:af (ev bg (n+73)).s ((cZ.drop 8).take 2++cZ.drop 10) (Fz X X.row T T t++TW J w x a b o)=some (.ret (.bool true) true,G2 X T T t J w x a b o i k J1 J2 r1++tl):=
  JW y8 (ae y10 (ae y11 (ae y12 (ae y13 (ae y14 (ae y15 (cX (ds:=[]) y16)))))))
 exact⟨_,ae y6 (ae y7 z)⟩
theorem Af (ns:List Int) (hn:ns.length<=63): ∃f,(ev bg 82).call (.fn 29) [(.list (ns.map .int),true)] [] []=some (.bool true,f):=by
 obtain⟨c0,c1,c2,c3,c4,row,hm,hh⟩:=DN 36 ns (aQ hn (by decide))
 obtain⟨st',ht⟩:=DM (Jd ns c0 c1 c2 c3 c4 row) hm 8
 exact⟨true,AS (n:=81) (d:=xq) (bs:=[(51,(.list (ns.map .int),true))]) (by rfl') (by rfl') (by show(fC 2 (ns.map V.int)&&true&&true)=true;rw[mG];rfl) (by rfl') (hh ht) rfl⟩
end
section
open PySem.W PyProof.Rows
noncomputable abbrev S (s:String):aN:=fS s
noncomputable abbrev nj:g5:=(OpenLaw.row PySem.Challenge.rw_tc0080_02).toRowW.1
noncomputable def st (k:Nat):ed:=nj.main.body.getD k (.Pass ⟨0,0,0,0⟩)
noncomputable def fD (s:ed):aN×jF×List ed×bE:=match s with
 | .FunctionDef n a b _ _ _ sc _ _ _=>(n,a,b,sc)
 |_=>(bz,⟨[],[],none,[],[],none,[]⟩,[],⟨.function,[],false,false,[]⟩)
noncomputable def cS (s:ed) (j:Nat):ed:=match s with
 | .ClassDef _ _ _ b _ _ _ _ _ _ _=>b.getD j s
 |_=>s
noncomputable def EL:cg:=⟨nj.main.scope,mainNs,mainNs,[],bz,none,(.ref 13),(some 14),0⟩
noncomputable abbrev hv (s:String) (n:Nat):aA:= .str (S s) n
noncomputable abbrev hi (n:Int):aA:= .int n 0
noncomputable abbrev hr (n:Nat):aA:= .ref n
noncomputable def tup (l:List aA):db:=⟨.type "tuple",none,.seq ⟨l⟩ 0,#[]⟩
noncomputable def lL (l:List aA):db:=⟨.none,none,.fields ⟨l⟩,#[]⟩
noncomputable def en (P:ew) (k:String) (n:Nat) (x:aA):B8:=⟨PyData.keyHash P (S k),hv k n,x⟩
noncomputable def En (n:Nat) (l:List B8):db:=⟨.type "dict",none,.dict ⟨l⟩ n,#[]⟩
noncomputable def mZ (n q:String) (k:Nat) (a b c d e:Int) (l:List aA) (m:Nat):db:=⟨.type "code",none,.fields ⟨[hv n k,hv q (k+1),hv "/claim/cut.py" (k+2),hi a,hi b,hi c,hi d,hi e]++l++ [hi m,hi a,hv "/claim/cut.py" (m+1)]⟩,#[]⟩
noncomputable def nS (n q:String) (s:ed):db:=⟨.none,none,.func ⟨S n,S q,(fD s).2.1,.stmts (fD s).2.2.1,(fD s).2.2.2,0,[],.none,.none,.none,.none,none,.none,.none,0⟩,#[]⟩
noncomputable def nR (n q:String) (s:ed) (a b m:aA) (c:Nat):db:=⟨.type "function",none,.func ⟨S n,S q,(fD s).2.1,.stmts (fD s).2.2.1,(fD s).2.2.2,3,[],a,b,.none,m,none,hr c,.none,0⟩,#[]⟩
noncomputable def C6 (P:ew) (a b:db):List db:=[boot_o_0 P,
 boot_o_1 P,
 boot_o_2 P,
 a,
 boot_o_4 P,
 boot_o_5 P,
 boot_o_6 P,
 boot_o_7 P,
 boot_o_8 P,
 boot_o_9 P,
 boot_o_10 P,
 tup [],
 b,
 mZ "<module>" "<module>" 182 1 0 0 0 0 [hr 11,.bool false,hi 181,hr 12,.none,.none,.none,.none] 185,
 ⟨(.type "frame"),none,.plain,#[(some (hr 13)),(some (hr 3)),(some (hr 3)),none,(some (hv "__main__" 164)),none,(some (hr 0))]⟩,
 tup [],
 lL [],
 tup [hv "k" 190],
 tup [],
 nS "_wall" "_wall" (st 0),
 mZ "_wall" "_wall" 187 1 1 0 0 3 [hr 15,.bool true,hi 181,hr 16,.none,hr 17,hr 18,hr 19] 191,
 nR "_wall" "_wall" (st 0) .none .none (hv "__main__" 164) 20,
 tup [.int 0 196,.none],
 En 1 [en P "key" 197 .none],
 tup [],
 lL [],
 tup [hv "a" 201,hv "x" 202,hv "lo" 203,hv "hi" 204,hv "key" 205],
 tup [],
 nS "insort_right" "insort_right" (st 2),
 mZ "insort_right" "insort_right" 198 5 4 0 1 3 [hr 24,.bool true,hi 181,hr 25,.none,hr 26,hr 27,hr 28] 206,
 nR "insort_right" "insort_right" (st 2) (hr 22) (hr 23) (hv "cpy313.bisect" 194) 29,
 tup [.int 0 209,.none],
 En 1 [en P "key" 210 .none],
 tup [],
 lL [],
 tup [hv "a" 214,hv "x" 215,hv "lo" 216,hv "hi" 217,hv "key" 218,hv "mid" 219],
 tup [],
 nS "bisect_right" "bisect_right" (st 3),
 mZ "bisect_right" "bisect_right" 211 11 4 0 1 3 [hr 33,.bool true,hi 181,hr 34,.none,hr 35,hr 36,hr 37] 220,
 nR "bisect_right" "bisect_right" (st 3) (hr 31) (hr 32) (hv "cpy313.bisect" 194) 38,
 tup [.int 0 223,.none],
 En 1 [en P "key" 224 .none],
 tup [],
 lL [],
 tup [hv "a" 228,hv "x" 229,hv "lo" 230,hv "hi" 231,hv "key" 232],
 tup [],
 nS "insort_left" "insort_left" (st 4),
 mZ "insort_left" "insort_left" 225 31 4 0 1 3 [hr 42,.bool true,hi 181,hr 43,.none,hr 44,hr 45,hr 46] 233,
 nR "insort_left" "insort_left" (st 4) (hr 40) (hr 41) (hv "cpy313.bisect" 194) 47,
 tup [.int 0 236,.none],
 En 1 [en P "key" 237 .none],
 tup [],
 lL [],
 tup [hv "a" 241,hv "x" 242,hv "lo" 243,hv "hi" 244,hv "key" 245,hv "mid" 246],
 tup [],
 nS "bisect_left" "bisect_left" (st 5),
 mZ "bisect_left" "bisect_left" 238 37 4 0 1 3 [hr 51,.bool true,hi 181,hr 52,.none,hr 53,hr 54,hr 55] 247,
 nR "bisect_left" "bisect_left" (st 5) (hr 49) (hr 50) (hv "cpy313.bisect" 194) 56,
 tup [],
 lL [],
 tup [hv "a" 257,hv "b" 258,hv "n" 259,hv "pad" 260,hv "half_n" 261,hv "mask" 262,hv "b1" 263,hv "b2" 264,hv "q1" 265,hv "r" 266,hv "q2" 267],
 tup [],
 nS "_div2n1n" "_div2n1n" (st 8),
 mZ "_div2n1n" "_div2n1n" 254 59 3 0 0 3 [hr 58,.bool true,hi 181,hr 59,.none,hr 60,hr 61,hr 62] 268,
 nR "_div2n1n" "_div2n1n" (st 8) .none .none (hv "cpy313._pylong" 250) 63,
 tup [],
 lL [],
 tup [hv "a12" 274,hv "a3" 275,hv "b" 276,hv "b1" 277,hv "b2" 278,hv "n" 279,hv "q" 280,hv "r" 281],
 tup [],
 nS "_div3n2n" "_div3n2n" (st 9),
 mZ "_div3n2n" "_div3n2n" 271 75 6 0 0 3 [hr 65,.bool true,hi 181,hr 66,.none,hr 67,hr 68,hr 69] 282,
 nR "_div3n2n" "_div3n2n" (st 9) .none .none (hv "cpy313._pylong" 250) 70,
 tup [],
 lL [],
 tup [hv "a" 288,hv "n" 289],
 tup [hv "n" 290,hv "a_digits" 291,hv "inner" 292],
 nS "_int2digits" "_int2digits" (st 10),
 mZ "_int2digits" "_int2digits" 285 85 2 0 0 3 [hr 72,.bool true,hi 181,hr 73,.none,hr 74,hr 75,hr 76] 293,
 nR "_int2digits" "_int2digits" (st 10) .none .none (hv "cpy313._pylong" 250) 77,
 tup [],
 lL [],
 tup [hv "digits" 299,hv "n" 300],
 tup [hv "digits" 301,hv "n" 302,hv "inner" 303],
 nS "_digits2int" "_digits2int" (st 11),
 mZ "_digits2int" "_digits2int" 296 101 2 0 0 3 [hr 79,.bool true,hi 181,hr 80,.none,hr 81,hr 82,hr 83] 304,
 nR "_digits2int" "_digits2int" (st 11) .none .none (hv "cpy313._pylong" 250) 84,
 tup [],
 lL [],
 tup [hv "a" 310,hv "b" 311,hv "n" 312,hv "a_digits" 313,hv "r" 314,hv "q_digits" 315,hv "a_digit" 316,hv "q_digit" 317,hv "q" 318],
 tup [],
 nS "_divmod_pos" "_divmod_pos" (st 12),
 mZ "_divmod_pos" "_divmod_pos" 307 110 2 0 0 3 [hr 86,.bool true,hi 181,hr 87,.none,hr 88,hr 89,hr 90] 319,
 nR "_divmod_pos" "_divmod_pos" (st 12) .none .none (hv "cpy313._pylong" 250) 91,
 tup [],
 lL [],
 tup [hv "a" 325,hv "b" 326,hv "q" 327,hv "r" 328],
 tup [],
 nS "int_divmod" "int_divmod" (st 13),
 mZ "int_divmod" "int_divmod" 322 121 2 0 0 3 [hr 93,.bool true,hi 181,hr 94,.none,hr 95,hr 96,hr 97] 329,
 nR "int_divmod" "int_divmod" (st 13) .none .none (hv "cpy313._pylong" 250) 98,
 tup [],
 lL [],
 tup [hv "addr" 337,hv "pos" 338,hv "escape" 339,hv "ch" 340],
 tup [],
 nS "_iter_escaped_chars" "_iter_escaped_chars" (st 15),
 mZ "_iter_escaped_chars" "_iter_escaped_chars" 334 133 1 0 0 35 [hr 100,.bool true,hi 181,hr 101,.none,hr 102,hr 103,hr 104] 341,
 nR "_iter_escaped_chars" "_iter_escaped_chars" (st 15) .none .none (hv "cpy313.email.utils" 332) 105,
 tup [],
 lL [],
 tup [hv "addr" 347,hv "start" 348,hv "open_pos" 349,hv "result" 350,hv "pos" 351,hv "ch" 352],
 tup [],
 nS "_strip_quoted_realnames" "_strip_quoted_realnames" (st 16),
 mZ "_strip_quoted_realnames" "_strip_quoted_realnames" 344 146 1 0 0 3 [hr 107,.bool true,hi 181,hr 108,.none,hr 109,hr 110,hr 111] 353,
 nR "_strip_quoted_realnames" "_strip_quoted_realnames" (st 16) .none .none (hv "cpy313.email.utils" 332) 112,
 tup [],
 lL [],
 tup [hv "addr" 359,hv "opens" 360,hv "pos" 361,hv "ch" 362],
 tup [],
 nS "_check_parenthesis" "_check_parenthesis" (st 17),
 mZ "_check_parenthesis" "_check_parenthesis" 356 164 1 0 0 3 [hr 114,.bool true,hi 181,hr 115,.none,hr 116,hr 117,hr 118] 363,
 nR "_check_parenthesis" "_check_parenthesis" (st 17) .none .none (hv "cpy313.email.utils" 332) 119,
 tup [],
 ⟨(.type "builtin_function_or_method"),none,(.fields #[(.builtin "type.__prepare__"),(.type "type")]),#[]⟩,
 En 13 [en P "__module__" 375 (hv "cpy313.tabnanny" 366),en P "__qualname__" 377 (hv "Whitespace" 376),en P "__firstlineno__" 379 (.int 176 378),en P "S" 383 (hv " " 381),en P "T" 384 (hv "\t" 382),en P "__init__" 399 (hr 137),en P "longest_run_of_spaces" 408 (hr 144),en P "indent_level" 420 (hr 151),en P "equal" 428 (hr 158),en P "not_equal_witness" 436 (hr 165),en P "less" 446 (hr 172),en P "not_less_witness" 454 (hr 179),en P "__static_attributes__" 460 (hr 180)],
 tup [],
 lL [hi 179,hi 4,hr 136,hi 202,hi 4,hr 143,hi 206,hi 4,hr 150,hi 213,hi 4,hr 157,hi 216,hi 4,hr 164,hi 219,hi 4,hr 171,hi 230,hi 4,hr 178],
 mZ "Whitespace" "Whitespace" 370 176 0 0 0 0 [hr 124,.bool false,hi 181,hr 125,.none,.none,.none,.none] 373,
 ⟨(.type "frame"),none,.plain,#[(some (hr 126)),(some (hr 3)),(some (hr 123)),none,(some (hv "cpy313.tabnanny" 366)),none,(some (hr 0))]⟩,
 ⟨(.type "str_ascii_iterator"),none,(.fields #[.none,(hi 2)]),#[]⟩,
 tup [],
 ⟨(.type "StopIteration"),none,(.fields #[(hr 129),.none,.none,.none,(.bool false),.none]),#[]⟩,
 tup [],
 lL [],
 tup [hv "self" 388,hv "ws" 389,hv "S" 390,hv "T" 391,hv "count" 392,hv "b" 393,hv "n" 394,hv "nt" 395,hv "ch" 396],
 tup [],
 nS "__init__" "Whitespace.__init__" (cS (st 19) 1),
 mZ "__init__" "Whitespace.__init__" 385 179 2 0 0 3 [hr 131,.bool true,hi 181,hr 132,.none,hr 133,hr 134,hr 135] 397,
 nR "__init__" "Whitespace.__init__" (cS (st 19) 1) .none .none (hv "cpy313.tabnanny" 366) 136,
 tup [],
 lL [],
 tup [hv "self" 403,hv "count" 404,hv "trailing" 405],
 tup [],
 nS "longest_run_of_spaces" "Whitespace.longest_run_of_spaces" (cS (st 19) 2),
 mZ "longest_run_of_spaces" "Whitespace.longest_run_of_spaces" 400 202 1 0 0 3 [hr 138,.bool true,hi 181,hr 139,.none,hr 140,hr 141,hr 142] 406,
 nR "longest_run_of_spaces" "Whitespace.longest_run_of_spaces" (cS (st 19) 2) .none .none (hv "cpy313.tabnanny" 366) 143,
 tup [],
 lL [],
 tup [hv "self" 412,hv "tabsize" 413,hv "count" 414,hv "trailing" 415,hv "il" 416,hv "i" 417],
 tup [],
 nS "indent_level" "Whitespace.indent_level" (cS (st 19) 3),
 mZ "indent_level" "Whitespace.indent_level" 409 206 2 0 0 3 [hr 145,.bool true,hi 181,hr 146,.none,hr 147,hr 148,hr 149] 418,
 nR "indent_level" "Whitespace.indent_level" (cS (st 19) 3) .none .none (hv "cpy313.tabnanny" 366) 150,
 tup [],
 lL [],
 tup [hv "self" 424,hv "other" 425],
 tup [],
 nS "equal" "Whitespace.equal" (cS (st 19) 4),
 mZ "equal" "Whitespace.equal" 421 213 2 0 0 3 [hr 152,.bool true,hi 181,hr 153,.none,hr 154,hr 155,hr 156] 426,
 nR "equal" "Whitespace.equal" (cS (st 19) 4) .none .none (hv "cpy313.tabnanny" 366) 157,
 tup [],
 lL [],
 tup [hv "self" 432,hv "other" 433],
 tup [],
 nS "not_equal_witness" "Whitespace.not_equal_witness" (cS (st 19) 5),
 mZ "not_equal_witness" "Whitespace.not_equal_witness" 429 216 2 0 0 3 [hr 159,.bool true,hi 181,hr 160,.none,hr 161,hr 162,hr 163] 434,
 nR "not_equal_witness" "Whitespace.not_equal_witness" (cS (st 19) 5) .none .none (hv "cpy313.tabnanny" 366) 164,
 tup [],
 lL [],
 tup [hv "self" 440,hv "other" 441,hv "n" 442,hv "ts" 443],
 tup [],
 nS "less" "Whitespace.less" (cS (st 19) 6),
 mZ "less" "Whitespace.less" 437 219 2 0 0 3 [hr 166,.bool true,hi 181,hr 167,.none,hr 168,hr 169,hr 170] 444,
 nR "less" "Whitespace.less" (cS (st 19) 6) .none .none (hv "cpy313.tabnanny" 366) 171,
 tup [],
 lL [],
 tup [hv "self" 450,hv "other" 451],
 tup [],
 nS "not_less_witness" "Whitespace.not_less_witness" (cS (st 19) 7),
 mZ "not_less_witness" "Whitespace.not_less_witness" 447 230 2 0 0 3 [hr 173,.bool true,hi 181,hr 174,.none,hr 175,hr 176,hr 177] 452,
 nR "not_less_witness" "Whitespace.not_less_witness" (cS (st 19) 7) .none .none (hv "cpy313.tabnanny" 366) 178,
 tup [hv "is_simple" 455,hv "n" 456,hv "norm" 457,hv "nt" 458,hv "raw" 459],
 En 4 [en P "__module__" 375 (hv "cpy313.tabnanny" 366),en P "__firstlineno__" 379 (.int 176 378),en P "S" 383 (hv " " 381),en P "T" 384 (hv "\t" 382),en P "__init__" 399 (hr 137),en P "longest_run_of_spaces" 408 (hr 144),en P "indent_level" 420 (hr 151),en P "equal" 428 (hr 158),en P "not_equal_witness" 436 (hr 165),en P "less" 446 (hr 172),en P "not_less_witness" 454 (hr 179),en P "__static_attributes__" 460 (hr 180),en P "__dict__" 462 (hr 183),en P "__weakref__" 464 (hr 184),en P "__doc__" 465 .none],
 ⟨(.type "type"),none,(.cls ⟨(S "Whitespace"),[(.type "object")],[(hr 182),(.type "object")],181,(S "Whitespace"),true,[],[],false,none,false⟩),#[none,none,(some (hv "Whitespace" 368)),(some (hv "Whitespace" 376)),(some (.builtin "object.__new__")),(some (.bool true))]⟩,
 ⟨(.type "getset_descriptor"),none,(.fields #[(hv "__dict__" 461),(hr 182),(.builtin "function.__dict__"),(.builtin "function.__dict__#set")]),#[]⟩,
 ⟨(.type "getset_descriptor"),none,(.fields #[(hv "__weakref__" 463),(hr 182),(.builtin "ExceptionGroup.__weakref__"),.none]),#[]⟩,
 ⟨(.type "super"),none,(.fields #[(hr 182),(hr 182),(hr 182)]),#[]⟩,
 ⟨(.type "builtin_function_or_method"),none,(.fields #[(.builtin "object.__init_subclass__"),(hr 182)]),#[]⟩,
 tup [],
 lL [],
 tup [hv "script" 473,hv "cells" 474,hv "numbers" 475,hv "i" 476],
 tup [],
 nS "_law_cells" "_law_cells" (st 21),
 mZ "_law_cells" "_law_cells" 470 233 1 0 0 3 [hr 187,.bool true,hi 181,hr 188,.none,hr 189,hr 190,hr 191] 477,
 nR "_law_cells" "_law_cells" (st 21) .none .none (hv "law_tc0080_02" 468) 192,
 tup [],
 lL [],
 tup [hv "figures" 483,hv "row" 484,hv "j" 485,hv "rises" 486],
 tup [],
 nS "_law_row" "_law_row" (st 22),
 mZ "_law_row" "_law_row" 480 239 1 0 0 3 [hr 194,.bool true,hi 181,hr 195,.none,hr 196,hr 197,hr 198] 487,
 nR "_law_row" "_law_row" (st 22) .none .none (hv "law_tc0080_02" 468) 199,
 tup [],
 lL [],
 nS "_law_ways" "_law_ways" (st 23),
 mZ "_law_ways" "_law_ways" 490 245 1 0 0 3 [hr 201,.bool true,hi 181,hr 202,.none,.none,.none,hr 203] 493,
 nR "_law_ways" "_law_ways" (st 23) .none .none (hv "law_tc0080_02" 468) 204,
 tup [],
 lL [],
 tup [hv "numbers" 499,hv "piles" 500,hv "number" 501,hv "place" 502],
 tup [],
 nS "_law_piles" "_law_piles" (st 24),
 mZ "_law_piles" "_law_piles" 496 260 1 0 0 3 [hr 206,.bool true,hi 181,hr 207,.none,hr 208,hr 209,hr 210] 503,
 nR "_law_piles" "_law_piles" (st 24) .none .none (hv "law_tc0080_02" 468) 211,
 tup [],
 lL [],
 tup [hv "keys" 509,hv "put" 510,hv "order" 511,hv "n" 512],
 tup [hv "keys" 513],
 nS "_law_laid" "_law_laid" (st 25),
 mZ "_law_laid" "_law_laid" 506 266 2 0 0 3 [hr 213,.bool true,hi 181,hr 214,.none,hr 215,hr 216,hr 217] 514,
 nR "_law_laid" "_law_laid" (st 25) .none .none (hv "law_tc0080_02" 468) 218,
 tup [],
 lL [],
 tup [hv "first" 520,hv "second" 521],
 tup [],
 nS "_law_crosses" "_law_crosses" (st 26),
 mZ "_law_crosses" "_law_crosses" 517 271 2 0 0 3 [hr 220,.bool true,hi 181,hr 221,.none,hr 222,hr 223,hr 224] 522,
 nR "_law_crosses" "_law_crosses" (st 26) .none .none (hv "law_tc0080_02" 468) 225,
 tup [],
 lL [],
 tup [hv "first" 528,hv "second" 529],
 tup [],
 nS "_law_nests" "_law_nests" (st 27),
 mZ "_law_nests" "_law_nests" 525 273 2 0 0 3 [hr 227,.bool true,hi 181,hr 228,.none,hr 229,hr 230,hr 231] 530,
 nR "_law_nests" "_law_nests" (st 27) .none .none (hv "law_tc0080_02" 468) 232,
 tup [],
 lL [],
 nS "_law_most" "_law_most" (st 28),
 mZ "_law_most" "_law_most" 533 275 2 0 0 3 [hr 234,.bool true,hi 181,hr 235,.none,.none,.none,hr 236] 536,
 nR "_law_most" "_law_most" (st 28) .none .none (hv "law_tc0080_02" 468) 237,
 tup [],
 lL [],
 nS "_law_told" "_law_told" (st 29),
 mZ "_law_told" "_law_told" 539 280 2 0 0 3 [hr 239,.bool true,hi 181,hr 240,.none,.none,.none,hr 241] 542,
 nR "_law_told" "_law_told" (st 29) .none .none (hv "law_tc0080_02" 468) 242,
 tup [],
 lL [],
 nS "law" "law" (st 30),
 mZ "law" "law" 545 294 1 0 0 3 [hr 244,.bool true,hi 181,hr 245,.none,.none,.none,hr 246] 548,
 nR "law" "law" (st 30) .none .none (hv "law_tc0080_02" 468) 247]
noncomputable def MO (P:ew):db:=En 20 [en P "__name__" 165 (hv "cpy313._pylong" 250),en P "__doc__" 166 .none,en P "__package__" 167 .none,en P "__loader__" 168 (.builtin "__main__.__loader__#opaque"),en P "__spec__" 169 .none,en P "__annotations__" 170 (hr 6),en P "__builtins__" 171 (hr 4),en P "__file__" 173 (hv "/claim/cut.py" 172),en P "__cached__" 174 .none,en P "_wall" 193 (hr 21),en P "insort_right" 208 (hr 30),en P "bisect_right" 222 (hr 39),en P "insort_left" 235 (hr 48),en P "bisect_left" 249 (hr 57),en P "_DIV_LIMIT" 253 (.int 4000 252),en P "_div2n1n" 270 (hr 64),en P "_div3n2n" 284 (hr 71),en P "_int2digits" 295 (hr 78),en P "_digits2int" 306 (hr 85),en P "_divmod_pos" 321 (hr 92)]
noncomputable def LF (P:ew):db:=En 24 [en P "__name__" 165 (hv "cpy313.tabnanny" 366),en P "__doc__" 166 .none,en P "__package__" 167 .none,en P "__loader__" 168 (.builtin "__main__.__loader__#opaque"),en P "__spec__" 169 .none,en P "__annotations__" 170 (hr 6),en P "__builtins__" 171 (hr 4),en P "__file__" 173 (hv "/claim/cut.py" 172),en P "__cached__" 174 .none,en P "_wall" 193 (hr 21),en P "insort_right" 208 (hr 30),en P "bisect_right" 222 (hr 39),en P "insort_left" 235 (hr 48),en P "bisect_left" 249 (hr 57),en P "_DIV_LIMIT" 253 (.int 4000 252),en P "_div2n1n" 270 (hr 64),en P "_div3n2n" 284 (hr 71),en P "_int2digits" 295 (hr 78),en P "_digits2int" 306 (hr 85),en P "_divmod_pos" 321 (hr 92),en P "int_divmod" 331 (hr 99),en P "_iter_escaped_chars" 343 (hr 106),en P "_strip_quoted_realnames" 355 (hr 113),en P "_check_parenthesis" 365 (hr 120)]
noncomputable def LD (P:ew):db:=En 25 [en P "__name__" 165 (hv "cpy313.tabnanny" 366),en P "__doc__" 166 .none,en P "__package__" 167 .none,en P "__loader__" 168 (.builtin "__main__.__loader__#opaque"),en P "__spec__" 169 .none,en P "__annotations__" 170 (hr 6),en P "__builtins__" 171 (hr 4),en P "__file__" 173 (hv "/claim/cut.py" 172),en P "__cached__" 174 .none,en P "_wall" 193 (hr 21),en P "insort_right" 208 (hr 30),en P "bisect_right" 222 (hr 39),en P "insort_left" 235 (hr 48),en P "bisect_left" 249 (hr 57),en P "_DIV_LIMIT" 253 (.int 4000 252),en P "_div2n1n" 270 (hr 64),en P "_div3n2n" 284 (hr 71),en P "_int2digits" 295 (hr 78),en P "_digits2int" 306 (hr 85),en P "_divmod_pos" 321 (hr 92),en P "int_divmod" 331 (hr 99),en P "_iter_escaped_chars" 343 (hr 106),en P "_strip_quoted_realnames" 355 (hr 113),en P "_check_parenthesis" 365 (hr 120),en P "Whitespace" 467 (hr 182)]
noncomputable def LB (P:ew):db:=En 35 [en P "__name__" 165 (hv "law_tc0080_02" 468),en P "__doc__" 166 .none,en P "__package__" 167 .none,en P "__loader__" 168 (.builtin "__main__.__loader__#opaque"),en P "__spec__" 169 .none,en P "__annotations__" 170 (hr 6),en P "__builtins__" 171 (hr 4),en P "__file__" 173 (hv "/claim/cut.py" 172),en P "__cached__" 174 .none,en P "_wall" 193 (hr 21),en P "insort_right" 208 (hr 30),en P "bisect_right" 222 (hr 39),en P "insort_left" 235 (hr 48),en P "bisect_left" 249 (hr 57),en P "_DIV_LIMIT" 253 (.int 4000 252),en P "_div2n1n" 270 (hr 64),en P "_div3n2n" 284 (hr 71),en P "_int2digits" 295 (hr 78),en P "_digits2int" 306 (hr 85),en P "_divmod_pos" 321 (hr 92),en P "int_divmod" 331 (hr 99),en P "_iter_escaped_chars" 343 (hr 106),en P "_strip_quoted_realnames" 355 (hr 113),en P "_check_parenthesis" 365 (hr 120),en P "Whitespace" 467 (hr 182),en P "_law_cells" 479 (hr 193),en P "_law_row" 489 (hr 200),en P "_law_ways" 495 (hr 205),en P "_law_piles" 505 (hr 212),en P "_law_laid" 516 (hr 219),en P "_law_crosses" 524 (hr 226),en P "_law_nests" 532 (hr 233),en P "_law_most" 538 (hr 238),en P "_law_told" 544 (hr 243),en P "law" 550 (hr 248)]
noncomputable def MN:db:=lL [hi 1,hi 0,hr 20,hi 5,hi 0,hr 29,hi 11,hi 0,hr 38,hi 31,hi 0,hr 47,hi 37,hi 0,hr 56,hi 59,hi 0,hr 63,hi 75,hi 0,hr 70,hi 85,hi 0,hr 77,hi 101,hi 0,hr 84,hi 110,hi 0,hr 91]
noncomputable def LE:db:=lL [hi 1,hi 0,hr 20,hi 5,hi 0,hr 29,hi 11,hi 0,hr 38,hi 31,hi 0,hr 47,hi 37,hi 0,hr 56,hi 59,hi 0,hr 63,hi 75,hi 0,hr 70,hi 85,hi 0,hr 77,hi 101,hi 0,hr 84,hi 110,hi 0,hr 91,hi 121,hi 0,hr 98,hi 133,hi 0,hr 105,hi 146,hi 0,hr 112,hi 164,hi 0,hr 119]
noncomputable def LC:db:=lL [hi 1,hi 0,hr 20,hi 5,hi 0,hr 29,hi 11,hi 0,hr 38,hi 31,hi 0,hr 47,hi 37,hi 0,hr 56,hi 59,hi 0,hr 63,hi 75,hi 0,hr 70,hi 85,hi 0,hr 77,hi 101,hi 0,hr 84,hi 110,hi 0,hr 91,hi 121,hi 0,hr 98,hi 133,hi 0,hr 105,hi 146,hi 0,hr 112,hi 164,hi 0,hr 119,hi 176,hi 0,hr 126]
noncomputable def LA:db:=lL [hi 1,hi 0,hr 20,hi 5,hi 0,hr 29,hi 11,hi 0,hr 38,hi 31,hi 0,hr 47,hi 37,hi 0,hr 56,hi 59,hi 0,hr 63,hi 75,hi 0,hr 70,hi 85,hi 0,hr 77,hi 101,hi 0,hr 84,hi 110,hi 0,hr 91,hi 121,hi 0,hr 98,hi 133,hi 0,hr 105,hi 146,hi 0,hr 112,hi 164,hi 0,hr 119,hi 176,hi 0,hr 126,hi 233,hi 0,hr 192,hi 239,hi 0,hr 199,hi 245,hi 0,hr 204,hi 260,hi 0,hr 211,hi 266,hi 0,hr 218,hi 271,hi 0,hr 225,hi 273,hi 0,hr 232,hi 275,hi 0,hr 237,hi 280,hi 0,hr 242,hi 294,hi 0,hr 247]
noncomputable def X0:Life:=⟨[],[],[],0,[],[],false,#[],[],0,false,false,false,0,[2000,10,10],false,0,true,[],[],0,false⟩
noncomputable def MF (l:List db):List db×List db:=l.rec ([],[]) λx _ p=>(x::p.2,p.1)
noncomputable def bt (n:Nat):List db->BT:=n.rec (λ_=> .nil) λ_ f l=>l.rec .nil λx t _=> .node x (f (MF t).1) (f (MF t).2)
noncomputable def sr (k:Nat) (P:ew):List db:=(match k with
 |15=>C6 P (boot_o_3 P) (lL [])
 |93=>C6 P (MO P) MN
 |121=>C6 P (LF P) LE
 |187=>C6 P (LD P) LC
 |_=>C6 P (LB P) LA).take k
noncomputable def hp (k:Nat) (P:ew):ah:=⟨⟨sr k P⟩,X0⟩
noncomputable def LN:List aG:=[2,3,15,17,18,20,21,22,23,24,26,27,29,30,31,32,33,35,36,38,39,40,41,42,44,45,47,48,49,50,51,53,54,56,57,58,60,61,63,64,65,67,68,70,71,72,74,75,77,78,79,81,82,84,85,86,88,89,91,92,93,95,96,98,99,100,102,103,105,106,107,109,110,112,113,114,116,117,119,120,131,133,134,136,137,138,140,141,143,144,145,147,148,150,151,152,154,155,157,158,159,161,162,164,165,166,168,169,171,172,173,175,176,178,179,180,181,182,183,184,187,189,190,192,193,194,196,197,199,200,201,204,205,206,208,209,211,212,213,215,216,218,219,220,222,223,225,226,227,229,230,232,233,234,237,238,239,242,243,244,247,248]
noncomputable def wJ (P:ew):xG:=(2,⟨.none,none,.dict #[] 0,#[]⟩)::LN.tail.map λa=>(a,(sr 249 P).getD a (lL []))
noncomputable def sh (w:dz) (n k:Nat) (os:OsState):SharedT:=⟨bt 8 (sr n w.params),n,X0,⟨[]⟩,⟨0,0,0,0⟩,k,os⟩
noncomputable abbrev bd:Code:= .body (uB nj) EL
abbrev IM (w:dz) (n k t:Nat) (l:List ed) (p:dM) (k' t':Nat) (p':dM):Prop:=
 (λos=>segRunT mR nj w 11 (some (.ref 6)) 1 n (sh w k t os) (piecesOf l EL bd p [topFrame ⟨0,0,0,0⟩]))=λos=>some (.next,sh w k' t' os,bd,p')
noncomputable def rg (a n:Nat):List ed:=(ak n).map λi=>st (a+i)
noncomputable def og:g5:=⟨⟨[(st 0),(st 7),(st 8),(st 9),(st 10),(st 11),(st 12),(st 13),(st 15),(st 16),(st 17),(st 19),(st 21),(st 22),(st 23),(st 24),(st 25),(st 26),(st 27),(st 28),(st 29),(st 30)],nj.main.scope,nj.main.futureAnnotations,nj.main.file,nj.main.more⟩,nj.modules,nj.parses,nj.absent,nj.harvested,nj.given⟩
noncomputable def H:Hook:=kmHook wJ LN (λ_=>by rfl') [214,202,80,73,245]
theorem ML:(opening nj)=(plainProg nj.main.scope.names):=by rfl'
theorem MK: ∀(s:aD),(fenceModules? nj s)=(some s):=λs=>by rfl'
theorem MJ: ∀(w:dz),(λos=>(topGo mR nj w 11 (some (.ref 6)) 12 ⟨(mU w.params),⟨[]⟩,boot_drawn,boot_toks,os⟩ (topStub nj)))=(λos=>(some (⟨(hp 15 w.params),⟨[]⟩,⟨0,0,0,0⟩,187,os⟩,⟨(denote mR bd),bd,⟨0,0,0,0⟩,[(topFrame ⟨0,0,0,0⟩)]⟩))):=λw=>by rfl'
theorem MI: ∀(w:dz),(λos=>(segRun mR nj w 11 (some (.ref 6)) 1 1 ⟨(hp 15 w.params),⟨[]⟩,⟨0,0,0,0⟩,187,os⟩ (blockOf (uB nj) EL bd ⟨0,0,0,0⟩ [(topFrame ⟨0,0,0,0⟩)])))=(λos=>(some (.next,((sh w 15 187 os).abs,(bd,⟨0,0,0,0⟩))))):=λw=>by rfl'
theorem Kx (w:dz):IM w 397 15 187 (rg 0 13) ⟨0,0,0,0⟩ 93 322 ⟨110,0,120,17⟩:=by rfl'
theorem Kw (w:dz):IM w 149 93 322 (rg 13 6) ⟨110,0,120,17⟩ 121 368 ⟨175,0,175,8⟩:=by rfl'
theorem Kv (w:dz):IM (w.withFollow "special-get-raises" false) 493 121 368 (rg 19 1) ⟨175,0,175,8⟩ 187 468 ⟨176,0,231,16⟩:=by rfl'
theorem Ku (w:dz):IM (w.withFollow "special-get-raises" true) 493 121 368 (rg 19 1) ⟨175,0,175,8⟩ 187 468 ⟨176,0,231,16⟩:=by rfl'
theorem Kt (w:dz):IM w 303 187 468 (rg 20 11) ⟨176,0,231,16⟩ 249 551 ⟨294,0,336,39⟩:=by rfl'
theorem Ks: ∀(w:dz),(λos=>(topRun mR nj w 11 (some (.ref 6)) 2 (sh w 249 551 os).abs ⟨(doneF .next),bd,⟨294,0,336,39⟩,[(topFrame ⟨0,0,0,0⟩)]⟩))=(λos=>(some ⟨(hp 249 w.params),⟨[]⟩,⟨0,0,0,0⟩,551,os⟩)):=λw=>by rfl'
theorem Kr: ∀(w:dz),((Bool.and (Heap.isNs (mU w.params) bk) (BEq.beq (zr (⟨[]⟩:Array hU)) 0)),((zr (mU w.params).objs),(Heap.nsMap (mU w.params) bk (S "__annotations__"))))=(true,(11,(some (.ref 6)))):=λw=>by rfl'
theorem JX:uB nj=(rg 0 13)++((rg 13 6)++((rg 19 1)++((rg 20 11)++ []))):=by rfl'
theorem JY (w:dz):IM w 493 121 368 (rg 19 1) ⟨175,0,175,8⟩ 187 468 ⟨176,0,231,16⟩:=byRow2 "special-get-raises" (P:=λw=>IM w 493 121 368 (rg 19 1) ⟨175,0,175,8⟩ 187 468 ⟨176,0,231,16⟩) Kv Ku w
theorem JT: ∀(w:dz) (os:OsState),topRun mR nj w 11 (some (.ref 6)) (tE 12 (tE 1 (tE 397 (tE 149 (tE 493 (tE 303 2)))))) ⟨mU w.params,⟨[]⟩,boot_drawn,boot_toks,os⟩ (topStub nj)=some ⟨hp 249 w.params,⟨[]⟩,⟨0,0,0,0⟩,551,os⟩:=λw os=>
 go_top (congrFun (MJ w) os) (piece_block (congrFun (MI w) os) (Eq.mpr (congrArg (λb=>topRun mR nj w 11 _ _ _ (restOf b _ _ _ _)=_) JX)
  (BR (BQ (congrFun (Kx w) os))
  (BR (BQ (congrFun (Kw w) os))
  (BR (BQ (congrFun (JY w) os))
  (BR (BQ (congrFun (Kt w) os))
  (congrFun (Ks w) os)))))))
noncomputable def loose:List aN:=[(S "insort_right"),(S "bisect_right"),(S "insort_left"),(S "bisect_left"),(S "Whitespace")]
noncomputable def Xt (s:aD):Bool:=xlAt og [] s&&recOk (RowW.records (OpenRow.toRowW (OpenLaw.row PySem.Challenge.rw_tc0080_02))) s
theorem Je: ∀w:dz,(λos=>((staticsOk (importedModules nj.main.body) (mU w.params) (hp 249 w.params)&&namesBound nj (hp 249 w.params)&&gensDone ⟨hp 249 w.params,⟨[]⟩,⟨0,0,0,0⟩,551,os⟩&&laidKept (mU w.params) (hp 249 w.params)),
  openSeen og loose (importedModules nj.main.body) Xt true ⟨hp 249 w.params,⟨[]⟩,⟨0,0,0,0⟩,551,os⟩,H.obs ⟨hp 249 w.params,⟨[]⟩,⟨0,0,0,0⟩,551,os⟩))=λ_=>(true,openGood og loose,H.val w):=λw=>by rfl'
theorem Jg:LeftO nj og loose Xt H.obs H.val 2814:=LeftO.of_pieces (boot_open ML (by decide) MK) Kr JT (by decide) Je
end
section
open PySem.Spec PySem.Calls PyProof.Rows PySem.W
noncomputable abbrev wf (P:ew):xG:=wJ P
noncomputable def vR:List aG:=[73,80,202,214,245]
noncomputable def jg:List (aG×aG×aN):=[(77,73,("_int2digits.<locals>.inner" :aN)),(84,80,("_digits2int.<locals>.inner" :aN)),(204,202,("_law_ways.<locals>.<lambda>" :aN)),(218,214,("_law_laid.<locals>.<lambda>" :aN)),(247,245,("law.<locals>.<lambda>" :aN))]
noncomputable def Dm:List aG:=[21,30,39,48,57,64,71,78,85,92,99,113,120,137,144,151,158,165,172,179,193,200,205,212,219,226,233,238,243,248]
theorem n6: ∀q∈jg,q.2.1∈vR:=by decide
noncomputable def GY (w:dz) (mg mb:aN->Option aA) (h:ah):Gl:={prog:=PySem.Challenge.rw_tc0080_02.row.prog,w,mg,mb,tabs:=jg,W:=bg,fa:=Dm,h0:=hideAll h vR,h0t:=λq hq=>hideAll_none _ (n6 q hq),cls:=182,T:=qF}
structure uv (w:dz) (mg mb:aN->Option aA) (h:ah):Prop where
 KX:(wf w.params).In h
 hT: ∀P∈vR,h.get? P=some (mo #[])
 g:h.Ns bk mg
 b:h.Ns cU mb
 nl:h.NoLimit
 bi: ∀x:aN,x≠ "__name__" ->mb x=bootBuiltins x
 bm: ∃bm ob,mg "__builtins__" =some (.ref bm)/\bm≠cU/\h.get? bm=some ob/\ob.cls= .type "module" /\ob.dict=some cU/\ob.data= .plain
section
variable {w:dz} {mg mb:aN->Option aA} {h:ah}
theorem J3 (P:ew):vR.all (λa=>((wf P).lookup a).isNone)=true:=by rfl'
theorem mI (X:uv w mg mb h):(wf w.params).In (hideAll h vR):=λa o e=>o5 _ (X.KX a o e) λhm=>by
 have:=aT.mp (J3 w.params) a hm
 rw[e]at this;cases this
theorem tX (X:uv w mg mb h) {h':ah} (k:fy (GY w mg mb h) h'):(wf w.params).In h':=λa o e=>k _ _ (mI X a o e)
noncomputable def oK (a:aG) (P:ew):cV:=(Jv (wf P) a).getD {name:=bz,qualname:=bz,params:=⟨[],[],none,[],[],none,[]⟩,body:= .stmts [],scope:={kind:= .function,names:=[],isGenerator:=false,isCoroutine:=false},globals:=0,closure:=[],defaults:= .none,kwdefaults:= .none,pyModule:= .none,code:= .none}
def fq (w:dz) (mg mb:aN->Option aA) (h:ah) (k:Nat) (d:dY):Prop:= ∃a o fd stmts md m ow dl kd,ux (GY w mg mb h) k d a o fd stmts md m ow dl kd
noncomputable def Fl (k:Nat) (a:aG) (d:dY) (P:ew):=
 (Dm[k]?,(wf P).lookup a,(Ge (wf P) a).data,(oK a P).body,(oK a P).globals,(oK a P).builtins,(oK a P).closure,(oK a P).scope.kind,(oK a P).scope.isCoroutine,(oK a P).scope.isGenerator,codeIn (wf P) (oK a P).code (oK a P).qualname,d.body,
  (oK a P).params.posonlyargs,(oK a P).params.vararg,(oK a P).params.kwarg,(oK a P).params.args.map (·.arg),(oK a P).params.kwonlyargs.map (·.arg),
  (d.sg.ps++d.sg.kwo).all (λx=>qF.id ((qF.nm[x]?).getD bz)==some x&&eX (oK a P).scope ((qF.nm[x]?).getD bz)),decide (d.sg.ps++d.sg.kwo).Nodup,(oK a P).defaults,(oK a P).kwdefaults)
noncomputable def Fr (a:aG) (d:dY) (md:Nat) (ow:List Nat) (df kd:aA) (P:ew):Option aG×Option db×Data×FuncBody×aG×aG×List (aN×aG)×ScopeKind×Bool×Bool×Bool×List PS×List Arg×Option Arg×Option Arg×List aN×List aN×Bool×Bool×aA×aA:=
 (some a,some (Ge (wf P) a),.func (oK a P),.stmts (AH (oK a P)),bk,cU,[],.function,false,false,true,qx {qF with lam:=md==1,dfs:=md==2} ow 60 (oK a P).scope (AH (oK a P)),
  [],none,none,d.sg.ps.map (λx=>(qF.nm[x]?).getD bz),d.sg.kwo.map (λx=>(qF.nm[x]?).getD bz),true,true,df,kd)
section
variable {k:Nat} {a:aG} {d:dY} {md:Nat} {ow:List Nat} {df kd:aA}
theorem Jt {P:ew} (e:Fl k a d P=Fr a d md ow df kd P):yV (wf P) qF d a (oK a P) md 60 ow:=
 ⟨congrArg (·.2.1) e,congrArg (·.2.2.1) e,congrArg (·.2.2.2.1) e,congrArg (·.2.2.2.2.1) e,congrArg (·.2.2.2.2.2.1) e,congrArg (·.2.2.2.2.2.2.1) e,congrArg (·.2.2.2.2.2.2.2.1) e,congrArg (·.2.2.2.2.2.2.2.2.1) e,congrArg (·.2.2.2.2.2.2.2.2.2.1) e,congrArg (·.2.2.2.2.2.2.2.2.2.2.1) e,congrArg (·.2.2.2.2.2.2.2.2.2.2.2.1) e,
  congrArg (·.2.2.2.2.2.2.2.2.2.2.2.2.1) e,congrArg (·.2.2.2.2.2.2.2.2.2.2.2.2.2.1) e,congrArg (·.2.2.2.2.2.2.2.2.2.2.2.2.2.2.1) e,congrArg (·.2.2.2.2.2.2.2.2.2.2.2.2.2.2.2.1) e,congrArg (·.2.2.2.2.2.2.2.2.2.2.2.2.2.2.2.2.1) e,congrArg (·.2.2.2.2.2.2.2.2.2.2.2.2.2.2.2.2.2.1) e⟩
theorem J4 {P:ew} (e:Fl k a d P=Fr a d md ow df kd P):(d.sg.ps++d.sg.kwo).Nodup:=of_decide_eq_true (congrArg (·.2.2.2.2.2.2.2.2.2.2.2.2.2.2.2.2.2.2.1) e)
theorem KJ {P:ew} (e:Fl k a d P=Fr a d md ow df kd P):(oK a P).defaults=df:=congrArg (·.2.2.2.2.2.2.2.2.2.2.2.2.2.2.2.2.2.2.2.1) e
theorem Jj {P:ew} (e:Fl k a d P=Fr a d md ow df kd P):(oK a P).kwdefaults=kd:=congrArg (·.2.2.2.2.2.2.2.2.2.2.2.2.2.2.2.2.2.2.2.2) e
end
section
variable (X:uv w mg mb h) (k:Nat) {d:dY} (a:aG)
include X
theorem JE (md:Nat) (ow:List Nat) (F: ∀P,Fl k a d P=Fr a d md ow .none .none P) (h3:d.sg.dfl=[])
  (lam:md=1-> ∃c tb,∀P,(oK a P).code= .ref c/\(c,tb,(oK a P).qualname++(".<locals>." :aN)++("<lambda>" :aN))∈jg)
  (dfs:md=2-> ∃c tb,∀P,(oK a P).code= .ref c/\(c,tb,(oK a P).qualname++(".<locals>." :aN)++("inner" :aN))∈jg):fq w mg mb h k d:=
 yV.plain (G:=GY w mg mb h) (Jt (F w.params)) (mI X) (congrArg (·.1) (F w.params)) (J4 (F w.params)) (KJ (F _)) (Jj (F _)) h3 (λe=>(lam e).imp λ_ h=>h.imp λ_ h=>h _) (λe=>(dfs e).imp λ_ h=>h.imp λ_ h=>⟨(h _).1,λ_ hm=>ao.mp hm▸(h _).2⟩)
theorem tA (ow:List Nat) (F: ∀P,Fl k a d P=Fr a d 0 ow .none .none P) (h3:d.sg.dfl=[]):fq w mg mb h k d:=JE X k a 0 ow F h3 nofun nofun
theorem Kc (t tk:Nat) (F: ∀P,Fl k a d P=Fr a d 0 [] (.ref t) (.ref (t+1)) P) (h3:d.sg=⟨[1,2,3,4],[5],[(3,V.int 0),(4,V.none),(5,V.none)]⟩)
  (e1: ∀P,((wf P).lookup t,(wf P).lookup (t+1))=(some {cls:= .type "tuple",data:= .seq #[.int 0 tk,.none]},some {cls:= .type "dict",data:= .dict #[⟨PyData.keyHash P ("key" :aN),.str ("key" :aN) (tk+1),.none⟩] 1})):fq w mg mb h k d:=
 yV.dflt (G:=GY w mg mb h) (Jt (F w.params)) (mI X) (congrArg (·.1) (F w.params)) (J4 (F w.params)) rfl (KJ (F _)) (Jj (F _)) h3 (congrArg (·.1) (e1 _)) (congrArg (·.2) (e1 _)) (by rfl')
end
theorem tM {q:aG×aG×aN} (h:jg.contains q=true):q∈jg:=b8.mp h
section
variable (X:uv w mg mb h)
include X
theorem M7:fq w mg mb h 0 HC:=tA X 0 21 [] (λP=>by rfl') rfl
theorem Kf:fq w mg mb h 1 HB:=Kc X 1 30 22 196 (λP=>by rfl') rfl λ_=>by rfl'
theorem M6:fq w mg mb h 2 HA:=Kc X 2 39 31 209 (λP=>by rfl') rfl λ_=>by rfl'
theorem MZ:fq w mg mb h 3 Gz:=Kc X 3 48 40 223 (λP=>by rfl') rfl λ_=>by rfl'
theorem MY:fq w mg mb h 4 Gy:=Kc X 4 57 49 236 (λP=>by rfl') rfl λ_=>by rfl'
theorem MX:fq w mg mb h 5 Gx:=tA X 5 64 [] (λP=>by rfl') rfl
theorem MW:fq w mg mb h 6 Gw:=tA X 6 71 [] (λP=>by rfl') rfl
theorem MV:fq w mg mb h 7 Gv:=JE X 7 78 2 [21] (λP=>by rfl') rfl nofun λ_=>⟨77,73,λ_=>⟨by rfl',tM (by rfl')⟩⟩
theorem MU:fq w mg mb h 8 Dn:=JE X 8 85 2 [] (λP=>by rfl') rfl nofun λ_=>⟨84,80,λ_=>⟨by rfl',tM (by rfl')⟩⟩
theorem MT:fq w mg mb h 9 Gu:=tA X 9 92 [28] (λP=>by rfl') rfl
theorem Lf:fq w mg mb h 10 EC:=tA X 10 99 [] (λP=>by rfl') rfl
theorem Le:fq w mg mb h 11 EB:=tA X 11 113 [37] (λP=>by rfl') rfl
theorem Ld:fq w mg mb h 12 EA:=tA X 12 120 [] (λP=>by rfl') rfl
theorem Lc:fq w mg mb h 13 Dz:=tA X 13 137 [41] (λP=>by rfl') rfl
theorem Lb:fq w mg mb h 14 Dy:=tA X 14 144 [] (λP=>by rfl') rfl
theorem La:fq w mg mb h 15 Dx:=tA X 15 151 [] (λP=>by rfl') rfl
theorem L9:fq w mg mb h 16 Dw:=tA X 16 158 [] (λP=>by rfl') rfl
theorem L8:fq w mg mb h 17 Dv:=tA X 17 165 [] (λP=>by rfl') rfl
theorem L7:fq w mg mb h 18 xw:=tA X 18 172 [] (λP=>by rfl') rfl
theorem L6:fq w mg mb h 19 Du:=tA X 19 179 [] (λP=>by rfl') rfl
theorem L5:fq w mg mb h 20 xu:=tA X 20 193 [52] (λP=>by rfl') rfl
theorem LZ:fq w mg mb h 21 xt:=tA X 21 200 [] (λP=>by rfl') rfl
theorem LY:fq w mg mb h 22 Dt:=JE X 22 205 1 [59,64] (λP=>by rfl') rfl (λ_=>⟨204,202,λ_=>⟨by rfl',tM (by rfl')⟩⟩) nofun
theorem LX:fq w mg mb h 23 Ds:=tA X 23 212 [] (λP=>by rfl') rfl
theorem LW:fq w mg mb h 24 Dr:=JE X 24 219 1 [71] (λP=>by rfl') rfl (λ_=>⟨218,214,λ_=>⟨by rfl',tM (by rfl')⟩⟩) nofun
theorem LV:fq w mg mb h 25 Dq:=tA X 25 226 [] (λP=>by rfl') rfl
theorem LU:fq w mg mb h 26 Dp:=tA X 26 233 [] (λP=>by rfl') rfl
theorem LT:fq w mg mb h 27 Do:=tA X 27 238 [] (λP=>by rfl') rfl
theorem LS:fq w mg mb h 28 xr:=tA X 28 243 [] (λP=>by rfl') rfl
theorem LR:fq w mg mb h 29 xq:=JE X 29 248 1 [95,92] (λP=>by rfl') rfl (λ_=>⟨247,245,λ_=>⟨by rfl',tM (by rfl')⟩⟩) nofun
end
theorem fc {R:Nat->dY->Prop} {n:Nat} {d:dY} {l:List dY} (h:R n d) (t: ∀k e,l[k]?=some e->R (k+(n+1)) e): ∀k e,(d::l)[k]?=some e->R (k+n) e:=Dd h t
theorem Jr (X:uv w mg mb h): ∀k d,bg.funs[k]?=some d->fq w mg mb h k d:=
 fc (M7 X)<|fc (Kf X)<|fc (M6 X)<|fc (MZ X)<|fc (MY X)<|fc (MX X)<|fc (MW X)<|fc (MV X)<|fc (MU X)<|fc (MT X)<|fc (Lf X)<|fc (Le X)<|fc (Ld X)<|fc (Lc X)<|fc (Lb X)<|fc (La X)<|fc (L9 X)<|fc (L8 X)<|fc (L7 X)<|fc (L6 X)<|fc (L5 X)<|fc (LZ X)<|fc (LY X)<|fc (LX X)<|fc (LW X)<|fc (LV X)<|fc (LU X)<|fc (LT X)<|fc (LS X)<|fc (LR X)<|fun_nil (n:=30)
noncomputable def Lk:ClassData:={name:=fS "Whitespace",bases:=[sZ "object"],mro:=[vD 182,sZ "object"],ns:=181,qualname:=fS "Whitespace"}
noncomputable def Ja:List (aN×aG):=[(("__init__" :aN),137),(("longest_run_of_spaces" :aN),144),(("indent_level" :aN),151),(("equal" :aN),158),(("not_equal_witness" :aN),165),(("less" :aN),172),(("not_less_witness" :aN),179)]
noncomputable def KQ:List (aN×aN×ze):=[(("S" :aN),(" " :aN),381),(("T" :aN),("\t" :aN),382)]
theorem ve {α β:Type} {f g:α->β} {l:List α} (e:l.map f=l.map g): ∀x∈l,f x=g x:=List.map_inj_left.mp e
theorem Co {α β γ:Type} {f g:α->β} {f' g':α->γ} {l:List α} (e:l.map (λx=>(f x,f' x))=l.map λx=>(g x,g' x)): ∀x∈l,f x=g x/\f' x=g' x:=λx hx=>Prod.mk.inj (ve e x hx)
theorem Az (P:ew):yW (wf P) 182 Lk qF.an Ja KQ 137 where
 cls:=by rfl'
 dict:=rfl
 ga:=by rfl'
 gt:=by rfl'
 sa:=by rfl'
 plain:=by rfl'
 attr:=Co (by rfl')
 meth:=Co (by rfl')
 makes:=by rfl'
 init:=⟨by rfl',by rfl'⟩
 reads:=by rfl'
 cat:=ve (by rfl')
theorem MS (P:ew): ∀q∈jg,codeHdIn (wf P) q.1 q.2.1=true:=ve (g:=λ_=>true) (by rfl')
theorem vS (X:uv w mg mb h):aY (GY w mg mb h) h:=λq hq=>
 ⟨codeHd_of_K X.KX (MS w.params q hq),#[],X.hT _ (n6 q hq),trivial,λpos cv e=>by cases e⟩
theorem KT (P:ew): ∀p∈gB,nsIn (wf P) bk p.1=some none:=ve (g:=λ_=>some none) (by rfl')
theorem KU: ∀p∈gB,bootBuiltins p.1=some p.2:=ve (by rfl')
theorem Jq (X:uv w mg mb h):mB (GY w mg mb h) where
 g:=X.g.at' λo e=>o5 _ e (by decide)
 b:=X.b.at' λo e=>o5 _ e (by decide)
 fns:=IR X.KX X.g (by show Di (wf w.params) Dm qF.fns=true;rfl')
 gi:=λx k hk=>by
  have hk':=dJ hk
  have hk2:(x,k)∈ [(("_DIV_LIMIT" :aN),(4000:Int))]:=hk'
  rw[ao]at hk2
  cases hk2
  exact⟨252,kj (K:=wJ w.params) (r:=some (.int 4000 252)) X.KX X.g (by rfl')⟩
 bi:=λx v hx=>⟨kj X.KX X.g (KT w.params _ hx),(X.bi _ ((by decide+kernel: ∀p∈gB,p.1≠("__name__" :aN)) _ hx)).trans (KU _ hx)⟩
 cls:=kj X.KX X.g (by rfl')
 fob:=IQ (mI X) (by show Dm.all (DY (wf w.params))=true;rfl')
 keep:=λA E s Q k hq=>IA (Az w.params) (tX X k) hq
 cat:=λA E s Q x v k hx hq=>by
  obtain⟨q,hm,e1,e2⟩:=(by decide+kernel: ∀p∈qF.cat,∃q∈KQ,q.1=p.1/\q.2.1=p.2) _ (dJ hx)
  obtain⟨a,b,c⟩:=q
  cases e1;cases e2
  exact Jk (Az w.params) (tX X k) hm hq
 attr:=λA E s Q a d m x v k ho hn hx hv hb hq=>IB (Az w.params) (tX X k) ho hn hx hv hb hq
 meth:=λA E s Q a d m x k pl kk ho hn hv hk hq=>by
  obtain⟨q,hm,e1,e2⟩:=(by decide+kernel: ∀p∈qF.meths,∃q∈Ja,q.1=p.1/\Dm[p.2]?=some q.2) _ (dJ hk)
  obtain⟨b,c⟩:=q
  cases e1
  exact Hy (Az w.params) (tX X kk) ho hn hm hv (hq c s.toks e2)
 mnot:=λx k hk=>(by decide+kernel: ∀p∈qF.meths,p.1∉qF.an/\p.1≠bz) (x,k) (dJ hk)
 clsn:=(by decide+kernel:(qF.cls==("__debug__" :aN))=false)
 make:=λA E s Q v k T hh hq=>Hz (Az w.params) (tX X k) (hq {s with heap:=(s.heap.push mT).push (gz 182 s.heap.objs.size)} ⟨λb o e _=>aH _ (aH _ e),T.keeps λb o e=>aH _ (aH _ e),rfl,⟨#[],by simp⟩,λx=>x⟩ rfl 137 rfl)
 tabsU:=(by decide+kernel: ∀q∈jg,∀q'∈jg,q.2.1=q'.2.1->q=q')
 tabM:=(by decide+kernel: ∀q∈jg,bk≠q.2.1)
 bat:=λh' k q hq=>by
  obtain⟨bm,ob,e1,e2,e3,e4,e5,e6⟩:=X.bm
  have nt:bm∉vR:=λhm=>by
   have:=X.hT _ hm
   rw[e3]at this;cases this;cases e4
  refine⟨bm,ob,e1,e2,λe=>?_,λe=>?_,k _ _ (o5 _ e3 nt),e4,e5,e6⟩
  ·obtain⟨o,es,ep,g1,g2,_⟩:=X.g
   rw[e,g1]at e3;cases e3;rw[e6]at g2;cases g2
  ·exact nt (e▸n6 q hq)
 nolimit:=λh' k=>(let⟨mc,a,b⟩:=X.nl;⟨mc,a.at' (λo e=>o5 _ e (by decide)),b⟩:(hideAll h vR).NoLimit).keeps k
 funs:=Jr X
 prim:=λ_ _=>rfl
 ncd:=(by decide+kernel: ∀x∈qF.nm,(x==("__classdict__" :aN))=false)
 clsNd:=λk d e hk=>by
  have hk':k=13:=hk
  subst hk'
  cases aC (show bg.funs[13]?=some d from e)
  exact⟨0,rfl,rfl⟩
 okn:=(by decide+kernel: ∀x∈qF.nm,dD x=true)
 nmLen:=(by decide+kernel:qF.nm.length<=1000)
 anNd:=(by decide+kernel:qF.an.Nodup)
 anNe:=(by decide+kernel:bz∉qF.an)
 sattr:=λA E s Q a d m x v k ho hn hw hx hq=>Fd (Az w.params) (tX X k) ho hn hw (by decide+kernel:(bz::qF.an).length<=1000) hx (λe=>by subst e;exact absurd hx (by decide+kernel:bz∉qF.an)) hq
end
end
end
section
open PySem.Spec PySem.Calls PyProof.Rows PySem.W
noncomputable def qE (k:Nat):dM:=([⟨134,4,134,7⟩,⟨134,10,134,11⟩,⟨134,4,134,11⟩,⟨135,4,135,10⟩,⟨135,13,135,18⟩,⟨135,4,135,18⟩,⟨136,19,136,28⟩,⟨136,29,136,33⟩,⟨137,11,137,17⟩,⟨138,19,138,22⟩,⟨138,24,138,28⟩,⟨138,31,138,33⟩,⟨138,24,138,33⟩,⟨138,18,138,34⟩,⟨138,12,138,34⟩,⟨138,12,138,34⟩,⟨139,12,139,18⟩,⟨139,21,139,26⟩,⟨139,12,139,26⟩,⟨140,13,140,15⟩,⟨140,19,140,23⟩,⟨140,13,140,23⟩,⟨141,12,141,18⟩,⟨141,21,141,25⟩,⟨141,12,141,25⟩,⟨143,19,143,22⟩,⟨143,24,143,26⟩,⟨143,18,143,27⟩,⟨143,12,143,27⟩,⟨143,12,143,27⟩,⟨140,8,143,27⟩,⟨137,8,143,27⟩,⟨144,7,144,13⟩,⟨145,15,145,18⟩,⟨145,20,145,24⟩,⟨145,14,145,25⟩,⟨145,8,145,25⟩,⟨145,8,145,25⟩,⟨144,4,145,25⟩,⟨136,8,136,11⟩,⟨136,13,136,15⟩,⟨136,8,136,15⟩,⟨136,19,136,34⟩,⟨136,4,143,27⟩]:List dM).getD k ⟨0,0,0,0⟩
noncomputable def MC (P:ew):cV:=oK 106 P
theorem Lh (w:dz) (mg mb:aN->Option aA) (h:ah) (X:uv w mg mb h):El (GY w mg mb h) qE 106 (Ge (wJ w.params) 106) (MC w.params) ((MC w.params).params.args.getD 0 ⟨bz,none,⟨0,0,0,0⟩⟩) where
 mg:=kj (K:=wJ w.params) (r:=some (.ref 106)) X.KX X.g (by rfl')
 dbg:=by rfl'
 ob:=mI X _ _ (by rfl')
 data:=by rfl'
 body:=by rfl'
 gl:=by rfl'
 bl:=by rfl'
 clo:=by rfl'
 kind:=by rfl'
 co:=by rfl'
 gen:=by rfl'
 code:=codeRec_of (mI X) (by rfl')
 par:=by rfl'
 arg:=by rfl'
 dflt:=by rfl'
 kdf:=by rfl'
 nocell:=(by decide+kernel: ∀x∈(fD (st 15)).2.2.2.names,x.2≠ .cell)
 addr:=by rfl'
 kinds:=λenv e=>by unfold i7;rw[e];exact⟨by rfl',by rfl',by rfl',by rfl',by rfl'⟩
 en0:=kj (K:=wJ w.params) (r:=none) X.KX X.g (by rfl')
 en1:=(X.bi _ (by decide+kernel)).trans (by rfl')
 escs:=λv l e=>by
  cases v with
  |str x=>exact⟨x,rfl,(aC e).symm⟩
  |_=>cases e
 hat:=λk=>(by decide+kernel: ∀y∈qF.an,y≠("addr" :aN))|>λH=>by
  show(qF.an[k]?).getD bz≠_
  cases hk:qF.an[k]? with
  |none=>decide+kernel
  |some y=>exact H y (az hk)
noncomputable def KK:DefRec:=⟨(fD (st 30)).1,(fD (st 30)).2.1,(fD (st 30)).2.2.1,(fD (st 30)).2.2.2,⟨294,0,336,39⟩⟩
theorem fin:PySem.Challenge.rw_tc0080_02.Holds:=by
 refine holds_law (by rfl') λsaid=>?_
 refine holds_open (q:=og) (loose:=loose) (Xt:=Xt) (XP:=XL og []) (Yf:=H.obs) (Ya:=H.val) (YP:=H.says) (N:=2814) (d:=KK) (kwd:=[]) Jg H.of H.keeps (λs e=>xl_of s (aJ.mp e).1) XL.keeps (by rfl') (by rfl') (by rfl') (λs e=>recFacts_of (aJ.mp e).2) (by rfl') said (by rfl') ⟨rfl,rfl,rfl,rfl,rfl,by decide+kernel⟩ ?hw ?hc
 case hw=>w_witness2
 k_fill
 intro w s₀ s₁ mg mb G Y fa o pm cd doc dV kV ho hd hcd hD hmg hg args fT as hpre hlay hrd hwl hlo
 have Y':(kmHook wJ LN (λ_=>by rfl') [214,202,80,73,245]).says w s₁.heap:=Y
 have KX:=km_in_of Y'
 have hTb:=Y'.2
 have T:=G.T
 wrow_args hpre hlay hrd hwl hlo
 refine enter_call ?_
 clear Y Y' hd hcd ho hD
 rename_i ns _ _ _ _ _ _ _ l _ _ hL _ W1 _ hI _ _ _
 have X:uv w mg mb s₁.heap:=⟨KX,λP hp=>hTb P ((by decide+kernel: ∀p∈vR,p∈ [214,202,80,73,245]) P hp),T.g,T.b,T.nolimit,T.builtins,T.bmain⟩
 have hfa:fa=248:=by
  have e:mg "law" =some (.ref 248):=kj (K:=wJ w.params) (r:=some (.ref 248)) X.KX X.g (by rfl')
  have e':=hmg.symm.trans ((congrArg mg (by rfl':KK.name=("law" :aN))).trans e)
  cases e';rfl
 have hn:ns.length<=63:=by lia
 obtain⟨f,e⟩:=Af ns hn
 have T0: ∀q∈(GY w mg mb s₁.heap).tabs,s₁.heap.get? q.2.1=some (mo #[]):=λq hq=>X.hT _ (n6 q hq)
 refine sX (DP (G:=GY w mg mb s₁.heap) (Jq X) (Lh w mg mb s₁.heap X) (by rw[hfa];rfl') (by decide) e (vS X) (λb o e=>of_hideAll _ e) (Cj W1 hL) hI) λr s' z=>?_
 obtain⟨hr,k⟩:=z
 exact⟨.inl ⟨_,.bool true,[],hr,λ_=>rfl,.bool _,by rfl',λ_=>⟨.nil,λa h=>by cases h⟩⟩,Hm (vS X) T0 k,k.os,k.bare (.of_eq hg)⟩
end
end Mine
theorem PySem.Challenge.cw_tc0080_02_holds : PySem.Challenge.rw_tc0080_02.Holds :=
 Mine.fin
