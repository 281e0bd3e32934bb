import PyProof.Rows.All
import Wide.All
import OpenK.AllK
import Wide.FinOn
import KE.KSetInts
import KE.KUnpack
import PySem.Challenge.RW_dm0054_05
set_option compiler.extract_closed false
set_option maxRecDepth 100000
set_option maxHeartbeats 0
set_option Elab.async false
set_option linter.all false
set_option tactic.hygienic false
set_option bootstrap.genMatcherCode false
set_option genSizeOf false
set_option genInjectivity false
set_option genCtorIdx false
namespace Internal
end Internal
open Internal
namespace Internal.El
end Internal.El
namespace Internal.Lin
end Internal.Lin
namespace Internal.Pure
end Internal.Pure
open Internal.El Internal.Lin Internal.Pure
section
open And renaming intro->aw
open Array renaming getD->rk,getElem?_toList->aes,forIn_toList->aeU,size_push->aeV
open Array.Perm renaming refl->HN
open Bool renaming and_eq_true_iff->kP,false_eq_true->kY,false_ne_true->nv,or_false->R4,or_eq_false_iff->ad5,eq_iff_iff->aez,noConfusion->aeN,eq_false_iff->aeR,not_true->aeT
open Char renaming toNat->Q9
open Classical renaming byContradiction->HA,not_not->Su
open Eq renaming substr->ae,symm->aC
open Exists renaming intro->eJ
open False renaming elim->tS
open ForInStep renaming yield->AX
open HAdd renaming hAdd->pC
open Int renaming ofNat_lt->cV,toNat_of_nonneg->dh,le_antisymm->fP,not_lt->kQ,toNat_natCast->kS,add_zero->nc,zero_add->pz,ofNat_le->pD,natCast_nonneg->pE,le_refl->qR,le_of_lt->tC,le_of_eq->wt,lt_of_le_of_lt->AP,lt_irrefl->Br,emod_lt_of_pos->Bw,mul_zero->G3,mul_add->G4,lt_or_gt_of_ne->HP,one_mul->Rd,zero_mul->Rf,not_le->Rg,emod_nonneg->Rh,ne_of_gt->Ri,ofNat->Rk,mul_one->RH,le_trans->RY,sub_zero->RZ,add_assoc->adY,mul_assoc->adZ,mul_nonpos_of_nonneg_of_nonpos->ad0,ofNat_inj->aeQ
open Int.ofNat renaming inj->wA
open List renaming length_append->aG,mem_cons->aT,length_map->aY,mem_map->bf,mem_append_right->bj,append_assoc->bt,mem_append_left->bE,map_append->bH,nodup_cons->bR,mem_append->bT,forall_mem_singleton->cm,forall_mem_cons->cz,perm_append_comm_assoc->cE,append_nil->cL,mem_singleton->cQ,replicate->dK,getElem?_eq_some_iff->dU,mem_of_getElem?->d6,nodup_append->ed,size_toArray->ee,getElem?_eq_getElem->eC,nil_append->fE,getElem?_map->fQ,flatMap_cons->gi,length_cons->gL,range'->gO,nodup_nil->gW,getElem?_append_right->hH,length_drop->hU,map_cons->iQ,range->iR,getD_eq_getElem?_getD->iW,length_take->jg,pairwise_cons->j7,getElem?_append_left->kT,drop->kX,flatMap_append->lY,perm_middle->nh,all_eq_true->nr,take->nC,pairwise_append->nH,map->pI,length_range->pK,take_of_length_le->pM,mem_range->pO,length_pos_iff->pP,getElem?_toArray->qU,map_map->qZ,getElem?_set_ne->q9,length_reverse->rb,pairwise_map->rh,mem_flatMap->rn,length_set->tE,forIn_cons->tI,getElem?_inj->tK,length_nil->tU,append_eq_nil_iff->tV,set_getElem_self->wG,map_congr_left->wQ,mem_cons_of_mem->wU,map_drop->w7,flatMap_singleton->AH,foldl_cons->AI,filterMap_cons->AO,lookup_cons->AQ,drop_eq_getElem_cons->AS,length_eq_zero_iff->AV,length_replicate->AY,map_take->Bk,range_eq_range'->Bu,length->Bv,find?_cons->G8,getElem?_set_self->Hg,mem_filterMap->Hj,drop_zero->Hl,take_add_one->Ht,map_id'->Hw,range_succ->Hz,flatMap_nil->HB,pairwise_singleton->HQ,take_append_drop->HR,take_length->HS,any_cons->Rq,getElem?_eq_none->Rt,map_id->Rw,reverse_cons->RB,drop_eq_nil_of_le->RC,forIn_nil->RL,drop_length->RT,getElem?_drop->R6,toArray->Sf,getElem?_take->Sk,drop_drop->Sm,take_add->Sn,take_zero->So,cons_append->ad3,append_of_mem->ad8,perm_append_comm->aeb,zip_eq_zipWith->aeh,reverse_perm->aei,getElem_range->aeo,getElem_replicate->aer,of_mem_zip->aev,filterMap_append->aew,getElem?_range->aey,mem_iff_getElem->aeA,getElem_mem->aeB,pairwise_iff_getElem->aeM,ext_getElem?->aeO,cons_ne_nil->aeP,idxOf_cons->aeS,take_sublist->aeW,flatMap->aeX,concat_eq_append->aeY,nodup_range->aeZ
open List.Pairwise renaming imp_of_mem->aff,imp->afg
open List.Perm renaming append_left->ra
open Nat renaming le_trans->aD,sub_add_cancel->aE,le_of_ble_eq_true->aF,le_refl->aK,le_antisymm->aN,le_add_right->ba,zero_le->bA,ne_of_lt->cy,le_of_lt->cA,not_lt->cW,not_le->dg,lt_of_le_of_lt->dk,le_of_eq->dm,lt_trans->fb,lt_of_lt_of_le->fR,succ_le_succ->gY,min_eq_left->iB,zero_add->jf,lt_irrefl->jD,add_sub_cancel_left->jZ,lt_or_gt_of_ne->kR,le_succ->kU,succ->l5,sub_le->l7,lt_succ_self->nf,ne_of_gt->nF,add_assoc->pF,lt_succ_of_lt->pL,lt_or_eq_of_le->rm,le_of_succ_le_succ->tw,le_of_lt_succ->tA,le_succ_of_le->tF,succ_pos->wu,not_lt_zero->wy,lt_add_of_pos_right->wz,min_eq_right->w6,lt_succ_of_le->w8,lt_of_not_le->w9,sub_self->xa,succ_ne_self->AU,min_le_left->Bc,lt_of_succ_lt_succ->Be,beq->GY,add_right_comm->G5,add_sub_cancel'->Hp,add_le_add_left->Hs,le_zero->Hv,le_of_not_lt->HJ,lt_asymm->HL,le_of_succ_le->HM,lt_trichotomy->HO,add_le_add->HU,add_le_add_right->Rj,succ_lt_succ->R3,le_add_left->Sg,add_lt_add_left->Sl,one_ne_zero->Sr,min_le_right->Ss,eq_of_beq_eq_true->adV,exists_eq_add_of_le->ad1,sub_eq_zero_of_le->aex,not_lt_of_le->aeH,lt_of_succ_lt->aeI,div_mul_le_self->aeJ,not_succ_le_zero->aeK,max_eq_left->aeL
open Nat.succ renaming inj->jC
open Ne renaming symm->cR
open Option renaming none->wx,isSome_iff_exists->AW,map->G1,map_map->G2,bind->Rr,isSome_none->ad4,map_some->aeC,map_eq_some_iff->ae0,bind_some->ae1
open Option.some renaming inj->dJ
open Prod.mk renaming inj->wJ
open PyProof.Rows renaming News->aI,seqObj->fc,args_cons->je,args_nil->j5,Call_->qX,callWith_method1->tG,next_is_new->wY,IsTupIter->Bo,slot_tupleiter_next->Bp,subscriptTail->Hb,Attribute_Name_->Hh,IntsAre->Hu,bubble->HK,Assign_Tuple->RA,rangeSize_nat->RG,bubble_perm->Se,sortedHeap->Sh,get?_update_seq->Si,assignInOrder_nil->aed,assignInOrder_cons->aee,entry_tupleiter_next->aeD,args_tupleiter_next->aeE
open PySem renaming Value->af,Str->ag,PyData->ah,Shared->ai,Addr->ak,Heap->aq,wpAny_bind->au,Obj->ay,model->az,wpAny->aA,Pos->aB,Params->aV,World->aW,wpAny_pure->aZ,Program->bM,Builtin->bY,eval->b5,sizeLine->cc,Scope->cj,Around->cD,exec->cJ,wpAny_mono->cK,Stmt->cU,Env->da,codeAny->dc,OsState->dT,assign->d7,DictEntry->eY,Result->eZ,wpAny_holding->fo,starEach->gf,execs->gM,pyIter->gX,NameKind->gZ,Code->iz,mainGlobals->iA,Flow->iP,Sem->iS,backTo->iT,pyNext->iU,clipAt->iV,typeLookup->jb,intKind->jc,assignEach->jd,isSubtype->jA,wpAny_call->jB,rawInt->jE,typeOf->j4,Walks->j6,typeLookup_type->lZ,builtinLookup_eq_fast->l0,seqIndex?->l6,isSubtype_type->ni,letOwnedTupleGo->ny,notedBy->nB,codeAny_call_builtin->pG,getAttr->pH,wpAny_standAt->pJ,argsOk->qS,cLine->qT,newList->qV,spliced->qW,standAt->qY,specialOf->rj,Operator->tB,builtinsNs->tD,relabel->tJ,isType->tN,isInstance->tO,wpAny_call_entry->tP,field->tQ,wpAny_field->tR,builtinKind->wB,sysModules->wC,intKind_is->wF,CmpOp->wH,sliceBounds->wI,wpAny_truthy_bool->wK,assignInOrder->wM,foldedSetIterable->wN,storeName->wO,setItem->wR,wpAny_Expr_any->wV,wpAny_pyIter_list->wZ,wpAny_of_eq->w3,recursionLimit->w4,bindArgs->w5,entryFor->AJ,GenState->AK,checkBoundCall->AL,isTrue->AM,Reads->AN,wpAny_updateSeq->AR,compTurn->AZ,wpAny_newObj_type->Ba,compPost->Bb,bindL->Bg,bindC->Bh,BindsTo->Bj,newObj->Bl,wpAny_seqItems->Bq,treeTable->GZ,FuncData->G0,callAny->G6,codeAny_builtin->G7,Comprehension->G9,getItem->Ha,slicePick->Hc,callWith->Hd,behindInMarks->He,holding->Hf,swappedStores->Hi,IsRange->Hm,cellOf->Ho,noteFrame->Hq,newFunctionEnv->Hr,splitId->HD,checkBuiltinCall->HE,bindSpecial->HF,wpAny_attempt->HG,wpAny_callSpecial?_slot->HH,wpAny_eqBool_int->HI,updateSeq->HT,Arguments->Q8,entryFor_of_tree->Rl,codeAny_of_tree->Rm,plainId_quiet->Ro,wpAny_tryCatch->Rp,newTuple->Ru,bootBuiltins->Rv,getMethod_builtin->Rx,swapsWith->Ry,wpAny_Assign_Name->Rz,IsRangeIter->RD,small_one->RE,call_range_1->RJ,wpAny_Assign_two->RK,wpAny_loadName_local->RM,wpAny_storeName_local->RN,codeAny_loop->RO,theTreesLotGoes->RQ,wpAny_noted->RS,compEnvC->RU,comprehension->RV,wpAny_comprehension_free->RW,wpAny_rule->RX,wpAny_ite_split->R8,sizeLine_eq->Sj,meets_dict_get_default->ad2,wpAny_isSame_plain->ad6,slot_list_getitem->ad7,wpAny_Constant_int->ad9,evalPart_none_step->aea,wpAny_pyIter_range->aen,wpAny_loadName_cell->aeq,bindSpecialIfBound?->aeF
open PySem.AutoListH renaming list_insert_list_int_val_1->afe
open PySem.Calls renaming Name_function_global->aeu
open PySem.F renaming slot_list_extend->aec,plainAttrs_dict->aef,slot_dict_get->aeg,slot_list_append->aej,type_list_append->aek,slot_list_pop->ael,type_list_pop->aem,slot_dict_setdefault->aep,slot_list_insert->aet,slot_tuple_lt->aeG
open PySem.W renaming Looks->bz,dictOf->gc,looseW->gN,instObj->gV,Frag->ja,hideAll->jF,fnOf->kW,handedIn->nq,KasT->nE,boot_heap->pq,kHook->pQ,nsIn->rg,TurnsAt->tH,findIn->tL,codeIn->tM,kas_rev->tT,listMethod_K->wW,KTurns->wX,topFrame->AG,keepIn->Bf,emptyDict->Bm,check_slot->Bn,kas_sort->Bt,topStub->Bx,topRun->By,cellsFrom_some->Hx,hideAll_get->Hy,looks_findIn->HC,boot_drawn->Ra,openSeen->Rb,openGood->Rc,plainGet->R2,hideAll_size->R5,looks_subIn->R7,kas_tail3->R9,kas_count->Sa,kas_place->Sb
open PySem.W.Fast renaming tw4202317264376624991->wq,te14364793385576792824->adX
open PySem.W.S renaming eqLit->adW
section
open PySem PySem.W
namespace Mine
noncomputable def HV {α:Type}(a:Array α) (p:α->Bool) (start:Nat:=0) (stop:Nat:=a.size):Bool:=
 @Bool.rec (λzz=>Bool) (Array.any a p start stop) (R.anyR a.toList p) (GY start 0 && GY stop a.size)
theorem any_eq:@Array.any.{0}=@HV:=by
 funext α a p s t;unfold HV;cases h:(GY s 0 && GY t a.size) with
 |false=>rfl
 |true=>
  simp only [Bool.and_eq_true] at h;have U:=adV h.1;have V:=adV h.2;subst U V;refine (?_:_=R.anyR a.toList p);refine ae (R.anyR_eq ..).symm ?_;simp
structure Carry (a:bY):Type where
 u:Unit
noncomputable def Carry.get {a:bY}(_:Carry a):bY:=a
noncomputable def Bz:bY:=by
 have c:Carry wq:=⟨()⟩
 delta wq at c
 exact (any_eq▸c).get
theorem Sv:wq=Bz:=by
 have h:wq=wq:=rfl
 conv at h=>
  rhs
  delta wq
 rw [any_eq] at h;exact h
noncomputable def tb (n:String):Option bY:=
 @Bool.rec (λzz=>Option bY) (PySem.W.Fast.tw14364793385576792824 n) (some Bz) (adW 29827186395103491166823348853 n)
theorem Sw:GZ=tb:=by
 funext n;have e:(n == "type.__new__")=adW 29827186395103491166823348853 n:=congrFun (PySem.W.S.eqLit_eq "type.__new__" 29827186395103491166823348853 (by decide +kernel)) n
 unfold tb;refine ae (e ..).symm ?_;cases h:(n == "type.__new__") with
 |false=>exact congrFun adX n
 |true=>
  have hn:n="type.__new__":=beq_iff_eq.mp h;subst hn;refine (?_:GZ "type.__new__"=some Bz);refine ae (Sv ..).symm ?_;exact (congrFun adX _).trans (by kernel_rfl!)
end Mine
end
section
open PySem PySem.W PyProof.Rows
namespace Mine
noncomputable section
noncomputable def pw:bM:=PySem.Challenge.pw_dm0054_05
noncomputable def iX:aB:=⟨0,0,0,0⟩
noncomputable def top (i:Nat):cU:=(pw.main.body[i]?).getD (.Pass iX)
noncomputable def HW:cU->List cU
 |.ClassDef _ _ _ b ..=>b
 |_=>[]
noncomputable def mem (i j:Nat):cU:=((HW (top i))[j]?).getD (.Pass iX)
noncomputable def pR:cU->List cU
 |.FunctionDef _ _ b ..=>b
 |_=>[]
noncomputable def kZ:cU->cj
 |.FunctionDef _ _ _ _ _ _ s ..=>s
 |_=>default
noncomputable def xb:cU->Q8
 |.FunctionDef _ a ..=>a
 |_=>default
noncomputable def fnName:cU->ag
 |.FunctionDef n ..=>n
 |_=>ag.empty
noncomputable def HX:List cU->ag
 |.Expr (.Constant (.str d) _ _) _::_=>d
 |_=>ag.empty
noncomputable def fF (st:cU) (t:Tok):af:=.str (HX (pR st)) t
noncomputable def nK:ag:=HX (HW (top 5))
structure HY (s:ag):Type where
 l:List Char
 h:s=⟨(l.map Q9).toArray⟩
theorem Sx (s:String) (l:List Char) (h:String.ofList l=s):ag.ofString s=⟨(l.map Q9).toArray⟩:=by subst h;exact PySem.W.Fast.ofString_ofList l
noncomputable def HZ:HY nK:=by
 delta nK
 refine HY.mk ?l ?h
 case h=>
  refine Sx ?s ?l ?g
  case g=>exact rfl
noncomputable def hW:ag:=⟨(HZ.l.map Q9).toArray⟩
theorem Sy:nK=hW:=HZ.h
noncomputable def Sz (d:ag):cU->cU
 |.ClassDef n bs U (.Expr (.Constant (.str _) k p) V::r) ds tp sc ts bi W pos=>.ClassDef n bs U (.Expr (.Constant (.str d) k p) V::r) ds tp sc ts bi W pos
 |s=>s
noncomputable def BA (d:ag):List cU:=pw.main.body.take 5++Sz d (top 5)::pw.main.body.drop 6
noncomputable def xc (d:ag):bM:={pw with main:={pw.main with body:=BA d}}
noncomputable def SA (d:ag) (i:Nat):cU:=((BA d)[i]?).getD (.Pass iX)
noncomputable def fdOf (st:cU) (qual:ag) (g:ak) (cl:List (ag×ak)) (dV kV doc pm:af) (an:Option ak) (U ct:af) (b:ak):G0:=
 {name:=fnName st,qualname:=qual,params:=xb st,body:=.stmts (pR st),scope:=kZ st,globals:=g,closure:=cl,defaults:=dV,kwdefaults:=kV,doc:=doc,pyModule:=pm,annotations:=an,code:=U,closureTuple:=ct,builtins:=b}
noncomputable def SD:ay:={cls:=af.type "tuple",data:=Data.seq #[]}
noncomputable def SF:ay:={cls:=af.none,data:=Data.fields #[]}
noncomputable def SG:ay:={cls:=af.type "code",data:=Data.fields #[af.str "<module>" 182,af.str "<module>" 183,af.str "/claim/cut.py" 184,af.int 1 0,af.int 0 0,af.int 0 0,af.int 0 0,af.int 0 0,af.ref 11,af.bool false,
    af.int 181 0,af.ref 12,af.none,af.none,af.none,af.none,af.int 185 0,af.int 1 0,af.str "/claim/cut.py" 186]}
noncomputable def SH:ay:={cls:=af.type "frame",slots:=#[some (af.ref 13),some (af.ref 3),some (af.ref 3),none,some (af.str "__main__" 164),none,some (af.ref 0)]}
noncomputable def SI (P:aV):BT:=(BT.node (boot_o_0 P) (BT.node (boot_o_1 P) (BT.node (boot_o_3 P) (BT.node (boot_o_7 P) .nil .nil) (BT.node (SD) .nil .nil)) (BT.node (boot_o_5 P) (BT.node (boot_o_9 P) .nil .nil) (BT.node (SG) .nil .nil))) (BT.node (boot_o_2 P) (BT.node (boot_o_4 P) (BT.node (boot_o_8 P) .nil .nil) (BT.node (SF) .nil .nil)) (BT.node (boot_o_6 P) (BT.node (boot_o_10 P) .nil .nil) (BT.node (SH) .nil .nil))))
noncomputable def tW (w:aW) (os:dT):SharedT:=⟨SI w.params,15,{},#[],Ra,187,os⟩
noncomputable def jG:da:={scope:=pw.main.scope,locals:=mainNs,globals:=mainNs,cells:=[],code:=.ref 13,frame:=some 14}
noncomputable def gj:iz:=.body pw.main.body jG
noncomputable def q:bM:={pw with main:={pw.main with body:=[0,2,3,4,5,7,8,9,10,11,12,13].map top}}
noncomputable def qD (d:ag):bM:={pw with main:={pw.main with body:=[0,2,3,4,5,7,8,9,10,11,12,13].map (SA d)}}
noncomputable def loose:List ag:=["_tuplegetter","Match","SequenceMatcher"]
noncomputable def xt (s:ai):Bool:=xlAt q [] s && recOk [] s
noncomputable abbrev kv (P:aV) (x:ag) (t:Nat) (v:af):eY:=⟨ah.keyHash P x,.str x t,v⟩
noncomputable abbrev gP (a b:ag) (t1 t2 t3:Nat) (l n:Int) (r s:ak) (u v w:af) (z:ak) (q:Int) (t4:Nat):ay:=⟨.type "code",none,.fields #[.str a t1,.str b t2,.str "/claim/cut.py" t3,.int l 0,.int n 0,.int 0 0,.int 0 0,.int 3 0,.ref r,.bool true,.int 181 0,.ref s,u,v,w,.ref z,.int q 0,.int l 0,.str "/claim/cut.py" t4],#[]⟩
noncomputable abbrev hY (st:cU) (q:ag) (d e:af) (m:ag) (t:Nat) (c:ak):ay:=⟨.type "function",none,.func (fdOf st q 3 [] d .none e (.str m t) none (.ref c) .none 0),#[]⟩
noncomputable def k2 (P:aV):ay:=⟨.none,none,.dict #[] 0,#[]⟩
noncomputable def k3 (P:aV):ay:=⟨(.type "dict"),none,.dict #[kv P "__name__" 165 (.str "law_dm0054_05" 583),kv P "__doc__" 166 .none,kv P "__package__" 167 .none,kv P "__loader__" 168 (.builtin "__main__.__loader__#opaque"),kv P "__spec__" 169 .none,kv P "__annotations__" 170 (.ref 6),kv P "__builtins__" 171 (.ref 4),kv P "__file__" 173 (.str "/claim/cut.py" 172),kv P "__cached__" 174 .none,kv P "_wall" 193 (.ref 21),kv P "_tuplegetter" 252 (.ref 60),kv P "Match" 380 (.ref 135),kv P "_calculate_ratio" 388 (.ref 145),kv P "SequenceMatcher" 582 (.ref 242),kv P "_law_stretches" 590 (.ref 251),kv P "_law_flat" 596 (.ref 256),kv P "_law_stay" 602 (.ref 261),kv P "_law_due" 608 (.ref 266),kv P "_law_changes" 628 (.ref 273),kv P "_law_merge" 655 (.ref 280),kv P "law" 672 (.ref 287)] 21,#[]⟩
noncomputable def BC (P:aV):ay:=gP "__new__" "Match.__new__" 274 275 276 29 4 76 77 .none (.ref 78) (.ref 79) 80 281 282
noncomputable def BD (P:aV):ay:=hY (mem 3 4) "Match.__new__" .none (fF (mem 3 4) 283) "cpy313.difflib" 194 81
noncomputable def BE (P:aV):ay:=gP "_make" "Match._make" 285 286 287 33 2 83 84 .none (.ref 85) (.ref 86) 87 291 292
noncomputable def BF (P:aV):ay:=⟨(.type "function"),none,.func (fdOf (mem 3 5) "Match._make" 3 [] .none .none (fF (mem 3 5) 293) (.str "cpy313.difflib" 194) (some 92) (.ref 88) .none 0),#[]⟩
noncomputable def BG (P:aV):ay:=⟨(.type "classmethod"),(some 90),.fields #[(.ref 89),(.bool false)],#[]⟩
noncomputable def BH (P:aV):ay:=⟨(.type "dict"),none,.dict #[kv P "__module__" 260 (.str "cpy313.difflib" 194),kv P "__firstlineno__" 264 (.int (23) 263),kv P "__doc__" 266 (.str "Match(a, b, size)" 265),kv P "__slots__" 268 (.ref 73),kv P "_fields" 272 (.ref 74),kv P "_field_defaults" 273 (.ref 75),kv P "__new__" 284 (.ref 136),kv P "_make" 306 (.ref 91),kv P "_replace" 317 (.ref 100),kv P "__replace__" 318 (.ref 100),kv P "__repr__" 326 (.ref 107),kv P "_asdict" 333 (.ref 114),kv P "__getnewargs__" 341 (.ref 121),kv P "__match_args__" 345 (.ref 122),kv P "a" 355 (.ref 124),kv P "b" 365 (.ref 127),kv P "size" 375 (.ref 130),kv P "__static_attributes__" 376 (.ref 132)] 2,#[]⟩
noncomputable def xd (P:aV):ay:=⟨(.type "type"),none,.cls {name:="Match",bases:=[(.type "tuple")],mro:=[(.ref 135),(.type "tuple"),(.type "object")],ns:=134,qualname:="Match",hasDict:=false,slotNames:=[],subclasses:=[],abstract:=false,collection:=none,hasDel:=false},#[(some (.ref 65)),none,(some (.str "Match" 253)),(some (.str "Match" 261)),(some .none),(some (.bool false))]⟩
noncomputable def BI (P:aV):ay:=⟨(.type "staticmethod"),none,.fields #[(.ref 82)],#[]⟩
noncomputable def xe (P:aV):ay:=⟨(.type "tuple"),none,.seq #[.none,(.str "" 404),(.str "" 405),(.bool true)] 0,#[]⟩
noncomputable def BJ (P:aV):ay:=gP "__init__" "SequenceMatcher.__init__" 406 407 408 145 5 154 155 .none (.ref 156) (.ref 157) 158 414 415
noncomputable def BK (P:aV):ay:=hY (mem 5 1) "SequenceMatcher.__init__" (.ref 153) (fF (mem 5 1) 416) "cpy313.difflib" 194 159
noncomputable def BL (P:aV):ay:=gP "set_seqs" "SequenceMatcher.set_seqs" 418 419 420 173 3 161 162 .none (.ref 163) (.ref 164) 165 424 425
noncomputable def BM (P:aV):ay:=hY (mem 5 2) "SequenceMatcher.set_seqs" .none (fF (mem 5 2) 426) "cpy313.difflib" 194 166
noncomputable def BN (P:aV):ay:=gP "set_seq1" "SequenceMatcher.set_seq1" 428 429 430 184 2 168 169 .none (.ref 170) (.ref 171) 172 433 434
noncomputable def BO (P:aV):ay:=hY (mem 5 3) "SequenceMatcher.set_seq1" .none (fF (mem 5 3) 435) "cpy313.difflib" 194 173
noncomputable def BP (P:aV):ay:=gP "set_seq2" "SequenceMatcher.set_seq2" 437 438 439 209 2 175 176 .none (.ref 177) (.ref 178) 179 442 443
noncomputable def BQ (P:aV):ay:=hY (mem 5 4) "SequenceMatcher.set_seq2" .none (fF (mem 5 4) 444) "cpy313.difflib" 194 180
noncomputable def BR (P:aV):ay:=gP "__chain_b" "SequenceMatcher.__chain_b" 446 447 448 236 1 182 183 .none (.ref 184) (.ref 185) 186 461 462
noncomputable def BS (P:aV):ay:=hY (mem 5 5) "SequenceMatcher.__chain_b" .none .none "cpy313.difflib" 194 187
noncomputable def xf (P:aV):ay:=⟨(.type "tuple"),none,.seq #[(.int (0) 464),.none,(.int (0) 465),.none] 0,#[]⟩
noncomputable def BU (P:aV):ay:=gP "find_longest_match" "SequenceMatcher.find_longest_match" 466 467 468 260 5 190 191 .none (.ref 192) (.ref 193) 194 488 489
noncomputable def BV (P:aV):ay:=hY (mem 5 6) "SequenceMatcher.find_longest_match" (.ref 189) (fF (mem 5 6) 490) "cpy313.difflib" 194 195
noncomputable def BW (P:aV):ay:=gP "get_matching_blocks" "SequenceMatcher.get_matching_blocks" 492 493 494 335 1 197 198 .none (.ref 199) (.ref 200) 201 515 516
noncomputable def BX (P:aV):ay:=hY (mem 5 7) "SequenceMatcher.get_matching_blocks" .none (fF (mem 5 7) 517) "cpy313.difflib" 194 202
noncomputable def BY (P:aV):ay:=gP "get_opcodes" "SequenceMatcher.get_opcodes" 519 520 521 383 1 204 205 .none (.ref 206) (.ref 207) 208 530 531
noncomputable def BZ (P:aV):ay:=hY (mem 5 8) "SequenceMatcher.get_opcodes" .none (fF (mem 5 8) 532) "cpy313.difflib" 194 209
noncomputable def H3 (d:ag) (P:aV):ay:=⟨(.type "dict"),none,.dict #[kv P "__module__" 396 (.str "cpy313.difflib" 194),kv P "__firstlineno__" 400 (.int (70) 399),kv P "__doc__" 402 (.str d 401),kv P "__init__" 417 (.ref 160),kv P "set_seqs" 427 (.ref 167),kv P "set_seq1" 436 (.ref 174),kv P "set_seq2" 445 (.ref 181),kv P "_SequenceMatcher__chain_b" 463 (.ref 188),kv P "find_longest_match" 491 (.ref 196),kv P "get_matching_blocks" 518 (.ref 203),kv P "get_opcodes" 533 (.ref 210),kv P "get_grouped_opcodes" 542 (.ref 218),kv P "ratio" 551 (.ref 225),kv P "quick_ratio" 558 (.ref 232),kv P "real_quick_ratio" 565 (.ref 239),kv P "__static_attributes__" 576 (.ref 240),kv P "__dict__" 578 (.ref 243),kv P "__weakref__" 580 (.ref 244)] 3,#[]⟩
noncomputable def H4 (P:aV):ay:=H3 nK P
noncomputable def B0 (P:aV):ay:=⟨(.type "type"),none,.cls {name:="SequenceMatcher",bases:=[(.type "object")],mro:=[(.ref 242),(.type "object")],ns:=241,qualname:="SequenceMatcher",hasDict:=true,slotNames:=[],subclasses:=[],abstract:=false,collection:=none,hasDel:=false},#[none,none,(some (.str "SequenceMatcher" 389)),(some (.str "SequenceMatcher" 397)),(some (.builtin "object.__new__")),(some (.bool true))]⟩
noncomputable def B3 (P:aV):ay:=gP "_law_stretches" "_law_stretches" 585 586 587 463 1 247 248 .none .none .none 249 588 589
noncomputable def B4 (P:aV):ay:=hY (top 7) "_law_stretches" .none .none "law_dm0054_05" 583 250
noncomputable def B5 (P:aV):ay:=gP "_law_flat" "_law_flat" 591 592 593 476 2 252 253 .none .none .none 254 594 595
noncomputable def B6 (P:aV):ay:=hY (top 8) "_law_flat" .none .none "law_dm0054_05" 583 255
noncomputable def B7 (P:aV):ay:=gP "_law_stay" "_law_stay" 597 598 599 478 3 257 258 .none .none .none 259 600 601
noncomputable def B8 (P:aV):ay:=hY (top 9) "_law_stay" .none .none "law_dm0054_05" 583 260
noncomputable def B9 (P:aV):ay:=gP "_law_due" "_law_due" 603 604 605 492 5 262 263 .none .none .none 264 606 607
noncomputable def Ca (P:aV):ay:=hY (top 10) "_law_due" .none .none "law_dm0054_05" 583 265
noncomputable def Cb (P:aV):ay:=gP "_law_changes" "_law_changes" 609 610 611 506 4 267 268 .none (.ref 269) (.ref 270) 271 626 627
noncomputable def Cc (P:aV):ay:=hY (top 11) "_law_changes" .none .none "law_dm0054_05" 583 272
noncomputable def Cd (P:aV):ay:=gP "_law_merge" "_law_merge" 629 630 631 516 3 274 275 .none (.ref 276) (.ref 277) 278 653 654
noncomputable def Ce (P:aV):ay:=hY (top 12) "_law_merge" .none .none "law_dm0054_05" 583 279
noncomputable def Cf (P:aV):ay:=gP "law" "law" 656 657 658 538 1 281 282 .none (.ref 283) (.ref 284) 285 670 671
noncomputable def Cg (P:aV):ay:=hY (top 13) "law" .none .none "law_dm0054_05" 583 286
noncomputable def K (P:aV):ja:=(nat_lit 2,k2 P)::(nat_lit 3,k3 P)::(nat_lit 81,BC P)::(nat_lit 82,BD P)::(nat_lit 88,BE P)::(nat_lit 89,BF P)::(nat_lit 91,BG P)::(nat_lit 134,BH P)::(nat_lit 135,xd P)::(nat_lit 136,BI P)::(nat_lit 153,xe P)::(nat_lit 159,BJ P)::(nat_lit 160,BK P)::(nat_lit 166,BL P)::(nat_lit 167,BM P)::(nat_lit 173,BN P)::(nat_lit 174,BO P)::(nat_lit 180,BP P)::(nat_lit 181,BQ P)::(nat_lit 187,BR P)::(nat_lit 188,BS P)::(nat_lit 189,xf P)::(nat_lit 195,BU P)::(nat_lit 196,BV P)::(nat_lit 202,BW P)::(nat_lit 203,BX P)::(nat_lit 209,BY P)::(nat_lit 210,BZ P)::(nat_lit 241,H4 P)::(nat_lit 242,B0 P)::(nat_lit 250,B3 P)::(nat_lit 251,B4 P)::(nat_lit 255,B5 P)::(nat_lit 256,B6 P)::(nat_lit 260,B7 P)::(nat_lit 261,B8 P)::(nat_lit 265,B9 P)::(nat_lit 266,Ca P)::(nat_lit 272,Cb P)::(nat_lit 273,Cc P)::(nat_lit 279,Cd P)::(nat_lit 280,Ce P)::(nat_lit 286,Cf P)::(nat_lit 287,Cg P)::[]
noncomputable def j8:List ak:=[2,3,81,82,88,89,91,134,135,136,153,159,160,166,167,173,174,180,181,187,188,189,195,196,202,203,209,210,241,242,250,251,255,256,260,261,265,266,272,273,279,280,286,287]
noncomputable def xg (h:aq):List (Option ay):=[h.get? 2,h.get? 3,h.get? 81,h.get? 82,h.get? 88,h.get? 89,h.get? 91,h.get? 134,h.get? 135,h.get? 136,h.get? 153,h.get? 159,h.get? 160,h.get? 166,h.get? 167,h.get? 173,h.get? 174,h.get? 180,h.get? 181,h.get? 187,h.get? 188,h.get? 189,h.get? 195,h.get? 196,h.get? 202,h.get? 203,h.get? 209,h.get? 210,h.get? 241,h.get? 242,h.get? 250,h.get? 251,h.get? 255,h.get? 256,h.get? 260,h.get? 261,h.get? 265,h.get? 266,h.get? 272,h.get? 273,h.get? 279,h.get? 280,h.get? 286,h.get? 287]
noncomputable def tX (P:aV):List (Option ay):=[some (k2 P),some (k3 P),some (BC P),some (BD P),some (BE P),some (BF P),some (BG P),some (BH P),some (xd P),some (BI P),some (xe P),some (BJ P),some (BK P),some (BL P),some (BM P),some (BN P),some (BO P),some (BP P),some (BQ P),some (BR P),some (BS P),some (xf P),some (BU P),some (BV P),some (BW P),some (BX P),some (BY P),some (BZ P),some (H4 P),some (B0 P),some (B3 P),some (B4 P),some (B5 P),some (B6 P),some (B7 P),some (B8 P),some (B9 P),some (Ca P),some (Cb P),some (Cc P),some (Cd P),some (Ce P),some (Cf P),some (Cg P)]
noncomputable def H5 (p:bM) (P:aV) (s:ai):Bool:=staticsOk [] (pq P) s.heap && namesBound p s.heap && gensDone s && laidKept (pq P) s.heap
noncomputable def xh (P:aV) (s:ai):Bool:=H5 pw P s
noncomputable def RP (p:bM) (U:da) (V:iz) (w:aW) (os:dT):Option (iP×SharedT×iz×aB):=
 segRunT tb p w 11 (some (.ref 6)) 1 2800 (tW w os) (piecesOf p.main.body U V iX [AG iX])
noncomputable def R (w:aW) (os:dT):Option (iP×SharedT×iz×aB):=RP pw jG gj w os
noncomputable def evG (p q:bM) (U:da) (V:iz) (w:aW) (os:dT):=(RP p U V w os).map (λr=>((r.1,r.2.2.1),H5 p w.params r.2.1.abs,Rb q loose [] (λs=>xlAt q [] s && recOk [] s) true r.2.1.abs,xg r.2.1.abs.heap))
noncomputable def tY (w:aW) (os:dT):=evG pw q jG gj w os
noncomputable def Cj (d:ag) (P:aV):List (Option ay):=[some (k2 P),some (k3 P),some (BC P),some (BD P),some (BE P),some (BF P),some (BG P),some (BH P),some (xd P),some (BI P),some (xe P),some (BJ P),some (BK P),some (BL P),some (BM P),some (BN P),some (BO P),some (BP P),some (BQ P),some (BR P),some (BS P),some (xf P),some (BU P),some (BV P),some (BW P),some (BX P),some (BY P),some (BZ P),some (H3 d P),some (B0 P),some (B3 P),some (B4 P),some (B5 P),some (B6 P),some (B7 P),some (B8 P),some (B9 P),some (Ca P),some (Cb P),some (Cc P),some (Cd P),some (Ce P),some (Cf P),some (Cg P)]
noncomputable def goodG (q:bM) (U:iz) (l:List (Option ay)):=some ((iP.next,U),true,Rc q loose,l)
noncomputable def tZ (w:aW):=goodG q gj (tX w.params)
theorem evG_self:@evG=@evG:=rfl
name_quick mineEvG for Mine.evG by Mine.evG_self
noncomputable def rq (d:ag):iz:=.body (BA d) jG
theorem SJ (w:aW) (os:dT):evG (xc hW) (qD hW) jG (rq hW) w os=goodG (qD hW) (rq hW) (Cj hW w.params):=
 (congrFun (congrFun (congrFun (congrFun (congrFun (congrFun PySem.W.Fast.mineEvG_eq (xc hW)) (qD hW)) jG) (rq hW)) w) os).trans (by kernel_rfl! : PySem.W.Fast.mineEvG (xc hW) (qD hW) jG (rq hW) w os=goodG (qD hW) (rq hW) (Cj hW w.params))
theorem SK:xc nK=pw:=by kernel_rfl!
theorem SM:qD nK=q:=by kernel_rfl!
theorem SN:rq nK=gj:=by kernel_rfl!
theorem SO (P:aV):Cj nK P=tX P:=by kernel_rfl!
theorem xj (w:aW) (os:dT):tY w os=tZ w:=by
 have h:=SJ w os;rw [<-Sy,SK,SM,SN,SO] at h;exact h
noncomputable def SP (w:aW) (os:dT):=(R w os).map (λr=>(r.1,r.2.2.1))
noncomputable def SQ (w:aW):=some ((iP.next,gj))
theorem SR (w:aW) (os:dT):SP w os=SQ w:=by
 have h:=congrArg (G1 λz=>z.1) (xj w os);unfold tY evG tZ goodG at h;rw [G2] at h;exact h
noncomputable def H6 (w:aW) (os:dT):=(R w os).map (λr=>xh w.params r.2.1.abs)
noncomputable def H7 (w:aW):=some true
theorem SU (w:aW) (os:dT):H6 w os=H7 w:=by
 have h:=congrArg (G1 λz=>z.2.1) (xj w os);unfold tY evG tZ goodG at h;rw [G2] at h;exact h
noncomputable def H8 (w:aW) (os:dT):=(R w os).map (λr=>Rb q loose [] xt true r.2.1.abs)
noncomputable def H9 (w:aW):=some (Rc q loose)
theorem SV (w:aW) (os:dT):H8 w os=H9 w:=by
 have h:=congrArg (G1 λz=>z.2.2.1) (xj w os);unfold tY evG tZ goodG at h;rw [G2] at h;exact h
noncomputable def Ia (w:aW) (os:dT):=(R w os).map (λr=>xg r.2.1.abs.heap)
noncomputable def Ib (w:aW):=some (tX w.params)
theorem SW (w:aW) (os:dT):Ia w os=Ib w:=by
 have h:=congrArg (G1 λz=>z.2.2.2) (xj w os);unfold tY evG tZ goodG at h;rw [G2] at h;exact h
end
end Mine
end
section
namespace Internal.Lin
inductive Cn
 |z
 |c (a:Nat) (r:Cn)
inductive Ci
 |z
 |c (a:Int) (r:Ci)
noncomputable def Cn.g:Cn->Nat->Nat:=@λA B=>match A,B with
 |.z,zz=>0
 |.c a r,i=>match i with
  |0=>a
  |i+1=>r.g i
noncomputable def Ci.g:Ci->Nat->Int:=@λA B=>match A,B with
 |.z,zz=>0
 |.c a r,i=>match i with
  |0=>a
  |i+1=>r.g i
inductive N
 |v (i:Nat)
 |n (k:Nat)
 |a (x y:N)
 |m (k:Nat) (x:N)
 |r (x:N) (k:Nat)
inductive Z
 |v (i:Nat)
 |n (k:Int)
 |a (x y:Z)
 |s (x y:Z)
 |g (x:Z)
 |m (k:Int) (x:Z)
 |r (x:Z) (k:Int)
 |o (x:N)
noncomputable def N.e (C:Cn):N->Nat:=@λA=>match A with
 |.v i=>C.g i
 |.n k=>k
 |.a x y=>x.e C+y.e C
 |.m k x=>k*x.e C
 |.r x k=>x.e C*k
noncomputable def Z.e (C:Cn) (D:Ci):Z->Int:=@λA=>match A with
 |.v i=>D.g i
 |.n k=>k
 |.a x y=>x.e C D+y.e C D
 |.s x y=>x.e C D-y.e C D
 |.g x=>-x.e C D
 |.m k x=>k*x.e C D
 |.r x k=>x.e C D*k
 |.o x=>(x.e C:Nat)
inductive H
 |l (x y:N)
 |k (x y:N)
 |q (x y:N)
 |L (x y:Z)
 |K (x y:Z)
 |Q (x y:Z)
noncomputable def H.d (C:Cn) (D:Ci):H->Prop:=@λA=>match A with
 |.l x y=>x.e C<=y.e C
 |.k x y=>x.e C<y.e C
 |.q x y=>x.e C=y.e C
 |.L x y=>x.e C D<=y.e C D
 |.K x y=>x.e C D<y.e C D
 |.Q x y=>x.e C D=y.e C D
structure P where
 k:Int
 n:List Int
 i:List Int
noncomputable def dn:List Int->Cn->Int:=@λA B=>match A,B with
 |[],zz=>0
 |a::l,C=>match C with
  |.z=>0
  |.c b r=>a*b+dn l r
noncomputable def di:List Int->Ci->Int:=@λA B=>match A,B with
 |[],zz=>0
 |a::l,C=>match C with
  |.z=>0
  |.c b r=>a*b+di l r
noncomputable def P.e (C:Cn) (D:Ci) (p:P):Int:=p.k+(dn p.n C+di p.i D)
noncomputable def ad:List Int->List Int->List Int:=@λA B=>match A,B with
 |[],m=>m
 |a::l,m=>match m with
  |[]=>a::l
  |b::m=>(a+b)::ad l m
noncomputable def sc (k:Int):List Int->List Int:=@λA=>match A with
 |[]=>[]
 |a::l=>k*a::sc k l
noncomputable def un:Nat->List Int:=@λA=>match A with
 |0=>[1]
 |i+1=>0::un i
noncomputable def P.ad (p q:P):P:=⟨p.k+q.k,Lin.ad p.n q.n,Lin.ad p.i q.i⟩
noncomputable def P.sc (k:Int) (p:P):P:=⟨k*p.k,Lin.sc k p.n,Lin.sc k p.i⟩
noncomputable def N.p:N->P:=@λA=>match A with
 |.v i=>⟨0,un i,[]⟩
 |.n k=>⟨k,[],[]⟩
 |.a x y=>x.p.ad y.p
 |.m k x=>x.p.sc k
 |.r x k=>x.p.sc k
noncomputable def Z.p:Z->P:=@λA=>match A with
 |.v i=>⟨0,[],un i⟩
 |.n k=>⟨k,[],[]⟩
 |.a x y=>x.p.ad y.p
 |.s x y=>x.p.ad (y.p.sc (-1))
 |.g x=>x.p.sc (-1)
 |.m k x=>x.p.sc k
 |.r x k=>x.p.sc k
 |.o x=>x.p
noncomputable def H.p:H->P:=@λA=>match A with
 |.l x y=>x.p.ad (y.p.sc (-1))
 |.k x y=>(P.mk 1 [] []).ad (x.p.ad (y.p.sc (-1)))
 |.q x y=>x.p.ad (y.p.sc (-1))
 |.L x y=>x.p.ad (y.p.sc (-1))
 |.K x y=>(P.mk 1 [] []).ad (x.p.ad (y.p.sc (-1)))
 |.Q x y=>x.p.ad (y.p.sc (-1))
theorem sw (a b c d:Int):a+b+(c+d)=a+c+(b+d):=by exact ae (adY ..) (ae (adY ..) (ae (Int.add_left_comm b ..) rfl))
theorem Ic:∀(l m:List Int) (C:Cn),dn (ad l m) C=dn l C+dn m C:=@λA B D=>match A,B,D with
 |[],zz,U=>(pz _).symm
 |zz::U,[],V=>(nc _).symm
 |zz::U,V::W,.z=>rfl
 |a::l,b::m,.c x r=>(congr (congrArg pC (Int.add_mul a b x)) (Ic l m r)).trans (sw _ _ _ _)
theorem Ie:∀(l m:List Int) (C:Ci),di (ad l m) C=di l C+di m C:=@λA B D=>match A,B,D with
 |[],zz,U=>(pz _).symm
 |zz::U,[],V=>(nc _).symm
 |zz::U,V::W,.z=>rfl
 |a::l,b::m,.c x r=>(congr (congrArg pC (Int.add_mul a b x)) (Ie l m r)).trans (sw _ _ _ _)
theorem Ig (k:Int):∀(l:List Int) (C:Cn),dn (sc k l) C=k*dn l C:=@λA B=>match A,B with
 |[],zz=>(G3 _).symm
 |zz::U,.z=>(G3 _).symm
 |a::l,.c x r=>(congr (congrArg pC (adZ k a x)) (Ig k l r)).trans (G4 _ _ _).symm
theorem Ih (k:Int):∀(l:List Int) (C:Ci),di (sc k l) C=k*di l C:=@λA B=>match A,B with
 |[],zz=>(G3 _).symm
 |zz::U,.z=>(G3 _).symm
 |a::l,.c x r=>(congr (congrArg pC (adZ k a x)) (Ih k l r)).trans (G4 _ _ _).symm
theorem Ii:∀(i:Nat) (C:Cn),dn (un i) C=(C.g i:Nat):=@λA B=>match A,B with
 |0,.z=>rfl
 |0,.c a r=>(nc _).trans (Rd _)
 |zz+1,.z=>rfl
 |i+1,.c a r=>(congr (congrArg pC (Rf _)) (Ii i r)).trans (pz _)
theorem Ij:∀(i:Nat) (C:Ci),di (un i) C=C.g i:=@λA B=>match A,B with
 |0,.z=>rfl
 |0,.c a r=>(nc _).trans (Rd _)
 |zz+1,.z=>rfl
 |i+1,.c a r=>(congr (congrArg pC (Rf _)) (Ij i r)).trans (pz _)
section
variable {C:Cn}{D:Ci}
theorem ua (p q:P):(p.ad q).e C D=p.e C D+q.e C D:=by
 refine (?_:p.k+q.k+(dn (ad p.n q.n) C+di (ad p.i q.i) D)=_);refine ae (Ic ..) (ae (Ie ..) (ae (sw (dn p.n C) ..) (ae (sw p.k ..) ?_)));rfl
theorem nL (k:Int) (p:P):(p.sc k).e C D=k*p.e C D:=by
 refine (?_:k*p.k+(dn (sc k p.n) C+di (sc k p.i) D)=_);refine ae (Ig ..) (ae (Ih ..) (ae (G4 ..).symm (ae (G4 ..).symm ?_)));rfl
theorem j9:∀x:N,x.p.e C D=(x.e C:Nat):=@λA=>match A with
 |.v i=>(pz _).trans ((nc _).trans (Ii i C))
 |.n k=>nc _
 |.a x y=>(ua _ _).trans (congr (congrArg pC (j9 x)) (j9 y))
 |.m k x=>(nL _ _).trans (congrArg _ (j9 x))
 |.r x k=>(nL _ _).trans ((Int.mul_comm _ _).trans (congrArg (·*(k:Int)) (j9 x)))
theorem Ik (a:Int):-1*a = -a:=by exact ae (Int.neg_mul ..) (ae (Rd ..) rfl)
theorem Ck (p q:P):(p.ad (q.sc (-1))).e C D=p.e C D-q.e C D:=by refine ae (ua ..) (ae (nL ..) (ae (Ik ..) ?_));rfl
theorem jh:∀x:Z,x.p.e C D=x.e C D:=@λA=>match A with
 |.v i=>(pz _).trans ((pz _).trans (Ij i D))
 |.n k=>nc _
 |.a x y=>(ua _ _).trans (congr (congrArg pC (jh x)) (jh y))
 |.s x y=>(Ck _ _).trans (congr (congrArg HSub.hSub (jh x)) (jh y))
 |.g x=>(nL _ _).trans ((Ik _).trans (congrArg _ (jh x)))
 |.m k x=>(nL _ _).trans (congrArg _ (jh x))
 |.r x k=>(nL _ _).trans ((Int.mul_comm _ _).trans (congrArg (·*k) (jh x)))
 |.o x=>j9 x
theorem xl {p q:P}{a b:Int}(U:p.e C D=a) (V:q.e C D=b) (h:a<=b):(p.ad (q.sc (-1))).e C D<=0:=by
 refine ae (Ck ..) (ae (U ..) (ae (V ..) ?_));exact Int.sub_nonpos_of_le h
theorem Il {p q:P}{a b:Int}(U:p.e C D=a) (V:q.e C D=b) (h:a<b):((P.mk 1 [] []).ad (p.ad (q.sc (-1)))).e C D<=0:=by
 refine ae (ua ..) (ae (Ck ..) (ae (U ..) (ae (V ..) ?_)));exact Int.add_one_le_of_lt (Int.sub_neg_of_lt h) |> (λh=>by rw [Int.add_comm] at h;exact h)
theorem Im:∀x:H,x.d C D->x.p.e C D<=0:=@λA B=>match A,B with
 |.l x y,h=>xl (j9 x) (j9 y) (pD.mpr h)
 |.k x y,h=>Il (j9 x) (j9 y) (cV.mpr h)
 |.q x y,h=>xl (j9 x) (j9 y) (wt (congrArg _ h))
 |.L x y,h=>xl (jh x) (jh y) h
 |.K x y,h=>Il (jh x) (jh y) h
 |.Q x y,h=>xl (jh x) (jh y) (wt h)
end
inductive Ct
 |z
 |c (k:Nat) (h:H) (r:Ct)
noncomputable def Ct.d (C:Cn) (D:Ci) (G:Prop):Ct->Prop:=@λA=>match A with
 |.z=>G
 |.c zz h r=>h.d C D->r.d C D G
noncomputable def Ct.p:Ct->P->P:=@λA B=>match A,B with
 |.z,q=>q
 |.c k h r,q=>r.p ((h.p.sc k).ad q)
noncomputable def nn:List Int->Bool:=@λA=>match A with
 |[]=>true
 |a::l=>match a with
  |.ofNat zz=>nn l
  |.negSucc zz=>false
noncomputable def zz:List Int->Bool:=@λA=>match A with
 |[]=>true
 |a::l=>match a with
  |.ofNat k=>match k with
   |0=>zz l
   |_+1=>false
  |.negSucc zz=>false
noncomputable def P.bad (p:P):Bool:=match p.k with
 |.ofNat k=>match k with
  |0=>false
  |_+1=>(nn p.n && zz p.i)
 |.negSucc zz=>false
section
variable {C:Cn}{D:Ci}
theorem Io:∀(l:List Int) (C:Cn),nn l=true->0<=dn l C:=@λA B D=>match A,B,D with
 |[],zz,U=>qR _
 |.ofNat zz::U,.z,V=>qR _
 |.ofNat k::l,.c a r,h=>Int.add_nonneg (Int.mul_nonneg (pE k) (pE a)) (Io l r h)
 |.negSucc zz::U,V,h=>nomatch h
theorem Ip:∀(l:List Int) (C:Ci),zz l=true->di l C=0:=@λA B D=>match A,B,D with
 |[],zz,U=>rfl
 |.ofNat 0::zz,.z,U=>rfl
 |.ofNat 0::l,.c a r,h=>(congr (congrArg pC (Rf a)) (Ip l r h))
 |.ofNat (zz+1)::U,V,h=>nomatch h
 |.negSucc zz::U,V,h=>nomatch h
theorem Iq:∀{p:P},p.bad=true->p.e C D<=0->False:=@λA B F=>match A,B,F with
 |⟨.ofNat 0,zz,_⟩,h,U=>nomatch h
 |⟨.negSucc zz,U,_⟩,h,zx=>nomatch h
 |⟨.ofNat (k+1),n,i⟩,h,g=>by
  obtain ⟨V,W⟩:=kP.mp (show (nn n && zz i)=true from h);have:(0:Int)<((k+1:Nat):Int)+(dn n C+di i D):=by
   refine ae (Ip i D W ..) (ae (nc ..) ?_);exact Int.add_pos_of_pos_of_nonneg (cV.mpr (wu k)) (Io n C V)
  exact absurd g (Rg.mpr this)
theorem Ct.run {G:Prop}:∀(U:Ct) (q:P),q.e C D<=0->((U.p q).e C D<=0->G)->U.d C D G:=@λA B F H=>match A,B,F,H with
 |.z,zz,h,f=>f h
 |.c k x r,q,h,f=>λhx=>Ct.run r _ (by
   refine ae (ua ..) (ae (nL ..) ?_);exact Int.add_nonpos (ad0 (pE k) (Im x hx)) h) f
theorem Ct.weak {G:Prop}(g:G):∀U:Ct,U.d C D G:=@λA=>match A with
 |.z=>g
 |.c zz V r=>λzz=>Ct.weak g r
theorem goal {G:Prop}(n:H) (hn:¬G->n.d C D) (m:Nat) (U:Ct) (h:(U.p (n.p.sc m)).bad=true):U.d C D G:=
 (Classical.em G).elim (λg=>U.weak g) λc=>U.run _ (by
  refine ae (nL ..) ?_;exact ad0 (pE m) (Im n (hn c))) λg=>(Iq h g).elim
end
theorem no (C:Cn) (D:Ci) (U:Ct) (h:(U.p ⟨0,[],[]⟩).bad=true):U.d C D False:=U.run ⟨0,[],[]⟩ (show (0:Int)+(0+0)<=0 from qR _) (Iq h)
theorem eM (C:Cn) (D:Ci) (m:Nat) (U:Ct) (x y:N) (h:(U.p ((H.k y x).p.sc m)).bad=true):U.d C D (x.e C<=y.e C):=goal (.k y x) dg.mp m U h
theorem ji (C:Cn) (D:Ci) (m:Nat) (U:Ct) (x y:N) (h:(U.p ((H.l y x).p.sc m)).bad=true):U.d C D (x.e C<y.e C):=goal (.l y x) cW.mp m U h
theorem Cm (C:Cn) (D:Ci) (m:Nat) (U:Ct) (x y:Z) (h:(U.p ((H.K y x).p.sc m)).bad=true):U.d C D (x.e C D<=y.e C D):=goal (.K y x) Rg.mp m U h
theorem Co (C:Cn) (D:Ci) (m:Nat) (U:Ct) (x y:Z) (h:(U.p ((H.L y x).p.sc m)).bad=true):U.d C D (x.e C D<y.e C D):=goal (.L y x) kQ.mp m U h
theorem dv (e k:Nat) (h:0<k):e<e / k*k+k:=by
 refine ae (Nat.add_one_mul ..).symm ?_;exact (Nat.div_lt_iff_lt_mul h).mp (nf _)
theorem rr (e k:Int) (h:0<k):0<=e % k:=Rh e (Ri h)
noncomputable abbrev N.b:N:=.v 0
noncomputable abbrev N.c:N:=.v 1
noncomputable abbrev N.d:N:=.v 2
noncomputable abbrev N.f:N:=.v 3
noncomputable abbrev N.h:N:=.v 4
noncomputable abbrev N.i:N:=.v 5
noncomputable abbrev N.j:N:=.v 6
noncomputable abbrev N.k:N:=.v 7
noncomputable abbrev N.l:N:=.v 8
noncomputable abbrev N.w:N:=.v 9
noncomputable abbrev Z.b:Z:=.v 0
noncomputable abbrev Z.c:Z:=.v 1
noncomputable abbrev Z.d:Z:=.v 2
noncomputable abbrev Z.q:Z:=.o (.v 0)
noncomputable abbrev Z.t:Z:=.o (.v 1)
noncomputable abbrev Z.x:Z:=.o (.v 2)
noncomputable abbrev Z.y:Z:=.o (.v 3)
noncomputable abbrev Z.o4:Z:=.o (.v 4)
noncomputable abbrev N.z:N:=.n 0
noncomputable abbrev N.u:N:=.n 1
noncomputable abbrev Z.z:Z:=.n 0
noncomputable abbrev Z.u:Z:=.n 1
noncomputable abbrev N.S (x:N):N:=.a x .u
noncomputable abbrev Z.S (x:Z):Z:=.a x .u
noncomputable abbrev Z.P (x:Z):Z:=.s x .u
noncomputable abbrev Cn.c1 (a:Nat):Cn:=.c a .z
noncomputable abbrev Cn.c2 (a b:Nat):Cn:=.c a (.c1 b)
noncomputable abbrev Cn.c3 (a b c:Nat):Cn:=.c a (.c2 b c)
noncomputable abbrev Cn.c4 (a b c d:Nat):Cn:=.c a (.c3 b c d)
noncomputable abbrev Cn.c5 (a b c d e:Nat):Cn:=.c a (.c4 b c d e)
noncomputable abbrev Cn.c6 (a b c d e f:Nat):Cn:=.c a (.c5 b c d e f)
noncomputable abbrev Cn.c7 (a b c d e f g:Nat):Cn:=.c a (.c6 b c d e f g)
noncomputable abbrev Cn.c8 (a b c d e f g h:Nat):Cn:=.c a (.c7 b c d e f g h)
noncomputable abbrev Cn.c9 (a b c d e f g h i:Nat):Cn:=.c a (.c8 b c d e f g h i)
noncomputable abbrev Cn.SX (a b c d e f g h i j:Nat):Cn:=.c a (.c9 b c d e f g h i j)
noncomputable abbrev Ci.c1 (o:Int):Ci:=.c o .z
noncomputable abbrev Ci.c2 (o p:Int):Ci:=.c o (.c1 p)
noncomputable abbrev Ci.c3 (o p q:Int):Ci:=.c o (.c2 p q)
noncomputable abbrev Ct.l (x y:N):Ct:=.c 1 (.l x y) .z
noncomputable abbrev Ct.k (x y:N):Ct:=.c 1 (.k x y) .z
noncomputable abbrev Ct.q (x y:N):Ct:=.c 1 (.q x y) .z
noncomputable abbrev Ct.L (x y:Z):Ct:=.c 1 (.L x y) .z
noncomputable abbrev Ct.K (x y:Z):Ct:=.c 1 (.K x y) .z
noncomputable abbrev Ct.Q (x y:Z):Ct:=.c 1 (.Q x y) .z
noncomputable abbrev Ct.t (a b:H):Ct:=.c 1 a (.c 1 b .z)
noncomputable abbrev Ct.u (a b c:H):Ct:=.c 1 a (.t b c)
noncomputable abbrev Ct.y (a b c d:H):Ct:=.c 1 a (.u b c d)
noncomputable abbrev KG (C:Cn) (D:Ci):Prop:=∀(T:Ct) (x y:Z),(T.p ((H.L y x).p.sc 1)).bad=true->T.d C D (x.e C D<y.e C D)
theorem Kg (C:Cn) (D:Ci):KG C D:=Co C D 1
noncomputable abbrev LG (C:Cn) (D:Ci):Prop:=∀(T:Ct) (x y:Z),(T.p ((H.K y x).p.sc 1)).bad=true->T.d C D (x.e C D<=y.e C D)
theorem Lg (C:Cn) (D:Ci):LG C D:=Cm C D 1
noncomputable abbrev kG (C:Cn) (D:Ci):Prop:=∀(T:Ct) (x y:N),(T.p ((H.l y x).p.sc 1)).bad=true->T.d C D (x.e C<y.e C)
theorem kg (C:Cn) (D:Ci):kG C D:=ji C D 1
noncomputable abbrev lG (C:Cn) (D:Ci):Prop:=∀(T:Ct) (x y:N),(T.p ((H.k y x).p.sc 1)).bad=true->T.d C D (x.e C<=y.e C)
theorem lg (C:Cn) (D:Ci):lG C D:=eM C D 1
noncomputable abbrev nG (C:Cn) (D:Ci):Prop:=∀(T:Ct),(T.p ⟨0,[],[]⟩).bad=true->T.d C D False
theorem ng (C:Cn) (D:Ci):nG C D:=no C D
section
variable {a b c d e f g i j:Nat}{o p q:Int}
theorem Ir:KG .z (.c1 o):=Kg _ _
theorem SY:KG .z (.c2 o p):=Kg _ _
theorem rt:KG (.c1 a) .z:=Kg _ _
theorem pS:KG (.c1 a) (.c1 o):=Kg _ _
theorem ub:KG (.c2 a b) .z:=Kg _ _
theorem Iu:KG (.c3 a b c) .z:=Kg _ _
theorem S5:KG (.c6 a b c d e f) .z:=Kg _ _
theorem ru:LG .z (.c1 o):=Lg _ _
theorem S6:LG .z (.c3 o p q):=Lg _ _
theorem rx:LG (.c1 a) .z:=Lg _ _
theorem k8:LG (.c1 a) (.c1 o):=Lg _ _
theorem Cp:LG (.c1 a) (.c2 o p):=Lg _ _
theorem nN:LG (.c2 a b) .z:=Lg _ _
theorem iY:LG (.c2 a b) (.c1 o):=Lg _ _
theorem S7:LG (.c2 a b) (.c2 o p):=Lg _ _
theorem uc:LG (.c3 a b c) .z:=Lg _ _
theorem S8:kG .z .z:=kg _ _
theorem cF:kG (.c1 a) .z:=kg _ _
theorem S9:kG (.c1 a) (.c1 o):=kg _ _
theorem cM:kG (.c2 a b) .z:=kg _ _
theorem Iv:kG (.c2 a b) (.c1 o):=kg _ _
theorem dQ:kG (.c3 a b c) .z:=kg _ _
theorem eN:kG (.c4 a b c d) .z:=kg _ _
theorem nP:kG (.c5 a b c d e) .z:=kg _ _
theorem ud:kG (.c6 a b c d e f) .z:=kg _ _
theorem Ta:kG (.c7 a b c d e f g) .z:=kg _ _
theorem Tb:kG (.c8 a b c d e f g i) .z:=kg _ _
theorem dW:lG (.c1 a) .z:=lg _ _
theorem Iw:lG (.c1 a) (.c1 o):=lg _ _
theorem Tc:lG (.c1 a) (.c2 o p):=lg _ _
theorem cp:lG (.c2 a b) .z:=lg _ _
theorem xm:lG (.c2 a b) (.c1 o):=lg _ _
theorem bL:lG (.c3 a b c) .z:=lg _ _
theorem Te:lG (.c3 a b c) (.c2 o p):=lg _ _
theorem bJ:lG (.c4 a b c d) .z:=lg _ _
theorem dD:lG (.c5 a b c d e) .z:=lg _ _
theorem Tf:lG (.c5 a b c d e) (.c2 o p):=lg _ _
theorem fq:lG (.c6 a b c d e f) .z:=lg _ _
theorem pU:lG (.c7 a b c d e f g) .z:=lg _ _
theorem Cq:lG (.c8 a b c d e f g i) .z:=lg _ _
theorem Iy:lG (.c9 a b c d e f g i j) .z:=lg _ _
theorem Th:nG .z .z:=ng _ _
theorem Iz:nG .z (.c1 o):=ng _ _
theorem l8:nG (.c1 a) .z:=ng _ _
theorem Cr:nG (.c1 a) (.c1 o):=ng _ _
theorem Ti:nG (.c1 a) (.c2 o p):=ng _ _
theorem ka:nG (.c2 a b) .z:=ng _ _
theorem Tj:nG (.c2 a b) (.c1 o):=ng _ _
theorem xo:nG (.c3 a b c) .z:=ng _ _
theorem ue:nG (.c4 a b c d) .z:=ng _ _
theorem uf:nG (.c5 a b c d e) .z:=ng _ _
theorem IA:nG (.c6 a b c d e f) .z:=ng _ _
theorem A0 (h0:a<=b):a<=b:=cp (.l .b .c) .b .c rfl h0
theorem A1 (h0:a<b):a<=b:=cp (.k .b .c) .b .c rfl h0
theorem A2 (h0:b<a):1<=a:=cp (.k .c .b) .u .b rfl h0
theorem A3 (h0:(0:Int)<=o):(0:Int)<=o:=ru (.L .z .b) .z .b rfl h0
theorem A4 (h0:a<b):a+1<=b:=cp (.k .b .c) (.S .b) .c rfl h0
theorem A5 (h0:a<1000):a<2000:=cF (.k .b (.n 1000)) .b (.n 2000) rfl h0
theorem A6 :0<=a:=dW .z .z .b rfl
theorem A7 (h0:a<b) (U:b<1000):a<16777216:=cM (.t (.k .b .c) (.k .c (.n 1000))) .b (.n 16777216) rfl h0 U
theorem A8 (h0:a+b<c):a+(b+1)<=c:=bL (.k (.a .b .c) .d) (.a .b (.S .c)) .d rfl h0
theorem A9 (h0:a+b<c):a+b<=c:=bL (.k (.a .b .c) .d) (.a .b .c) .d rfl h0
theorem ry (h0:b+a=c):a+b<=c:=bL (.q (.a .c .b) .d) (.a .b .c) .d rfl h0
theorem rz (h0:a=c+b):a<=b+c:=bL (.q .b (.a .d .c)) .b (.a .c .d) rfl h0
theorem rA :a+(b+1)<=a+1+b:=cp .z (.a .b (.S .c)) (.a (.S .b) .c) rfl
theorem rB :a+1+b<=a+(b+1):=cp .z (.a (.S .b) .c) (.a .b (.S .c)) rfl
theorem rC (h0:a<60):a<1000:=cF (.k .b (.n 60)) .b (.n 1000) rfl h0
theorem rD :a<=a+b:=cp .z .b (.a .b .c) rfl
theorem rE (h0:a<=c) (U:c<=b):a<=b:=bL (.t (.l .b .d) (.l .d .c)) .b .c rfl h0 U
theorem rF (h0:a<1000):a<=1000:=dW (.k .b (.n 1000)) .b (.n 1000) rfl h0
theorem rG (h0:(a:Int)<=o):(a:Int)<=o:=k8 (.L .q .b) .q .b rfl h0
theorem rH (h0:(a:Int)<=o):(0:Int)<=o:=k8 (.L .q .b) .z .b rfl h0
theorem rI (h0:b<b+a):0<a:=cM (.k .c (.a .c .b)) .z .b rfl h0
theorem ug (h0:a=b):a<=b:=cp (.q .b .c) .b .c rfl h0
theorem uh (h0:a<b):a<b:=cM (.k .b .c) .b .c rfl h0
theorem ui :(0:Int)<=(a:Int):=rx .z .z .q rfl
theorem uj (h0:a+b<=c):a+b<=c:=bL (.l (.a .b .c) .d) (.a .b .c) .d rfl h0
theorem uk (h0:a=b+1):a<=b+1:=cp (.q .b (.S .c)) .b (.S .c) rfl h0
theorem um :1<=a+1:=dW .z .u (.S .b) rfl
theorem uo (h0:a+c<=b):a<=b:=bL (.l (.a .b .d) .c) .b .c rfl h0
theorem ur (h0:0<a):1<=a:=dW (.k .z .b) .u .b rfl h0
theorem xq (h0:(0:Int)<=o):(0:Int)<=3+o:=ru (.L .z .b) .z (.a (.n 3) .b) rfl h0
theorem xu (h0:(0:Int)<=o):(0:Int)<=1+o:=ru (.L .z .b) .z (.a .u .b) rfl h0
theorem xw (h0:a<100):a<16777216:=cF (.k .b (.n 100)) .b (.n 16777216) rfl h0
theorem xx (h0:a<b):(a:Int)<(b:Int):=ub (.k .b .c) .q .t rfl h0
theorem xy (h0:a<b):a+1<=b+1:=cp (.k .b .c) (.S .b) (.S .c) rfl h0
theorem xA (h0:c=b) (U:a<=c):a<=b:=bL (.t (.q .d .c) (.l .b .d)) .b .c rfl h0 U
theorem xB (h0:a+b<=c) (U:0<b) (V:c<=a):False:=xo (.u (.l (.a .b .c) .d) (.k .z .c) (.l .d .b)) rfl h0 U V
theorem xC (h0:b+c+1=a):1<=0+a:=bL (.q (.S (.a .c .d)) .b) .u (.a .z .b) rfl h0
theorem xD (h0:a<=b+(c+1)):a<=b+1+c:=bL (.l .b (.a .c (.S .d))) .b (.a (.S .c) .d) rfl h0
theorem xE (h0:c<d+b) (U:a+d=c):a<b:=eN (.t (.k .d (.a .f .c)) (.q (.a .b .f) .d)) .b .c rfl h0 U
theorem xF (h0:a+2000*b<=150000):a<=200000:=cp (.l (.a .b (.m 2000 .c)) (.n 150000)) .b (.n 200000) rfl h0
theorem xG :a<=a+(b+c)+d:=bJ .z .b (.a (.a .b (.a .c .d)) .f) rfl
theorem xH (h0:a+b+c+e<=d):a+b+c<=d:=dD (.l (.a (.a (.a .b .c) .d) .h) .f) (.a (.a .b .c) .d) .f rfl h0
theorem xI (h0:c<=b) (U:d+e<=c) (V:(a:Int)=(d:Int)-1):a<b:=nP (.u (.l .d .c) (.l (.a .f .h) .d) (.Q .q (.P .y))) .b .c rfl h0 U V
theorem xJ (h0:o<(a:Int)):o<((a+1:Nat):Int):=pS (.K .b .q) .b (.o (.S .b)) rfl h0
theorem Cs (h0:o<=(b:Int)) (U:(a:Int)=o):a<=b:=xm (.t (.L .b .t) (.Q .q .b)) .b .c rfl h0 U
theorem Cu (h0:a+1<b):a<=b:=cp (.k (.S .b) .c) .b .c rfl h0
theorem IB (h0:a+(b+1)<c):a+1+b<c:=dQ (.k (.a .b (.S .c)) .d) (.a (.S .b) .c) .d rfl h0
theorem Cv (h0:a<4):a<16777216:=cF (.k .b (.n 4)) .b (.n 16777216) rfl h0
theorem Cw (h0:a<=5):a<=16777216:=dW (.l .b (.n 5)) .b (.n 16777216) rfl h0
theorem Cy (h0:c=b) (U:d+1=c+e) (V:a+(e+1)=d+1):a<b:=nP (.u (.q .d .c) (.q (.S .f) (.a .d .h)) (.q (.a .b (.S .h)) (.S .f))) .b .c rfl h0 U V
theorem Cz (h0:a<b):a<=b+1:=cp (.k .b .c) .b (.S .c) rfl h0
theorem CA (h0:a+1=b):a+1<=b:=cp (.q (.S .b) .c) (.S .b) .c rfl h0
theorem CB (h0:a<b) (U:b<a):False:=ka (.t (.k .b .c) (.k .c .b)) rfl h0 U
theorem CC (h0:b<1000) (U:c+a=d) (V:d<=b):a<=1000:=bJ (.u (.k .c (.n 1000)) (.q (.a .d .b) .f) (.l .f .c)) .b (.n 1000) rfl h0 U V
theorem CD :((-4611686018427387904):Int)<(a:Int):=rt .z (.g (.n 4611686018427387904)) .q rfl
theorem CE (h0:a+d<=c) (U:e<=d) (V:b<e):a+b<c:=nP (.u (.l (.a .b .f) .d) (.l .h .f) (.k .c .h)) (.a .b .c) .d rfl h0 U V
theorem CF (h0:a<c) (U:c=b+1):a<=b:=bL (.t (.k .b .d) (.q .d (.S .c))) .b .c rfl h0 U
theorem CG (h0:a<=c):a<=b+c:=bL (.l .b .d) .b (.a .c .d) rfl h0
theorem CH (h0:a<=b+1):a<=b+1:=cp (.l .b (.S .c)) .b (.S .c) rfl h0
theorem CI (h0:o<((a+1:Nat):Int)):o<=(a:Int):=k8 (.K .b (.o (.S .b))) .b .q rfl h0
theorem IC (h0:a+(b+1)<=c):a+b<c:=dQ (.l (.a .b (.S .c)) .d) (.a .b .c) .d rfl h0
theorem ID (h0:a+(b+1)<=c):a+b<=c:=bL (.l (.a .b (.S .c)) .d) (.a .b .c) .d rfl h0
theorem IE (h0:0<a) (U:b<=c) (V:c+a<=d+e) (W:d+e<=b):False:=uf (.y (.k .z .b) (.l .c .d) (.l (.a .d .b) (.a .f .h)) (.l (.a .f .h) .c)) rfl h0 U V W
theorem IF (h0:0<a) (U:b+a<=c) (V:d<=b) (W:c<=d):False:=ue (.y (.k .z .b) (.l (.a .c .b) .d) (.l .f .c) (.l .d .f)) rfl h0 U V W
theorem IG (h0:0<c) (U:a+c<=b):a<=b:=bL (.t (.k .z .d) (.l (.a .b .d) .c)) .b .c rfl h0 U
theorem II :((-9223372036854775808):Int)<=(a:Int):=rx .z (.g (.n 9223372036854775808)) .q rfl
theorem IJ (h0:3<=a):(0:Int)<(a:Int)-2:=rt (.l (.n 3) .b) .z (.s .q (.n 2)) rfl h0
theorem IK (h0:(a:Int)=o) (U:o<4):a<4:=S9 (.t (.Q .q .b) (.K .b (.n 4))) .b (.n 4) rfl h0 U
theorem IL (h0:(a:Int)=o):(a:Int)<=o:=k8 (.Q .q .b) .q .b rfl h0
theorem IM (h0:o=(a:Int)):o<=(a:Int):=k8 (.Q .b .q) .b .q rfl h0
theorem IP (h0:a+1<b):a+1<=b:=cp (.k (.S .b) .c) (.S .b) .c rfl h0
theorem Tn (h0:a+3*(b+1)+64<c):a+3+3*b+64<c:=dQ (.k (.a (.a .b (.m 3 (.S .c))) (.n 64)) .d) (.a (.a (.a .b (.n 3)) (.m 3 .c)) (.n 64)) .d rfl h0
theorem IQ (h0:a<=b):(a:Int)<=(b:Int):=nN (.l .b .c) .q .t rfl h0
theorem IS (h0:a<b) (U:(b:Int)=(a:Int)):False:=ka (.t (.k .b .c) (.Q .t .q)) rfl h0 U
theorem IT (h0:(a:Int)=(b:Int)):a<=b:=cp (.Q .q .t) .b .c rfl h0
theorem IU (h0:b<60) (U:a=b):a<1000:=cM (.t (.k .c (.n 60)) (.q .b .c)) .b (.n 1000) rfl h0 U
theorem IV (h0:a+1000*b+1000<90000):a<90000:=cM (.k (.a (.a .b (.m 1000 .c)) (.n 1000)) (.n 90000)) .b (.n 90000) rfl h0
theorem IW (h0:a<=c) (U:0<d) (V:c+d<=b):a<=b:=bJ (.u (.l .b .d) (.k .z .f) (.l (.a .d .f) .c)) .b .c rfl h0 U V
theorem IX (h0:a<=c) (U:c+d=d+b):a<=b:=bJ (.t (.l .b .d) (.q (.a .d .f) (.a .f .c))) .b .c rfl h0 U
theorem IY (h0:a+c<b):a<=b:=bL (.k (.a .b .d) .c) .b .c rfl h0
theorem IZ (h0:b<c):a+b<a+c:=dQ (.k .c .d) (.a .b .c) (.a .b .d) rfl h0
theorem I0 (h0:a<1):a<=0:=dW (.k .b .u) .b .z rfl h0
theorem I1 :(1:Int)<(a:Int)+1+1:=rt .z .u (.S (.S .q)) rfl
theorem I2 (h0:a<16777216):(a:Int)<9223372036854775808:=rt (.k .b (.n 16777216)) .q (.n 9223372036854775808) rfl h0
theorem I3 :(a:Int)<((a+1:Nat):Int):=rt .z .q (.o (.S .b)) rfl
theorem I4 (h0:b+c<d) (U:d=a+(b+c)):1<=a:=bJ (.t (.k (.a .c .d) .f) (.q .f (.a .b (.a .c .d)))) .u .b rfl h0 U
theorem I5 (h0:c+a=b):a<=b:=bL (.q (.a .d .b) .c) .b .c rfl h0
theorem I6 (h0:a<=63):a<=16777216:=dW (.l .b (.n 63)) .b (.n 16777216) rfl h0
theorem I7 :a+(b+c)<=b+(a+c):=bL .z (.a .b (.a .c .d)) (.a .c (.a .b .d)) rfl
theorem I8 (h0:a+d=e) (U:f=b+d) (V:e=c+f):a<=b+c:=fq (.u (.q (.a .b .f) .h) (.q .i (.a .c .f)) (.q .h (.a .d .i))) .b (.a .c .d) rfl h0 U V
theorem I9 (h0:d=c+e) (U:a+e=f) (V:b+f=d):a+b<=c:=fq (.u (.q .f (.a .d .h)) (.q (.a .b .h) .i) (.q (.a .c .i) .f)) (.a .b .c) .d rfl h0 U V
theorem Ja (h0:c=b) (U:a+d<=c):a<=b:=bJ (.t (.q .d .c) (.l (.a .b .f) .d)) .b .c rfl h0 U
theorem Jb (h0:0<c) (U:a+c<=b):a<b:=dQ (.t (.k .z .d) (.l (.a .b .d) .c)) .b .c rfl h0 U
theorem Jc (h0:(a:Int)=(b:Int)) (U:b<a):False:=ka (.t (.Q .q .t) (.k .c .b)) rfl h0 U
theorem Jd (h0:b<1000) (U:a<b):a<16777216:=cM (.t (.k .c (.n 1000)) (.k .b .c)) .b (.n 16777216) rfl h0 U
theorem Je (h0:a<1000):a<16777216:=cF (.k .b (.n 1000)) .b (.n 16777216) rfl h0
theorem Jf :(0:Int)<=(a:Int)-0:=rx .z .z (.s .q .z) rfl
theorem Jg (h0:a+(c+1)=b):a<b:=dQ (.q (.a .b (.S .d)) .c) .b .c rfl h0
theorem Jh (h0:a+(b+1)=c):a+1+b<=c:=bL (.q (.a .b (.S .c)) .d) (.a (.S .b) .c) .d rfl h0
theorem Ji (h0:a=b+(c+1)):a<=b+1+c:=bL (.q .b (.a .c (.S .d))) .b (.a (.S .c) .d) rfl h0
theorem Jj (h0:b=a):(-(a:Int))<=(-(b:Int)):=nN (.q .c .b) (.g .q) (.g .t) rfl h0
theorem Jk (h0:(-(a:Int))=(-(b:Int))) (U:a<b):False:=ka (.t (.Q (.g .q) (.g .t)) (.k .b .c)) rfl h0 U
theorem Jl (h0:b<=c) (U:d+a=b) (V:c<1000):a<1000:=eN (.u (.l .c .d) (.q (.a .f .b) .c) (.k .d (.n 1000))) .b (.n 1000) rfl h0 U V
theorem Jm (h0:a+c+1=d) (U:0+d=b+1):a<=b:=bJ (.t (.q (.S (.a .b .d)) .f) (.q (.a .z .f) (.S .c))) .b .c rfl h0 U
theorem Jn (h0:(a:Int)<=o) (U:o=(b:Int)):a<=b:=xm (.t (.L .q .b) (.Q .b .t)) .b .c rfl h0 U
theorem Jo (h0:a<c) (U:d+c=b+d):a<b:=eN (.t (.k .b .d) (.q (.a .f .d) (.a .c .f))) .b .c rfl h0 U
theorem Jp (h0:0<b) (U:0<c) (V:b+(d+c)=a):0<a:=eN (.u (.k .z .c) (.k .z .d) (.q (.a .c (.a .f .d)) .b)) .z .b rfl h0 U V
theorem Jq (h0:0<b):a<a+b:=cM (.k .z .c) .b (.a .b .c) rfl h0
theorem Jr (h0:a+d<=c) (U:b<d):a+b<c:=eN (.t (.l (.a .b .f) .d) (.k .c .f)) (.a .b .c) .d rfl h0 U
theorem Js (h0:a<b) (U:c+d=e+a) (V:e+b<=c):False:=uf (.u (.k .b .c) (.q (.a .d .f) (.a .h .b)) (.l (.a .h .c) .d)) rfl h0 U V
theorem Jt (h0:b+a=c):a+b<=c+0:=bL (.q (.a .c .b) .d) (.a .b .c) (.a .d .z) rfl h0
theorem Ju (h0:a=c+b):a+0<=b+c:=bL (.q .b (.a .d .c)) (.a .b .z) (.a .c .d) rfl h0
theorem Jv (h0:d<=c) (U:a+b=d):a+b<=c:=bJ (.t (.l .f .d) (.q (.a .b .c) .f)) (.a .b .c) .d rfl h0 U
theorem Jw (h0:c=b) (U:a<c):a<b:=dQ (.t (.q .d .c) (.k .b .d)) .b .c rfl h0 U
theorem Jx (h0:c+d<=b) (U:a<c):a<=b:=bJ (.t (.l (.a .d .f) .c) (.k .b .d)) .b .c rfl h0 U
theorem Jy (h0:a<=c) (U:c+d<b):a<=b:=bJ (.t (.l .b .d) (.k (.a .d .f) .c)) .b .c rfl h0 U
theorem Jz (h0:a<=13):a<100:=cF (.l .b (.n 13)) .b (.n 100) rfl h0
theorem JA (h0:a<=65):a<1000:=cF (.l .b (.n 65)) .b (.n 1000) rfl h0
theorem JB (h0:a+c<b):a<b:=dQ (.k (.a .b .d) .c) .b .c rfl h0
theorem JC (h0:b<200) (U:a<=b):a<1000:=cM (.t (.k .c (.n 200)) (.l .b .c)) .b (.n 1000) rfl h0 U
theorem JD (h0:a<=65):a<=1000:=dW (.l .b (.n 65)) .b (.n 1000) rfl h0
theorem JE (h0:a<=13):a<60:=cF (.l .b (.n 13)) .b (.n 60) rfl h0
theorem JF (h0:a<=65):a<500:=cF (.l .b (.n 65)) .b (.n 500) rfl h0
theorem JG (h0:3<=a) (U:a=0):False:=l8 (.t (.l (.n 3) .b) (.q .b .z)) rfl h0 U
theorem JH (h0:b<=13) (U:a=b):a<=13:=cp (.t (.l .c (.n 13)) (.q .b .c)) .b (.n 13) rfl h0 U
theorem JI (h0:a<=13):a<1000:=cF (.l .b (.n 13)) .b (.n 1000) rfl h0
theorem JJ (h0:d+b<=c) (U:a+1=d):a+(b+1)<=c:=bJ (.t (.l (.a .f .c) .d) (.q (.S .b) .f)) (.a .b (.S .c)) .d rfl h0 U
theorem JK (h0:b+c=d+a) (U:d+1=b):1<=a:=bJ (.t (.q (.a .c .d) (.a .f .b)) (.q (.S .f) .c)) .u .b rfl h0 U
theorem JL (h0:a+1<a):False:=l8 (.k (.S .b) .b) rfl h0
theorem JM (h0:a+1=a):False:=l8 (.q (.S .b) .b) rfl h0
theorem JN (h0:0<a) (U:a=0):False:=l8 (.t (.k .z .b) (.q .b .z)) rfl h0 U
theorem JO :a+(b+(c+d))<=a+b+c+d:=bJ .z (.a .b (.a .c (.a .d .f))) (.a (.a (.a .b .c) .d) .f) rfl
theorem JP :a+b+c+d<=a+(b+(c+d)):=bJ .z (.a (.a (.a .b .c) .d) .f) (.a .b (.a .c (.a .d .f))) rfl
theorem JQ (h0:a+(b+c)<=d):a+b+c<=d:=bJ (.l (.a .b (.a .c .d)) .f) (.a (.a .b .c) .d) .f rfl h0
theorem JR (h0:0<e) (U:b+(c+e)=d):a+b+c<=a+d:=dD (.t (.k .z .h) (.q (.a .c (.a .d .h)) .f)) (.a (.a .b .c) .d) (.a .b .f) rfl h0 U
theorem JS (h0:b=c+(d+e)):a+b<=a+c+d+e:=dD (.q .c (.a .d (.a .f .h))) (.a .b .c) (.a (.a (.a .b .d) .f) .h) rfl h0
theorem JT (h0:b+(c+d)=e):a+b+c+d<=a+e:=dD (.q (.a .c (.a .d .f)) .h) (.a (.a (.a .b .c) .d) .f) (.a .b .h) rfl h0
theorem JU (h0:b<=c):a+b<=a+c:=bL (.l .c .d) (.a .b .c) (.a .b .d) rfl h0
theorem JV (h0:a+(b+d)=c):a+b<=c:=bJ (.q (.a .b (.a .c .f)) .d) (.a .b .c) .d rfl h0
theorem JW (h0:a=b+c+d+e):a<=b+(c+(d+e)):=dD (.q .b (.a (.a (.a .c .d) .f) .h)) .b (.a .c (.a .d (.a .f .h))) rfl h0
theorem JX (h0:a+b+c+d=e):a+(b+(c+d))<=e:=dD (.q (.a (.a (.a .b .c) .d) .f) .h) (.a .b (.a .c (.a .d .f))) .h rfl h0
theorem JY (h0:a+(b+f)=e) (U:c+d<=f):a+(b+c)+d<=e:=fq (.t (.q (.a .b (.a .c .i)) .h) (.l (.a .d .f) .i)) (.a (.a .b (.a .c .d)) .f) .h rfl h0 U
theorem JZ (h0:c+(a+d)+e=b+c):a<=b:=dD (.q (.a (.a .d (.a .b .f)) .h) (.a .c .d)) .b .c rfl h0
theorem J0 (h0:a+b+d+e<=c):a+b<=c:=dD (.l (.a (.a (.a .b .c) .f) .h) .d) (.a .b .c) .d rfl h0
theorem J1 (h0:a=0+d) (U:d+b<=c):a+b<=c:=bJ (.t (.q .b (.a .z .f)) (.l (.a .f .c) .d)) (.a .b .c) .d rfl h0 U
theorem J2 (h0:b<d) (U:a+d<=c):a+b<c:=eN (.t (.k .c .f) (.l (.a .b .f) .d)) (.a .b .c) .d rfl h0 U
theorem J3 (h0:a<=0):a<=0:=dW (.l .b .z) .b .z rfl h0
theorem J4 (h0:a=b+1):(a:Int)-1<=(b:Int):=nN (.q .b (.S .c)) (.P .q) .t rfl h0
theorem J5 (h0:a+1=b):(a:Int)<=(b:Int)-1:=nN (.q (.S .b) .c) .q (.P .t) rfl h0
theorem J6 (h0:a<c) (U:(c:Int)-1=(b:Int)):a<=b:=bL (.t (.k .b .d) (.Q (.P .x) .t)) .b .c rfl h0 U
theorem J7 (h0:d+b<=c) (U:(a:Int)=(d:Int)-1):a+(b+1)<=c:=bJ (.t (.l (.a .f .c) .d) (.Q .q (.P .y))) (.a .b (.S .c)) .d rfl h0 U
theorem J8 (h0:a<=b):a<=b+1:=cp (.l .b .c) .b (.S .c) rfl h0
theorem J9 (h0:(b:Int)+(a:Int)<=o):(0:Int)<=o-(a:Int):=iY (.L (.a .t .q) .b) .z (.s .b .q) rfl h0
theorem Ka (h0:(a:Int)+(c:Int)<=(b:Int)+(c:Int)):a<=b:=bL (.L (.a .q .x) (.a .t .x)) .b .c rfl h0
end
end Internal.Lin
end
section
namespace Internal.El
theorem aa {P:Prop}{Q:Prop}{G:Prop}(h:P/\Q) (k:P->Q->G):G:=by
 obtain ⟨h0,U⟩:=h;exact k h0 U
theorem ea {α:Type}{P:α->Prop}{G:Prop}(h:∃a,P a) (k:∀a,P a->G):G:=by
 obtain ⟨a,U⟩:=h;exact k a U
theorem cg {P:Prop}{Q:Prop}{R:Prop}{G:Prop}(h:P/\Q/\R) (k:P->Q->R->G):G:=by
 obtain ⟨h0,U,V⟩:=h;exact k h0 U V
theorem ar {α:Type}{P:α->Prop}{Q:α->Prop}{G:Prop}(h:∃a,P a/\Q a) (k:∀a,P a->Q a->G):G:=by
 obtain ⟨a,U,V⟩:=h;exact k a U V
theorem uu {α β:Type}{P:α->β->Prop}{G:Prop}(h:∃a,∃b,P a b) (k:∀a,∀b,P a b->G):G:=by
 obtain ⟨a,b,U⟩:=h;exact k a b U
theorem l9 {P:Prop}{Q:Prop}{R:Prop}{S:Prop}{G:Prop}(h:P/\Q/\R/\S) (k:P->Q->R->S->G):G:=by
 obtain ⟨h0,U,V,W⟩:=h;exact k h0 U V W
theorem xK {α:Type}{P:Prop}{Q:α->Prop}{R:α->Prop}{G:Prop}(h:P/\∃a,Q a/\R a) (k:P->∀a,Q a->R a->G):G:=by
 obtain ⟨h0,a,U,V⟩:=h;exact k h0 a U V
theorem ef {α:Type}{P:α->Prop}{Q:α->Prop}{R:α->Prop}{G:Prop}(h:∃a,P a/\Q a/\R a) (k:∀a,P a->Q a->R a->G):G:=by
 obtain ⟨a,U,V,W⟩:=h;exact k a U V W
theorem dX {α β:Type}{P:α->β->Prop}{Q:α->β->Prop}{G:Prop}(h:∃a,∃b,P a b/\Q a b) (k:∀a,∀b,P a b->Q a b->G):G:=by
 obtain ⟨a,b,U,V⟩:=h;exact k a b U V
theorem pV {α β U:Type}{P:α->β->U->Prop}{G:Prop}(h:∃a,∃b,∃c,P a b c) (k:∀a,∀b,∀c,P a b c->G):G:=by
 obtain ⟨a,b,c,V⟩:=h;exact k a b c V
theorem CJ {P:Prop}{Q:Prop}{R:Prop}{S:Prop}{T:Prop}{G:Prop}(h:P/\Q/\R/\S/\T) (k:P->Q->R->S->T->G):G:=by
 obtain ⟨h0,U,V,W,h4⟩:=h;exact k h0 U V W h4
theorem gk {α:Type}{P:α->Prop}{Q:α->Prop}{R:α->Prop}{S:α->Prop}{G:Prop}(h:∃a,P a/\Q a/\R a/\S a) (k:∀a,P a->Q a->R a->S a->G):G:=by
 obtain ⟨a,U,V,W,h4⟩:=h;exact k a U V W h4
theorem aO {α β:Type}{P:α->β->Prop}{Q:α->β->Prop}{R:α->β->Prop}{G:Prop}(h:∃a,∃b,P a b/\Q a b/\R a b) (k:∀a,∀b,P a b->Q a b->R a b->G):G:=by
 obtain ⟨a,b,U,V,W⟩:=h;exact k a b U V W
theorem ma {α β U:Type}{P:α->β->U->Prop}{Q:α->β->U->Prop}{G:Prop}(h:∃a,∃b,∃c,P a b c/\Q a b c) (k:∀a,∀b,∀c,P a b c->Q a b c->G):G:=by
 obtain ⟨a,b,c,V,W⟩:=h;exact k a b c V W
theorem k9 {P:Prop}{Q:Prop}{R:Prop}{S:Prop}{T:Prop}{U:Prop}{G:Prop}(h:P/\Q/\R/\S/\T/\U) (k:P->Q->R->S->T->U->G):G:=by
 obtain ⟨h0,V,W,h3,h4,h5⟩:=h;exact k h0 V W h3 h4 h5
theorem CK {α:Type}{P:α->Prop}{Q:α->Prop}{R:α->Prop}{S:α->Prop}{T:α->Prop}{G:Prop}(h:∃a,P a/\Q a/\R a/\S a/\T a) (k:∀a,P a->Q a->R a->S a->T a->G):G:=by
 obtain ⟨a,U,V,W,h4,h5⟩:=h;exact k a U V W h4 h5
theorem nQ {α β:Type}{P:α->β->Prop}{Q:α->β->Prop}{R:α->β->Prop}{S:α->β->Prop}{G:Prop}(h:∃a,∃b,P a b/\Q a b/\R a b/\S a b) (k:∀a,∀b,P a b->Q a b->R a b->S a b->G):G:=by
 obtain ⟨a,b,U,V,W,h5⟩:=h;exact k a b U V W h5
theorem dM {α β U:Type}{P:α->β->U->Prop}{Q:α->β->U->Prop}{R:α->β->U->Prop}{G:Prop}(h:∃a,∃b,∃c,P a b c/\Q a b c/\R a b c) (k:∀a,∀b,∀c,P a b c->Q a b c->R a b c->G):G:=by
 obtain ⟨a,b,c,V,W,h5⟩:=h;exact k a b c V W h5
theorem uv {α β U:Type}{P:Prop}{Q:Prop}{R:α->β->U->Prop}{S:α->β->U->Prop}{G:Prop}(h:P/\Q/\∃a,∃b,∃c,R a b c/\S a b c) (k:P->Q->∀a,∀b,∀c,R a b c->S a b c->G):G:=by
 obtain ⟨h0,V,a,b,c,W,h6⟩:=h;exact k h0 V a b c W h6
theorem rK {α β:Type}{P:α->β->Prop}{Q:α->β->Prop}{R:α->β->Prop}{S:α->β->Prop}{T:α->β->Prop}{G:Prop}(h:∃a,∃b,P a b/\Q a b/\R a b/\S a b/\T a b) (k:∀a,∀b,P a b->Q a b->R a b->S a b->T a b->G):G:=by
 obtain ⟨a,b,U,V,W,h5,h6⟩:=h;exact k a b U V W h5 h6
theorem fS {α β U:Type}{P:α->β->U->Prop}{Q:α->β->U->Prop}{R:α->β->U->Prop}{S:α->β->U->Prop}{G:Prop}(h:∃a,∃b,∃c,P a b c/\Q a b c/\R a b c/\S a b c) (k:∀a,∀b,∀c,P a b c->Q a b c->R a b c->S a b c->G):G:=by
 obtain ⟨a,b,c,V,W,h5,h6⟩:=h;exact k a b c V W h5 h6
theorem iZ {α β U V:Type}{P:α->β->U->V->Prop}{Q:α->β->U->V->Prop}{R:α->β->U->V->Prop}{G:Prop}(h:∃a,∃b,∃c,∃d,P a b c d/\Q a b c d/\R a b c d) (k:∀a,∀b,∀c,∀d,P a b c d->Q a b c d->R a b c d->G):G:=by
 obtain ⟨a,b,c,d,W,h5,h6⟩:=h;exact k a b c d W h5 h6
theorem CL {α β U V W:Type}{P:α->β->U->V->W->Prop}{Q:α->β->U->V->W->Prop}{G:Prop}(h:∃a,∃b,∃c,∃d,∃e,P a b c d e/\Q a b c d e) (k:∀a,∀b,∀c,∀d,∀e,P a b c d e->Q a b c d e->G):G:=by
 obtain ⟨a,b,c,d,e,h5,h6⟩:=h;exact k a b c d e h5 h6
theorem xM {α β U:Type}{P:α->β->U->Prop}{Q:α->β->U->Prop}{R:α->β->U->Prop}{S:α->β->U->Prop}{T:α->β->U->Prop}{G:Prop}(h:∃a,∃b,∃c,P a b c/\Q a b c/\R a b c/\S a b c/\T a b c) (k:∀a,∀b,∀c,P a b c->Q a b c->R a b c->S a b c->T a b c->G):G:=by
 obtain ⟨a,b,c,V,W,h5,h6,h7⟩:=h;exact k a b c V W h5 h6 h7
theorem lh {α β U V:Type}{P:α->β->U->V->Prop}{Q:α->β->U->V->Prop}{R:α->β->U->V->Prop}{S:α->β->U->V->Prop}{G:Prop}(h:∃a,∃b,∃c,∃d,P a b c d/\Q a b c d/\R a b c d/\S a b c d) (k:∀a,∀b,∀c,∀d,P a b c d->Q a b c d->R a b c d->S a b c d->G):G:=by
 obtain ⟨a,b,c,d,W,h5,h6,h7⟩:=h;exact k a b c d W h5 h6 h7
theorem CM {α β U V:Type}{P:α->Prop}{Q:α->β->U->V->Prop}{R:α->β->U->V->Prop}{S:α->β->U->V->Prop}{T:α->β->U->V->Prop}{G:Prop}(h:∃a,P a/\∃b,∃c,∃d,Q a b c d/\R a b c d/\S a b c d/\T a b c d) (k:∀a,P a->∀b,∀c,∀d,Q a b c d->R a b c d->S a b c d->T a b c d->G):G:=by
 obtain ⟨a,W,b,c,d,h5,h6,h7,h8⟩:=h;exact k a W b c d h5 h6 h7 h8
theorem CN {α β U V W:Type}{P:α->β->U->V->W->Prop}{Q:α->β->U->V->W->Prop}{R:α->β->U->V->W->Prop}{S:α->β->U->V->W->Prop}{G:Prop}(h:∃a,∃b,∃c,∃d,∃e,P a b c d e/\Q a b c d e/\R a b c d e/\S a b c d e) (k:∀a,∀b,∀c,∀d,∀e,P a b c d e->Q a b c d e->R a b c d e->S a b c d e->G):G:=by
 obtain ⟨a,b,c,d,e,h5,h6,h7,h8⟩:=h;exact k a b c d e h5 h6 h7 h8
theorem ns {α:Type}{a:α}{G:Prop}(h:wx=some a):G:=nomatch h
theorem sn {α:Type}{a:α}{G:Prop}(h:some a=wx):G:=nomatch h
theorem nm {α:Type}{a:α}{G:Prop}(h:a∈([]:List α)):G:=nomatch h
theorem ft {G:Prop}(h:false=true):G:=nomatch h
theorem tf {G:Prop}(h:true=false):G:=nomatch h
theorem cn {α:Type}{a:α}{l:List α}{G:Prop}(h:a::l=[]):G:=nomatch h
theorem zs {n:Nat}{G:Prop}(h:0=n+1):G:=nomatch h
theorem sz {n:Nat}{G:Prop}(h:n+1=0):G:=nomatch h
theorem aL {P:Prop}{Q:Prop}{R:Prop}(h0:P) (U:Q) (V:R):P/\Q/\R:=⟨h0,U,V⟩
theorem av {A:Type}{P:A->Prop}{Q:A->Prop}(a:A) (U:P a) (V:Q a):∃a,P a/\Q a:=⟨a,U,V⟩
theorem Kb {A B:Type}{P:A->B->Prop}(a:A) (b:B) (U:P a b):∃a,∃b,P a b:=⟨a,b,U⟩
theorem cB {P:Prop}{Q:Prop}{R:Prop}{S:Prop}(h0:P) (U:Q) (V:R) (W:S):P/\Q/\R/\S:=⟨h0,U,V,W⟩
theorem dq {A:Type}{P:A->Prop}{Q:A->Prop}{R:A->Prop}(a:A) (U:P a) (V:Q a) (W:R a):∃a,P a/\Q a/\R a:=⟨a,U,V,W⟩
theorem iC {A B:Type}{P:A->B->Prop}{Q:A->B->Prop}(a:A) (b:B) (U:P a b) (V:Q a b):∃a,∃b,P a b/\Q a b:=⟨a,b,U,V⟩
theorem CO {A B C:Type}{P:A->B->C->Prop}(a:A) (b:B) (c:C) (U:P a b c):∃a,∃b,∃c,P a b c:=⟨a,b,c,U⟩
theorem nR {P:Prop}{Q:Prop}{R:Prop}{S:Prop}{T:Prop}(h0:P) (U:Q) (V:R) (W:S) (h4:T):P/\Q/\R/\S/\T:=⟨h0,U,V,W,h4⟩
theorem rL {A B:Type}{P:Prop}{Q:A->B->Prop}{R:A->B->Prop}(h0:P) (a:A) (b:B) (U:Q a b) (V:R a b):P/\∃a,∃b,Q a b/\R a b:=⟨h0,a,b,U,V⟩
theorem jH {A:Type}{P:A->Prop}{Q:A->Prop}{R:A->Prop}{S:A->Prop}(a:A) (U:P a) (V:Q a) (W:R a) (h4:S a):∃a,P a/\Q a/\R a/\S a:=⟨a,U,V,W,h4⟩
theorem md {A B:Type}{P:A->Prop}{Q:A->Prop}{R:A->B->Prop}(a:A) (U:P a) (V:Q a) (b:B) (W:R a b):∃a,P a/\Q a/\∃b,R a b:=⟨a,U,V,b,W⟩
theorem bQ {A B:Type}{P:A->B->Prop}{Q:A->B->Prop}{R:A->B->Prop}(a:A) (b:B) (U:P a b) (V:Q a b) (W:R a b):∃a,∃b,P a b/\Q a b/\R a b:=⟨a,b,U,V,W⟩
theorem Kc {A B C:Type}{P:A->B->C->Prop}{Q:A->B->C->Prop}(a:A) (b:B) (c:C) (U:P a b c) (V:Q a b c):∃a,∃b,∃c,P a b c/\Q a b c:=⟨a,b,c,U,V⟩
theorem xN {P:Prop}{Q:Prop}{R:Prop}{S:Prop}{T:Prop}{U:Prop}(h0:P) (V:Q) (W:R) (h3:S) (h4:T) (h5:U):P/\Q/\R/\S/\T/\U:=⟨h0,V,W,h3,h4,h5⟩
theorem xO {A:Type}{P:A->Prop}{Q:A->Prop}{R:A->Prop}{S:A->Prop}{T:A->Prop}(a:A) (U:P a) (V:Q a) (W:R a) (h4:S a) (h5:T a):∃a,P a/\Q a/\R a/\S a/\T a:=⟨a,U,V,W,h4,h5⟩
theorem i4 {A B:Type}{P:A->B->Prop}{Q:A->B->Prop}{R:A->B->Prop}{S:A->B->Prop}(a:A) (b:B) (U:P a b) (V:Q a b) (W:R a b) (h5:S a b):∃a,∃b,P a b/\Q a b/\R a b/\S a b:=⟨a,b,U,V,W,h5⟩
theorem iD {A B C:Type}{P:A->B->C->Prop}{Q:A->B->C->Prop}{R:A->B->C->Prop}(a:A) (b:B) (c:C) (U:P a b c) (V:Q a b c) (W:R a b c):∃a,∃b,∃c,P a b c/\Q a b c/\R a b c:=⟨a,b,c,U,V,W⟩
theorem To {A B C D:Type}{P:A->B->C->D->Prop}{Q:A->B->C->D->Prop}(a:A) (b:B) (c:C) (d:D) (U:P a b c d) (V:Q a b c d):∃a,∃b,∃c,∃d,P a b c d/\Q a b c d:=⟨a,b,c,d,U,V⟩
theorem xP {A B C:Type}{P:Prop}{Q:Prop}{R:A->B->C->Prop}{S:A->B->C->Prop}(h0:P) (U:Q) (a:A) (b:B) (c:C) (V:R a b c) (W:S a b c):P/\Q/\∃a,∃b,∃c,R a b c/\S a b c:=⟨h0,U,a,b,c,V,W⟩
theorem uw {A B:Type}{P:A->B->Prop}{Q:A->B->Prop}{R:A->B->Prop}{S:A->B->Prop}{T:A->B->Prop}(a:A) (b:B) (U:P a b) (V:Q a b) (W:R a b) (h5:S a b) (h6:T a b):∃a,∃b,P a b/\Q a b/\R a b/\S a b/\T a b:=⟨a,b,U,V,W,h5,h6⟩
theorem rM {A B C:Type}{P:A->B->C->Prop}{Q:A->B->C->Prop}{R:A->B->C->Prop}{S:A->B->C->Prop}(a:A) (b:B) (c:C) (U:P a b c) (V:Q a b c) (W:R a b c) (h6:S a b c):∃a,∃b,∃c,P a b c/\Q a b c/\R a b c/\S a b c:=⟨a,b,c,U,V,W,h6⟩
theorem nU {A B C D:Type}{P:A->B->C->D->Prop}{Q:A->B->C->D->Prop}{R:A->B->C->D->Prop}(a:A) (b:B) (c:C) (d:D) (U:P a b c d) (V:Q a b c d) (W:R a b c d):∃a,∃b,∃c,∃d,P a b c d/\Q a b c d/\R a b c d:=⟨a,b,c,d,U,V,W⟩
theorem Tp {A B C D E:Type}{P:A->B->C->D->E->Prop}{Q:A->B->C->D->E->Prop}(a:A) (b:B) (c:C) (d:D) (e:E) (U:P a b c d e) (V:Q a b c d e):∃a,∃b,∃c,∃d,∃e,P a b c d e/\Q a b c d e:=⟨a,b,c,d,e,U,V⟩
theorem CP {A B C:Type}{P:A->B->C->Prop}{Q:A->B->C->Prop}{R:A->B->C->Prop}{S:A->B->C->Prop}{T:A->B->C->Prop}(a:A) (b:B) (c:C) (U:P a b c) (V:Q a b c) (W:R a b c) (h6:S a b c) (h7:T a b c):∃a,∃b,∃c,P a b c/\Q a b c/\R a b c/\S a b c/\T a b c:=⟨a,b,c,U,V,W,h6,h7⟩
theorem xQ {A B C D:Type}{P:A->B->C->D->Prop}{Q:A->B->C->D->Prop}{R:A->B->C->D->Prop}{S:A->B->C->D->Prop}(a:A) (b:B) (c:C) (d:D) (U:P a b c d) (V:Q a b c d) (W:R a b c d) (h7:S a b c d):∃a,∃b,∃c,∃d,P a b c d/\Q a b c d/\R a b c d/\S a b c d:=⟨a,b,c,d,U,V,W,h7⟩
theorem Kd {α β:Type}{P:α->Prop}{Q:α->β->Prop}{R:α->β->Prop}{G:Prop}(h:∃a,P a/\∃b,Q a b/\R a b) (k:∀a,P a->∀b,Q a b->R a b->G):G:=by
 obtain ⟨a,U,b,V,W⟩:=h;exact k a U b V W
theorem Ke {α β:Type}{P:Prop}{Q:Prop}{R:α->β->Prop}{S:α->β->Prop}{G:Prop}(h:P/\Q/\∃a,∃b,R a b/\S a b) (k:P->Q->∀a,∀b,R a b->S a b->G):G:=by
 obtain ⟨h0,U,a,b,V,W⟩:=h;exact k h0 U a b V W
theorem Tq {α β:Type}{P:α->β->Prop}{Q:α->β->Prop}{R:α->β->Prop}{S:α->β->Prop}{T:α->β->Prop}{U:α->β->Prop}{V:α->β->Prop}{G:Prop}(h:∃a,∃b,P a b/\Q a b/\R a b/\S a b/\T a b/\U a b/\V a b) (k:∀a,∀b,P a b->Q a b->R a b->S a b->T a b->U a b->V a b->G):G:=by
 obtain ⟨a,b,W,h3,h4,h5,h6,h7,h8⟩:=h;exact k a b W h3 h4 h5 h6 h7 h8
theorem Kh {α β U V W ζ:Type}{P:α->β->U->V->W->ζ->Prop}{Q:α->β->U->V->W->ζ->Prop}{R:α->β->U->V->W->ζ->Prop}{G:Prop}(h:∃a,∃b,∃c,∃d,∃e,∃f,P a b c d e f/\Q a b c d e f/\R a b c d e f) (k:∀a,∀b,∀c,∀d,∀e,∀f,P a b c d e f->Q a b c d e f->R a b c d e f->G):G:=by
 obtain ⟨a,b,c,d,e,f,h6,h7,h8⟩:=h;exact k a b c d e f h6 h7 h8
theorem Ki {A:Type}{P:Prop}{Q:Prop}{R:Prop}{S:A->Prop}(h0:P) (U:Q) (V:R) (a:A) (W:S a):P/\Q/\R/\∃a,S a:=⟨h0,U,V,a,W⟩
theorem Kj {A B:Type}{P:A->Prop}{Q:A->B->Prop}{R:A->B->Prop}{S:A->B->Prop}(a:A) (U:P a) (b:B) (V:Q a b) (W:R a b) (h5:S a b):∃a,P a/\∃b,Q a b/\R a b/\S a b:=⟨a,U,b,V,W,h5⟩
theorem Kk {A B C:Type}{P:A->Prop}{Q:A->B->Prop}{R:A->B->Prop}{S:A->B->C->Prop}{T:A->B->C->Prop}(a:A) (U:P a) (b:B) (V:Q a b) (W:R a b) (c:C) (h6:S a b c) (h7:T a b c):∃a,P a/\∃b,Q a b/\R a b/\∃c,S a b c/\T a b c:=⟨a,U,b,V,W,c,h6,h7⟩
end Internal.El
end
section
namespace Internal.Pure
noncomputable def inner (g:Int->Int) (blo bhi i:Int):List Int->(Int->Int)×(Int×Int×Int)->(Int->Int)×(Int×Int×Int):=@λA B=>match A,B with
 |[],st=>st
 |j::r,st=>if j<blo then inner g blo bhi i r st else if bhi<=j then st else
   inner g blo bhi i r (λx=>if x=j then g (j-1)+1 else st.1 x,if st.2.2.2<g (j-1)+1 then (i-(g (j-1)+1)+1,j-(g (j-1)+1)+1,g (j-1)+1) else st.2)
noncomputable def outer (a:Nat->Int) (idx:Int->List Int) (blo bhi:Int):Nat->Nat->(Int->Int)×(Int×Int×Int)->(Int->Int)×(Int×Int×Int):=@λA B C=>match A,B,C with
 |zz,0,st=>st
 |i,n+1,st=>outer a idx blo bhi (i+1) n (inner st.1 blo bhi i (idx (a i)) (λzz=>0,st.2))
theorem CQ (a:Nat->Int) (idx:Int->List Int) (blo bhi:Int):∀(n i:Nat) (st:(Int->Int)×(Int×Int×Int)),
  outer a idx blo bhi i (n+1) st=inner (outer a idx blo bhi i n st).1 blo bhi (i+n:Nat) (idx (a (i+n))) (λzz=>0,(outer a idx blo bhi i n st).2):=@λA B C=>match A,B,C with
 |0,i,st=>rfl
 |n+1,i,st=>by
  refine (CQ a idx blo bhi n (i+1) _).trans ?_;have e:i+1+n=i+(n+1):=by exact (aN (rB) (rA))
  rw [e];rfl
theorem CR {st:(Int->Int)×(Int×Int×Int)}(h:¬j<blo) (U:¬bhi<=j):inner g blo bhi i (j::r) st=inner g blo bhi i r (λx=>if x=j then g (j-1)+1 else st.1 x,if st.2.2.2<g (j-1)+1 then (i-(g (j-1)+1)+1,j-(g (j-1)+1)+1,g (j-1)+1) else st.2):=(if_neg h).trans (if_neg U)
theorem CS {st:(Int->Int)×(Int×Int×Int)}(h:j<blo):inner g blo bhi i (j::r) st=inner g blo bhi i r st:=if_pos h
theorem Kl {st:(Int->Int)×(Int×Int×Int)}(h:¬j<blo) (U:bhi<=j):inner g blo bhi i (j::r) st=st:=(if_neg h).trans (if_pos U)
theorem Ts {st:(Int->Int)×(Int×Int×Int)}(h:¬j<blo) (U:¬bhi<=j) (V:st.2.2.2<g (j-1)+1) :
  inner g blo bhi i (j::r) st=inner g blo bhi i r (λx=>if x=j then g (j-1)+1 else st.1 x,(i-(g (j-1)+1)+1,j-(g (j-1)+1)+1,g (j-1)+1)):=by
 refine (CR h U).trans ?_;rw [if_pos V]
theorem Tt {st:(Int->Int)×(Int×Int×Int)}(h:¬j<blo) (U:¬bhi<=j) (V:¬st.2.2.2<g (j-1)+1) :
  inner g blo bhi i (j::r) st=inner g blo bhi i r (λx=>if x=j then g (j-1)+1 else st.1 x,st.2):=by
 refine (CR h U).trans ?_;rw [if_neg V]
noncomputable def ff (a b:Nat->Int) (ok:Int->Bool) (alo blo:Nat):Nat->Nat->Nat->Nat×Nat×Nat:=@λA B C=>match A,B,C with
 |0,j,k=>(0,j,k)
 |i+1,j,k=>if alo<i+1/\blo<j/\ok (b (j-1))=true/\a i=b (j-1) then ff a b ok alo blo i (j-1) (k+1) else (i+1,j,k)
theorem xR (h:¬(alo<i/\blo<j/\ok (b (j-1))=true/\a (i-1)=b (j-1))):ff a b ok alo blo i j k=(i,j,k):=by
 cases i with
 |zero=>rfl
 |succ i=>exact if_neg h
theorem Km (h:alo<i/\blo<j/\ok (b (j-1))=true/\a (i-1)=b (j-1)):ff a b ok alo blo i j k=ff a b ok alo blo (i-1) (j-1) (k+1):=by
 cases i with
 |zero=>exact absurd h.1 (wy _)
 |succ i=>exact if_pos h
noncomputable def fu (a b:Nat->Int) (ok:Int->Bool) (ahi bhi i j:Nat):Nat->Nat->Nat:=@λA B=>match A,B with
 |0,k=>k
 |n+1,k=>if i+k<ahi/\j+k<bhi/\ok (b (j+k))=true/\a (i+k)=b (j+k) then fu a b ok ahi bhi i j n (k+1) else k
theorem xS (h:¬(i+k<ahi/\j+k<bhi/\ok (b (j+k))=true/\a (i+k)=b (j+k))) (n:Nat):fu a b ok ahi bhi i j n k=k:=by
 cases n with
 |zero=>rfl
 |succ n=>exact if_neg h
theorem Tu (h:i+k<ahi/\j+k<bhi/\ok (b (j+k))=true/\a (i+k)=b (j+k)):fu a b ok ahi bhi i j (ahi-(i+k)) k=fu a b ok ahi bhi i j (ahi-(i+(k+1))) (k+1):=by
 refine El.ea (⟨ahi-(i+k)-1,by exact (aN (uk (aE (I4 h.1 (aE (A9 h.1)).symm)).symm) (CA (aE (I4 h.1 (aE (A9 h.1)).symm))))⟩:∃n,ahi-(i+k)=n+1) λn hn=>?_
 have e:ahi-(i+(k+1))=n:=by exact (aN (fq (.u (.q .d (.S .c)) (.q .f (.a .d (.a .h .i))) (.q (.a .b (.a .h (.S .i))) .f)) .b .c rfl hn (aE (A9 h.1)).symm (aE (A8 h.1))) (fq (.u (.q (.S .b) .d) (.q (.a .d (.a .f .h)) .i) (.q .i (.a .c (.a .f (.S .h))))) .b .c rfl (aC hn) (aE (A9 h.1)) (aE (A8 h.1)).symm))
 rw [hn,e];exact if_pos h
def GB (blo bhi:Int) (n:Nat) (g:Int->Int):Prop:=∀j,0<=g j/\g j<=n/\(0<g j->blo<=j/\j<bhi/\g j<=j-blo+1)
def BB (alo blo bhi:Int) (n:Nat) (b:Int×Int×Int):Prop:=alo<=b.1/\b.1+b.2.2<=alo+n/\blo<=b.2.1/\b.2.1+b.2.2<=bhi/\0<=b.2.2
theorem CT (hg:GB blo bhi n g):∀(W:List Int) (st:(Int->Int)×(Int×Int×Int)),GB blo bhi (n+1) st.1->BB alo blo bhi (n+1) st.2->
  GB blo bhi (n+1) (inner g blo bhi (alo+n) W st).1/\BB alo blo bhi (n+1) (inner g blo bhi (alo+n) W st).2:=@λA B C D=>match A,B,C,D with
 |[],st,U,V=>⟨U,V⟩
 |j::r,st,U,V=>by
  rw [inner];by_cases hj:j<blo
  ·rw [if_pos hj];exact CT hg r st U V
  ·rw [if_neg hj];by_cases hh:bhi<=j
   ·refine ae (if_pos hh ..) <| ⟨U,V⟩
   ·refine ae (if_neg hh ..) ?_;have hk:=hg (j-1);refine CT hg r _ (λx=>?_) ?_
    ·dsimp only;by_cases hx:x=j
     ·refine ae (if_pos hx ..) ?_;subst hx;omega
     ·refine ae (if_neg hx ..) <| U x
    ·dsimp only;by_cases hb:st.2.2.2<g (j-1)+1
     ·refine ae (if_pos hb ..) ?_;unfold BB;dsimp only;exact nR (Cp (.L .c .q) .b (.S (.s (.a .b .q) (.S .c))) rfl hk.2.1) (Cp .z (.a (.S (.s (.a .b .q) (.S .c))) (.S .c)) (.a .b (.o (.S .b))) rfl) (by (clear hb;omega)) (S6 (.K .b .d) (.a (.S (.s .b (.S .c))) (.S .c)) .d rfl (Rg.mp hh)) (ru (.L .z .b) .z (.S .b) rfl hk.1)
     ·refine ae (if_neg hb ..) <| V
theorem Kn (a:Nat->Int) (idx:Int->List Int) {alo blo bhi:Nat}(hb:blo<=bhi):∀n:Nat,
  GB blo bhi n (outer a idx blo bhi alo n (λzz=>0,((alo:Int),(blo:Int),(0:Int)))).1/\BB alo blo bhi n (outer a idx blo bhi alo n (λzz=>0,((alo:Int),(blo:Int),(0:Int)))).2:=@λA=>match A with
 |0=>by
  refine ⟨λj=>?_,?_⟩
  ·simp [outer]
  ·unfold BB outer;dsimp only;lia
 |n+1=>by
  refine El.aa (Kn a idx hb n (alo:=alo)) λV U=>?_;refine ae (CQ ..) ?_;have e:((alo+n:Nat):Int)=(alo:Int)+n:=by exact (fP (nN .z (.o (.a .b .c)) (.a .q .t) rfl) (nN .z (.a .q .t) (.o (.a .b .c)) rfl))
  refine ae (e ..) ?_;refine CT V _ _ (λj=>?_) ?_
  ·dsimp only;lia
  ·unfold BB at U ⊢;dsimp only;exact nR (rG U.1) (S7 (.L (.a .b .c) (.a .q .t)) (.a .b .c) (.a .q (.o (.S .c))) rfl U.2.1) (rG U.2.2.1) (Cp (.L (.a .b .c) .q) (.a .b .c) .q rfl U.2.2.2.1) (A3 U.2.2.2.2)
theorem Ko (a:Nat->Int) (idx:Int->List Int) {alo ahi blo bhi:Nat}(hb:blo<=bhi) (U:alo<=ahi):∃i j k:Nat,(outer a idx blo bhi alo (ahi-alo) (λzz=>0,((alo:Int),(blo:Int),(0:Int)))).2=((i:Int),(j:Int),(k:Int))/\alo<=i/\i+k<=ahi/\blo<=j/\j+k<=bhi:=by
 refine El.aa (Kn a idx hb (ahi-alo) (alo:=alo)) λzz h=>?_;revert h;generalize (outer a idx blo bhi alo (ahi-alo) (λzz=>0,((alo:Int),(blo:Int),(0:Int)))).2=b;obtain ⟨x,y,z⟩:=b;unfold BB;intro h;dsimp only at h;refine CP x.toNat y.toNat z.toNat ?_ (Jn h.1 (dh (rH h.1)).symm) (Tf (.y (.L (.a .b .c) (.a .y .o4)) (.q (.a .h .f) .d) (.Q .q .b) (.Q .t .c)) (.a .b .c) .d rfl h.2.1 (aE (Lin.A0 U)) (dh (rH h.1)) (dh (A3 h.2.2.2.2))) (Jn h.2.2.1 (dh (rH h.2.2.1)).symm) (Te (.u (.L (.a .b .c) .x) (.Q .q .b) (.Q .t .c)) (.a .b .c) .d rfl h.2.2.2.1 (dh (rH h.2.2.1)) (dh (A3 h.2.2.2.2)));exact ae (dh (rH h.1) ..) (ae (dh (rH h.2.2.1) ..) (ae (dh (by exact h.2.2.2.2) ..) rfl))
noncomputable def jj (a b:Nat->Int) (idx:Int->List Int) (S:Int->Bool) (alo ahi blo bhi:Nat):Nat×Nat×Nat:=
 let r:=(outer a idx blo bhi alo (ahi-alo) (λzz=>0,((alo:Int),(blo:Int),(0:Int)))).2
 let r1:=ff a b (λc=>!S c) alo blo r.1.toNat r.2.1.toNat r.2.2.toNat
 let k2:=fu a b (λc=>!S c) ahi bhi r1.1 r1.2.1 (ahi-(r1.1+r1.2.2)) r1.2.2
 let U:=ff a b S alo blo r1.1 r1.2.1 k2
 (U.1,U.2.1,fu a b S ahi bhi U.1 U.2.1 (ahi-(U.1+U.2.2)) U.2.2)
noncomputable abbrev jk:=Nat×Nat×Nat×Nat
noncomputable abbrev bc:=Nat×Nat×Nat
section
variable (f:Nat->Nat->Nat->Nat->bc)
noncomputable def ro:Nat->jk->List bc:=@λA B=>match A,B with
 |0,zz=>[]
 |n+1,(alo,ahi,blo,bhi)=>
  let r:=f alo ahi blo bhi
  if r.2.2=0 then [] else
   (if alo<r.1/\blo<r.2.1 then ro n (alo,r.1,blo,r.2.1) else [])++r::(if r.1+r.2.2<ahi/\r.2.1+r.2.2<bhi then ro n (r.1+r.2.2,ahi,r.2.1+r.2.2,bhi) else [])
def lq (f:Nat->Nat->Nat->Nat->bc):Prop:=∀alo ahi blo bhi,alo<=ahi->blo<=bhi->alo<=(f alo ahi blo bhi).1/\(f alo ahi blo bhi).1+(f alo ahi blo bhi).2.2<=ahi/\blo<=(f alo ahi blo bhi).2.1/\(f alo ahi blo bhi).2.1+(f alo ahi blo bhi).2.2<=bhi
noncomputable def dY (r:jk):List bc:=ro f (r.2.1-r.1) r
variable {f}
theorem xT (W:lq f):∀(n m:Nat) (alo ahi blo bhi:Nat),alo<=ahi->blo<=bhi->ahi-alo<=n->n<=m->ro f m (alo,ahi,blo,bhi)=ro f n (alo,ahi,blo,bhi):=@λA B C D F G H J K L=>match A,B,C,D,F,G,H,J,K,L with
 |0,0,zz,zy,zx,zw,zv,zu,zt,zr=>rfl
 |0,m+1,alo,ahi,blo,bhi,h1,h2,h3,zz=>by
  have h:=W alo ahi blo bhi h1 h2;exact if_pos (aN (dD (.y (.l .c .z) (.l .d .f) (.l (.a .f .b) .h) (.q .h (.a .c .d))) .b .z rfl h3 h.1 h.2.1 (aE (Lin.A0 h1)).symm) (A6))
 |n+1,m+1,alo,ahi,blo,bhi,h1,h2,h3,h4=>by
  have h:=W alo ahi blo bhi h1 h2;by_cases hk:(f alo ahi blo bhi).2.2=0
  ·exact (if_pos hk).trans (if_pos hk).symm
  ·refine (if_neg hk).trans (Eq.trans ?_ (if_neg hk).symm)
   congr 1
   ·by_cases hl:alo<(f alo ahi blo bhi).1/\blo<(f alo ahi blo bhi).2.1
    ·refine ae (if_pos hl ..) (ae (if_pos hl ..) ?_);exact xT W n m _ _ _ _ (cA hl.1) (cA hl.2) (Or.elim (kR hk) (λU=>(eM (.c3 _ _ _) .z 0 (.k .d .z) .b .c rfl U)) λU=>(pU (.c 1 (.l .d (.S .c)) (.c 1 (.l (.a .f .h) .i) (.c 1 (.q .i (.a .d .j)) (.c 1 (.q (.a .b .j) .f) (.c 1 (.k .z .h) .z))))) .b .c rfl h3 h.2.1 (aE (Jx h.2.1 hl.1)).symm (aE (A1 hl.1)) U)) (tw h4)
    ·exact ae (if_neg hl ..) (ae (if_neg hl ..) rfl)
   ·congr 1
    by_cases V:(f alo ahi blo bhi).1+(f alo ahi blo bhi).2.2<ahi/\(f alo ahi blo bhi).2.1+(f alo ahi blo bhi).2.2<bhi
    ·refine ae (if_pos V ..) (ae (if_pos V ..) ?_);exact xT W n m _ _ _ _ (cA V.1) (cA V.2) (Or.elim (kR hk) (λU=>(eM (.c3 _ _ _) .z 0 (.k .d .z) .b .c rfl U)) λU=>(pU (.c 1 (.l .d (.S .c)) (.c 1 (.l .f .h) (.c 1 (.q .i (.a .d .f)) (.c 1 (.q (.a .b (.a .h .j)) .i) (.c 1 (.k .z .j) .z))))) .b .c rfl h3 h.1 (aE (Jy h.1 V.1)).symm (aE (A9 V.1)) U)) (tw h4)
    ·exact ae (if_neg V ..) (ae (if_neg V ..) rfl)
theorem Kp (h:(f alo ahi blo bhi).2.2=0):dY f (alo,ahi,blo,bhi)=[]:=by
 unfold dY;dsimp only;cases ahi-alo with
 |zero=>rfl
 |succ n=>exact if_pos h
theorem uz (W:lq f) {alo ahi blo bhi i j k:Nat}(h1:alo<=ahi) (h2:blo<=bhi) (e:f alo ahi blo bhi=(i,j,k)) (hk:k≠0) :
  dY f (alo,ahi,blo,bhi)=(if alo<i/\blo<j then dY f (alo,i,blo,j) else [])++(i,j,k)::(if i+k<ahi/\j+k<bhi then dY f (i+k,ahi,j+k,bhi) else []):=by
 have h:=W alo ahi blo bhi h1 h2;rw [e] at h;dsimp only at h;unfold dY;dsimp only;refine El.ea (⟨ahi-alo-1,by lia⟩:∃n,ahi-alo=n+1) λn hn=>?_
 rw [hn];refine (if_neg (c:=(f alo ahi blo bhi).2.2=0) (by rw [e];exact hk)).trans ?_
 rw [e];dsimp only
 congr 1
 ·by_cases hl:alo<i/\blo<j
  ·refine ae (if_pos hl ..) (ae (if_pos hl ..) ?_);exact xT W _ n _ _ _ _ (cA hl.1) (cA hl.2) (aK _) (Or.elim (kR hk) (λU=>(eM (.c3 _ _ _) .z 0 (.k .d .z) .b .c rfl U)) λU=>(pU (.c 1 (.l (.a .d .f) .h) (.c 1 (.q .i (.S .c)) (.c 1 (.q .h (.a .i .j)) (.c 1 (.q (.a .b .j) .d) (.c 1 (.k .z .f) .z))))) .b .c rfl h.2.1 hn (aE (Jx h.2.1 hl.1)).symm (aE (A1 hl.1)) U))
  ·exact ae (if_neg hl ..) (ae (if_neg hl ..) rfl)
 ·congr 1
  by_cases V:i+k<ahi/\j+k<bhi
  ·refine ae (if_pos V ..) (ae (if_pos V ..) ?_);exact xT W _ n _ _ _ _ (cA V.1) (cA V.2) (aK _) (Or.elim (kR hk) (λU=>(eM (.c3 _ _ _) .z 0 (.k .d .z) .b .c rfl U)) λU=>(pU (.c 1 (.l .d .f) (.c 1 (.q .h (.S .c)) (.c 1 (.q .i (.a .h .d)) (.c 1 (.q (.a .b (.a .f .j)) .i) (.c 1 (.k .z .j) .z))))) .b .c rfl h.1 hn (aE (Jy h.1 V.1)).symm (aE (A9 V.1)) U))
  ·exact ae (if_neg V ..) (ae (if_neg V ..) rfl)
end
noncomputable def gn (qs:List jk):Nat:=(qs.map λr=>2*(r.2.1-r.1)+1).sum
theorem nW (qs:List jk) (r:jk):gn (qs++[r])=gn qs+(2*(r.2.1-r.1)+1):=by simp [gn]
theorem CU:∀qs:List jk,qs.length<=gn qs:=@λA=>match A with
 |[]=>aK _
 |r::qs=>by
  have:=CU qs;simp only [gn,iQ,List.sum_cons,gL] at this ⊢;exact (bL (.l .b .d) (.S .b) (.a (.S (.m 2 .c)) .d) rfl this)
theorem cut {x1 x2 i k:Nat}(V:x1<=i) (W:i+k<=x2):(i-x1)+(x2-(i+k))+k=x2-x1:=by
 refine El.ea (ad1 V) λa U=>?_;clear V;subst U;refine El.ea (ad1 W) λb U=>?_;clear W;subst U;refine ae (jZ ..) (ae (jZ ..) ?_);exact (jZ (n:=x1) (m:=a+b+k)).symm.trans (by exact ae (pF ..).symm (ae (pF ..).symm (ae (G5 _ b k ..) rfl)))
section
variable {rs:List jk}{x1 x2 x3 x4 i j k:Nat}
theorem CV (hk:k≠0) (V:x1<=i) (W:i+k<=x2):gn ((rs++[(x1,i,x3,j)])++[(i+k,x2,j+k,x4)])<gn (rs++[(x1,x2,x3,x4)]):=by
 refine ae (nW ..) (ae (nW ..) (ae (nW ..) ?_));dsimp only;refine ae (cut V W ..).symm ?_;generalize i-x1=a;generalize x2-(i+k)=b;generalize gn rs=r;clear V W;exact (Or.elim (kR hk) (λU=>(ji (.c4 _ _ _ _) .z 0 (.k .f .z) (.a (.a .b (.S (.m 2 .c))) (.S (.m 2 .d))) (.a .b (.S (.m 2 (.a (.a .c .d) .f)))) rfl U)) λU=>(eN (.c 2 (.k .z .f) .z) (.a (.a .b (.S (.m 2 .c))) (.S (.m 2 .d))) (.a .b (.S (.m 2 (.a (.a .c .d) .f)))) rfl U))
theorem Tv (hk:k≠0) (U:x1<=i) (V:i+k<=x2):gn (rs++[(x1,i,x3,j)])<gn (rs++[(x1,x2,x3,x4)]):=by
 refine dk ?_ (CV (j:=j) hk U V);refine ae (nW (rs++_) ..) <| ba _ _
theorem Tw (hk:k≠0) (U:x1<=i) (V:i+k<=x2):gn (rs++[(i+k,x2,j+k,x4)])<gn (rs++[(x1,x2,x3,x4)]):=by
 refine dk ?_ (CV (j:=j) hk U V);refine ae (nW ..) (ae (nW ..) (ae (nW ..) ?_));exact Rj (ba _ _) _
theorem Kq:gn rs<gn (rs++[(x1,x2,x3,x4)]):=by
 refine ae (nW ..) <| wz (wu _)
end
theorem CW:∀(i j k:Nat),alo<=i->blo<=j->alo<=(ff a b ok alo blo i j k).1/\(ff a b ok alo blo i j k).1+(ff a b ok alo blo i j k).2.2=i+k/\blo<=(ff a b ok alo blo i j k).2.1/\(ff a b ok alo blo i j k).2.1+(ff a b ok alo blo i j k).2.2=j+k:=@λA B C D F=>match A,B,C,D,F with
 |0,j,k,U,V=>by
  exact cB U rfl V rfl
 |i+1,j,k,U,V=>by
  by_cases h:alo<i+1/\blo<j/\ok (b (j-1))=true/\a i=b (j-1)
  ·refine ae (Km (i:=i+1) h) ?_;have:=CW (a:=a) (b:=b) (ok:=ok) (alo:=alo) (blo:=blo) i (j-1) (k+1) (tA h.1) (CF h.2.1 (aE (A2 h.2.1)).symm);exact cB (Lin.A0 this.1) (aN (bJ (.q (.a .b .c) (.a .d (.S .f))) (.a .b .c) (.a (.S .d) .f) rfl this.2.1) (bJ (.q (.a .b (.S .c)) (.a .d .f)) (.a (.S .b) .c) (.a .d .f) rfl (aC this.2.1))) (Lin.A0 this.2.2.1) (aN (dD (.t (.q (.a .b .c) (.a .h (.S .f))) (.q (.S .h) .d)) (.a .b .c) (.a .d .f) rfl this.2.2.2 (aE (A2 h.2.1))) (dD (.t (.q (.a .h (.S .c)) (.a .d .f)) (.q .b (.S .h))) (.a .b .c) (.a .d .f) rfl (aC this.2.2.2) (aE (A2 h.2.1)).symm))
  ·refine ae (xR (i:=i+1) h) ?_;dsimp only;lia
theorem CX {ahi bhi i j:Nat}:∀(n k:Nat),i+k<=ahi->j+k<=bhi->k<=fu a b ok ahi bhi i j n k/\i+fu a b ok ahi bhi i j n k<=ahi/\j+fu a b ok ahi bhi i j n k<=bhi:=@λA B C D=>match A,B,C,D with
 |0,k,U,V=>aL (aK _) U V
 |n+1,k,U,V=>by
  by_cases h:i+k<ahi/\j+k<bhi/\ok (b (j+k))=true/\a (i+k)=b (j+k)
  ·have e:fu a b ok ahi bhi i j (n+1) k=fu a b ok ahi bhi i j n (k+1):=if_pos h;refine ae e ?_;have:=CX (a:=a) (b:=b) (ok:=ok) (ahi:=ahi) (bhi:=bhi) (i:=i) (j:=j) n (k+1) (A8 h.1) (A8 h.2.1);exact aL (cA this.1) this.2.1 this.2.2
  ·refine ae (xS h (n+1)) ?_;lia
theorem Kr (a b:Nat->Int) (idx:Int->List Int) (S:Int->Bool):lq (jj a b idx S):=by
 intro alo ahi blo bhi ha hb;refine xM (Ko a idx hb ha) λi j k e h1 h2 h3 h4=>?_;unfold jj;refine ae (e ..) ?_;dsimp only;refine ae (kS ..) (ae (kS ..) (ae (kS ..) ?_));have V:=CW (a:=a) (b:=b) (ok:=λc=>!S c) i j k h1 h3;generalize ff a b (λc=>!S c) alo blo i j k=r1 at *;have l2:=CX (a:=a) (b:=b) (ok:=λc=>!S c) (ahi:=ahi) (bhi:=bhi) (i:=r1.1) (j:=r1.2.1) (ahi-(r1.1+r1.2.2)) r1.2.2 (aD (dm V.2.1) h2) (aD (dm V.2.2.2) h4);generalize fu a b (λc=>!S c) ahi bhi r1.1 r1.2.1 (ahi-(r1.1+r1.2.2)) r1.2.2=k2 at *;have W:=CW (a:=a) (b:=b) (ok:=S) r1.1 r1.2.1 k2 V.1 V.2.2.1;generalize ff a b S alo blo r1.1 r1.2.1 k2=U at *;have l4:=CX (a:=a) (b:=b) (ok:=S) (ahi:=ahi) (bhi:=bhi) (i:=U.1) (j:=U.2.1) (ahi-(U.1+U.2.2)) U.2.2 (aD (dm W.2.1) l2.2.1) (aD (dm W.2.2.2) l2.2.2);exact cB W.1 l4.2.1 W.2.2.1 l4.2.2
theorem xU {α:Type}(bl R l r:List α) (b:α) (total:List α) (h:(bl++(R++(l++b::r))).Perm total):((bl++[b])++(R++(l++r))).Perm total:=by
 refine List.Perm.trans ?_ h;have U:(l++b::r).Perm (b::(l++r)):=nh;have V:(R++(l++b::r)).Perm (b::(R++(l++r))):=(U.append_left R).trans nh;refine List.Perm.symm ((V.append_left bl).trans ?_);simp
section
variable {f:Nat->Nat->Nat->Nat->bc}{bl total:List bc}{rs:List jk}{x1 x2 x3 x4 i j k:Nat}
theorem Tx (e:f x1 x2 x3 x4=(i,j,k)) (hk:k=0) (U:(bl++(rs++[(x1,x2,x3,x4)]).flatMap (dY f)).Perm total):(bl++rs.flatMap (dY f)).Perm total:=by
 rw [lY] at U
 simpa [Kp (f:=f) (by refine ae (e ..) <| hk:(f x1 x2 x3 x4).2.2=0)] using U
theorem Tz (V:lq f) (W:x1<=x2) (h2:x3<=x4) (e:f x1 x2 x3 x4=(i,j,k)) (hk:k≠0) (hl:x1<i/\x3<j) (hr:i+k<x2/\j+k<x4) (U:(bl++(rs++[(x1,x2,x3,x4)]).flatMap (dY f)).Perm total) :
  ((bl++[(i,j,k)])++((rs++[(x1,i,x3,j)])++[(i+k,x2,j+k,x4)]).flatMap (dY f)).Perm total:=by
 rw [lY,AH,uz V W h2 e hk,if_pos hl,if_pos hr] at U;have:=xU _ _ _ _ _ _ U
 simpa [lY] using this
theorem TA (V:lq f) (W:x1<=x2) (h2:x3<=x4) (e:f x1 x2 x3 x4=(i,j,k)) (hk:k≠0) (hl:x1<i/\x3<j) (hr:¬(i+k<x2/\j+k<x4)) (U:(bl++(rs++[(x1,x2,x3,x4)]).flatMap (dY f)).Perm total) :
  ((bl++[(i,j,k)])++(rs++[(x1,i,x3,j)]).flatMap (dY f)).Perm total:=by
 rw [lY,AH,uz V W h2 e hk,if_pos hl,if_neg hr] at U;have:=xU _ _ _ _ _ _ U
 simpa [lY] using this
theorem TB (V:lq f) (W:x1<=x2) (h2:x3<=x4) (e:f x1 x2 x3 x4=(i,j,k)) (hk:k≠0) (hl:¬(x1<i/\x3<j)) (hr:i+k<x2/\j+k<x4) (U:(bl++(rs++[(x1,x2,x3,x4)]).flatMap (dY f)).Perm total) :
  ((bl++[(i,j,k)])++(rs++[(i+k,x2,j+k,x4)]).flatMap (dY f)).Perm total:=by
 rw [lY,AH,uz V W h2 e hk,if_neg hl,if_pos hr] at U;have:=xU _ _ _ _ _ _ U
 simpa [lY] using this
theorem TF (V:lq f) (W:x1<=x2) (h2:x3<=x4) (e:f x1 x2 x3 x4=(i,j,k)) (hk:k≠0) (hl:¬(x1<i/\x3<j)) (hr:¬(i+k<x2/\j+k<x4)) (U:(bl++(rs++[(x1,x2,x3,x4)]).flatMap (dY f)).Perm total) :
  ((bl++[(i,j,k)])++rs.flatMap (dY f)).Perm total:=by
 rw [lY,AH,uz V W h2 e hk,if_neg hl,if_neg hr] at U;have:=xU _ _ _ _ _ _ U
 simpa [lY] using this
end
end Internal.Pure
namespace Internal.Pure
noncomputable def gq (st:bc×List bc) (b:bc):bc×List bc:=
 if st.1.1+st.1.2.2=b.1/\st.1.2.1+st.1.2.2=b.2.1 then ((st.1.1,st.1.2.1,st.1.2.2+b.2.2),st.2)
 else (b,if st.1.2.2=0 then st.2 else st.2++[st.1])
noncomputable def pW (bl:List bc):bc×List bc:=bl.foldl gq ((0,0,0),[])
noncomputable def joined (bl:List bc) (la lb:Nat):List bc:=(if (pW bl).1.2.2=0 then (pW bl).2 else (pW bl).2++[(pW bl).1])++[(la,lb,0)]
noncomputable abbrev TG:=Nat×Nat×Nat
noncomputable abbrev z3:TG:=(0,0,0)
noncomputable abbrev Op:=String×Nat×Nat×Nat×Nat
noncomputable def fv (i j U V:Nat):List Op:=
 if i<U/\j<V then [("replace",i,U,j,V)] else if i<U then [("delete",i,U,j,V)] else if j<V then [("insert",i,U,j,V)] else []
noncomputable def fG (b:bc):List Op:=if b.2.2=0 then [] else [("equal",b.1,b.1+b.2.2,b.2.1,b.2.1+b.2.2)]
noncomputable def me (st:(Nat×Nat)×List Op) (b:bc):(Nat×Nat)×List Op:=((b.1+b.2.2,b.2.1+b.2.2),(st.2++fv st.1.1 st.1.2 b.1 b.2.1)++fG b)
noncomputable def jI (bl:List bc):(Nat×Nat)×List Op:=bl.foldl me ((0,0),[])
section
variable {p q x1 x2 x3:Nat}{os A B:List Op}
theorem TH (h:(p:Int)<x1) (g:(q:Int)<x2):fv p q x1 x2=[("replace",p,x1,q,x2)]:=if_pos ⟨cV.mp h,cV.mp g⟩
theorem TJ (h:(p:Int)<x1) (g:¬(q:Int)<x2):fv p q x1 x2=[("delete",p,x1,q,x2)]:=(if_neg λe=>g (cV.mpr e.2)).trans (if_pos (cV.mp h))
theorem TK (h:¬(p:Int)<x1) (g:(q:Int)<x2):fv p q x1 x2=[("insert",p,x1,q,x2)]:=(if_neg λe=>h (cV.mpr e.1)).trans ((if_neg λe=>h (cV.mpr e)).trans (if_pos (cV.mp g)))
theorem TL (h:¬(p:Int)<x1) (g:¬(q:Int)<x2):fv p q x1 x2=[]:=(if_neg λe=>h (cV.mpr e.1)).trans ((if_neg λe=>h (cV.mpr e)).trans (if_neg λe=>g (cV.mpr e)))
theorem TM (h:¬(x3:Int)=0):fG (x1,x2,x3)=[("equal",x1,x1+x3,x2,x2+x3)]:=if_neg λ(e:x3=0)=>h (congrArg Rk e)
theorem TN (h:(x3:Int)=0):fG (x1,x2,x3)=[]:=if_pos (wA h)
end
theorem TO (bl:List bc):(jI bl).2.length<=2*bl.length:=by
 have U:∀i j a b,(fv i j a b).length<=1:=λi j a b=>by
  unfold fv;repeat' split
  all_goals simp
 have V:∀b,(fG b).length<=1:=λb=>by unfold fG;split <;> simp
 have:∀(bl:List bc) (st:(Nat×Nat)×List Op),(bl.foldl me st).2.length<=st.2.length+2*bl.length:=by
  intro bl;induction bl with
  |nil=>intro st;exact aK _
  |cons b r W=>
   intro st;have:=W (me st b);have e:(me st b).2.length<=st.2.length+2:=by
    refine (?_:((st.2++_)++_).length<=_);refine ae (aG ..) (ae (aG ..) ?_);have:=U st.1.1 st.1.2 b.1 b.2.1;have:=V b;lia
   simp only [AI,gL];exact (bJ (.t (.l .b (.a .f (.m 2 .d))) (.l .f (.a .c (.n 2)))) .b (.a .c (.m 2 (.S .d))) rfl this e)
 have:=this bl ((0,0),[])
 simpa [jI] using this
noncomputable def slc (l:List Int) (a b:Nat):List Int:=(l.drop a).take (b-a)
class inductive Alt (base text:List Int):Nat->Nat->Option Bool->List Op->Prop
 |done {last:Option Bool}:Alt base text base.length text.length last []
 |eq {i j i2 j2:Nat}{last:Option Bool}{rest:List Op}:slc base i i2=slc text j j2->slc text j j2≠[]->last≠some true->i<=i2->i2<=base.length->j<=j2->j2<=text.length->Alt base text i2 j2 (some true) rest->Alt base text i j last (("equal",i,i2,j,j2)::rest)
 |ch {g:String}{i j i2 j2:Nat}{last:Option Bool}{rest:List Op}:(g="replace"∨g="delete"∨g="insert")->¬(slc base i i2=slc text j j2/\slc text j j2≠[])->last≠some false->i<=i2->i2<=base.length->j<=j2->j2<=text.length->Alt base text i2 j2 (some false) rest->Alt base text i j last ((g,i,i2,j,j2)::rest)
noncomputable abbrev cC:=Nat×Nat×Nat×String×List Int
noncomputable def fT (U:Nat) (V:List Int) (os:List Op):List cC:=os.filterMap λo=>if o.1="equal" then none else some (o.2.1,o.2.2.1,U,o.1,slc V o.2.2.2.1 o.2.2.2.2)
end Internal.Pure
end
section
open PySem PySem.W PySem.Calls PyProof.Rows
open Mine
namespace Internal.Mine
theorem CY:j4 (.builtin "set.__contains__")=pure (.type "method_descriptor"):=by kernel_rfl
theorem CZ:j4 (.builtin "dict.get")=pure (.type "method_descriptor"):=by kernel_rfl
theorem TP:jb (.type "set") "__contains__"=pure (some (.builtin "set.__contains__")):=by refine ae (lZ ..) (ae (l0 ..) ?_);kernel_rfl
theorem TQ:jb (.type "dict") "get"=pure (some (.builtin "dict.get")):=by refine ae (lZ ..) (ae (l0 ..) ?_);kernel_rfl
theorem Ks:jb (.type "method_descriptor") "__set__"=pure none:=by refine ae (lZ ..) (ae (l0 ..) ?_);kernel_rfl
theorem Kt:jb (.type "method_descriptor") "__delete__"=pure none:=by refine ae (lZ ..) (ae (l0 ..) ?_);kernel_rfl
theorem rN:Slot "method_descriptor" "__get__" "method_descriptor.__get__":=
 .of (owner:="method_descriptor") (n:="__get__") (by refine ae (lZ ..) (ae (l0 ..) ?_);kernel_rfl) (by decide +kernel) (by decide +kernel) (by decide +kernel)
  (by first | exact .inl (by decide +kernel) | exact .inr (by decide +kernel)) (by refine ae (ni ..) ?_;kernel_rfl)
theorem Ku:AJ table "method_descriptor.__get__"=some bY.«method_descriptor.__get__»:=Rl (by kernel_rfl)
theorem Kv (a b c:af):qS "method_descriptor.__get__" ⟨[a,b,c],[]⟩:=by unfold qS;kernel_rfl
theorem TR:(".".intercalate ("set.__contains__".cutAt '.').dropLast)="set":=by
 have U:"set.__contains__".cutAt '.'=["set","__contains__"]:=by first | rfl | decide +kernel
 refine ae (U ..) ?_;decide +kernel
theorem TS:(".".intercalate ("dict.get".cutAt '.').dropLast)="dict":=by
 have U:"dict.get".cutAt '.'=["dict","get"]:=by first | rfl | decide +kernel
 refine ae (U ..) ?_;decide +kernel
theorem TU:jA (.type "set") (.type (".".intercalate ("set.__contains__".cutAt '.').dropLast))=pure true:=by refine ae (TR ..) (ae (ni ..) ?_);kernel_rfl
theorem TV:jA (.type "dict") (.type (".".intercalate ("dict.get".cutAt '.').dropLast))=pure true:=by refine ae (TS ..) (ae (ni ..) ?_);kernel_rfl
section
variable {prog:bM}{w:aW}{A:cD}{E:af->ai->Prop}{h:aq}{g:Array AK}{d:Drawn}{t:Nat}{os:dT}{a:ak}{es:Array (Int×af)}{ds:Array eY}{n:Nat}{st:SetTable}{sl:Array (Option af)}
noncomputable abbrev gQ (id:String) (a:ak):ay:={cls:=.type "builtin_function_or_method",data:=.fields #[.builtin id,.ref a]}
theorem TX {R:eZ->ai->Prop}(hx:h.get? a=some ⟨.type "set",none,.set es n st,sl⟩) (V:R (.ok (.ret (.ref h.objs.size))) ⟨h.push (gQ "set.__contains__" a),g,d,t,os⟩) :
  dc (az prog w) A (.call (.builtin "method_descriptor.__get__") ⟨[.builtin "set.__contains__",.ref a,.type "set"],[]⟩) R ⟨h,g,d,t,os⟩:=by
 have W:(⟨h,g,d,t,os⟩:ai).TypeIs (.ref a) "set":=(av _ hx rfl);have U:(⟨h,g,d,t,os⟩:ai).TypeIs (.builtin "set.__contains__") "method_descriptor":=CY;have f8:=TU;refine pG rN.plain Ku (rN.check _ _ _ _ _ _ _ _ U (Kv _ _ _) ?_);repeat (any_goals (first | assumption | wp_step))
theorem TY (hx:h.get? a=some ⟨.type "set",none,.set es n st,sl⟩) (V:Q (.done (.ret (.ref h.objs.size))) ⟨h.push (gQ "set.__contains__" a),g,d,t,os⟩) :
  aA (az prog w) A (bY.«object.__getattribute__» ⟨[.ref a,.str "__contains__" tk],[]⟩) Q E ⟨h,g,d,t,os⟩:=by
 have W:(⟨h,g,d,t,os⟩:ai).TypeIs (.ref a) "set":=(av _ hx rfl);have U:(⟨h,g,d,t,os⟩:ai).TypeIs (.builtin "set.__contains__") "method_descriptor":=CY;have f4:=TP;have f5:=CY;have f6:=rN.lookup;have f7:=Ks;have f8:=Kt;repeat (any_goals (first | assumption | with_reducible apply TX hx | wp_step))
theorem TZ {R:eZ->ai->Prop}(hx:h.get? a=some ⟨.type "set",none,.set es n st,sl⟩) (U:R (.ok (.ret (.ref h.objs.size))) ⟨h.push (gQ "set.__contains__" a),g,d,t,os⟩) :
  dc (az prog w) A (.call (.builtin "set.__getattribute__") ⟨[.ref a,.str "__contains__" tk],[]⟩) R ⟨h,g,d,t,os⟩:=
 pG F.slot_set_getattribute.plain F.entry_set_ga (F.slot_set_getattribute.check _ _ _ _ _ _ _ _ (show (⟨h,g,d,t,os⟩:ai).TypeIs (.ref a) "set" from (av _ hx rfl)) (F.args_set_getattribute_2 _ _) (TY hx U))
theorem T3 (hx:h.get? a=some ⟨.type "set",none,.set es n st,sl⟩) (V:Q (.ref h.objs.size) ⟨h.push (gQ "set.__contains__" a),g,d,t+1,os⟩) :
  aA (az prog w) A (pH (.ref a) "__contains__" true) Q E ⟨h,g,d,t,os⟩:=by
 have W:(⟨h,g,d,t,os⟩:ai).TypeIs (.ref a) "set":=(av _ hx rfl);have U:(⟨h,g,d,t+1,os⟩:ai).TypeIs (.ref a) "set":=(av _ hx rfl);have f2:=F.slot_set_getattribute.lookup;have f3:=F.slot_set_getattribute.bind (.ref a);unfold pH;repeat (any_goals (first | assumption | wp_step))
 refine TZ hx ?_;repeat (any_goals (first | assumption | wp_step))
theorem T5 {R:eZ->ai->Prop}(hx:h.get? a=some ⟨.type "dict",none,.dict ds n,sl⟩) (V:R (.ok (.ret (.ref h.objs.size))) ⟨h.push (gQ "dict.get" a),g,d,t,os⟩) :
  dc (az prog w) A (.call (.builtin "method_descriptor.__get__") ⟨[.builtin "dict.get",.ref a,.type "dict"],[]⟩) R ⟨h,g,d,t,os⟩:=by
 have W:(⟨h,g,d,t,os⟩:ai).TypeIs (.ref a) "dict":=(av _ hx rfl);have U:(⟨h,g,d,t,os⟩:ai).TypeIs (.builtin "dict.get") "method_descriptor":=CZ;have f8:=TV;refine pG rN.plain Ku (rN.check _ _ _ _ _ _ _ _ U (Kv _ _ _) ?_);repeat (any_goals (first | assumption | wp_step))
theorem T6 (hx:h.get? a=some ⟨.type "dict",none,.dict ds n,sl⟩) (V:Q (.done (.ret (.ref h.objs.size))) ⟨h.push (gQ "dict.get" a),g,d,t,os⟩) :
  aA (az prog w) A (bY.«object.__getattribute__» ⟨[.ref a,.str "get" tk],[]⟩) Q E ⟨h,g,d,t,os⟩:=by
 have W:(⟨h,g,d,t,os⟩:ai).TypeIs (.ref a) "dict":=(av _ hx rfl);have U:(⟨h,g,d,t,os⟩:ai).TypeIs (.builtin "dict.get") "method_descriptor":=CZ;have f4:=TQ;have f5:=CZ;have f6:=rN.lookup;have f7:=Ks;have f8:=Kt;repeat (any_goals (first | assumption | with_reducible apply T5 hx | wp_step))
theorem T7 {R:eZ->ai->Prop}(hx:h.get? a=some ⟨.type "dict",none,.dict ds n,sl⟩) (U:R (.ok (.ret (.ref h.objs.size))) ⟨h.push (gQ "dict.get" a),g,d,t,os⟩) :
  dc (az prog w) A (.call (.builtin "dict.__getattribute__") ⟨[.ref a,.str "get" tk],[]⟩) R ⟨h,g,d,t,os⟩:=
 pG F.slot_dict_getattribute.plain F.entry_dict_ga (F.slot_dict_getattribute.check _ _ _ _ _ _ _ _ (show (⟨h,g,d,t,os⟩:ai).TypeIs (.ref a) "dict" from (av _ hx rfl)) (F.args_dict_getattribute_2 _ _) (T6 hx U))
theorem T8 (hx:h.get? a=some ⟨.type "dict",none,.dict ds n,sl⟩) (V:Q (.ref h.objs.size) ⟨h.push (gQ "dict.get" a),g,d,t+1,os⟩) :
  aA (az prog w) A (pH (.ref a) "get" true) Q E ⟨h,g,d,t,os⟩:=by
 have W:(⟨h,g,d,t,os⟩:ai).TypeIs (.ref a) "dict":=(av _ hx rfl);have U:(⟨h,g,d,t+1,os⟩:ai).TypeIs (.ref a) "dict":=(av _ hx rfl);have f2:=F.slot_dict_getattribute.lookup;have f3:=F.slot_dict_getattribute.bind (.ref a);unfold pH;repeat (any_goals (first | assumption | wp_step))
 refine T7 hx ?_;repeat (any_goals (first | assumption | wp_step))
end
noncomputable def xV (id:String):Manifest.Signature:=(Manifest.signature? id).getD ⟨.hand,"","",.none,[]⟩
theorem T9:Manifest.signature? "dict.get"=some (xV "dict.get"):=by kernel_rfl
theorem Ua (f:String) (U:f="dict.get") (a x y:af):Bind.checkArgs "dict.get" {xV "dict.get" with full:=f} ⟨[a,x,y],[]⟩=pure ():=by subst U;kernel_rfl
theorem Ub:Manifest.signature? "set.__contains__"=some (xV "set.__contains__"):=by kernel_rfl
theorem Uc:wB "set.__contains__"=some .method:=by decide +kernel
theorem Ud:Manifest.varargsMethods.contains "set.__contains__"=false:=by decide +kernel
theorem Ue (f:String) (U:f="set.__contains__") (a x:af):Bind.checkArgs "set.__contains__" {xV "set.__contains__" with full:=f} ⟨[a,x],[]⟩=pure ():=by subst U;kernel_rfl
theorem Ug:jA (.type "set") (.type "module")=pure false:=by refine ae (ni ..) ?_;kernel_rfl
theorem Uh:wB "dict.get"=some .method:=by decide +kernel
theorem Ui:Manifest.varargsMethods.contains "dict.get"=false:=by decide +kernel
theorem Uj:jA (.type "dict") (.type "module")=pure false:=by refine ae (ni ..) ?_;kernel_rfl
theorem Uk:s!"{Bind.lastOf "dict"}.{Bind.lastOf "dict.get"}"="dict.get":=by decide +kernel
section
variable {M:Model}{A:cD}{E:af->ai->Prop}{h:aq}{g:Array AK}{d:Drawn}{t:Nat}{os:dT}{a:ak}{ds:Array eY}{n:Nat}{sl:Array (Option af)}
theorem Ul (hx:h.get? a=some ⟨.type "dict",none,.dict ds n,sl⟩) (U:Q () ⟨h,g,d,t,os⟩):aA M A (AL "dict.get" ⟨[.ref a,x,y],[]⟩) Q E ⟨h,g,d,t,os⟩:=by
 have V:(⟨h,g,d,t,os⟩:ai).TypeIs (.ref a) "dict":=(av _ hx rfl);have W:=Uj;have f2:=Ua (s!"{Bind.lastOf "dict"}.{Bind.lastOf "dict.get"}") Uk (.ref a) x y;unfold AL;refine ae (T9 ..) ?_;dsimp only;refine ae (Uh ..) ?_;dsimp only;refine ae (Ui ..) ?_;repeat (any_goals (first | assumption | wp_step))
theorem Um:s!"{Bind.lastOf "set"}.{Bind.lastOf "set.__contains__"}"="set.__contains__":=by decide +kernel
theorem Un {st:SetTable}(hx:h.get? a=some ⟨.type "set",none,.set es n st,sl⟩) (U:Q () ⟨h,g,d,t,os⟩):aA M A (AL "set.__contains__" ⟨[.ref a,x],[]⟩) Q E ⟨h,g,d,t,os⟩:=by
 have V:(⟨h,g,d,t,os⟩:ai).TypeIs (.ref a) "set":=(av _ hx rfl);have W:=Ug;have f2:=Ue (s!"{Bind.lastOf "set"}.{Bind.lastOf "set.__contains__"}") Um (.ref a) x;unfold AL;refine ae (Ub ..) ?_;dsimp only;refine ae (Uc ..) ?_;dsimp only;refine ae (Ud ..) ?_;repeat (any_goals (first | assumption | wp_step))
end
section
variable {prog:bM}{w:aW}{A:cD}{E:af->ai->Prop}{s:ai}{a q:ak}
theorem Kw {id:String}{pos:List af}(hq:s.heap.get? q=some (gQ id a)) (W:plainId id=true) (hb:AJ table id=some b)
  (hc:∀(P:Unit->ai->Prop) (E':af->ai->Prop) (A':cD),P () s->aA (az prog w) A' (AL id ⟨.ref a::pos,V⟩) P E' s)
  (h:aA (az prog w) A.in1 (b ⟨.ref a::pos,V⟩) (λfin U=>match fin with
   |.done f=>(λr U=>match r with | .ok (.ret v)=>Q v U | .ok _=>False | .error e=>E e U:eZ->ai->Prop) (.ok f) U
   |.again c'=>c'.quiet=true/\dc (az prog w) A c' (λr U=>match r with | .ok (.ret v)=>Q v U | .ok _=>False | .error e=>E e U) U) E s) :
  aA (az prog w) A (call (.ref q) pos V) Q E s:=by
 refine jB (Rm ?_);refine (?_:aA _ A.in1 (G6 (.ref q) ⟨pos,V⟩) _ _ s);refine au (wpAny_load hq ?_);show aA _ _ (ite (_=true) _ _) _ _ s
 refine ae (if_pos (show (af.type "builtin_function_or_method" == af.type "method" || af.type "builtin_function_or_method" == af.type "builtin_function_or_method" || af.type "builtin_function_or_method" == af.type "method-wrapper")=true by decide) ..) ?_
 show aA _ _ (ite ((af.type "builtin_function_or_method" != af.type "method")=true) _ _) _ _ s
 refine ae (if_pos (by decide) ..) <| au (hc _ _ _ ?_)
 refine aZ <| ⟨Ro W _,G7 hb ?_⟩;refine ae (cD.under_plainId W ..) <| h
theorem Uo {dflt:af}(hq:s.heap.get? q=some (gQ "dict.get" a)) (V:s.heap.MapOf (jc prog w) a f) (hd:(a == wC)=false)
  (h:Q ((f i).getD dflt) {s with toks:=s.toks+1}):aA (az prog w) A (call (.ref q) [.int i u,dflt] []) Q E s:=by
 refine fS (id V) λo es ep ho hc U zz=>?_;obtain ⟨c,od,dt,sl⟩:=o;refine cg hc λW cu jl=>?_;clear hc;subst W;subst cu;subst jl;simp only at U;subst U;refine Kw hq (by decide +kernel) F.entry_dict_get (λP E' A' hP=>?_) ?_
 ·clear hq V h;obtain ⟨hh,g,dd,t,os⟩:=s;exact Ul ho hP
 ·exact ad2 (jc prog w) a (wF prog w i u) hd dflt A (λr s'=>match r with | .ok (.ret v)=>Q v s' | .ok _=>False | .error e=>E e s') s (av f V h)
theorem Up {n:Nat}(hq:s.heap.get? q=some (gQ "set.__contains__" a)) (V:s.heap.SetOf (jc prog w) a S n)
  (h:Q (.bool (S i)) {s with toks:=s.toks+1}):aA (az prog w) A (call (.ref q) [.int i u] []) Q E s:=by
 refine lh (id V) λo es ep st ho hc U zz=>?_;obtain ⟨c,od,dt,sl⟩:=o;refine cg hc λW cu jl=>?_;clear hc;subst W;subst cu;subst jl;simp only at U;subst U;refine Kw hq (by decide +kernel) entry_set_contains (λP E' A' hP=>?_) ?_
 ·clear hq V h;obtain ⟨hh,g,dd,t,os⟩:=s;exact Un ho hP
 ·unfold bY.«frozenset.__contains__» bY.Frozenset.oneOther;simp only [List.isEmpty_nil,bind_assoc];unfold bY.Frozenset.addrOf bY.Frozenset.withSetAsKey setContains;refine au (aZ ?_)
  try dsimp only
  refine au (aZ ?_)
  try dsimp only
  refine au (Rp ?_);refine fo <| au ((jc prog w).pyHash (wF prog w i u) ?_);refine au (wpAny_setFind_of (s:={s with toks:=s.toks+1}) (wF prog w i u) rfl V λr hr=>?_)
  refine aZ ?_;refine (?_:aA _ _ (ret (af.bool r.isSome)) _ _ _);refine ae (hr ..) <| aZ h
end
section
variable {prog:bM}{w:aW}{A:cD}{E:af->ai->Prop}{s:ai}{h₀:aq}{L d q:ak}{m:ag->Option af}{news:List (ak×ay)}{f:Int->Option af}
def Tab (Kx:List (Int×af)) (f:Int->Int):Prop:=∀j,(valueAt Kx j=none/\f j=0)∨∃t,valueAt Kx j=some (.int (f j) t)
theorem Ky (x:Int):valueAt ([]:List (Int×af)) x=none:=rfl
theorem pX (a:Int) (b:af) (r:List (Int×af)) (x:Int):valueAt ((a,b)::r) x=if a=x then some b else valueAt r x:=by
 unfold valueAt;rw [G8];by_cases h:a=x
 ·simp [h]
 ·simp [h]
theorem Kz (k:Int) (v:af) (x:Int):∀U:List (Int×af),valueAt (U.map λkv=>if kv.1=k then (kv.1,v) else kv) x=if x=k then (valueAt U x).map (λzz=>v) else valueAt U x:=@λA=>match A with
 |[]=>by simp [Ky]
 |(a,b)::r=>by
  have V:=Kz k v x r;rw [iQ,pX];by_cases W:a=k
  ·subst W;rw [if_pos rfl,pX,V];by_cases hx:a=x
   ·clear V;subst hx;simp
   ·simp [hx]
  ·rw [if_neg W,pX,V];by_cases hx:a=x
   ·clear V;subst hx;simp [W]
   ·simp [hx]
theorem KA (k:Int) (v:af) (x:Int):∀U:List (Int×af),valueAt (U++[(k,v)]) x=(valueAt U x).or (if k=x then some v else none):=@λA=>match A with
 |[]=>by refine ae (fE ..) (ae (pX ..) (ae (Ky ..) ?_));rfl
 |(a,b)::r=>by
  refine ae (ad3 ..) (ae (pX ..) (ae (pX ..) (ae (KA k v x r ..) ?_)));by_cases hx:a=x
  ·simp [hx]
  ·simp [hx]
theorem KC (k:Int):∀U:List (Int×af),(U.any λkv=>decide (kv.1=k))=(valueAt U k).isSome:=@λA=>match A with
 |[]=>rfl
 |(a,b)::r=>by
  refine ae (Rq ..) (ae (pX ..) (ae (KC k r ..) ?_));by_cases hx:a=k
  ·simp [hx]
  ·simp [hx]
theorem KD (U:List (Int×af)) (k:Int) (v:af) (x:Int):valueAt (stored U k v) x=if x=k then some v else valueAt U x:=by
 unfold stored;refine ae (KC ..) ?_;cases e:valueAt U k with
 |none=>
  refine ae (ad4 ..) (ae (if_neg (by simp) ..) (ae (KA ..) ?_))
  by_cases hx:x=k
  ·subst hx;simp [e]
  ·have V:¬k=x:=λe=>hx e.symm;simp [hx,V]
 |some u=>
  refine ae (Option.isSome_some ..) (ae (if_pos rfl ..) (ae (Kz ..) ?_));by_cases hx:x=k
  ·subst hx;simp [e]
  ·simp [hx]
def C0 (id:String) (a q:ak) (h:aq):Prop:=h.get? q=some (gQ id a)
theorem Uq {id:String}{a q:ak}(h:aq) (X:C0 id a q h):∃k,(k=Keeper.frame∨k=Keeper.machine∨k=Keeper.boundFrame)/\bz M h (keeperOf (.ref q)) k:=
 (av .machine (.inr (.inl rfl)) ((bz.ld (part:=none) X).andThen .now))
def Ur (I:Nat->ai->Prop) (n:Nat) (s:ai):Prop:=∃m,m<n/\I m s
theorem Us {pos:aB}(I:Nat->ai->Prop)
  (turn:∀n s,I n s->aA (az prog w) A (AM test env (b5 test env)) (λb W=>if b=true then aA (az prog w) A (gM body env) (λf U=>match f with
    |.next | .cont=>Ur I n U
    |.brk=>Q .next U
    |.ret v=>Q (.ret v) U) (λzz zz=>False) W else Q .next W) (λzz zz=>False) s)
  (n:Nat) (h:I n s):aA (az prog w) A (cJ (.While test body [] pos) env) Q E s:=by
 refine wpAny_While (codeAny_whileLoop I (λn s hI=>cK (turn n s hI) (λb W V=>?_) λzz zz e=>e.elim) n h);cases b with
 |true=>
  rw [if_pos rfl] at V;refine ae (if_pos rfl ..) <| cK V (λf U fH=>?_) λzz zz e=>e.elim;cases f <;> exact fH
 |false=>
  rw [if_neg (by simp)] at V
  refine ae (if_neg (by simp) ..) <| wpAny_execs_nil V
def ae2 (M:Model) (A:cD) (st:cU) (env:da) (Q:iP->ai->Prop) (E:af->ai->Prop) (s:ai):Prop:=aA M A (cJ st env) Q E s
end
noncomputable abbrev Led:=List (ak×ay)
noncomputable abbrev Fz:=ak->ay->Prop
noncomputable abbrev aQ (vs:List af) (n:Nat):ay:=W.listOf vs.toArray n
noncomputable abbrev lr (vs:List af):ay:={cls:=.type "tuple",data:=.seq vs.toArray}
def bB {α β:Type}(R:α->β->Prop):List α->List β->Prop:=@λA B=>match A,B with
 |[],r=>r=[]
 |a::l,r=>match r with
  |[]=>False
  |b::q=>R a b/\bB R l q
section
variable {α β:Type}{R S:α->β->Prop}{l k:List α}{r q:List β}{a:α}{b:β}
theorem bB.ig:∀{l:List α},bB R l (b::r)->∃a q,l=a::q/\R a b/\bB R q r:=@λA B=>match A,B with
 |[],x=>cn (show b::r=[] from x)
 |a::q,x=>(bQ a q rfl x.1 x.2)
theorem bB.mf:∀{l:List α},bB R l []->l=[]:=@λA B=>match A,B with
 |[],zz=>rfl
 |zz::U,x=>(show False from x).elim
theorem KH:∀{l:List α},l.length=n+1->∃a q,l=a::q/\q.length=n:=@λA B=>match A,B with
 |[],x=>El.zs x
 |a::q,x=>(iC a q rfl (jC x))
theorem bB.one (h:R a b):bB R [a] [b]:=⟨h,rfl⟩
theorem bB.len:∀{l:List α}{r:List β},bB R l r->l.length=r.length:=@λA B C=>match A,B,C with
 |[],zz,x=>(show _=[] from x)▸rfl
 |zz::U,[],x=>(show False from x).elim
 |zz::U,V::W,x=>congrArg l5 x.2.len
theorem bB.imp (h:∀a b,R a b->S a b):∀{l:List α}{r:List β},bB R l r->bB S l r:=@λA B C=>match A,B,C with
 |[],zz,x=>x
 |zz::U,[],x=>x
 |zz::U,V::W,x=>⟨h _ _ x.1,x.2.imp h⟩
theorem bB.append:∀{l:List α}{r:List β},bB R l r->bB R k q->bB R (l++k) (r++q):=@λA B C D=>match A,B,C,D with
 |[],zz,x,y=>by refine ae (show _=[] from x) <| y
 |zz::U,[],x,V=>(show False from x).elim
 |zz::U,V::W,x,y=>⟨x.1,x.2.append y⟩
theorem bB.get:∀{l:List α}{r:List β}{i:Nat},bB R l r->r[i]? = some b->∃a,l[i]? = some a/\R a b:=@λA B C D F=>match A,B,C,D,F with
 |[],zz,U,x,h=>by rw [show _=[] from x] at h;exact El.ns h
 |zz::U,[],V,x,W=>(show False from x).elim
 |a::zz,U::V,0,x,h=>(av a rfl (dJ h▸x.1))
 |zz::U,V::W,i+1,x,h=>x.2.get (i:=i) h
theorem bB.split {r1 r2:List β}:∀{l:List α},bB R l (r1++r2)->∃U l2,l=U++l2/\bB R U r1/\bB R l2 r2:=by
 induction r1 with
 |nil=>exact λx=>(bQ [] _ rfl rfl x)
 |cons b r W=>
  intro l x;cases l with
  |nil=>exact cn x
  |cons a l=>
   refine aO (W x.2) λU l2 V y z=>?_;subst V;exact bQ (a::U) l2 rfl ⟨x.1,y⟩ z
end
noncomputable abbrev xW (U:ak) (vs:Array af):ay:={cls:=.ref 135,dict:=some U,data:=.seq vs 0}
noncomputable abbrev C1 (i j k:Int):ah:=.dict [(.none,.tuple [.int i,.int j,.int k])]
structure nY (o:ay) (ws:List af):Prop where
 c:o.cls=.type "list"
 d:∃k,o.data=.seq ws.toArray k
 e:o.dict=none
theorem xX {ws:List af}{k:Nat}:nY (aQ ws k) ws:=⟨rfl,⟨k,rfl⟩,rfl⟩
class inductive Dat (P:Fz):af->ah->Prop
 |none:Dat P .none .none
 |bool (b:Bool):Dat P (.bool b) (.bool b)
 |int (n:Int) (t:Tok):Dat P (.int n t) (.int n)
 |str (n:ag) (t:Tok):Dat P (.str n t) (.str n)
 |list {ws:List af}{ds:List ah}{a:ak}{o:ay}:P a o->nY o ws->ws.length=ds.length->(∀(i:Nat) v d,ws[i]? = some v->ds[i]? = some d->Dat P v d)->Dat P (.ref a) (.list ds)
 |tup {ws:List af}{ds:List ah}{a:ak}:P a (lr ws)->ws.length=ds.length->(∀(i:Nat) v d,ws[i]? = some v->ds[i]? = some d->Dat P v d)->Dat P (.ref a) (.tuple ds)
 |mt {a dx:ak}{i j k:Int}{ti tj tk:Tok}:P a (xW dx #[.int i ti,.int j tj,.int k tk])->Dat P (.ref a) (C1 i j k)
abbrev aU (P:Fz):List af->List ah->Prop:=bB (Dat P)
set_option genCtorIdx true in
inductive Tr
 |un
 |dat (d:ah)
 |dl (ds:List ah)
 |ol (ts:List Tr)
 |ot (ts:List Tr)
 |fr (φ:Fz->Led->af->Prop)
noncomputable def rO (a:Option ah) (b:Option (List ah)):Option (List ah):=match a with
 |some d=>match b with
  |some ds=>some (d::ds)
  |none=>none
 |none=>none
abbrev rP (φ:Fz->Led->af->Prop):Prop:=∀(P P':Fz) O v,(∀a o,P a o->P' a o)->φ P O v->φ P' O v
mutual
noncomputable def Tr.data:Tr->Option ah:=@λA=>match A with
 |.dat d=>some d
 |.dl ds=>some (.list ds)
 |.ol ts=>(nZ ts).map .list
 |.ot ts=>(nZ ts).map .tuple
 |.un=>none
 |.fr zz=>none
noncomputable def nZ:List Tr->Option (List ah):=@λA=>match A with
 |[]=>some []
 |t::ts=>rO t.data (nZ ts)
end
mutual
def Rep (P:Fz):Tr->Led->af->Prop:=@λA B C=>match A,B,C with
 |.un,O,zz=>O=[]
 |.dat d,O,v=>O=[]/\Dat P v d
 |.dl ds,O,v=>∃a n ws,v=.ref a/\O=[(a,aQ ws n)]/\aU P ws ds
 |.ol us,O,v=>∃a n ws Oz,v=.ref a/\O=(a,aQ ws n)::Oz/\bO P us Oz ws
 |.ot us,O,v=>∃a ws Oz,v=.ref a/\O=(a,lr ws)::Oz/\bO P us Oz ws
 |.fr φ,O,v=>rP φ/\φ P O v
def bO (P:Fz):List Tr->Led->List af->Prop:=@λA B C=>match A,B,C with
 |[],O,vs=>O=[]/\vs=[]
 |t::ts,O,vs=>match vs with
  |[]=>False
  |v::vr=>∃O1 O2,O=O1++O2/\Rep P t O1 v/\bO P ts O2 vr
end
section
variable {P P' Pa:Fz}{vs us ws:List af}{ds es:List ah}{v:af}{d:ah}{O O':Led}{t:Tr}{ts:List Tr}{a:ak}
theorem Dat.mono (x:Dat P v d) (U:∀a o,P a o->P' a o):Dat P' v d:=by
 induction x with
 |none=>exact .none
 |bool b=>exact .bool b
 |int n t=>exact .int n t
 |str n t=>exact .str n t
 |list h q l _ V=>exact .list (U _ _ h) q l V
 |tup h l _ V=>exact .tup (U _ _ h) l V
 |mt h=>exact .mt (U _ _ h)
theorem aU.mono (x:aU P vs ds) (U:∀a o,P a o->P' a o):aU P' vs ds:=x.imp λzz zz h=>h.mono U
theorem C2:∀{vs:List af}{ds:List ah},vs.length=ds.length->(∀(i:Nat) v d,vs[i]? = some v->ds[i]? = some d->Dat P v d)->aU P vs ds:=@λA B C D=>match A,B,C,D with
 |[],[],zz,U=>rfl
 |v::vs,d::ds,l,f=>⟨f 0 v d rfl rfl,C2 (jC l) λi=>f (i+1)⟩
theorem rQ:∀{vs:List af}{ds:List ah},aU P vs ds->∀(i:Nat) v d,vs[i]? = some v->ds[i]? = some d->Dat P v d:=λx i v d V W=>by
 refine ar (x.get W) λw U h4=>?_;rw [V] at U;cases U;exact h4
theorem Dat.lst {k:Nat}(h:P a (aQ ws k)) (x:aU P ws ds):Dat P (.ref a) (.list ds):=.list h xX x.len (rQ x)
theorem Dat.KI (h:P a (lr ws)) (x:aU P ws ds):Dat P (.ref a) (.tuple ds):=.tup h x.len (rQ x)
theorem Dat.jJ (h:Dat P v (.int n)):∃t,v=.int n t:=by cases h;exact ⟨_,rfl⟩
theorem Dat.Ut (h:Dat P v (.bool n)):v=.bool n:=by cases h;rfl
theorem Dat.listI (h:Dat P v (.list ds)):∃a ws o,v=.ref a/\(P a o/\nY o ws)/\aU P ws ds:=by cases h with | list p q l g=>exact iD _ _ _ rfl ⟨p,q⟩ (C2 l g)
theorem Dat.tupI (h:Dat P v (.tuple ds)):∃a ws,v=.ref a/\P a (lr ws)/\aU P ws ds:=by cases h with | tup p l g=>exact bQ _ _ rfl p (C2 l g)
theorem C3:∀{vs:List af}{ds:List ah},vs.length=ds.length->(∀(i:Nat) v d,vs[i]? = some v->ds[i]? = some d->∃as,AN h v d as)->∃as,ReadsAll h vs ds as:=@λA B C D=>match A,B,C,D with
 |[],[],zz,U=>⟨_,.nil⟩
 |v::vs,d::ds,l,f=>(f 0 v d rfl rfl).elim λzz r=>(C3 (jC l) λi v d=>f (i+1) v d).elim λzz q=>⟨_,.cons r q⟩
theorem C4:∀{ds:List ah}{i:Nat}{d:ah},ah.hasDictAll ds=false->ds[i]? = some d->d.hasDict=false:=@λA B C D F=>match A,B,C,D,F with
 |[],zz,U,V,h=>El.ns h
 |e::ds,0,d,g,h=>by
  cases h
  exact (ad5.mp (show (e.hasDict || ah.hasDictAll ds)=false by rw [<-g,ah.hasDictAll])).1
 |e::ds,i+1,d,g,h=>C4 (ad5.mp (show (e.hasDict || ah.hasDictAll ds)=false by rw [<-g,ah.hasDictAll])).2 (i:=i) h
theorem Dat.reads (x:Dat P v d) (V:∀a o,P a o->h.get? a=some o):d.hasDict=false->∃as,AN h v d as:=by
 induction x with
 |none=>exact λzz=>⟨_,.none⟩
 |bool b=>exact λzz=>⟨_,.bool b⟩
 |int n t=>exact λzz=>⟨_,.int n t⟩
 |str n t=>exact λzz=>⟨_,.str n t⟩
 |list g o l _ U=>exact λn=>(C3 l λi v d e1 e2=>U i v d e1 e2 (C4 (by rw [<-n,ah.hasDict]) e2)).elim λzz q=>o.d.elim λzz d=>⟨_,reads_list_at (V _ _ g) o.c d q⟩
 |tup g l _ U=>exact λn=>(C3 l λi v d e1 e2=>U i v d e1 e2 (C4 (by rw [<-n,ah.hasDict]) e2)).elim λzz q=>⟨_,reads_tuple_at (V _ _ g) rfl rfl q⟩
 |mt _=>exact λn=>(tf (show true=false by rw [<-n,ah.hasDict]))
mutual
theorem Rep.mono (U:∀a o,P a o->P' a o):∀(t:Tr) {O:Led}{v:af},Rep P t O v->Rep P' t O v:=@λA B C D=>match A,B,C,D with
 |.un,zz,V,x=>x
 |.dat zz,V,W,x=>⟨x.1,x.2.mono U⟩
 |.dl zz,V,W,⟨a,n,ws,e,f,x⟩=>(iD a n ws e f (x.mono U))
 |.ol us,zz,V,⟨a,n,ws,Oz,e,f,x⟩=>(nU a n ws Oz e f (bO.mono U us x))
 |.ot us,zz,V,⟨a,ws,Oz,e,f,x⟩=>(iD a ws Oz e f (bO.mono U us x))
 |.fr zz,V,W,x=>⟨x.1,x.1 _ _ _ _ U x.2⟩
theorem bO.mono (U:∀a o,P a o->P' a o):∀(ts:List Tr) {O:Led}{vs:List af},bO P ts O vs->bO P' ts O vs:=@λA B C D=>match A,B,C,D with
 |[],zz,V,x=>x
 |zz::V,W,[],x=>x
 |t::ts,zz,V::W,⟨O1,O2,e,x,y⟩=>(bQ O1 O2 e (Rep.mono U t x) (bO.mono U ts y))
end
theorem bO.len:∀{ts:List Tr}{O:Led}{vs:List af},bO P ts O vs->vs.length=ts.length:=@λA B C D=>match A,B,C,D with
 |[],zz,U,x=>x.2▸rfl
 |zz::U,V,[],x=>(show False from x).elim
 |zz::U,V,W::zv,⟨_,zu,zt,zr,y⟩=>congrArg l5 y.len
theorem bO.focus:∀{ts:List Tr}{O:Led}{vs:List af}{i:Nat},bO P ts O vs->ts[i]? = some t->∃v V Or,vs[i]? = some v/\Rep P t V v/\O.Perm (V++Or)/\
  ∀{P':Fz}{v' t' O'},(∀a o,P a o->P' a o)->Rep P' t' O' v'->∃U,bO P' (ts.set i t') U (vs.set i v')/\U.Perm (O'++Or):=@λC D F G H J=>match C,D,F,G,H,J with
 |[],zz,zy,zx,zw,h=>El.ns h
 |zz::zy,zx,[],zw,x,zv=>(show False from x).elim
 |u::ts,zz,v::vs,0,⟨V,W,e,x,y⟩,h=>(rM v V W rfl (dJ h▸x) (e▸.refl _) (λ{P' v' t' O'} hP z=>(av (O'++W) (bQ O' W rfl z (bO.mono hP ts y)) (.refl _))))
 |u::ts,zz,v::vs,i+1,⟨V,W,e,x,y⟩,h=>by
  refine fS (y.focus (i:=i) h) λw A B h1 h2 h3 f=>rM w A (V++B) h1 h2 (e▸(h3.append_left V).trans (cE ..)) (λ{P' v' t' O'} hP z=>?_);refine ar (f hP z) λU g1 g2=>av (V++U) (bQ V U rfl (Rep.mono hP u x) g1) ((g2.append_left V).trans (cE ..))
noncomputable abbrev Fz.and (P:Fz) (O:Led):Fz:=λa o=>P a o∨(a,o)∈O
theorem C5 (h:rO x y=some ds):∃d es,x=some d/\y=some es/\ds=d::es:=by
 cases x with
 |none=>exact El.ns h
 |some d=>cases y with
  |none=>exact El.ns h
  |some es=>exact bQ d es rfl rfl (dJ h).symm
theorem map_some {α β:Type}{x:Option α}{f:α->β}{y:β}(h:x.map f=some y):∃a,x=some a/\y=f a:=by
 cases x with
 |none=>exact El.ns h
 |some a=>exact av a rfl (dJ h).symm
theorem bind_some {α β:Type}{x:Option α}{f:α->Option β}{y:β}(h:x.bind f=some y):∃a,x=some a/\f a=some y:=by
 cases x with
 |none=>exact El.ns h
 |some a=>exact av a rfl h
mutual
theorem Rep.jK:∀(t:Tr) {O:Led}{v:af}{d:ah},Rep P t O v->t.data=some d->Dat (P.and O) v d:=@λA B C D F G=>match A,B,C,D,F,G with
 |.un,zz,V,W,zw,h=>El.ns h
 |.dat zz,V,W,zw,x,h=>dJ h▸x.2.mono λzz zz=>.inl
 |.dl zz,V,W,zw,⟨a,n,ws,e,f,x⟩,h=>by
  cases h
  subst e f;exact .lst (.inr (.head _)) (x.mono λzz zz=>.inl)
 |.ol us,zz,V,W,⟨a,n,ws,Oz,e,f,x⟩,h=>by
  refine ar (map_some h) λds h1 U=>?_;clear h;subst U;subst e f;exact .lst (.inr (.head _)) ((bO.jK us x h1).mono λzz zz q=>q.imp_right λq=>.tail _ q)
 |.ot us,zz,V,W,⟨a,ws,Oz,e,f,x⟩,h=>by
  refine ar (map_some h) λds h1 U=>?_;clear h;subst U;subst e f;exact .KI (.inr (.head _)) ((bO.jK us x h1).mono λzz zz q=>q.imp_right λq=>.tail _ q)
 |.fr zz,V,W,zw,zv,h=>El.ns h
theorem bO.jK:∀(ts:List Tr) {O:Led}{vs:List af}{ds:List ah},bO P ts O vs->nZ ts=some ds->aU (P.and O) vs ds:=@λA B C D F G=>match A,B,C,D,F,G with
 |[],zz,V,W,⟨_,e⟩,h=>by cases h;subst e;rfl
 |zz::V,W,[],zw,x,zv=>(show False from x).elim
 |t::ts,zz,V::W,zw,⟨O1,O2,e,x,y⟩,h=>by
  refine aO (C5 h) λd es h1 h2 U=>?_;clear h;subst U;subst e;exact ⟨(Rep.jK t x h1).mono λzz zz q=>q.imp_right (bE _),(bO.jK ts y h2).mono λzz zz q=>q.imp_right (bj _)⟩
end
noncomputable def child (j:Nat):Tr->Option Tr:=@λA=>match A with
 |.ol ts=>ts[j]?
 |.ot ts=>ts[j]?
 |_=>none
noncomputable def eg (t:Tr):List Nat->Option Tr:=@λA=>match A with
 |[]=>some t
 |j::p=>(eg t p).bind (child j)
noncomputable def setC (j:Nat) (u:Tr):Tr->Tr:=@λA=>match A with
 |.ol ts=>.ol (ts.set j u)
 |.ot ts=>.ot (ts.set j u)
 |t=>t
noncomputable def jL (t:Tr):List Nat->Tr->Tr:=@λA B=>match A,B with
 |[],u=>u
 |j::p,u=>match eg t p with
  |some t1=>jL t p (setC j u t1)
  |none=>t
abbrev SeqIn (P:Fz) (a:ak) (ws:List af):Prop:=(∃o,P a o/\nY o ws)∨P a (lr ws)
def eE (N:Led) (v:af):List Nat->af->Prop:=@λA B=>match A,B with
 |[],w=>w=v
 |j::p,w=>∃a ws,eE N v p (.ref a)/\SeqIn (λa o=>(a,o)∈N) a ws/\ws[j]? = some w
theorem eE.mono {N N':Led}(U:∀q∈N,q∈N'):∀{p:List Nat}{w:af},eE N v p w->eE N' v p w:=@λA B C=>match A,B,C with
 |[],zz,x=>x
 |zz::p,V,⟨a,ws,x,y,z⟩=>(bQ a ws (eE.mono U (p:=p) x) (y.imp (λh=>h.imp λzz h=>h.imp_left (U _)) (U _)) z)
abbrev xY (N:Led):Prop:=∀a o o',(a,o)∈N->(a,o')∈N->o=o'
noncomputable def xZ (o:ay):List af:=match o.data with
 |.seq xs zz=>xs.toList
 |_=>[]
theorem Uu {N:Led}{ws us:List af}(f:xY N) (x:SeqIn (λa o=>(a,o)∈N) a ws) (y:SeqIn (λa o=>(a,o)∈N) a us):ws=us:=by
 have V:∀{ws:List af},SeqIn (λa o=>(a,o)∈N) a ws->∃o,(a,o)∈N/\xZ o=ws:=λx=>x.elim (λ⟨o,h,q⟩=>(av o h (by refine El.ea q.d λk d=>?_;unfold xZ;exact ae (d ..) rfl))) λh=>(av _ h rfl)
 refine ar (V x) λo W U=>?_;clear x;subst U;refine ar (V y) λo' h2 U=>?_;clear y;subst U;exact ae (f _ _ _ W h2 ..) rfl
theorem eE.uniq {N:Led}(f:xY N):∀{p:List Nat}{w U:af},eE N v p w->eE N v p U->w=U:=@λA B C D F=>match A,B,C,D,F with
 |[],zz,V,x,y=>x.trans y.symm
 |zz::p,V,zx,⟨a,ws,x,y,z⟩,⟨a',W,x',y',z'⟩=>by
  cases eE.uniq f (p:=p) x x'
  rw [Uu f y y',z'] at z;exact (dJ z).symm
inductive C6 (P:Fz) (N:Led) (O:Led) (v:af) (p:List Nat) (u:Tr) (f:Tr->Tr):Prop
 |mk {w:af}{Ou Or:Led}:eE N v p w->Rep P u Ou w->O.Perm (Ou++Or)->(∀{P':Fz}{u' C7},(∀a o,P a o->P' a o)->Rep P' u' C7 w->∃O',Rep P' (f u') O' v/\O'.Perm (C7++Or))->C6 P N O v p u f
theorem KJ (U:O.Perm ((p::A)++B)) (V:A.Perm (X++Y)):O.Perm (X++(p::(Y++B))):=
 U.trans (((V.append_right B).cons p).trans (by refine ae (bt ..) <| nh.symm))
theorem Rep.x5 {N:Led}(x:Rep P t O v) (hN:∀q∈O,q∈N):∀{p:List Nat}{u:Tr},eg t p=some u->C6 P N O v p u (jL t p):=@λC D F=>match C,D,F with
 |[],u,h=>by cases h;exact .mk rfl x (by rw [cL]) λW y=>(av _ y (by rw [cL]))
 |j::p,u,h=>by
  refine ar (bind_some (show (eg t p).bind (child j)=some u from h)) λt1 e h'=>?_;have es:∀U,jL t (j::p) U=jL t p (setC j U t1):=λU=>by refine (?_:(match eg t p with | some t1=>jL t p (setC j U t1) | none=>t)=_);exact ae (e ..) rfl
  cases x.x5 hN e with
  |@mk w1 O1 Or pv r pe f=>
   have V:∀{a o ws us Oz},w1=.ref a->O1=(a,o)::Oz->SeqIn (λa o=>(a,o)∈N) a ws->bO P us Oz ws->us[j]? = some u->(∀{P':Fz}{U O'},bO P' (us.set j U) O' ws->Rep P' (setC j U t1) ((a,o)::O') (.ref a))->C6 P N O v (j::p) u (jL t (j::p)):=λ{a o ws us Oz} e1 e2 si y hu mk=>by
    clear r;subst e1 e2;refine fS (y.focus hu) λw A B g1 g2 g3 g4=>?_;have hw:ws.set j w=ws:=by clear g2;obtain ⟨hl,e⟩:=dU.mp g1;refine ae (e ..).symm <| wG hl
    refine .mk (bQ a ws pv si g1) g2 (KJ pe g3) λ{P' U C7} W z=>ar (g4 W z) λO'' k1 k2=>?_;rw [hw] at k1;refine ar (f W (mk k1)) λO3 k3 k4=>av O3 (es U▸k3) (k4.trans (KJ (.refl _) k2))
   have hO:∀q∈O1,q∈N:=λq hq=>hN q (pe.mem_iff.mpr (bE _ hq));clear e es;cases t1 with
   |ol us=>
    refine iZ r λa n ws Oz e1 e2 y=>?_;clear r;exact V e1 e2 (.inl (av (aQ ws n) (hO _ (by refine ae (e2 ..) <| .head _)) xX)) y h' λz=>(nU a n ws _ rfl rfl z)
   |ot us=>
    refine dM r λa ws Oz e1 e2 y=>?_;clear r;exact V e1 e2 (.inr (hO _ (e2▸.head _))) y h' λz=>(iD a ws _ rfl rfl z)
   |_=>exact El.ns h'
end
inductive Ev
 |ow (t:Tr)
 |bo (i:Nat) (p:List Nat)
noncomputable def Ev.tree (σ:List Tr):Ev->Option Tr:=@λA=>match A with
 |.ow t=>some t
 |.bo i p=>σ[i]?.bind λt=>eg t p
noncomputable def Ev.data (σ:List Tr) (e:Ev):Option ah:=(e.tree σ).bind Tr.data
inductive Lc
 |int (n:Int)
 |str (s:ag)
 |bool (b:Bool)
 |none
set_option genCtorIdx true in
inductive Bi
 |len | max | min
set_option genCtorIdx true in
inductive Ow
 |fr | own | deep | n5
abbrev Tg:=List (Nat×Ow)
inductive SE
 |nil
 |cons (a r:SE)
 |var (i:Nat)
 |lit (c:Lc)
 |tup (es:SE)
 |lst (es:SE)
 |bin (o:tB) (a b:SE)
 |neg (a:SE)
 |sub (a i:SE)
 |slc (a lo hi:SE)
 |cmp (o:wH) (a b:SE)
 |pY (o p:wH) (a b c:SE)
 |ite (t a b:SE)
 |tv (a:SE)
 |nt (t:SE)
 |an (a b:SE)
 |orr (a b:SE)
 |fn (i:Nat) (es:SE)
 |bi (b:Bi) (es:SE)
 |C8 (b:SE)
 |idx (a x:SE)
 |x6 (is:Tg) (tp:Bool) (cs:List Nat) (n:Nat) (src elt:SE)
 |x7 (is:Tg) (tp:Bool) (cs:List Nat) (n:Nat) (b elt:SE)
 |ya (is:Tg) (tp:Bool) (cs:List Nat) (n:Nat) (src elt:SE)
 |er (i j:Nat)
 |mp (i m:Nat) (es:SE)
 |new (m:Nat) (es:SE)
 |yb (m:Nat) (r es:SE)
 |yc (i:Nat)
 |has (i j:Nat)
 |C9 (i:Nat)
 |rS (i:Nat) (es:SE)
 |Dc (i:Nat) (es:SE)
 |kc (fz:Bool)
 |yf
 |bad
noncomputable abbrev iE:=Bool×(List ah->(ah->Prop)->Prop)
inductive bu
 |tr (t:Tr)
 |any
 |rf (a:ak)
noncomputable abbrev eF:=ak×ak->List bu->List ah->(ah->List bu->Prop)->Prop
structure cX where
 f:List iE
 m:List eF
def lu (P:Fz):bu->af->Prop:=@λA B=>match A,B with
 |.tr t,v=>Rep P t [] v
 |.any,zz=>True
 |.rf a,v=>v=.ref a
noncomputable def bU:List ag:=["isjunk","a","b","autojunk","matching_blocks","opcodes","fullbcount","b2j","bjunk","bpopular"]
def cY (P:Fz):List eY->List ag->List bu->Prop:=@λA B C=>match A,B,C with
 |[],zz,as=>as=[]
 |e::es,ns,as=>match ns,as with
  |n::ns,a::as=>(∃t,e.key=.str n t)/\nq e.val=true/\lu P a e.val/\cY P es ns as
  |zz,zy=>False
def pZ (x:ak×ak) (as:List bu):Fz->Led->af->Prop:=λP O v=>v=.ref x.1/\∃es n,O=[(x.1,gV 242 x.2),(x.2,gc es n)]/\cY P es bU as
noncomputable abbrev b6 (x:ak×ak) (as:List bu):Tr:=.fr (pZ x as)
noncomputable abbrev b7 (r:Fz->af->Prop):Tr:=.fr λP O v=>O=[]/\r P v
def uA (P:Fz) (x:Option af) (y:Option ah):Prop:=match y with
 |none=>x=none
 |some d=>∃v,x=some v/\Dat P v d
theorem Uv {kv:List (Int×af)}(h:Pairs (jc pg w) es kv):Pairs (jc U W) es kv:=by
 induction h with
 |nil=>exact .nil
 |cons a b _ V=>exact .cons a b V
theorem yg {pg U:bM}{w V:aW}{o:ay}{kv:List (Int×af)}(h:o.IsDictOf (jc pg w) kv):o.IsDictOf (jc U V) kv:=
 h.imp λes h=>h.imp λW h=>(nR h.1 h.2.1 h.2.2.1 (Uv h.2.2.2.1) h.2.2.2.2)
structure ke (P:Fz) (n:Nat) (g:Int->Option ah) (o:ay):Prop where
 d:∃kv,(∀(pg:bM) (w:aW),o.IsDictOf (jc pg w) kv)/\kv.length<=n/\∀i,uA P (valueAt kv i) (g i)
def yh (S:Int->Bool) (o:ay):Prop:=∀(pg:bM) (w:aW) (h:aq) (a:ak),h.get? a=some o->∃n,h.SetOf (jc pg w) a S n
def lx (n:Nat) (g:Int->Option ah):Fz->Led->af->Prop:=λP O v=>∃a o,v=.ref a/\O=[(a,o)]/\(a == wC)=false/\ke P n g o
def fU (g:Int->Option ah):Fz->af->Prop:=λP v=>∃a o n,v=.ref a/\P a o/\(a == wC)=false/\ke P n g o
def jM (S:Int->Bool):Fz->af->Prop:=λP v=>∃a o,v=.ref a/\P a o/\yh S o
inductive n6 (g:Int->Option ah) (P:Fz):af->Prop
 |mk {q a:ak}{o:ay}{n:Nat}:P q (gQ "dict.get" a)->P a o->(a == wC)=false->ke P n g o->n6 g P (.ref q)
inductive p7 (S:Int->Bool) (P:Fz):af->Prop
 |mk {q a:ak}{o:ay}:P q (gQ "set.__contains__" a)->P a o->yh S o->p7 S P (.ref q)
noncomputable def Dd (fz:Bool):Tr:=match fz with
 |true=>b7 (fU λzz=>none)
 |false=>.fr (lx 0 λzz=>none)
noncomputable def p8 (b:Nat×Nat×Nat):ah:=.tuple [.int b.1,.int b.2.1,.int b.2.2]
noncomputable def eG (b:Nat×Nat×Nat):ah:=C1 b.1 b.2.1 b.2.2
inductive De (σ:List Tr) (i:Nat) (k:List ah->Prop):Prop
 |mk {bl:List (Nat×Nat×Nat)}:σ[i]? = some (.dl (bl.map p8))->bl.length<2 ^ 24->k (bl.map eG)->De σ i k
inductive Df (σ:List Tr) (i j:Nat) (k:Tr->Prop):Prop
 |mk {x:ak×ak}{as:List bu}{t:Tr}:σ[i]? = some (b6 x as)->as[j]? = some (.tr t)->k t->Df σ i j k
noncomputable abbrev aR (d:ah):Ev:=.ow (.dat d)
def one (f:Ev->Prop):List Ev->Prop:=@λA=>match A with
 |[]=>False
 |e::r=>match r with
  |[]=>f e
  |zz::zy=>False
def two (f:Ev->Ev->Prop):List Ev->Prop:=@λA=>match A with
 |[]=>False
 |a::r=>one (λb=>f a b) r
def bw (c:Bool) (P R:Prop):Prop:=match c with
 |true=>P
 |false=>R
def wD (o:Option ah) (k:ah->Prop):Prop:=match o with
 |some d=>k d
 |none=>False
noncomputable def intOf (e:Ev):Option Int:=match e with
 |.ow t=>match t with
  |.dat d=>match d with
   |.int n=>some n
   |_=>none
  |_=>none
 |.bo zz U=>none
noncomputable def boolOf (e:Ev):Option Bool:=match e with
 |.ow t=>match t with
  |.dat d=>match d with
   |.bool n=>some n
   |_=>none
  |_=>none
 |.bo zz U=>none
def bp (e:Ev) (k:Int->Prop):Prop:=match intOf e with
 |some n=>k n
 |none=>False
def ly (e:Ev) (k:Bool->Prop):Prop:=match boolOf e with
 |some n=>k n
 |none=>False
noncomputable def Dg (d:ah):Option (List ah):=match d with
 |.list ds=>some ds
 |_=>none
noncomputable def yj (t:Tr):Option (List ah):=match t with
 |.dl ds=>some ds
 |_=>none
noncomputable def p9 (σ:List Tr) (e:Ev):Option (List ah):=match e with
 |.ow t=>t.data.bind Dg
 |.bo i p=>(σ[i]?.bind λt=>eg t p).bind yj
def gv (σ:List Tr) (e:Ev) (k:List ah->Prop):Prop:=match p9 σ e with
 |some ds=>k ds
 |none=>False
def wT (o:Option Tr) (k:Tr->Prop):Prop:=match o with
 |some t=>k t
 |none=>False
abbrev small (n:Nat):Prop:=n<=cc
inductive iF {α:Type}(v:α) (k:α->Prop):Prop
 |mk {w:α}:v=w->k w->iF v k
theorem iF.out {α:Type}{v:α}{k:α->Prop}(h:iF v k):k v:=by
 cases h with | mk e h=>exact e▸h
def KN (σ:List Tr) (a b:Ev) (k:Ev->Prop):Prop:=gv σ a λxs=>gv σ b λys=>small (xs.length+ys.length)/\iF (xs++ys) λzs=>k (.ow (.dl zs))
def Dh (σ:List Tr) (a b:Ev) (k:Ev->Prop):Prop:=match intOf a with
 |some x=>bp b λy=>k (aR (.int (x+y)))
 |none=>KN σ a b k
def Uw (a:Ev) (k:List ah->Prop):Prop:=match a with
 |.ow t=>match yj t with
  |some xs=>k xs
  |none=>False
 |.bo zz zy=>False
def mulL (a b:Ev) (k:Ev->Prop):Prop:=Uw a λxs=>bp b λy=>(0<=y/\y<2 ^ 20/\xs.length*y.toNat<=2 ^ 24)/\iF (dK y.toNat xs).flatten λzs=>k (.ow (.dl zs))
def Di (a b:Ev) (k:Ev->Prop):Prop:=match intOf a with
 |some x=>bp b λy=>x.natAbs<2 ^ 30/\k (aR (.int (x*y)))
 |none=>False
def rT (σ:List Tr) (o:tB) (a b:Ev) (k:Ev->Prop):Prop:=match o with
 |.Add=>Dh σ a b k
 |.Sub=>bp a λx=>bp b λy=>k (aR (.int (x-y)))
 |.Mult=>Di a b k
 |.FloorDiv=>bp a λx=>bp b λy=>(0<y/\y<2 ^ 30)/\k (aR (.int (x / y)))
 |.Mod=>bp a λx=>bp b λy=>0<y/\k (aR (.int (x % y)))
 |_=>False
abbrev fw (d:ah):Prop:=SeqAt.shaped d=true
def Dj (σ:List Tr) (a b:Ev) (k:Bool->Prop):Prop:=wD (a.data σ) λx=>wD (b.data σ) λy=>(fw x/\fw y)/\iF (ah.eqv x y) k
def KO (x y:ah) (k:Bool->Prop):Prop:=match y with
 |.none=>(match x with
  |.none=>k true
  |_=>k false)
 |.list zz=>(match x with
  |.none=>k false
  |_=>False)
 |_=>False
def Dk (σ:List Tr) (a b:Ev) (k:Bool->Prop):Prop:=wD (a.data σ) λx=>wD (b.data σ) λy=>KO x y k
def rU (σ:List Tr) (o:wH) (a b:Ev) (k:Bool->Prop):Prop:=match o with
 |.Eq=>Dj σ a b k
 |.NotEq=>Dj σ a b λc=>k (!c)
 |.Lt=>bp a λx=>bp b λy=>k (decide (x<y))
 |.LtE=>bp a λx=>bp b λy=>k (decide (x<=y))
 |.Gt=>bp a λx=>bp b λy=>k (decide (y<x))
 |.GtE=>bp a λx=>bp b λy=>k (decide (y<=x))
 |.Is=>Dk σ a b k
 |.IsNot=>Dk σ a b λc=>k (!c)
 |_=>False
inductive iG {α:Type}(xs:List α) (n:Int) (k:Nat->α->Prop):Prop
 |mk {j:Nat}{x:α}:l6 n xs.length=some j->xs[j]? = some x->-(2 ^ 63)<=n/\n<2 ^ 63->k j x->iG xs n k
def Dl (i:Nat) (p:List Nat) (ts:List Tr) (n:Int) (k:Ev->Prop):Prop:=iG ts n λj t=>match t with
 |.dat d=>k (aR d)
 |.un=>False
 |.fr zz=>False
 |_=>k (.bo i (j::p))
set_option genCtorIdx true in
inductive Sq
 |fz (ds:List ah)
 |ow (ts:List Tr)
 |bo (i:Nat) (p:List Nat) (ts:List Tr)
noncomputable def Ux (d:ah):Option Sq:=match d with
 |.list ds=>some (.fz ds)
 |.tuple ds=>some (.fz ds)
 |_=>none
noncomputable def uB (f:List Tr->Sq) (t:Tr):Option Sq:=match t with
 |.dat d=>Ux d
 |.dl ds=>some (.fz ds)
 |.ol ts=>some (f ts)
 |.ot ts=>some (f ts)
 |_=>none
noncomputable def qa (σ:List Tr) (e:Ev):Option Sq:=match e with
 |.ow t=>uB .ow t
 |.bo i p=>(σ[i]?.bind λt=>eg t p).bind (uB (.bo i p))
def lz (σ:List Tr) (a i:Ev) (k:Ev->Prop):Prop:=bp i λn=>match qa σ a with
 |none=>False
 |some q=>match q with
  |.fz ds=>iG ds n λzz d=>k (aR d)
  |.ow ts=>iG ts n λzz t=>k (.ow t)
  |.bo i p ts=>Dl i p ts n k
noncomputable def jN (xs:List ah) (lo hi:Option Int):List ah:=
 (sliceRange (wI lo hi none xs.length).1 (wI lo hi none xs.length).2.1 (wI lo hi none xs.length).2.2).filterMap (xs[·]?)
def Dm (l:List Ev) (k:Option Int->Prop):Prop:=match l with
 |[]=>k none
 |e::r=>match r with
  |[]=>bp e λn=>k (some n)
  |zz::zy=>False
def KP (σ:List Tr) (a:Ev) (lo hi:Option Int) (k:Ev->Prop):Prop:=gv σ a λxs=>small xs.length/\iF (jN xs lo hi) λys=>k (.ow (.dl ys))
def KQ (σ:List Tr) (a:Ev) (k:Bool->Prop):Prop:=wD (a.data σ) λd=>match d with
 |.bool b=>k b
 |.int n=>k (decide (n≠0))
 |.none=>k false
 |.str x=>x.length<1000/\k (decide (x.length≠0))
 |.list ds=>small ds.length/\k (!ds.isEmpty)
 |_=>False
noncomputable def n7:List Ev->Bool:=@λA=>match A with
 |[]=>true
 |.ow zz::r=>n7 r
 |.bo zz U::V=>false
noncomputable def KR:ah->Bool:=@λA=>match A with
 |.list zz=>false
 |.tuple zz=>false
 |.dict zz=>false
 |_=>true
noncomputable def n8 (σ:List Tr):List Ev->Option (List ah):=@λA=>match A with
 |[]=>some []
 |e::r=>rO (e.data σ) (n8 σ r)
noncomputable def Uy (fr:Bool) (d:ah):Ev:=match fr with
 |false=>aR d
 |true=>match d with
  |.list ys=>.ow (.dl ys)
  |d=>aR d
def Dn (fs:cX) (σ:List Tr) (i:Nat) (es:List Ev) (k:Ev->Prop):Prop:=match fs.f[i]? with
 |none=>False
 |some f=>match n8 σ es with
  |none=>False
  |some ds=>match n7 es with
   |true=>f.2 ds λd=>k (Uy f.1 d)
   |false=>f.2 ds λd=>KR d=true/\k (aR d)
inductive jm (ms:List eF) (σ:List Tr) (m:Nat) (vs:List Ev) (x:ak×ak) (as:List bu) (k:ah->List bu->Prop):Prop
 |mk {ds:List ah}{sp:eF}:ms[m]? = some sp->n8 σ vs=some ds->n7 vs=true->sp x as ds k->jm ms σ m vs x as k
inductive yk (σ:List Tr) (i j:Nat) (k:Ev->Prop):Prop
 |mk {x:ak×ak}{as:List bu}{S:Int->Bool}:σ[i]? = some (b6 x as)->as[j]? = some (.tr (b7 (jM S)))->k (.ow (b7 (p7 S)))->yk σ i j k
inductive yl (σ:List Tr) (i:Nat) (k:Ev->Prop):Prop
 |mk {g:Int->Option ah}:σ[i]? = some (b7 (fU g))->k (.ow (b7 (n6 g)))->yl σ i k
inductive qb (σ:List Tr) (vs:List Ev) (k:Int->Prop):Prop
 |mk {c:Int}:n8 σ vs=some [.int c]->n7 vs=true->k c->qb σ vs k
inductive lC (σ:List Tr) (vs:List Ev) (k:Int->ah->Prop):Prop
 |mk {c:Int}{d:ah}:n8 σ vs=some [.int c,d]->n7 vs=true->k c d->lC σ vs k
inductive mh (σ:List Tr) (i:Nat) (kg:(Int->Option ah)->Prop) (kh:(Int->Bool)->Prop):Prop
 |get {g:Int->Option ah}:σ[i]? = some (b7 (n6 g))->kg g->mh σ i kg kh
 |has {S:Int->Bool}:σ[i]? = some (b7 (p7 S))->kh S->mh σ i kg kh
inductive ym (σ:List Tr) (i:Nat) (k:(Int->Option ah)->Prop):Prop
 |mk {g:Int->Option ah}:σ[i]? = some (b7 (fU g))->k g->ym σ i k
inductive jO (σ:List Tr) (i:Nat) (k:ak×ak->List bu->Prop):Prop
 |mk {x:ak×ak}{as:List bu}:σ[i]? = some (b6 x as)->k x as->jO σ i k
inductive Dp (k:ak×ak->List bu->Prop):Ev->Prop
 |mk {x:ak×ak}{as:List bu}:k x as->Dp k (.ow (b6 x as))
def KU (σ:List Tr) (b:Bi) (es:List Ev) (k:Ev->Prop):Prop:=match b with
 |.len=>one (λe=>wD (e.data σ) λd=>match d with
  |.list ds=>small ds.length/\iF ds.length λn=>k (aR (.int n))
  |.tuple ds=>small ds.length/\iF ds.length λn=>k (aR (.int n))
  |_=>False) es
 |.max=>two (λa b=>bp a λx=>bp b λy=>k (aR (.int (max x y)))) es
 |.min=>two (λa b=>bp a λx=>bp b λy=>k (aR (.int (min x y)))) es
def ae3 (σ:List Tr) (e:Ev) (k:Bool->Prop):Prop:=wD (e.data σ) λd=>match d with
 |.list zz=>k true
 |.int zz=>k false
 |.str zz=>k false
 |.tuple zz=>k false
 |_=>False
noncomputable def KV:Lc->ah:=@λA=>match A with
 |.int n=>.int n
 |.str s=>.str s
 |.bool b=>.bool b
 |.none=>.none
noncomputable def trees:List Ev->Option (List Tr):=@λA=>match A with
 |[]=>some []
 |e::r=>match e with
  |.ow t=>(trees r).map (t::·)
  |.bo zz U=>none
noncomputable def uC:List Tr->Option (List ah):=@λA=>match A with
 |[]=>some []
 |t::r=>match t with
  |.dat d=>rO (some d) (uC r)
  |_=>none
def rV (es:List Ev) (f:List ah->Ev) (g:List Tr->Ev) (k:Ev->Prop):Prop:=match trees es with
 |none=>False
 |some ts=>match uC ts with
  |some ds=>k (f ds)
  |none=>k (g ts)
def mj (elt cond:ah->(Ev->Prop)->Prop):List ah->(List ah->Prop)->Prop:=@λA B=>match A,B with
 |[],k=>k []
 |d::ds,k=>cond d λc=>ly c λc=>bw c (elt d λe=>match e with
  |.ow t=>wD t.data λy=>mj elt cond ds λys=>k (y::ys)
  |.bo zz zy=>False) (mj elt cond ds k)
noncomputable def toOl (t:Tr):Tr:=match t with
 |.dl ds=>.ol (ds.map .dat)
 |t=>t
def jn (σ:List Tr) (i:Nat) (o:Ow) (t:Tr) (k:List Tr->Prop):Prop:=match o with
 |.fr=>wD t.data λd=>k (σ.set i (.dat d))
 |.own=>k (σ.set i t)
 |.deep=>k (σ.set i (toOl t))
 |.n5=>k (σ.set i t)
def fy:Tg->List Tr->List Tr->(List Tr->Prop)->Prop:=@λA B C D=>match A,B,C,D with
 |[],ts,σ,k=>match ts with
  |[]=>k σ
  |zz::zy=>False
 |q::is,ts,σ,k=>match ts with
  |[]=>False
  |t::ts=>jn σ q.1 q.2 t λaH=>fy is ts aH k
noncomputable def uD (l:List (ah×ah)):Option (List Tr):=match l with
 |[]=>none
 |p::r=>match r with
  |[]=>(match p.2 with
   |.tuple ds=>some (ds.map .dat)
   |_=>none)
  |zz::U=>none
noncomputable def rW (d:ah):Option (List Tr):=match d with
 |.tuple ds=>some (ds.map .dat)
 |.list ds=>some (ds.map .dat)
 |.dict l=>uD l
 |_=>none
noncomputable def rX (t:Tr):Option (List Tr):=match t with
 |.dat d=>rW d
 |.ot ts=>some ts
 |_=>none
def wL (o:Option (List Tr)) (k:List Tr->Prop):Prop:=match o with
 |some t=>k t
 |none=>False
def iH (is:Tg) (tup:Bool) (d:ah) (σ:List Tr) (k:List Tr->Prop):Prop:=match tup with
 |true=>wL (rW d) λts=>fy is ts σ k
 |false=>fy is [.dat d] σ k
noncomputable def dE (a b:Int):List ah:=(iR (b-a).toNat).map λi=>.int (a+(i:Nat))
def ml (σ:List Tr):List Nat->(List ah->Prop)->Prop:=@λA B=>match A,B with
 |[],k=>k []
 |i::r,k=>match σ[i]? with
  |none=>False
  |some t=>match t with
   |.dat d=>ml σ r λds=>k (d::ds)
   |_=>False
abbrev Dq (E:List Tr->(Ev->Prop)->Prop) (q:Tg×Bool) (n9:List Tr) (k:Ev->Prop) (ds yd:List ah):Prop:=mj (λd k=>iH q.1 q.2 d n9 λfV=>E fV k) (λd k=>one k [aR (.bool true)]) ds λr=>k (.ow (.dl (yd++r)))
def KW (small:Nat->Prop) (yd:List ah) (k:List ah->Prop):ah->Prop:=@λA=>match A with
 |.list zs=>small (yd++zs).length/\k (yd++zs)
 |_=>False
def yo (E:List Tr->(Ev->Prop)->Prop) (q:Tg×Bool) (n9:List Tr) (k:Ev->Prop):List ah->List ah->Prop:=@λA B=>match A,B with
 |[],yd=>k (.ow (.dl yd))
 |d::ds,yd=>iH q.1 q.2 d n9 λfV=>E fV λe=>match e with
   |.ow t=>wD t.data (KW (λn=>small n) yd (yo E q n9 k ds))
   |.bo zz zy=>False
inductive yq (ds:List ah) (n:Int) (k:Nat->Prop):Prop
 |mk {ns:List Int}:ds=ns.map .int->ah.layable0 (.list (ns.map .int))=true->n∈ns->k (ns.idxOf n)->yq ds n k
inductive yt (σ:List Tr) (i:Nat) (k:List ah->Prop):Prop
 |mk {ds:List ah}:σ[i]? = some (.dl ds)->k ds->yt σ i k
def den (fs:cX):SE->List Tr->(List Ev->Prop)->Prop:=@λA B C=>match A,B,C with
 |.nil,zz,k=>k []
 |.cons a r,σ,k=>den fs a σ λva=>den fs r σ λvr=>k (va++vr)
 |.var i,σ,k=>match σ[i]? with
  |none=>False
  |some t=>match t with
   |.un=>False
   |.fr zz=>False
   |.dat d=>k [aR d]
   |_=>k [.bo i []]
 |.lit c,zz,k=>k [aR (KV c)]
 |.tup es,σ,k=>den fs es σ λvs=>vs.length<=100/\rV vs (λds=>aR (.tuple ds)) (λts=>.ow (.ot ts)) λe=>k [e]
 |.lst es,σ,k=>den fs es σ λvs=>vs.length<=100/\rV vs (λds=>.ow (.dl ds)) (λts=>.ow (.ol ts)) λe=>k [e]
 |.bin o a b,σ,k=>den fs a σ (one λva=>den fs b σ (one λvb=>rT σ o va vb λe=>k [e]))
 |.neg a,σ,k=>den fs a σ (one λva=>bp va λn=>k [aR (.int (-n))])
 |.sub a i,σ,k=>den fs a σ (one λva=>den fs i σ (one λvi=>lz σ va vi λe=>k [e]))
 |.slc a lo hi,σ,k=>den fs a σ (one λva=>den fs lo σ λvl=>Dm vl λl=>den fs hi σ λvh=>Dm vh λh=>KP σ va l h λe=>k [e])
 |.cmp o a b,σ,k=>den fs a σ (one λva=>den fs b σ (one λvb=>rU σ o va vb λc=>k [aR (.bool c)]))
 |.pY o p a b c,σ,k=>den fs a σ (one λva=>den fs b σ (one λvb=>rU σ o va vb λt=>bw t (den fs c σ (one λvc=>rU σ p vb vc λu=>k [aR (.bool u)])) (k [aR (.bool false)])))
 |.ite t a b,σ,k=>den fs t σ (one λvt=>ly vt λc=>bw c (den fs a σ k) (den fs b σ k))
 |.tv a,σ,k=>den fs a σ (one λva=>KQ σ va λc=>k [aR (.bool c)])
 |.nt t,σ,k=>den fs t σ (one λvt=>ly vt λc=>k [aR (.bool (!c))])
 |.an a b,σ,k=>den fs a σ (one λva=>ly va λc=>bw c (den fs b σ k) (k [aR (.bool false)]))
 |.orr a b,σ,k=>den fs a σ (one λva=>ly va λc=>bw c (k [aR (.bool true)]) (den fs b σ k))
 |.fn i es,σ,k=>den fs es σ λvs=>Dn fs σ i vs λe=>k [e]
 |.bi b es,σ,k=>den fs es σ λvs=>KU σ b vs λe=>k [e]
 |.C8 b,σ,k=>den fs b σ (one λvb=>bp vb λy=>(0<=y/\y<=2 ^ 24)/\k [.ow (.dl (dE 0 y))])
 |.idx a x,σ,k=>den fs a σ (one λva=>gv σ va λds=>den fs x σ (one λvx=>bp vx λn=>yq ds n λj=>k [aR (.int (j:Nat))]))
 |.x6 is tp cs n src elt,σ,k=>den fs src σ (one λvs=>gv σ vs λds=>small ds.length/\ml σ cs λcN=>Dq (λfV k=>den fs elt fV (one k)) (is,tp) (dK n .un++cN.map .dat) (λe=>k [e]) ds [])
 |.x7 is tp cs n b elt,σ,k=>den fs b σ (one λvb=>bp vb λy=>(-(2 ^ 62)<y/\y<2 ^ 62)/\small (dE 0 y).length/\ml σ cs λcN=>Dq (λfV k=>den fs elt fV (one k)) (is,tp) (dK n .un++cN.map .dat) (λe=>k [e]) (dE 0 y) [])
 |.ya is tp cs n src elt,σ,k=>den fs src σ (one λvs=>gv σ vs λds=>ml σ cs λcN=>yo (λfV k=>den fs elt fV (one k)) (is,tp) (dK n .un++cN.map .dat) (λe=>k [e]) ds [])
 |.er i j,σ,k=>Df σ i j λt=>k [.ow t]
 |.mp i m es,σ,k=>jO σ i λx as=>den fs es σ λvs=>jm fs.m σ m vs x as λd ij=>ij=as/\k [aR d]
 |.new m es,σ,k=>den fs es σ λvs=>∀x,jm fs.m σ m vs x [] λd as=>d=.none/\k [.ow (b6 x as)]
 |.yb m r es,σ,k=>den fs r σ (one (Dp λx as=>den fs es σ λvs=>jm fs.m σ m vs x as λd zz=>k [aR d]))
 |.yc i,σ,k=>De σ i λrs=>k [.ow (.dl rs)]
 |.has i j,σ,k=>yk σ i j λe=>k [e]
 |.C9 i,σ,k=>yl σ i λe=>k [e]
 |.rS i es,σ,k=>mh σ i (λg=>den fs es σ λvs=>lC σ vs λc d=>k [aR ((g c).getD d)]) λS=>den fs es σ λvs=>qb σ vs λc=>k [aR (.bool (S c))]
 |.Dc i es,σ,k=>ym σ i λg=>den fs es σ λvs=>lC σ vs λc d=>k [aR ((g c).getD d)]
 |.kc fz,zz,k=>k [.ow (Dd fz)]
 |.yf,zz,k=>k [.ow (b7 (jM λzz=>false))]
 |.bad,zz,zy=>False
theorem Uz (h:intOf e=some n):e=aR (.int n):=by
 cases e with
 |bo _ _=>exact El.ns h
 |ow t=>cases t with
  |dat d=>cases d with
   |int n=>cases h;rfl
   |_=>exact El.ns h
  |_=>exact El.ns h
theorem qc (h:bp e k):∃n,e=aR (.int n)/\k n:=by
 unfold bp at h;cases e1:intOf e with
 |none=>rw [e1] at h;exact h.elim
 |some n=>rw [e1] at h;exact av n (Uz e1) h
theorem fW (h:wD o k):∃d,o=some d/\k d:=by
 cases o with
 |none=>exact h.elim
 |some d=>exact av d rfl h
theorem qd (h:gv σ e k):∃ds,p9 σ e=some ds/\k ds:=by
 unfold gv at h;cases e1:p9 σ e with
 |none=>rw [e1] at h;exact h.elim
 |some n=>rw [e1] at h;exact av n rfl h
theorem UA (h:p9 σ (.ow t)=some ds):t.data=some (.list ds):=by
 refine ar (bind_some h) λd V U=>?_;cases d with
 |list _=>clear h;cases U;exact V
 |_=>exact El.ns U
theorem UB (h:yj t=some ds):t=.dl ds:=by
 cases t with
 |dl _=>cases h;rfl
 |_=>exact El.ns h
theorem UC (h:wT o k):∃d,o=some d/\k d:=by
 cases o with
 |none=>exact h.elim
 |some d=>exact av d rfl h
theorem bw.by {P R:Prop}(h:c=true->P) (g:c=false->R):bw c P R:=by
 cases c with
 |true=>exact h rfl
 |false=>exact g rfl
theorem bw.dec {p:Prop} [Decidable p] {P R:Prop}(h:p->P) (g:¬p->R):bw (decide p) P R:=.by (λe=>h (of_decide_eq_true e)) λe=>g (of_decide_eq_false e)
structure Cx where
 pg:bM
 w:aW
 A:cD
 h₀:aq
 L:ak
 env:da
 P:Fz
 xs:List ag
 X:Led
 rd:(ag->Option af)->Led->Nat->af->Prop
 ck:(ag->Option af)->Led->Prop
 wr:Nat->Prop
noncomputable abbrev bg:=af×Ev
def i5 (C:Cx) (m:ag->Option af) (N K ZL:Led) (e:Ev) (O:Led) (v:af):Prop:=match e with
 |.ow t=>Rep (C.P.and ZL) t O v
 |.bo i p=>O=[]/\∃w,C.rd m K i w/\eE N w p v
def cv (C:Cx) (m:ag->Option af) (N K ZL:Led):List bg->Led->Prop:=@λA B=>match A,B with
 |[],O=>O=[]
 |q::τ,O=>∃O1 O2,O=O1++O2/\i5 C m N K ZL q.2 O1 q.1/\cv C m N K ZL τ O2
inductive Sp (C:Cx) (σ:List Tr) (τ:List bg) (m:ag->Option af) (N K ZL:Led):Prop
 |mk {Os Ot:Led}{vs:List af}:(N.map (·.1)).Nodup->N.Perm (Ot++(Os++(K++ZL)))->bO (C.P.and ZL) σ Os vs->(σ.length=C.xs.length/\C.ck m K)->
  (∀(i:Nat) v t,vs[i]? = some v->σ[i]? = some t->t≠.un->C.rd m K i v)->cv C m N K ZL τ Ot->(∀q∈C.X,q∈ZL)->Sp C σ τ m N K ZL
noncomputable abbrev Fs:=(ag->Option af)×Led
inductive At (C:Cx) (σ:List Tr) (τ:List bg) (K:Fs) (h:aq):Prop
 |mk {N ZL:Led}:Fr C.h₀ C.L h K.1->aI C.h₀ C.L h N->Sp C σ τ K.1 N K.2 ZL->At C σ τ K h
structure Cx.Ok (C:Cx):Prop where
 hh:C.A.handled=none
 hu:C.A.units+64<qT
 sub:∀a o,C.P a o->C.h₀.get? a=some o
 uq:∀{m K i v v'},C.rd m K i v->C.rd m K i v'->v=v'
 ldn:∀{i x m} {N K:Led}{v:af}{Q:af->ai->Prop}{s:ai},C.xs[i]? = some x->Fr C.h₀ C.L s.heap m->aI C.h₀ C.L s.heap N->(∀q∈K,q∈N)->C.rd m K i v->Q v s->aA (az C.pg C.w) C.A (loadName C.env x) Q (λzz zz=>False) s
 yu:∀x∈C.xs,(x == ("__debug__":ag))=false
theorem Cx.Ok.ld {C:Cx}(U:C.Ok) {i x m} {N K:Led}{v:af}(p:aB) (hx:C.xs[i]? = some x) (F:Fr C.h₀ C.L s.heap m) (V:aI C.h₀ C.L s.heap N) (W:∀q∈K,q∈N) (hr:C.rd m K i v) (hQ:Q v s):aA (az C.pg C.w) C.A (b5 (.Name x p) C.env) Q (λzz zz=>False) s:=
 wpAny_Name (U.ldn hx F V W hr hQ) (U.yu x (d6 hx))
section
variable {C:Cx}{σ:List Tr}{τ τ':List bg}{m:ag->Option af}{N K ZL:Led}{v w:af}{e:Ev}{t u:Tr}{d:ah}{i:Nat}{p:List Nat}{x:ag}
theorem mq (h:(N.map (·.1)).Nodup):xY N:=by
 intro a o o' U V;induction N with
 |nil=>exact El.nm U
 |cons q r W=>
  refine El.aa (bR.mp h) λhn hr=>?_;clear h;rcases aT.mp U with e1 | e1
  ·rcases aT.mp V with e2 | e2
   ·exact (wJ (e1.trans e2.symm)).2
   ·exact (hn (e1▸bf.mpr (av _ e2 rfl))).elim
  ·rcases aT.mp V with e2 | e2
   ·exact (hn (e2▸bf.mpr (av _ e1 rfl))).elim
   ·exact W hr e1 e2
theorem and_mono {P:Fz}{Z U:Led}(V:∀q∈Z,q∈U):∀a o,P.and Z a o->P.and U a o:=λzz zz q=>q.imp_right (V _)
theorem i5.mono (U:∀q∈N,q∈N') (V:∀q∈ZL,q∈bF):∀{e:Ev},i5 C m N K ZL e O v->i5 C m N' K bF e O v:=@λA B=>match A,B with
 |.ow t,x=>Rep.mono (and_mono V) t x
 |.bo zz W,x=>⟨x.1,x.2.imp λzz q=>⟨q.1,q.2.mono U⟩⟩
theorem cv.mono (U:∀q∈N,q∈N') (V:∀q∈ZL,q∈bF):∀{τ:List bg}{O:Led},cv C m N K ZL τ O->cv C m N' K bF τ O:=@λA B D=>match A,B,D with
 |[],zz,x=>x
 |zz::τ,W,x=>x.imp λzz x=>x.imp λzz x=>(aL x.1 (x.2.1.mono U V) (x.2.2.mono U V))
theorem cv.split:∀{τ:List bg}{O:Led},cv C m N K ZL (τ++τ') O->∃V W,O=V++W/\cv C m N K ZL τ V/\cv C m N K ZL τ' W:=@λD F G=>match D,F,G with
 |[],zz,x=>(bQ [] _ rfl rfl x)
 |zz::τ,zy,x=>by
  refine aO x λA B U y z=>?_;clear x;subst U;refine aO (cv.split (τ:=τ) z) λB1 B2 U y2 z2=>?_;clear z;subst U;exact bQ (A++B1) B2 (bt ..).symm (bQ A B1 rfl y y2) z2
theorem cv.join (y:cv C m N K ZL τ' V):∀{τ:List bg}{O:Led},cv C m N K ZL τ O->cv C m N K ZL (τ++τ') (O++V):=@λD F G=>match D,F,G with
 |[],zz,x=>by refine ae (show _=[] from x) <| y
 |zz::τ,W,x=>by
  refine aO x λA B U x1 x2=>?_;clear x;subst U;exact bQ A (B++V) (bt ..) x1 (cv.join y (τ:=τ) x2)
theorem Sp.more {Os Ot T N' bF:Led}(nd:(N'.map (·.1)).Nodup) (pm:N'.Perm (Ot++(Os++(K++bF)))) (rs:bO (C.P.and ZL) σ Os vs) (ln:σ.length=C.xs.length/\C.ck m K) (mp:∀(i:Nat) v t,vs[i]? = some v->σ[i]? = some t->t≠.un->C.rd m K i v) (U:cv C m N' K bF τ Ot) (hx:∀q∈C.X,q∈ZL) (hz:∀q∈ZL,q∈bF):Sp C σ τ m N' K bF:=
 .mk nd pm (bO.mono (and_mono hz) σ rs) ln mp U λq h=>hz q (hx q h)
theorem Rep.jo {P:Fz}(h:aU P ws ds):Rep P (.dl ds) [(a,aQ ws n)] (.ref a):=(iD a n ws rfl rfl h)
theorem Rep.uE {P:Fz}(h:bO P us O ws):Rep P (.ol us) ((a,aQ ws n)::O) (.ref a):=(nU a n ws O rfl rfl h)
theorem Rep.UD {P:Fz}(h:bO P us O ws):Rep P (.ot us) ((a,lr ws)::O) (.ref a):=(iD a ws O rfl rfl h)
theorem eE.step (h:eE N v p (.ref a)) (s:SeqIn (λa o=>(a,o)∈N) a ws) (e:ws[j]? = some w):eE N v (j::p) w:=(bQ a ws h s e)
theorem yv (nd:(N.map (·.1)).Nodup) (ne:∀p∈N,@Ne Nat p.1 D):(((D,o)::N).map (·.1)).Nodup:=
 bR.mpr ⟨λh=>(bf.mp h).elim λq U=>ne q U.1 U.2,nd⟩
theorem Sp.rY (S:Sp C σ τ m N K ZL) (ne:∀p∈N,@Ne Nat p.1 D) (r:Rep (C.P.and ZL) t [(D,o)] (.ref D)):Sp C σ ((.ref D,.ow t)::τ) m ((D,o)::N) K ZL:=by
 cases S with
 |@mk Os Ot vs nd pm rs ln mp U hx=>exact .mk (yv nd ne) (pm.cons _) rs ln mp (bQ [(D,o)] Ot rfl r (U.mono (λzz=>.tail _) λzz h=>h)) hx
theorem Sp.push (S:Sp C σ τ m N K ZL) (lt:∀p∈N,p.1<D) (r:Rep (C.P.and ZL) t [(D,o)] (.ref D)):Sp C σ ((.ref D,.ow t)::τ) m ((D,o)::N) K ZL:=S.rY (λp U=>cy (lt p U)) r
theorem Sp.oa (S:Sp C σ τ m N K ZL) (r:i5 C m N K ZL e [] v):Sp C σ ((v,e)::τ) m N K ZL:=by
 cases S with
 |@mk Os Ot vs nd pm rs ln mp U hx=>exact .mk nd pm rs ln mp (bQ [] Ot rfl r U) hx
theorem Sp.dR (S:Sp C σ τ m N K ZL) (r:Dat (C.P.and ZL) v d):Sp C σ ((v,aR d)::τ) m N K ZL:=S.oa ⟨rfl,r⟩
theorem Sp.yw (S:Sp C σ τ m N K ZL) (r:C.rd m K i v) (q:eE N v p w):Sp C σ ((w,.bo i p)::τ) m N K ZL:=S.oa ⟨rfl,v,r,q⟩
theorem KY (h:eg .un p=some u):u=.un:=by
 induction p generalizing u with
 |nil=>cases h;rfl
 |cons j p U=>refine ar (bind_some h) λt V W=>?_;cases U V;exact El.ns W
inductive Part (C:Cx) (m:ag->Option af) (N K ZL:Led) (i:Nat) (p:List Nat) (u:Tr):Prop
 |mk {v w:af}{Ou rest:Led}:C.rd m K i v->eE N v p w->Rep (C.P.and ZL) u Ou w->N.Perm (Ou++rest)->xY N->Part C m N K ZL i p u
theorem Sp.part (S:Sp C σ τ m N K ZL) (h:(σ[i]?.bind λt=>eg t p)=some u) (hu:u≠.un):Part C m N K ZL i p u:=by
 refine ar (bind_some h) λt hs V=>?_;cases S with
 |@mk Os Ot vs nd pm rs ln mp tm hx=>
  refine fS (rs.focus hs) λv O Or h1 r pe zz=>?_;have W:N.Perm (O++(Ot++(Or++(K++ZL)))):=pm.trans ((((pe.append_right (K++ZL)).append_left Ot).trans (by refine ae (bt ..) <| cE ..)))
  cases r.x5 (λq hq=>W.mem_iff.mpr (bE _ hq)) V with
  |@mk w Ou Or2 pv r1 U f=>exact .mk (mp i v t h1 hs λe=>hu (KY (e▸V))) pv r1 (W.trans ((U.append_right _).trans (by rw [bt]))) (mq nd)
theorem Sp.sub (S:Sp C σ τ m N K ZL):∀q∈ZL,q∈N:=by
 cases S with
 |mk nd pm rs ln mp V hx=>exact λq U=>pm.mem_iff.mpr (bj _ (bj _ (bj _ U)))
theorem Sp.eP (S:Sp C σ τ m N K ZL):∀q∈K,q∈N:=by
 cases S with
 |mk nd pm rs ln mp V hx=>exact λq U=>pm.mem_iff.mpr (bj _ (bj _ (bE _ U)))
theorem Sp.Dr (S:Sp C σ τ m N K ZL):C.ck m K/\(N.map (·.1)).Nodup:=by
 cases S with
 |mk nd pm rs ln mp U hx=>exact ⟨ln.2,nd⟩
theorem Sp.mr {q:ak×ay}(S:Sp C σ τ m N K ZL) (U:q∈K) (V:q∈ZL):False:=by
 cases S with
 |mk nd pm rs ln mp W hx=>
  have n:=(pm.map (·.1)).nodup_iff.mp nd;rw [bH,bH,bH] at n;exact (ed.mp (ed.mp (ed.mp n).2.1).2.1).2.2 _ (bf.mpr (av q U rfl)) _ (bf.mpr (av q V rfl)) rfl
inductive KZ (C:Cx) (σ:List Tr) (τ:List bg) (m:ag->Option af) (N K ZL:Led) (v:af) (e:Ev):Prop
 |mk {O Os Ot:Led}{vs:List af}:i5 C m N K ZL e O v->(∀q∈O,q∈N)->(∀{e':Ev}{w:af}{O' Z:Led},O.Perm (O'++Z)->(∀hz:∀q∈ZL,q∈Z++ZL,i5 C m N K (Z++ZL) e' O' w)->Sp C σ ((w,e')::τ) m N K (Z++ZL))->Sp C σ τ m N K (O++ZL)->KZ C σ τ m N K ZL v e
theorem K0 {O O' Z Ot Os:Led}(h:O.Perm (O'++Z)):((O++Ot)++(Os++(K++ZL))).Perm ((O'++Ot)++(Os++(K++(Z++ZL)))):=by
 refine ((h.append_right Ot).append_right _).trans <| ae (bt ..) (ae (bt ..) (ae (bt ..) ?_));refine .append_left _ ((cE ..).trans (.append_left _ ((cE ..).trans (.append_left _ (cE ..)))))
theorem Sp.top (S:Sp C σ ((v,e)::τ) m N K ZL):KZ C σ τ m N K ZL v e:=by
 cases S with
 |@mk Os Ot vs nd pm rs ln mp U hx=>
  refine aO U ?_;clear U;intro O Or V r U;subst V;have hz:∀{Z:Led},∀q∈ZL,q∈Z++ZL:=λ{Z} q W=>bj _ W;exact .mk (Os:=Os) (Ot:=Or) (vs:=vs) r (λq W=>pm.mem_iff.mpr (bE _ (bE _ W)))
   (λ{e' w O' Z} hp hr=>.more (T:=[]) nd (pm.trans (K0 hp)) rs ln mp (bQ O' Or rfl (hr hz) (U.mono (λzz h=>h) hz)) hx hz)
   (.more (T:=[]) nd (pm.trans (K0 (O':=[]) (.refl _))) rs ln mp (U.mono (λzz h=>h) hz) hx hz)
theorem Sp.lD (S:Sp C σ ((v,aR d)::τ) m N K ZL):Dat (C.P.and ZL) v d/\Sp C σ τ m N K ZL:=by
 cases S.top with
 |mk r _ _ V=>refine El.aa r ?_;clear r;intro U r;clear a a_1;subst U;exact ⟨r,V⟩
inductive K1 (C:Cx) (σ:List Tr) (τ:List bg) (m:ag->Option af) (N K ZL:Led) (v:af) (e:Ev):Prop
 |mk {bF:Led}:(∀q∈ZL,q∈bF)->Sp C σ τ m N K bF->(∀t,e=.ow t->∀d,t.data=some d->Dat (C.P.and bF) v d)->(∀d,e.data σ=some d->Dat (C.P.and N) v d)->K1 C σ τ m N K ZL v e
theorem i5.part (V:C.Ok) (S:Sp C σ τ m N K ZL) (x:i5 C m N K ZL (.bo i p) O v) (h:(σ[i]?.bind λt=>eg t p)=some u) (hu:u≠.un):∃U rest,Rep (C.P.and ZL) u U v/\N.Perm (U++rest):=by
 refine xK x λzz w b c=>?_;clear x;cases S.part h hu with
 |mk e1 e2 e3 W f=>
  cases V.uq b e1
  cases c.uniq f e2
  exact iC _ _ e3 W
theorem Sp.pop (hC:C.Ok) (S:Sp C σ ((v,e)::τ) m N K ZL):K1 C σ τ m N K ZL v e:=by
 cases S.top with
 |@mk O Os Ot vs r hO _ S'=>
  have hz:∀q∈ZL,q∈O++ZL:=λq V=>bj _ V;have jK:∀{t:Tr}{U:Led}{d:ah},Rep (C.P.and ZL) t U v->(∀q∈U,q∈N)->t.data=some d->Dat (C.P.and N) v d:=λ{t U d} r h g=>(Rep.jK t r g).mono λzz zz q=>q.elim (λq=>q.imp_right (S.sub _)) λq=>.inr (h _ q);refine .mk hz S' ?_ ?_
  ·rintro t rfl d h
   exact (Rep.jK t r h).mono λzz zz q=>q.elim (λq=>q.imp_right (hz _)) λq=>.inr (bE _ q)
  ·intro d h;cases e with
   |ow t=>exact jK r hO h
   |bo i p=>
    refine ar (bind_some h) λu h1 W=>dX (i5.part hC S r h1 λe=>by rw [e] at W;exact El.ns W) λU rest e3 e4=>?_
    exact jK e3 (λq V=>e4.mem_iff.mpr (bE _ V)) W
theorem Sp.slot (S:Sp C σ τ m N K ZL) (hs:σ[i]? = some t) (hu:t≠.un):∃v,C.rd m K i v/\∀d,t=.dat d->Dat (C.P.and ZL) v d:=by
 cases S with
 |@mk Os Ot vs nd pm rs ln mp V hx=>
  refine dM (rs.focus hs) λv O zz U r zz=>av v (mp i v t U hs hu) (λd e=>by clear hs hu;subst e;exact r.2)
theorem Sp.yx (S:Sp C σ τ m N K ZL) (lt:∀p∈N,p.1<D):Sp C σ τ m ((D,o)::N) K ((D,o)::ZL):=by
 cases S with
 |@mk Os Ot vs nd pm rs ln mp U hx=>
  refine .more (T:=[]) (yv nd λp V=>cy (lt p V)) ((pm.cons _).trans ?_) rs ln mp (U.mono (λzz=>.tail _) λzz=>.tail _) hx λzz=>.tail _;refine ae (bt ..).symm (ae (bt ..).symm (ae (bt ..).symm (ae (bt ..).symm ?_)));exact nh.symm
theorem Sp.eQ (S:Sp C σ ((v,e)::τ) m N K ZL) (h:bp e k):∃n t,v=.int n t/\k n/\Sp C σ τ m N K ZL:=by
 refine ar (qc h) λn U h=>?_;subst U;refine El.ea S.lD.1.jJ λt U=>?_;subst U;exact bQ n t rfl h S.lD.2
inductive K2 (C:Cx) (σ:List Tr) (τ:List bg) (m:ag->Option af) (N K ZL:Led) (ds:List ah):af->Prop
 |mk {bF:Led}{a:ak}{o:ay}{ws:List af}:(∀q∈ZL,q∈bF)->Sp C σ τ m N K bF->C.P.and N a o/\nY o ws->aU (C.P.and bF) ws ds->K2 C σ τ m N K ZL ds (.ref a)
theorem Sp.og (hC:C.Ok) (S:Sp C σ ((v,e)::τ) m N K ZL) (h:p9 σ e=some ds):K2 C σ τ m N K ZL ds v:=by
 cases e with
 |ow t=>
  cases S.pop hC with
  |mk hz V f _=>
   refine dM ((f t rfl _ (UA h)).listI) λa ws n U p g=>?_;clear S f;subst U;exact .mk hz V (p.imp_left λp=>p.imp_right (V.sub _)) g
 |bo i p=>
  refine ar (bind_some (show ((σ[i]?.bind λt=>eg t p).bind yj)=some ds from h)) λu e0 h=>?_;obtain rfl:=UB h;cases S.top with
  |mk r _ _ V=>
   refine dX (i5.part hC S r e0 λe=>nomatch e) λOu rest e3 e4=>El.aa r λU zz=>?_;clear r;clear a_1;subst U;refine dM e3 λa n ws U W hd=>?_;clear e3;clear S;subst U;subst W;exact .mk (λzz h=>h) V ⟨.inr (e4.mem_iff.mpr (.head _)),xX⟩ hd
end
noncomputable def notStar (e:Expr):Bool:=!(e.ctorIdx == 22)
noncomputable def mw (e:Expr):Bool:=!(e.ctorIdx == 26)
noncomputable def lE (e:Expr):Bool:=!(e.ctorIdx == 7)
noncomputable def lF (e:Expr):Bool:=!(e.ctorIdx == 8 || (e.ctorIdx == 9 || e.ctorIdx == 10))
inductive Vw:Expr->Type
 |nm (x:ag) (p:aB):Vw (.Name x p)
 |cst (q:Const) (n:Nat) (p:aB):Vw (.Constant q n p)
 |tup (es:List Expr) (k:Nat) (p:aB):Vw (.Tuple es k p)
 |lst (es:List Expr) (p:aB):Vw (.List es p)
 |bin (a:Expr) (o:tB) (b:Expr) (p:aB):Vw (.BinOp a o b p)
 |un (o:UnaryOp) (a:Expr) (p:aB):Vw (.UnaryOp o a p)
 |cmp (a:Expr) (os:List wH) (bs:List Expr) (p:aB):Vw (.Compare a os bs p)
 |ite (t a b:Expr) (p:aB):Vw (.IfExp t a b p)
 |sub (v i:Expr) (p:aB):Vw (.Subscript v i p)
 |call (c:Expr) (as:List Expr) (UE:List Keyword) (p:aB):Vw (.Call c as UE p)
 |lc (el:Expr) (gs:List G9) (s:cj) (p:aB):Vw (.ListComp el gs s p)
 |bo (o:BoolOp) (es:List Expr) (p:aB):Vw (.BoolOp o es p)
 |er (r:Expr) (m:ag) (p:aB):Vw (.Attribute r m p)
 |slc (l u st:Option Expr) (p:aB):Vw (.Slice l u st p)
 |kc (p:aB):Vw (.Dict [] [] p)
 |UG (e:Expr):Vw e
noncomputable def view:(e:Expr)->Vw e:=@λA=>match A with
 |.Name x p=>.nm x p
 |.Constant q n p=>.cst q n p
 |.Tuple es k p=>.tup es k p
 |.List es p=>.lst es p
 |.BinOp a o b p=>.bin a o b p
 |.UnaryOp o a p=>.un o a p
 |.Compare a os bs p=>.cmp a os bs p
 |.IfExp t a b p=>.ite t a b p
 |.Subscript v i p=>.sub v i p
 |.Call c as U p=>.call c as U p
 |.ListComp el V s p=>.lc el V s p
 |.BoolOp o es p=>.bo o es p
 |.Attribute r m p=>.er r m p
 |.Slice l u st p=>.slc l u st p
 |.Dict [] [] p=>.kc p
 |e=>.UG e
section
variable {M:Expr->Type}
noncomputable def cZ (e:Expr) (d:M e) (f:∀x p,M (.Name x p)):M e:=match view e with
 |.nm x p=>f x p
 |_=>d
noncomputable def UH (e:Expr) (d:M e) (f:∀p,M (.List [] p)):M e:=match view e with
 |.lst es p=>match es with
  |[]=>f p
  |zz::U=>d
 |_=>d
noncomputable def K3 (e:Expr) (d:M e) (f:∀p,M (.Dict [] [] p)):M e:=match view e with
 |.kc p=>f p
 |_=>d
noncomputable def K4 (e:Expr) (d:M e) (f:∀q n p,M (.Constant q n p)):M e:=match view e with
 |.cst q n p=>f q n p
 |_=>d
noncomputable def tupK (e:Expr) (d:M e) (f:∀es k p,M (.Tuple es k p)):M e:=match view e with
 |.tup es k p=>f es k p
 |_=>d
noncomputable def oj (e:Expr) (d:M e) (f:∀r m p,M (.Attribute r m p)):M e:=match view e with
 |.er r m p=>f r m p
 |_=>d
noncomputable def om (e:Expr) (d:M e) (f:∀c as p,M (.Call c as [] p)):M e:=match view e with
 |.call c as U p=>match U with
  |[]=>f c as p
  |k::r=>d
 |_=>d
noncomputable def UI (e:Expr) (d:M e) (f:∀l u p,M (.Slice l u none p)):M e:=match view e with
 |.slc l u st p=>match st with
  |none=>f l u p
  |some k=>d
 |_=>d
end
noncomputable def wh {α:Type}(b:Bool) (d:α) (f:b=true->α):α:=match b,f with
 |true,f=>f rfl
 |false,zz=>d
noncomputable def wd {α:Type}(p:Prop) [Decidable p] (d:α) (f:p->α):α:=wh (decide p) d λh=>f (of_decide_eq_true h)
noncomputable def K5 (k:Const):Option Lc:=match k with
 |.int n=>some (.int n)
 |.str n=>some (.str n)
 |.bool n=>some (.bool n)
 |.none=>some .none
 |_=>none
noncomputable def mz:Bi->ag:=@λA=>match A with
 |.len=>ag.ofString "len"
 |.max=>ag.ofString "max"
 |.min=>ag.ofString "min"
noncomputable def K6:Bi->String:=@λA=>match A with
 |.len=>"len"
 |.max=>"max"
 |.min=>"min"
noncomputable abbrev uF:List ag:=[mz .len,mz .max,mz .min,ag.ofString "isinstance",ag.ofString "list",ag.ofString "range",ag.ofString "enumerate",ag.ofString "map",ag.ofString "set"]
noncomputable def dZ (sc:cj) (x:ag):Bool:=decide (sc.names.lookup x=some .globalImplicit) && !(x == ("__debug__":ag))
noncomputable def cO (x:ag):(l:List ag)->Option {i:Nat // l[i]? = some x}:=@λA=>match A with
 |[]=>none
 |y::r=>wd (y=x) ((cO x r).map λi=>⟨i.1+1,i.2⟩) λh=>some ⟨0,congrArg some h⟩
theorem b0 (h:(a && b)=true):a=true/\b=true:=kP.mp h
theorem oq (h:(!a)=true):a=false:=by cases a <;> first | rfl | exact El.ft h
theorem lH {p:Prop} [Decidable p] (h:decide p=true):p:=of_decide_eq_true h
theorem qe {sc:cj}(h:dZ sc x=true):sc.names.lookup x=some .globalImplicit/\(x == ("__debug__":ag))=false:=⟨lH (b0 h).1,oq (b0 h).2⟩
abbrev Wp (C:Cx) {α:Type}(c:iS α) (Q:α->ai->Prop) (s:ai):Prop:=aA (az C.pg C.w) C.A c Q (λzz zz=>False) s
abbrev Nx (C:Cx) (σ:List Tr) (τ:List bg) (K:Fs) (s:ai) (Q:af->ai->Prop) (k:Ev->Prop):Prop:=∀v e h' tk,At C σ ((v,e)::τ) K h'->k e->Q v {s with heap:=h',toks:=tk}
theorem UJ (h:x.natAbs<2 ^ 30):bY.Int.intBits x<=64:=by
 unfold bY.Int.intBits;split
 ·decide
 ·rename_i e;have e:x≠0:=λq=>e (by refine ae (q ..) ?_;rfl)
  exact aD ((Nat.log2_lt (Int.natAbs_ne_zero.mpr e)).mpr h) (by decide)
section
variable {C:Cx}{σ:List Tr}{τ:List bg}{K:Fs}{v w va vb:af}{e ea eb:Ev}{d:ah}{h:aq}{Q:af->ai->Prop}{s:ai}{k:Ev->Prop}
theorem At.val (a:At C σ τ K h) (r:∀P:Fz,Dat P v d):At C σ ((v,aR d)::τ) K h:=by
 cases a with | mk F N S=>exact .mk F N (S.dR (r _))
theorem At.int (a:At C σ τ K h):At C σ ((.int n t,aR (.int n))::τ) K h:=a.val λzz=>.int _ _
theorem At.bool (a:At C σ τ K h):At C σ ((.bool n,aR (.bool n))::τ) K h:=a.val λzz=>.bool _
theorem At.eQ (a:At C σ ((v,e)::τ) K h) (g:bp e f):∃n t,v=.int n t/\f n/\At C σ τ K h:=by
 cases a with
 |mk F N S=>
  refine aO (S.eQ g) ?_;clear g;intro n t U g V;clear S;subst U;exact bQ n t rfl g (.mk F N V)
theorem kj {P:Fz}(U:∀a o,P a o->h.get? a=some o) (p:P a o/\nY o ws):h.IsList a ws.toArray:=(dq o (U _ _ p.1) p.2.c p.2.d)
theorem At.bU {N:Led}(U:C.Ok) (F:Fr C.h₀ C.L h m) (V:aI C.h₀ C.L h N):∀a o,C.P.and N a o->h.get? a=some o:=λzz zz p=>p.elim (λp=>F.keep _ _ (U.sub _ _ p)) λp=>V.get p
theorem At.read (U:C.Ok) (a:At C σ ((v,e)::τ) K h) (g:e.data σ=some d):At C σ τ K h/\(fw d->∃as,AN h v d as):=by
 cases a with
 |mk F N S=>cases S.pop U with | mk _ V _ f=>exact ⟨.mk F N V,λn=>(f d g).reads (At.bU U F N) (ah.hasDict_of_canLay _ (SeqAt.canLay_of_shaped n))⟩
theorem UK (U:C.Ok) (h:KN σ ea eb k) (a:At C σ ((vb,eb)::(va,ea)::τ) K s.heap) (hQ:Nx C σ τ K s Q k):Wp C (binaryOp .Add va vb) Q s:=by
 cases a with
 |mk F N S=>
  refine ar (qd h) λxs e1 h1=>ef (qd h1) λys e2 hz hk=>?_;have hk:=hk.out;cases S.og U e2 with
  |mk z1 S1 p1 V=>
   clear S;cases S1.og U e1 with
   |mk z2 S2 p2 W=>
    exact kmk_add_lit F N (kj (At.bU U F N) p2) (kj (At.bU U F N) p1) rfl (λD h' F' N' lt=>hQ _ _ _ _ (.mk F' N' (S2.push lt (.jo (W.append (V.mono (and_mono z2)))))) hk) (by refine ae (W.len ..) (ae (V.len ..) ?_);exact hz)
theorem UL (hC:C.Ok) (h:rT σ o ea eb k) (a:At C σ ((vb,eb)::(va,ea)::τ) K s.heap) (W:Nx C σ τ K s Q k):Wp C (binaryOp o va vb) Q s:=by
 have two:∀{f:Int->Int->Prop},(bp ea λx=>bp eb λy=>f x y)->∃x t y u,va=.int x t/\vb=.int y u/\f x y/\At C σ τ K s.heap:=λ{f} g=>by
  refine ar (qc g) ?_;clear g;intro x U g;clear h;subst U;refine aO (a.eQ g) ?_;clear g a;intro y u U g a;subst U;refine aO (a.eQ (f:=λz=>z=x) rfl) ?_;clear a;intro x' t U g' a;subst U;exact xQ x t y u (by exact ae (g' ..) rfl) rfl g a
 cases o with
 |Add=>
  have h:Dh σ ea eb k:=h;unfold Dh at h;cases e1:intOf ea with
  |none=>rw [e1] at h;exact UK hC h a W
  |some x=>
   rw [e1] at h;refine lh (two (f:=λx y=>k (aR (.int (x+y)))) (by unfold bp;refine ae (e1 ..) <| h)) ?_
   clear a;intro x t y u U V g a;clear two;subst U;subst V;exact add_int (W _ _ _ _ a.int g)
 |Sub=>
  refine lh (two h) ?_;clear a;intro x t y u U V g a;clear two;subst U;subst V;exact sub_int (W _ _ _ _ a.int g)
 |Mult=>
  have h:Di ea eb k:=h;unfold Di at h;cases e1:intOf ea with
  |none=>rw [e1] at h;exact h.elim
  |some x=>
   rw [e1] at h;refine lh (two (f:=λx y=>x.natAbs<2 ^ 30/\k (aR (.int (x*y)))) (by unfold bp;refine ae (e1 ..) <| h)) ?_
   clear a;intro x t y u U V g a;clear two;subst U;subst V;exact mul_int (W _ _ _ _ a.int g.2) (.of_left (UJ g.1))
 |FloorDiv=>
  refine lh (two h) ?_;clear a;intro x t y u U V g a;clear two;subst U;subst V;exact floordiv_int (Ri g.1.1) (by refine ae (Int.fdiv_eq_ediv_of_nonneg x (tC g.1.1) ..) <| W _ _ _ _ a.int g.2) (.inl (PyProof.noPylong_small (by omega)))
 |Mod=>
  refine lh (two h) ?_;clear a;intro x t y u U V g a;clear two;subst U;subst V;exact mod_int' (Ri g.1) (by refine ae (Int.fmod_eq_emod_of_nonneg x (tC g.1) ..) <| W _ _ _ _ a.int g.2)
 |_=>exact h.elim
theorem At.pop (U:C.Ok) (a:At C σ ((v,e)::τ) K h):At C σ τ K h:=by
 cases a with | mk F N S=>cases S.pop U with | mk _ V _ _=>exact .mk F N V
theorem UM {P:Fz}{R:Bool->ai->Prop}(U:Dat P va x) (W:Dat P vb y) (h:KO x y f) (V:∀c,f c->R c s):Wp C (isSame va vb) R s:=by
 cases W with
 |none=>cases U <;> exact ad6 rfl (V _ h)
 |list _ _ _ _=>cases U with
  |none=>exact ad6 rfl (V _ h)
  |_=>exact h.elim
 |_=>exact h.elim
theorem Ds (hC:C.Ok) (h:rU σ o ea eb f) (a:At C σ ((vb,eb)::(va,ea)::τ) K s.heap) (W:∀c,f c->Q (.bool c) s):Wp C (compareOp o va vb) Q s:=by
 have two:∀{f:Int->Int->Prop},(bp ea λx=>bp eb λy=>f x y)->∃x t y u,va=.int x t/\vb=.int y u/\f x y:=λ{f} g=>by
  refine ar (qc g) ?_;clear g;intro x U g;clear h;subst U;refine aO (a.eQ g) ?_;clear g a;intro y u U g a;subst U;refine aO (a.eQ (f:=λz=>z=x) rfl) ?_;clear a;intro x' t U g' a;subst U;exact nU x t y u (by exact ae (g' ..) rfl) rfl g
 have rd:∀{g:Bool->Prop},Dj σ ea eb g->∃x y as bs,AN s.heap va x as/\AN s.heap vb y bs/\fw x/\fw y/\g (ah.eqv x y):=λ{g} h=>by
  refine ar (fW h) λx e1 h=>ar (fW h) λy e2 h=>?_;have r2:=a.read hC e2;exact ⟨x,y,_,_,((r2.1.read hC e1).2 h.1.1).choose_spec,(r2.2 h.1.2).choose_spec,h.1.1,h.1.2,h.2.out⟩
 have im:∀{f:Bool->Prop}{R:Bool->ai->Prop},Dk σ ea eb f->(∀c,f c->R c s)->Wp C (isSame va vb) R s:=λ{f R} h hR=>by
  refine ar (fW h) λx e1 h=>ar (fW h) λy e2 h=>?_;cases a with
  |mk F N S=>cases S.pop hC with
   |mk _ S1 _ g2=>cases S1.pop hC with
    |mk _ _ _ g1=>exact UM (g1 x e1) (g2 y e2) h hR
 cases o with
 |Eq=>
  obtain ⟨x,y,as,bs,r1,r2,s1,s2,g⟩:=rd h;exact eq_dataH r1 r2 s1 s2 hC.hu (W _ g)
 |NotEq=>
  obtain ⟨x,y,as,bs,r1,r2,s1,s2,g⟩:=rd (g:=λc=>f (!c)) h;exact ne_dataH r1 r2 s1 s2 hC.hu (W _ g)
 |Lt=>
  refine iZ (two h) λx t y u U V g=>?_;clear a two rd im;subst U;subst V;exact lt_int (W _ g)
 |Gt=>
  refine iZ (two h) λx t y u U V g=>?_;clear a two rd im;subst U;subst V;exact gt_int (W _ g)
 |LtE=>
  refine iZ (two h) λx t y u U V g=>?_;clear a two rd im;subst U;subst V;exact le_int (W _ g)
 |GtE=>
  refine iZ (two h) λx t y u U V g=>?_;clear a two rd im;subst U;subst V;exact ge_int (W _ g)
 |Is=>exact au (im (R:=λc s=>Wp C (pure (.bool c)) Q s) h λc g=>aZ (W _ g))
 |IsNot=>exact au (im (R:=λc s=>Wp C (pure (.bool (!c))) Q s) (f:=λc=>f (!c)) h λc g=>aZ (W _ g))
 |_=>exact h.elim
theorem K7 {l:ak}{ws:List af}{n:Int}{u:Tok}{j:Nat}{x:af}(hl:s.heap.IsList l ws.toArray) (hb:-(2 ^ 63)<=n/\n<2 ^ 63) (U:l6 n ws.length=some j) (hx:ws[j]? = some x) (W:Q x s):Wp C (Ha (.ref l) (.int n u)) Q s:=by
 have V:ws.toArray[j]? = some x:=by rw [qU];exact hx
 unfold l6 at U;by_cases h0:n<0
 ·simp only [if_pos h0] at U;split at U
  ·rename_i hc;clear hx;cases U;exact wpAny_getItem_list_neg hl h0 (by have:=of_decide_eq_true (kP.mp hc).1;refine ae (ee ..) ?_;omega) hb.1 V W
  ·exact El.ns U
 ·simp only [if_neg h0] at U;split at U
  ·clear hx;cases U;exact wpAny_getItem_list hl (kQ.mp h0) hb.2 V W
  ·exact El.ns U
theorem K8 (hn:mw U=true):subscripted U false a b=operate [a,b] (Ha a b):=by
 cases U <;> first | rfl | exact El.ft hn
theorem UN {P:Fz}(hP:∀a o,P a o->s.heap.get? a=some o) (p:SeqIn P l ws) (hb:-(2 ^ 63)<=n/\n<2 ^ 63) (W:l6 n ws.length=some j) (hx:ws[j]? = some x) (hQ:Q x s):Wp C (Ha (.ref l) (.int n u)) Q s/\∀{V U:Expr},mw U=true->Wp C (Hb V U (.ref l) (.int n u)) Q s:=by
 rcases p with ⟨c,p⟩ | p
 ·have hl:=kj hP p;exact ⟨K7 hl hb W hx hQ,λhn=>tail_any hl.typeIs ad7.lookup (K7 hl hb W hx hQ) (K8 hn)⟩
 ·exact ⟨PyProof.Rows.getItem_tuple (md _ (hP _ _ p) rfl 0 rfl) hb.1 hb.2 W (by rw [qU];exact hx) hQ,λhn=>item_tupleT (md _ (hP _ _ p) rfl 0 rfl) hb.1 hb.2 W hx hQ (K8 hn)⟩
inductive rZ (C:Cx) (σ:List Tr) (τ:List bg) (m:ag->Option af) (N K:Led) (n:Int) (k:Ev->Prop):af->Prop
 |mk {bF:Led}{a:ak}{ws:List af}{j:Nat}{w:af}{e:Ev}:SeqIn (C.P.and N) a ws->Sp C σ ((w,e)::τ) m N K bF->l6 n ws.length=some j->ws[j]? = some w->-(2 ^ 63)<=n/\n<2 ^ 63->k e->rZ C σ τ m N K n k (.ref a)
theorem r5 {N K ZL:Led}(p:SeqIn (C.P.and N) a ws) (S:Sp C σ τ m N K ZL) (g:aU (C.P.and ZL) ws ds) (ob:iG ds n λzz d=>k (aR d)):rZ C σ τ m N K n k (.ref a):=by
 cases ob with
 |mk U V W h4=>exact (g.get V).elim λx q=>.mk p (S.dR q.2) (g.len▸U) q.1 W h4
theorem K9 {N K ZL Oz:Led}(p:SeqIn (C.P.and N) a ws) (g:bO (C.P.and ZL) ts Oz ws) (f:∀{w:af}{t:Tr}{O' Z:Led},((a,o)::Oz).Perm (O'++Z)->Rep (C.P.and ZL) t O' w->Sp C σ ((w,.ow t)::τ) m N K (Z++ZL)) (ob:iG ts n λzz t=>k (.ow t)):rZ C σ τ m N K n k (.ref a):=by
 cases ob with
 |mk U V W h4=>
  refine fS (g.focus V) λx O1 Or g1 g2 g3 zz=>.mk p (f ((g3.cons _).trans nh.symm) g2) (g.len▸U) g1 W h4
theorem Dt {P:Fz}{N:Led}(h:Rep P t O v) (e:uB f t=some (f us)) (U:∀ds,f us≠.fz ds) (hi:∀ts,f ts=f us->ts=us) (V:∀q∈O,q∈N):∃a o ws Oz,v=.ref a/\O=(a,o)::Oz/\bO P us Oz ws/\SeqIn (λa o=>(a,o)∈N) a ws:=by
 cases t with
 |dat d=>clear h;cases d <;> first | exact (U _ (dJ e).symm).elim | cases e
 |dl ds=>exact (U _ (dJ e).symm).elim
 |ol ts=>
  refine iZ h λa n ws Oz e1 e2 y=>?_;clear h;clear U;cases hi _ (dJ e);exact xQ a _ ws Oz e1 e2 y (.inl (av (aQ ws n) (V _ (by refine ae (e2 ..) <| .head _)) xX))
 |ot ts=>
  refine dM h λa ws Oz e1 e2 y=>?_;clear h;clear U;cases hi _ (dJ e);exact xQ a _ ws Oz e1 e2 y (.inr (V _ (e2▸.head _)))
 |_=>exact El.ns e
theorem Sp.pick (hC:C.Ok) {N K ZL:Led}(S:Sp C σ ((v,e)::τ) m N K ZL) (h:lz σ e (aR (.int n)) k):rZ C σ τ m N K n k v:=by
 have h:(match qa σ e with
 |none=>False
 |some q=>match q with
  |.fz ds=>iG ds n λzz d=>k (aR d)
  |.ow ts=>iG ts n λzz t=>k (.ow t)
  |.bo i p ts=>Dl i p ts n k):=h
 cases e with
 |ow t=>
  cases t with
  |dat d=>
   refine El.aa S.lD λr V=>?_;clear S;cases d with
   |list ds=>
    refine dM r.listI λa ws c U p g=>?_;subst U;exact r5 (.inl ⟨c,p.imp_left λp=>p.imp_right (V.sub _)⟩) V g h
   |tuple ds=>
    refine aO r.tupI λa ws U p g=>?_;subst U;exact r5 (.inr (p.imp_right (V.sub _))) V g h
   |_=>exact h.elim
  |dl ds=>cases S.og hC (ds:=ds) rfl with | mk z V p g=>exact r5 (.inl ⟨_,p⟩) V g h
  |ol ts=>
   cases S.top with
   |mk r hO f _=>
    refine lh (Dt (f:=.ow) r rfl (λzz e=>by cases e) (λzz e=>by clear S h r;cases e;rfl) hO) ?_
    clear a;intro a o ws Oz U W y q;clear S;subst U;clear hO;subst W;exact K9 (q.imp (λ⟨n,h⟩=>⟨n,h.imp_left .inr⟩) .inr) y (λhp r=>f hp λhz=>Rep.mono (and_mono hz) _ r) h
  |ot ts=>
   cases S.top with
   |mk r hO f _=>
    refine lh (Dt (f:=.ow) r rfl (λzz e=>by cases e) (λzz e=>by clear S h r;cases e;rfl) hO) ?_
    clear a;intro a o ws Oz U W y q;clear S;subst U;clear hO;subst W;exact K9 (q.imp (λ⟨n,h⟩=>⟨n,h.imp_left .inr⟩) .inr) y (λhp r=>f hp λhz=>Rep.mono (and_mono hz) _ r) h
  |_=>exact h.elim
 |bo i p=>
  cases e0:(σ[i]?.bind λt=>eg t p) with
  |none=>rw [show qa σ (.bo i p)=none from by refine (?_:Rr _ _=none);refine ae (e0 ..) ?_;rfl] at h;exact h.elim
  |some u=>
   rw [show qa σ (.bo i p)=uB (.bo i p) u from by refine (?_:Rr _ _=_);refine ae (e0 ..) ?_;rfl] at h
   have deep:∀{us:List Tr},uB (.bo i p) u=some (.bo i p us)->u≠.un->Dl i p us n k->rZ C σ τ m N K n k v:=λ{us} es hu ob=>by
    cases S.top with
    |mk r _ _ V=>
     refine dX (i5.part hC S r e0 hu) λOu rest r3 r4=>lh (Dt (f:=.bo i p) r3 es (λzz e=>by cases e) (λzz e=>by clear S h e0 es ob r;cases e;rfl) λq hq=>r4.mem_iff.mpr (bE _ hq)) ?_
     clear a;intro a o ws Oz U W y q;clear S r3;subst U;subst W;refine xK r λzz w b c=>?_;clear r;cases ob with
     |@mk j t' h1 h2 h3 h4=>
      refine fS (y.focus h2) λx O1 Or g1 g2 g3 zz=>?_;have pp:SeqIn (C.P.and N) a ws:=q.imp (λ⟨n,h⟩=>⟨n,h.imp_left .inr⟩) .inr;have go:k (.bo i (j::p))->rZ C σ τ m N K n k (.ref a):=λh4=>.mk pp (V.yw b (.step c q g1)) (y.len▸h1) g1 h3 h4;clear h2;cases t' with
      |dat d=>exact .mk pp (V.dR (g2.2.mono (and_mono λzz h=>bj _ h))) (y.len▸h1) g1 h3 h4
      |un=>exact h4.elim
      |fr φ=>exact h4.elim
      |_=>exact go h4
   cases u with
   |dl ds=>clear deep;cases S.og hC (ds:=ds) (by refine (?_:Rr _ _=_);refine ae (e0 ..) ?_;rfl) with | mk z V q g=>exact r5 (.inl ⟨_,q⟩) V g h
   |dat d=>
    cases S.top with
    |mk r _ _ V=>
     refine dX (i5.part hC S r e0 λe=>nomatch e) λOu rest r3 r4=>?_;clear e0 deep;cases d with
     |list ds=>
      refine dM r3.2.listI ?_;clear a;intro a ws c U p g;subst U;exact r5 (.inl ⟨c,p.imp_left λp=>p.imp_right (S.sub _)⟩) V (g.mono (and_mono λzz h=>bj _ h)) h
     |tuple ds=>
      refine aO r3.2.tupI ?_;clear a;intro a ws U p g;subst U;exact r5 (.inr (p.imp_right (S.sub _))) V (g.mono (and_mono λzz h=>bj _ h)) h
     |_=>exact h.elim
   |ol us=>exact deep rfl (λe=>nomatch e) h
   |ot us=>exact deep rfl (λe=>nomatch e) h
   |_=>exact h.elim
theorem item_at (W:C.Ok) (h:lz σ ea (aR (.int n)) k) (a:At C σ ((va,ea)::τ) K s.heap) (hQ:Nx C σ τ K s Q k):Wp C (Ha va (.int n u)) Q s/\∀{V U:Expr},mw U=true->Wp C (Hb V U va (.int n u)) Q s:=by
 cases a with
 |mk F N S=>cases S.pick W h with
  |mk p S' h1 h2 h3 h4=>exact UN (At.bU W F N) p h3 h1 h2 (hQ _ _ _ _ (.mk F N S') h4)
theorem UO (hC:C.Ok) (hn:mw U=true) (h:lz σ ea eb k) (a:At C σ ((vb,eb)::(va,ea)::τ) K s.heap) (hQ:Nx C σ τ K s Q k):Wp C (Hb W U va vb) Q s:=by
 refine ar (qc (show bp eb _ from h)) λn V h'=>?_;subst V;refine aO (a.eQ (f:=λx=>x=n) rfl) λzz u V cu a1=>?_;clear a;subst V;subst cu;exact (item_at hC h a1 hQ).2 hn
end
theorem Du {α β:Type}{R:α->β->Prop}{l:List α}{r:List β}(x:bB R l r):∀is:List Nat,bB R (is.filterMap (l[·]?)) (is.filterMap (r[·]?)):=@λA=>match A with
 |[]=>rfl
 |i::is=>by
  refine ae (AO ..) (ae (AO ..) ?_);cases e:r[i]? with
  |none=>
   rw [show l[i]? = none from Rt (x.len▸List.getElem?_eq_none_iff.mp e)];exact Du x is
  |some b=>
   refine ar (x.get e) λa U h=>ae (U ..) <| ⟨h,Du x is⟩
theorem UP {P:Fz}(x:aU P ws ds) (lo hi:Option Int):aU P (Hc ws.toArray lo hi none).toList (jN ds lo hi):=by
 have e:(Hc ws.toArray lo hi none).toList=(sliceRange (wI lo hi none ds.length).1 (wI lo hi none ds.length).2.1 (wI lo hi none ds.length).2.2).filterMap (ws[·]?):=by
  unfold Hc;refine ae (ee ..) (ae (x.len ..) ?_);simp only [qU]
 refine ae (e ..) <| Du x _
section
variable {C:Cx}{σ:List Tr}{τ:List bg}{K:Fs}{v w va vb:af}{e ea eb:Ev}{d:ah}{h:aq}{Q:af->ai->Prop}{s:ai}{k:Ev->Prop}
theorem UQ (hC:C.Ok) {lo hi:Option Expr}(pl:IsPart U ol) (ph:IsPart V W) (h:KP σ ea ol W k) (a:At C σ ((va,ea)::τ) K s.heap) (hQ:Nx C σ τ K s Q k) :
  Wp C (Hb value (.Slice lo hi none p) va (.ref s.heap.objs.size)) Q {s with heap:=s.heap.push {cls:=.type "slice",data:=.fields #[U,V,.none]}}:=by
 refine ef (qd (show gv σ ea _ from h)) λxs e1 hz hk=>?_;have hk:=hk.out;cases a with
 |mk F N S=>
  cases S.og hC e1 with
  |@mk bF l n ws z S1 p1 d1=>
   have hl:s.heap.IsList l ws.toArray:=kj (At.bU hC F N) p1;refine tail_any (T:="list") (aq.IsList.typeIs (s:={s with heap:=s.heap.push {cls:=.type "slice",data:=.fields #[U,V,.none]}}) (hl.push _)) ad7.lookup (wpAny_getItem_list_slice (hl.push _) (aq.IsSliceOf.new ..) pl ph .none (by simp) ?_ (by refine ae (ee ..) (ae (d1.len ..) ?_);exact hz)) rfl
   have UR:∀b o,s.heap.get? b=some o->(s.heap.push {cls:=.type "slice",data:=.fields #[U,V,.none]}).get? b=some o:=λzz zz e=>aq.get?_push_of_some _ e;have F2:=F.push {cls:=.type "slice",data:=.fields #[U,V,.none]};have N2:=N.grown UR;have N1:=aI.push F2 N2 {cls:=.type "list",data:=.seq (Hc ws.toArray ol W none)};exact hQ _ _ _ _ (.mk (F2.push _) N1 (S1.push (t:=.dl (jN xs ol W)) (λp hp=>aq.lt_size (N2 p hp).1) (Rep.jo (n:=0) (UP d1 ol W)))) hk
theorem Le {N K ZL:Led}:∀{vs:List af}{es:List Ev}{ts:List Tr}{O:Led},vs.length=es.length->trees es=some ts->cv C m N K ZL (vs.zip es) O->bO (C.P.and ZL) ts O vs:=@λA B D F G H J=>match A,B,D,F,G,H,J with
 |[],[],zz,V,W,ht,x=>by cases ht;exact ⟨x,rfl⟩
 |v::vs,e::es,ts,zz,hl,ht,x=>by
  cases e with
  |bo i p=>exact El.ns ht
  |ow t=>
   refine ar (map_some (show (trees es).map (t::·)=some ts from ht)) λus e1 U=>?_;clear ht;subst U;exact x.imp λzz x=>x.imp λzz x=>(aL x.1 x.2.1 (Le (jC hl) e1 x.2.2))
 |[],zz::V,W,zw,hl,zv,zu=>El.zs hl
 |zz::V,[],W,zw,hl,zv,zu=>sz hl
theorem Lf {P:Fz}:∀{ts:List Tr}{O:Led}{vs:List af}{ds:List ah},bO P ts O vs->uC ts=some ds->aU P vs ds/\O=[]:=@λA B C D F G=>match A,B,C,D,F,G with
 |[],zz,V,W,x,h=>by cases h;exact ⟨x.2▸rfl,x.1⟩
 |zz::V,W,[],zw,x,zv=>(show False from x).elim
 |t::ts,O,v::vs,ds,x,h=>by
  cases t with
  |dat d=>
   refine aO (C5 (show rO (some d) (uC ts)=some ds from h)) λd' es e1 e2 U=>?_;clear h;subst U;cases e1
   refine aO x λO1 O2 U r y=>?_;clear x;subst U;refine El.aa (Lf y e2) λy z=>⟨⟨r.2,y⟩,by refine ae (r.1 ..) (ae (z ..) ?_);rfl⟩
  |_=>exact El.ns h
inductive Dv (C:Cx) (σ:List Tr) (τ:List bg) (m:ag->Option af) (N K ZL:Led) (vs:List af) (f:List ah->Ev) (g:List Tr->Ev) (k:Ev->Prop):Prop
 |ds {ds:List ah}:aU (C.P.and ZL) vs ds->Sp C σ τ m N K ZL->k (f ds)->Dv C σ τ m N K ZL vs f g k
 |ts {ts:List Tr}:(∀{D o T},(∀p∈N,p.1<D)->(∀O,bO (C.P.and ZL) ts O vs->Rep (C.P.and ZL) T ((D,o)::O) (.ref D))->Sp C σ ((.ref D,.ow T)::τ) m ((D,o)::N) K ZL)->k (g ts)->Dv C σ τ m N K ZL vs f g k
theorem Sp.Lh {N K ZL:Led}(hl:vs.length=es.length) (S:Sp C σ (vs.zip es++τ) m N K ZL) (h:rV es f g k):Dv C σ τ m N K ZL vs f g k:=by
 unfold rV at h;cases e1:trees es with
 |none=>rw [e1] at h;exact h.elim
 |some ts=>
  rw [e1] at h;dsimp only at h;cases S with
  |@mk Os Ot us nd pm rs ln mp V hx=>
   refine aO V.split λW l2 U x1 x2=>?_;clear V;subst U;have r:=Le hl e1 x1;cases e2:uC ts with
   |some ds=>
    rw [e2] at h;refine El.aa (Lf r e2) λy z=>?_;subst z;exact .ds y (.mk nd pm rs ln mp x2 hx) h
   |none=>
    rw [e2] at h;exact .ts (ts:=ts) (λ{D o T} lt q=>.mk (yv nd λp hp=>cy (lt p hp)) (pm.cons _) rs ln mp (bQ ((D,o)::W) l2 rfl (q _ r) (x2.mono (λzz=>.tail _) λzz h=>h)) hx) h
theorem US (hl:vs.length=es.length) (hz:es.length<=100) (h:rV es (λds=>.ow (.dl ds)) (λts=>.ow (.ol ts)) k) (a:At C σ (vs.zip es++τ) K s.heap) (U:Nx C σ τ K s Q k):Wp C (qV vs) Q s:=by
 cases a with
 |mk F N S=>
  refine newList_K F N (λD h' V N' lt=>?_) (hl▸aD hz (by decide))
  cases S.Lh hl h with
  |ds y W g=>exact U _ _ _ _ (.mk V N' (W.push lt (.jo y))) g
  |ts f g=>exact U _ _ _ _ (.mk V N' (f lt λO r=>Rep.uE r)) g
theorem UT (hl:vs.length=es.length) (hz:es.length<=100) (h:rV es (λds=>aR (.tuple ds)) (λts=>.ow (.ot ts)) k) (a:At C σ (vs.zip es++τ) K s.heap) (U:Nx C σ τ K s Q k):Wp C (Ru vs) Q s:=by
 cases a with
 |mk F N S=>
  refine kup_newTuple F N (λD h' V N' lt=>?_) (hl▸aD hz (by decide))
  cases S.Lh hl h with
  |ds y W g=>exact U _ _ _ _ (.mk V N' ((W.yx lt).dR (.KI (.inr (.head _)) (y.mono (and_mono λzz=>.tail _))))) g
  |ts f g=>exact U _ _ _ _ (.mk V N' (f lt λO r=>Rep.UD r)) g
theorem UU (W:C.Ok) {Q:Bool->ai->Prop}(h:KQ σ e f) (a:At C σ ((v,e)::τ) K s.heap) (V:∀b h' tk,At C σ τ K h'->f b->Q b {s with heap:=h',toks:=tk}):Wp C (truthy v) Q s:=by
 refine ar (fW (show wD (e.data σ) _ from h)) λd e1 h=>?_;cases a with
 |mk F N S=>
  cases S.pop W with
  |mk _ S' _ r=>
   have r:=r d e1;have a:At C σ τ K s.heap:=.mk F N S';clear e1;cases d with
   |bool b=>cases r.Ut;exact wK (V _ _ _ a h)
   |int n=>
    refine El.ea r.jJ λt U=>?_;clear S a_1 r;subst U;refine truthy_int (V _ _ _ a ?_);refine ae (show (n != 0)=decide (n≠0) from by by_cases c:n=0 <;> simp [c]) ?_
    exact h
   |none=>clear S a_1;cases r;exact truthy_none (V _ _ _ a h)
   |str x=>
    cases r
    refine P.truthy_str (by have:=h.1;omega) (V _ _ _ a ?_)
    refine ae (show ((x.length:Int) != 0)=decide (x.length≠0) from by by_cases c:x.length=0 <;> simp [c]) ?_
    exact h.2
   |list ds=>
    refine dM r.listI λl ws n U p g=>?_;clear S a_1 r;subst U;refine wpAny_truthy_list (kj (At.bU W F N) p) (by refine ae (ee ..) (ae (g.len ..) ?_);exact AP (pD.mpr h.1) (by decide)) (V _ _ _ a ?_)
    refine ae (show ws.toArray.isEmpty=ds.isEmpty from by have:=g.len;clear p g;cases ws <;> cases ds <;> first | rfl | exact nomatch this) ?_
    exact h.2
   |_=>exact h.elim
end
inductive It
 |seq (e:SE)
 |qf (a b:SE)
 |r6 (e:SE)
 |yy (i m:Nat) (es:SE)
inductive lI
 |nm (i:Nat) (o:Ow)
 |dO (i j:Nat)
 |tp (is:Tg)
 |qg (i j:Nat)
inductive SS
 |nil
 |seq (a r:SS)
 |fz (i:Nat)
 |asg (i:Nat) (o:Ow) (e:SE)
 |mA (is:Tg) (e:SE)
 |fA (is:Tg) (es:SE)
 |yz (is:Tg) (i:Nat)
 |aug (i:Nat) (o:tB) (e:SE)
 |app (r e:SE)
 |ext (r e:SE)
 |set (r j e:SE)
 |kl (r j:SE) (o:tB) (e:SE)
 |cS (t:SE) (a b:SS)
 |eu (is:Tg) (tup:Bool) (it:It) (body:SS)
 |mB (t:SE) (body:SS)
 |ret (e:SE)
 |fg (gs:List lI) (e:SE)
 |yA (i j n:Nat) (o:Ow) (e:SE)
 |qh (i m:Nat) (es:SE)
 |yB (is:Tg) (i:Nat)
 |qi (i:Nat)
 |ins (i:Nat) (es:SE)
 |Dw (i j:Nat)
 |Dx (i j n:Nat)
 |Dy (x d e:Nat)
 |Dz (x i:Nat)
 |DA
 |brk
 |cnt
 |bad
inductive Fl
 |nx | brk | cnt
 |ret (e:Ev)
noncomputable abbrev KS:=Fl->List Tr->Prop
def mC (σ:List Tr) (i:Nat) (k:List Tr->Prop):Prop:=match σ[i]? with
 |some t=>wD t.data λd=>k (σ.set i (.dat d))
 |none=>False
def jq (σ:List Tr) (v:Ev) (k:Tr->List Tr->Prop):Prop:=match v with
 |.ow t=>k t σ
 |.bo j p=>wD (Ev.data σ (.bo j p)) λd=>mC σ j λaH=>k (.dat d) aH
def UW (is:Tg) (σ:List Tr) (v:Ev) (k:List Tr->Prop):Prop:=jq σ v λt aH=>wL (rX t) λts=>fy is ts aH k
abbrev iI (n:Nat):Prop:=n<2 ^ 24
def uG (t u:Tr) (k:Tr->Prop):Prop:=match t with
 |.dl ds=>wD u.data λd=>iI ds.length/\k (.dl (ds++[d]))
 |.ol ts=>iI ts.length/\k (.ol (ts++[u]))
 |_=>False
def DB (t:Tr) (xs:List ah) (k:Tr->Prop):Prop:=match t with
 |.dl ds=>iI (ds.length+xs.length)/\k (.dl (ds++xs))
 |.ol ts=>iI (ts.length+xs.length)/\k (.ol (ts++xs.map .dat))
 |_=>False
def qj (t:Tr) (j:Nat) (u:Tr) (k:Tr->Prop):Prop:=match t with
 |.dl ds=>wD u.data λd=>k (.dl (ds.set j d))
 |.ol ts=>k (.ol (ts.set j u))
 |_=>False
def ik (σ:List Tr) (i:Nat) (p:List Nat) (f:Tr->(Tr->Prop)->Prop) (k:List Tr->Prop):Prop:=match σ[i]? with
 |some t=>wT (eg t p) λu=>f u λu'=>k (σ.set i (jL t p u'))
 |none=>False
def r7 (v:Ev) (k:Nat->List Nat->Prop):Prop:=match v with
 |.bo i p=>k i p
 |.ow zz=>False
noncomputable def yC (t:Tr):Option Nat:=match t with
 |.dl ds=>some ds.length
 |.ol ts=>some ts.length
 |_=>none
def uH (σ:List Tr) (i:Nat) (p:List Nat) (P:Prop):Prop:=match (σ[i]?.bind λt=>eg t p).bind yC with
 |some _=>P
 |none=>False
inductive km (t:Tr) (n:Int) (k:Nat->Prop):Prop
 |mk {l:Nat}:yC t=some l->0<=n/\n<2 ^ 63/\n<l->k n.toNat->km t n k
def uI (σ:List Tr) (i:Nat) (k:ah->List Tr->Prop):Prop:=match σ[i]? with
 |some t=>match t with
  |.dl ds=>match ds with
   |d::r=>iI r.length/\k d (σ.set i (.dl r))
   |[]=>False
  |_=>False
 |none=>False
def du (turn:ah->List Tr->KS->Prop) (k:KS):List ah->List Tr->Prop:=@λA B=>match A,B with
 |[],σ=>k .nx σ
 |d::ds,σ=>turn d σ λf aH=>match f with
  |.nx=>du turn k ds aH
  |.cnt=>du turn k ds aH
  |.brk=>k .nx aH
  |.ret e=>k (.ret e) aH
noncomputable def ou (n:Nat):List ah->List ah:=@λA=>match A with
 |[]=>[]
 |d::ds=>.tuple [.int n,d]::ou (n+1) ds
noncomputable def r8 (d:ah):Option (List ah):=match d with
 |.list ds=>some ds
 |.tuple ds=>some ds
 |_=>none
def Li (fs:cX) (tup:Bool) (it:It) (σ:List Tr) (k:List ah->List Tr->Prop):Prop:=match it with
 |.seq e=>den fs e σ (one λv=>jq σ v λt aH=>wD t.data λd=>match r8 d with
  |some ds=>k ds aH
  |none=>False)
 |.qf a b=>den fs a σ (one λva=>bp va λx=>den fs b σ (one λvb=>bp vb λy=>(-(2 ^ 62)<x/\x<2 ^ 62/\-(2 ^ 62)<y/\y<2 ^ 62)/\k (dE x y) σ))
 |.r6 e=>den fs e σ (one λv=>jq σ v λt aH=>wD t.data λd=>match Dg d with
  |some ds=>tup=true/\k (ou 0 ds) aH
  |none=>False)
 |.yy i m es=>jO σ i λx as=>den fs es σ λvs=>jm fs.m σ m vs x as λd as=>match r8 d with
  |some ds=>k ds (σ.set i (b6 x as))
  |none=>False
inductive ox (t:List Tr->(Bool->Prop)->Prop) (body:List Tr->KS->Prop) (σ:List Tr) (k:KS):Prop
 |mk (J:Nat->List Tr->Prop) (n:Nat):J n σ->(∀n aH,J n aH->t aH λc=>bw c (body aH λf oy=>match f with
  |.nx=>∃n',n'<n/\J n' oy
  |.cnt=>∃n',n'<n/\J n' oy
  |.brk=>k .nx oy
  |.ret e=>k (.ret e) oy) (k .nx aH))->ox t body σ k
def ae4 (ts:List Tr) (k:Tr->Tr->Prop):Prop:=match ts with
 |[]=>False
 |a::r=>match r with
  |[]=>False
  |b::q=>match q with
   |[]=>k a b
   |zz::zy=>False
def DC (o:tB) (x y:Int) (k:Int->Prop):Prop:=match o with
 |.Add=>k (x+y)
 |.Sub=>k (x-y)
 |_=>False
noncomputable def mD (as:List bu) (j:Nat) (a:bu):List bu:=if j<as.length then as.set j a else as++[a]
inductive uJ (σ:List Tr) (i j:Nat) (a:bu) (k:List Tr->Prop):Prop
 |mk {x:ak×ak}{as:List bu}:σ[i]? = some (b6 x as)->j<=as.length/\j<10->k (σ.set i (b6 x (mD as j a)))->uJ σ i j a k
inductive mE:Tr->Prop
 |dat (d:ah):mE (.dat d)
 |fz {r:Fz->af->Prop}:(∀(P P':Fz) v,(∀a o,P a o->P' a o)->r P v->r P' v)->(∀P v,r P v->nq v=true)->mE (b7 r)
noncomputable def DD:Tr->Bool:=@λA=>match A with
 |.un=>false
 |.fr zz=>false
 |_=>true
def DE (t:Tr) (k:Tr->Prop):Prop:=match t.data with
 |some d=>k (.dat d)
 |none=>mE t/\k t
inductive yD (σ:List Tr) (i j:Nat) (k:List Tr->Prop):Prop
 |mk {n:Nat}{g:Int->Option ah}:σ[j]? = some (.fr (lx n g))->k ((σ.set j (b7 (fU g))).set i (b7 (fU g)))->yD σ i j k
inductive yE (σ:List Tr) (t:Tr) (i j:Nat) (k:List Tr->Prop):Prop
 |mk {n:Nat}{g:Int->Option ah}{c:Int}{d:ah}:t=.dat d->σ[j]? = some (.dat (.int c))->σ[i]? = some (.fr (lx n g))->n<2 ^ 24->k (σ.set i (.fr (lx (n+1) λx=>if x=c then some d else g x)))->yE σ t i j k
structure il (P:Fz) (a:ak) (n:Nat) (g:Int->Option (List ah)) (l:Option (Int×ak)) (o:ay) (ls:Led) (kv:List (Int×af)):Prop where
 lo:(a == wC)=false
 d:∀(pg:bM) (w:aW),o.IsDictOf (jc pg w) kv
 n:kv.length<=n
 no:∀c,g c=none->valueAt kv c=none
 ye:∀c ds,g c=some ds->∃b ws k,valueAt kv c=some (.ref b)/\(b,aQ ws k)∈ls/\aU P ws ds
 inj:∀c c' b,valueAt kv c=some (.ref b)->valueAt kv c'=some (.ref b)->c=c'
 pt:∀c b,l=some (c,b)->valueAt kv c=some (.ref b)
def gw (a:ak) (n:Nat) (g:Int->Option (List ah)) (l:Option (Int×ak)):Fz->Led->af->Prop:=λP O v=>v=.ref a/\∃o ls kv,O=(a,o)::ls/\il P a n g l o ls kv
noncomputable def mF (g:Int->Option (List ah)) (c:Int) (d:List ah):Int->Option (List ah):=λx=>if x=c then some d else g x
def r9 (a:ak) (g:Int->Option ah):Fz->af->Prop:=λP v=>v=.ref a/\fU g P v
def yF (a:ak):Fz->af->Prop:=λzz v=>v=.ref a
inductive yG (σ:List Tr) (i j n:Nat) (k:List Tr->Prop):Prop
 |mk {x:ak×ak}{as:List bu}:σ[i]? = some (b6 x as)->j<=as.length/\j<10->(∀a,k ((σ.set i (b6 x (mD as j (.rf a)))).set n (.fr (gw a 0 (λae5=>none) none))))->yG σ i j n k
inductive yH (σ:List Tr) (x d e:Nat) (k:List Tr->Prop):Prop
 |mk {a:ak}{n:Nat}{g:Int->Option (List ah)}{l:Option (Int×ak)}{c:Int}:σ[d]? = some (.fr (gw a n g l))->σ[e]? = some (.dat (.int c))->n<2 ^ 24->(∀b,k ((σ.set d (.fr (gw a (n+1) (mF g c ((g c).getD [])) (some (c,b))))).set x (b7 (yF b))))->yH σ x d e k
inductive yI (σ:List Tr) (x i:Nat) (k:List Tr->Prop):Prop
 |mk {d:Nat}{a:ak}{n:Nat}{g:Int->Option (List ah)}{c:Int}{b:ak}{ds:List ah}{dv:ah}:σ[x]? = some (b7 (yF b))->σ[i]? = some (.dat dv)->σ[d]? = some (.fr (gw a n g (some (c,b))))->g c=some ds->ds.length<2 ^ 24->k (σ.set d (.fr (gw a n (mF g c (ds++[dv])) none)))->yI σ x i k
inductive yJ (σ:List Tr) (k:List Tr->Prop):Prop
 |mk {i j d:Nat}{a:ak}{n:Nat}{g:Int->Option (List ah)}{l:Option (Int×ak)}{x:ak×ak}{as:List bu}:d≠i->σ[i]? = some (b6 x as)->as[j]? = some (.rf a)->σ[d]? = some (.fr (gw a n g l))->k ((σ.set d (b7 (r9 a λc=>(g c).map .list))).set i (b6 x (as.set j (.tr (b7 (fU λc=>(g c).map .list))))))->yJ σ k
def Lj (σ:List Tr) (t:Tr) (k:List Tr->Prop):lI->Prop:=@λA=>match A with
 |.nm i o=>jn σ i o t k
 |.dO i j=>uJ σ i j (.tr t) k
 |.tp is=>wL (rX t) λts=>fy is ts σ k
 |.qg i j=>yE σ t i j k
def oz (t:Tr) (k:List Tr->Prop):List lI->List Tr->Prop:=@λA B=>match A,B with
 |[],σ=>k σ
 |g::gs,σ=>Lj σ t (oz t k gs) g
inductive yK (σ:List Tr) (i:Nat) (k:ah->List Tr->Prop):Prop
 |mk {r:List ah}{d:ah}:σ[i]? = some (.dl (r++[d]))->iI r.length->k d (σ.set i (.dl r))->yK σ i k
inductive DF (σ:List Tr) (i:Nat) (k:List Tr->Prop):Prop
 |mk {bl total:List (Nat×Nat×Nat)}:σ[i]? = some (.dl (bl.map eG))->bl.Perm total->total.Pairwise (λa b=>a.1<b.1)->total.length<64->k (σ.set i (.dl (total.map eG)))->DF σ i k
def DG (fs:cX) (r j:SE) (u:Tr) (σ:List Tr) (k:List Tr->Prop):Prop:=den fs r σ (one λw=>r7 w λi p=>den fs j σ (one λvj=>bp vj λn=>ik σ i p (λt k=>km t n λj=>qj t j u k) k))
def aJ (fs:cX):SS->List Tr->KS->Prop:=@λA B C=>match A,B,C with
 |.nil,σ,k=>k .nx σ
 |.seq a r,σ,k=>aJ fs a σ λf aH=>match f with
  |.nx=>aJ fs r aH k
  |f=>k f aH
 |.fz i,σ,k=>mC σ i λaH=>k .nx aH
 |.asg i o e,σ,k=>den fs e σ (one λv=>jq σ v λt aH=>jn aH i o t λaH=>k .nx aH)
 |.mA is e,σ,k=>den fs e σ (one λv=>UW is σ v λaH=>k .nx aH)
 |.fA is es,σ,k=>den fs es σ λvs=>wL (trees vs) λts=>ts.length<=3/\fy is.reverse ts.reverse σ λaH=>k .nx aH
 |.yz is i,σ,k=>uI σ i λd aH=>wL (rW d) λts=>fy is ts aH λaH=>k .nx aH
 |.aug i o e,σ,k=>match σ[i]? with
  |some t=>bp (.ow t) λx=>den fs e σ (one λv=>bp v λy=>DC o x y λz=>k .nx (σ.set i (.dat (.int z))))
  |none=>False
 |.app r e,σ,k=>den fs r σ (one λw=>r7 w λi p=>uH σ i p (den fs e σ (one λv=>jq σ v λu aH=>ik aH i p (λt=>uG t u) λaH=>k .nx aH)))
 |.ext r e,σ,k=>den fs r σ (one λw=>r7 w λi p=>uH σ i p (den fs e σ (one λv=>gv σ v λxs=>ik σ i p (λt=>DB t xs) λaH=>k .nx aH)))
 |.set r j e,σ,k=>den fs e σ (one λv=>jq σ v λu aH=>DG fs r j u aH λaH=>k .nx aH)
 |.kl r j o e,σ,k=>den fs r σ (one λw=>r7 w λi p=>den fs j σ (one λvj=>lz σ w vj λold=>bp old λx=>den fs e σ (one λv=>bp v λy=>bp vj λn=>DC o x y λz=>ik σ i p (λt k=>km t n λj=>qj t j (.dat (.int z)) k) λaH=>k .nx aH)))
 |.cS t a b,σ,k=>den fs t σ (one λv=>ly v λc=>bw c (aJ fs a σ k) (aJ fs b σ k))
 |.eu is tup it body,σ,k=>Li fs tup it σ λds aH=>du (λd σ k=>iH is tup d σ λaH=>aJ fs body aH k) k ds aH
 |.mB t body,σ,k=>ox (λσ f=>den fs t σ (one λv=>ly v f)) (aJ fs body) σ k
 |.ret e,σ,k=>den fs e σ (one λv=>k (.ret v) σ)
 |.fg gs e,σ,k=>den fs e σ (one λv=>jq σ v λt aH=>DE t λt'=>oz t' (λaH=>k .nx aH) gs aH)
 |.yA i j n o e,σ,k=>den fs e σ (one λv=>jq σ v λt aH=>DD t=true/\uJ aH i j .any λoy=>jn oy n o t λgy=>k .nx gy)
 |.qh i m es,σ,k=>jO σ i λx as=>den fs es σ λvs=>jm fs.m σ m vs x as λzz as=>k .nx (σ.set i (b6 x as))
 |.yB is i,σ,k=>yK σ i λd aH=>wL (rW d) λts=>fy is ts aH λaH=>k .nx aH
 |.Dx i j n,σ,k=>yG σ i j n λaH=>k .nx aH
 |.Dy x d e,σ,k=>yH σ x d e λaH=>k .nx aH
 |.Dz x i,σ,k=>yI σ x i λaH=>k .nx aH
 |.DA,σ,k=>yJ σ λaH=>k .nx aH
 |.Dw i j,σ,k=>yD σ i j λaH=>k .nx aH
 |.ins i es,σ,k=>yt σ i λds=>den fs es σ λvs=>lC σ vs λc d=>(0<=c/\c<2 ^ 63/\c<=ds.length/\ds.length<2 ^ 24)/\k .nx (σ.set i (.dl (ds.take c.toNat++d::ds.drop c.toNat)))
 |.qi i,σ,k=>DF σ i λaH=>k .nx aH
 |.brk,σ,k=>k .brk σ
 |.cnt,σ,k=>k .cnt σ
 |.bad,zz,zy=>False
structure Fn where
 nm:ag
 val:af
 spec:iE
structure Mn where
 nm:ag
 val:af
 spec:eF
structure bX where
 f:List Fn
 m:List Mn
noncomputable abbrev specs (fs:bX):cX:=⟨fs.f.map Fn.spec,fs.m.map Mn.spec⟩
abbrev Keeps (h h':aq):Prop:=∀b o,h.get? b=some o->h'.get? b=some o
def kn (C:Cx) (x:ag) (g:af):Prop:=∀(env:da) (p:aB) (m:ag->Option af) (Q:af->ai->Prop) (s:ai),env.globals=iA->env.builtins=tD->env.scope.kind=.function->env.kindOf x=some .globalImplicit->(x == ("__debug__":ag))=false->Fr C.h₀ C.L s.heap m->Q g s->Wp C (b5 (.Name x p) env) Q s
def qk (C:Cx) (g:af):Prop:=∀(env:da) (pos:aB) (x:Expr) (r:List Expr) (Q:af->ai->Prop) (s:ai),(∀y∈x::r,notStar y=true)->Wp C (qW (iT pos (gf (x::r) env))) (λvs eH=>Keeps C.h₀ eH.heap/\Wp C (call g vs) Q eH) s->Wp C (Hd pos g [] (iT pos (gf (x::r) env)) []) Q s
def UX (fr:Bool) (P:Fz) (T:Led) (u:af) (d:ah):Prop:=match fr with
 |false=>Dat (P.and T) u d
 |true=>∃a n ws ys T1,u=.ref a/\d=.list ys/\T=(a,aQ ws n)::T1/\aU (P.and T1) ws ys
def yL (C:Cx) (f:List af->iS af) (sp:iE):Prop:=∀(P:Fz) (m:ag->Option af) (vs:List af) (ds:List ah) (k:ah->Prop) (s:ai) (Q:af->ai->Prop),Fr C.h₀ C.L s.heap m->(∀a o,P a o->a≠C.L/\s.heap.get? a=some o)->aU P vs ds->sp.2 ds k->
 (∀u d (T:Led) h' tk,Fr C.h₀ C.L h' m->(∀b o,b≠C.L->s.heap.get? b=some o->h'.get? b=some o)->(∀p∈T,h'.get? p.1=some p.2/\s.heap.get? p.1=none)->(T.map (·.1)).Nodup->UX sp.1 P T u d->k d->Q u {s with heap:=h',toks:=tk})->Wp C (f vs) Q s
noncomputable abbrev adr (O:Led):List ak:=O.map (·.1)
def DH (C:Cx) (f:af) (sp:eF):Prop:=∀(P:Fz) (m:ag->Option af) (x:ak×ak) (as:List bu) (O:Led) (vs:List af) (ds:List ah) (k:ah->List bu->Prop) (s:ai) (R:eZ->ai->Prop),Fr C.h₀ C.L s.heap m->(∀a o,P a o->a≠C.L/\s.heap.get? a=some o/\a∉adr O)->pZ x as P O (.ref x.1)->aI C.h₀ C.L s.heap O->(adr O).Nodup->aU P vs ds->sp x as ds k->
 (∀u d ij (O' T:Led) h' tk,Fr C.h₀ C.L h' m->(∀b o,b≠C.L->b∉adr O->s.heap.get? b=some o->h'.get? b=some o)->adr O'=adr O->(∀p∈O'++T,h'.get? p.1=some p.2)->(∀p∈T,s.heap.get? p.1=none)->(adr T).Nodup->pZ x ij (P.and T) O' (.ref x.1)->Dat (P.and T) u d->k d ij->R (.ok (.ret u)) {s with heap:=h',toks:=tk})->dc (az C.pg C.w) C.A (.call f ⟨.ref x.1::vs,[]⟩) R s
inductive yM (h₀:aq) (L:ak) (h:aq) (m:ag->Option af) (x dx:ak) (es:List eY) (n:Nat) (P:Fz) (as:List bu):Prop
 |mk:Fr h₀ L h m->h.get? x=some (gV 242 dx)->h.get? dx=some (gc es n)->cY P es bU as->yM h₀ L h m x dx es n P as
def Lk (C:Cx) (nm:ag) (f:af):Prop:=(∀(m:ag->Option af) (x dx:ak) (es:List eY) (n:Nat) (P:Fz) (as:List bu) (pl:iS Bool) (Q:af×List af->ai->Prop) (s:ai),yM C.h₀ C.L s.heap m x dx es n P as->Q (f,[.ref x]) s->Wp C (getMethod (.ref x) nm pl) Q s)/\
 ∀(env:da) (pos:aB) (r:List Expr) (first:List af) (Q:af->ai->Prop) (s:ai),Keeps C.h₀ s.heap->(∀y∈r,notStar y=true)->Wp C (qW (iT pos (gf r env))) (λvs eH=>Keeps C.h₀ eH.heap/\Wp C (call f (first++vs)) Q eH) s->Wp C (Hd pos f first (iT pos (gf r env)) []) Q s
structure Ll (C:Cx):Prop where
 get:∀{m:ag->Option af}{x dx:ak}{es:List eY}{n:Nat}{P:Fz}{as:List bu}{j:Nat}{nm:ag}{e:eY}{Q:af->ai->Prop}{s:ai},yM C.h₀ C.L s.heap m x dx es n P as->bU[j]? = some nm->es[j]? = some e->Q e.val {s with toks:=s.toks+1}->Wp C (pH (.ref x) nm true) Q s
 set:∀{m:ag->Option af}{x dx:ak}{es:List eY}{n:Nat}{P:Fz}{as:List bu}{j:Nat}{nm:ag}{v:af}{rest:Led}{Q:Unit->ai->Prop}{s:ai},yM C.h₀ C.L s.heap m x dx es n P as->aI C.h₀ C.L s.heap ((dx,gc es n)::rest)->(∀p∈rest,p.1≠dx)->bU[j]? = some nm->j<=as.length->nq v=true->
  (∀h' uK n' tk,Fr C.h₀ C.L h' m->aI C.h₀ C.L h' ((dx,gc uK n')::rest)->(∀(P':Fz) as a,cY P' es bU as->lu P' a v->cY P' uK bU (mD as j a))->Q () {s with heap:=h',toks:=tk})->Wp C (setAttr (.ref x) nm v) Q s
def DI (C:Cx) (sp:eF):Prop:=∀(P:Fz) (m:ag->Option af) (vs:List af) (ds:List ah) (k:ak×ak->List bu->Prop) (s:ai) (Q:af->ai->Prop),Fr C.h₀ C.L s.heap m->(∀a o,P a o->a≠C.L/\s.heap.get? a=some o)->aU P vs ds->(∀x,sp x [] ds λd as=>d=.none/\k x as)->
 (∀x as (O T:Led) h' tk,Fr C.h₀ C.L h' m->(∀b o,b≠C.L->s.heap.get? b=some o->h'.get? b=some o)->(∀p∈O++T,h'.get? p.1=some p.2/\s.heap.get? p.1=none)->(adr (O++T)).Nodup->pZ x as (P.and T) O (.ref x.1)->k x as->Q (.ref x.1) {s with heap:=h',toks:=tk})->Wp C (call (.ref 242) vs) Q s
inductive sa (h:aq) (D:ak) (ws:List af):Prop
 |tup:IsTup h D ws.toArray->sa h D ws
 |mt {dx:ak}:h.get? D=some (xW dx ws.toArray)->sa h D ws
 |Lm:h.IsList D ws.toArray->sa h D ws
def UY (C:Cx):Prop:=∀(env:da) (elts:List Expr) (k:Nat) (pos:aB) (y dx:ak) (ws:List af) (m:ag->Option af) (N:Led) (Q:Unit->ai->Prop) (s:ai),Fr C.h₀ C.L s.heap m->aI C.h₀ C.L s.heap N->s.heap.get? y=some (xW dx ws.toArray)->(jd elts env).length=ws.length->(jd elts env).findIdx? (·.1)=none->(∀h',Fr C.h₀ C.L h' m->aI C.h₀ C.L h' N->Wp C (wM ((jd elts env).map (·.2)) ws) Q {s with heap:=h'})->Wp C (d7 (.Tuple elts k pos) env (.ref y)) Q s
def Ln (C:Cx):Prop:=∀(P:Fz) (m:ag->Option af) (D:ak) (n:Nat) (ws:List af) (rest:Led) (bl total:List (Nat×Nat×Nat)) (Q:af->ai->Prop) (s:ai),Fr C.h₀ C.L s.heap m->aI C.h₀ C.L s.heap ((D,aQ ws n)::rest)->(∀q∈rest,q.1≠D)->(∀a o,P a o->C.h₀.get? a=some o∨(a,o)∈rest)->aU P ws (bl.map eG)->bl.Perm total->total.Pairwise (λa b=>a.1<b.1)->total.length<64->
 (∀h' tk fI n',Fr C.h₀ C.L h' m->aI C.h₀ C.L h' ((D,aQ fI n')::rest)->aU P fI (total.map eG)->Q .none {s with heap:=h',toks:=tk})->Wp C (call (.builtin "list.sort") [.ref D]) Q s
noncomputable abbrev sb:ay:=methodObj (.ref 89) (.ref 135)
structure Lo (C:Cx):Prop where
 get:∀{m:ag->Option af}{N:Led}{Q:af->ai->Prop}{s:ai},Fr C.h₀ C.L s.heap m->aI C.h₀ C.L s.heap N->(∀q h' tk,Fr C.h₀ C.L h' m->aI C.h₀ C.L h' ((q,sb)::N)->(∀p∈N,p.1<q)->Q (.ref q) {s with heap:=h',toks:=tk})->Wp C (pH (.ref 135) (ag.ofString "_make") true) Q s
 run:∀{P:Fz}{m:ag->Option af}{N:Led}{q l:ak}{n:Nat}{ws:List af}{bl:List (Nat×Nat×Nat)}{Q:af->ai->Prop}{s:ai},Fr C.h₀ C.L s.heap m->aI C.h₀ C.L s.heap N->(q,sb)∈N->(∀a o,P a o->s.heap.get? a=some o)->s.heap.get? l=some (aQ ws n)->aU P ws (bl.map p8)->bl.length<2 ^ 24->
  (∀D h' tk fI n' (T:Led),Fr C.h₀ C.L h' m->(∀b o,s.heap.get? b=some o->h'.get? b=some o)->h'.get? D=some (aQ fI n')->s.heap.get? D=none->(∀q∈T,h'.get? q.1=some q.2/\s.heap.get? q.1=none/\q.1≠D)->(adr T).Nodup->aU (λa o=>(a,o)∈T) fI (bl.map eG)->Q (.ref D) {s with heap:=h',toks:=tk})->
  Wp C (call (.type "map") [.ref q,.ref l]) (λmv gz=>Keeps C.h₀ gz.heap/\Wp C (call (.type "list") [mv]) Q gz) s
structure yN (C:Cx):Prop where
 nl:C.h₀.NoLimit
 mu:UY C
 so:Ln C
 mm:Lo C
 gm:kn C (ag.ofString "Match") (.ref 135)
structure yO (C:Cx) (fs:bX):Prop where
 fn:∀(i:Nat) f,fs.f[i]? = some f->yL C (λvs=>call f.val vs) f.spec/\kn C f.nm f.val/\qk C f.val
 gl:∀x∈uF,∀v,Rv x=some v->kn C x v
 mt:∀(i:Nat) f,fs.m[i]? = some f->DH C f.val f.spec/\Lk C f.nm f.val/\(f.nm=ag.ofString "__init__"->DI C f.spec/\kn C (ag.ofString "SequenceMatcher") (.ref 242)/\qk C (.ref 242))
 dO:Ll C
 df:yN C
theorem dF {e:Expr}(h:notStar e=true):gf (e::r) env=(false,b5 e env)::gf r env:=by
 cases e <;> first | rfl | exact El.ft h
theorem mG {pos:aB}:∀{r:List Expr},(∀y∈r,notStar y=true)->((iT pos (gf r env)).any (·.1))=false:=@λA B=>match A,B with
 |[],zz=>rfl
 |y::r,U=>by
  refine ae (dF (U y (.head _)) ..) <| mG (r:=r) λz hz=>U z (.tail _ hz)
section
variable {C:Cx}{σ:List Tr}{τ:List bg}{K:Fs}{v w va vb:af}{e ea eb:Ev}{d:ah}{h:aq}{Q:af->ai->Prop}{s:ai}{k:Ev->Prop}{m:ag->Option af}{N ZL:Led}
theorem Dat.atom {P P':Fz}(h:Dat P u d) (U:KR d=true):Dat P' u d:=by
 cases h with
 |none=>exact .none
 |bool b=>exact .bool b
 |int n t=>exact .int n t
 |str n t=>exact .str n t
 |list _ _ _=>exact El.ft U
 |tup _ _ _=>exact El.ft U
 |mt _=>exact El.ft U
theorem Sp.over {K:Led}(S:Sp C σ (a::τ₁++τ) m N K ZL):Sp C σ (τ₁++a::τ) m N K ZL:=by
 cases S with
 |@mk Os Ot vs nd pm rs ln mp V hx=>
  refine aO V λA zz U x y=>?_;clear V;subst U;refine aO y.split ?_;clear y;intro B D U y z;subst U;exact .mk nd (pm.trans (.append_right _ (cE _ _ _))) rs ln mp (cv.join (τ':=a::τ) (bQ A D rfl x z) y) hx
theorem Sp.under {K:Led}(S:Sp C σ (τ₁++a::τ) m N K ZL):Sp C σ (a::τ₁++τ) m N K ZL:=by
 cases S with
 |@mk Os Ot vs nd pm rs ln mp W hx=>
  obtain ⟨A,zz,U,x,B,D,V,y,z⟩:=W.split;clear W;subst U;subst V;exact .mk nd (pm.trans (.append_right _ (cE _ _ _))) rs ln mp (bQ B _ rfl y (cv.join z x)) hx
theorem Sp.mH {K:Led}(V:C.Ok):∀{vs:List af}{es:List Ev}{ds:List ah}{ZL:Led},vs.length=es.length->Sp C σ (vs.zip es++τ) m N K ZL->n8 σ es=some ds->∃bF,(∀q∈ZL,q∈bF)/\Sp C σ τ m N K bF/\aU (C.P.and N) vs ds/\(n7 es=true->aU (C.P.and bF) vs ds):=@λA B D F G H J=>match A,B,D,F,G,H,J with
 |[],[],ds,ZL,zz,S,h=>by cases h;exact jH ZL (λzz h=>h) S rfl (λzz=>rfl)
 |v::vs,e::es,ds,ZL,l,S,h=>by
  refine aO (C5 h) λd uK e1 e2 U=>?_;clear h;subst U;cases S.pop V with
  |mk z1 S1 f g=>
   refine gk (Sp.mH V (jC l) S1 e2) λbF W S2 r1 r2=>jH bF (λq hq=>W q (z1 q hq)) S2 ⟨g d e1,r1⟩ (λho=>?_);cases e with
   |bo i p=>exact El.ft ho
   |ow t=>exact ⟨(f t rfl d e1).mono (and_mono W),r2 ho⟩
 |[],zz::zy,zx,zw,l,zv,zu=>El.zs l
 |zz::zy,[],zx,zw,l,zv,zu=>sz l
theorem Sp.grow {T K:Led}(S:Sp C σ τ m N K ZL) (W:(T.map (·.1)).Nodup) (hd:∀p∈T,∀q∈N,p.1≠q.1):Sp C σ τ m (T++N) K (T++ZL):=by
 cases S with
 |@mk Os Ot vs nd pm rs ln mp tm hx=>
  refine .more (T:=[]) ?_ ((pm.append_left T).trans ?_) rs ln mp (tm.mono (λzz h=>bj _ h) λzz h=>bj _ h) hx λzz h=>bj _ h
  ·refine ae (bH ..) <| ed.mpr (aL W nd (λa V b hb e=>?_));refine ar (bf.mp V) λp hp U=>?_;clear V;subst U;refine ar (bf.mp hb) λq hq U=>?_;clear hb;subst U;exact hd p hp q hq e
  ·exact (cE _ _ _).trans (.append_left _ ((cE _ _ _).trans (.append_left _ (cE _ _ _))))
theorem uL (F:Fr h₀ L h m) (e:h.get? a=none):a≠L/\h₀.get? a=none:=by
 refine ⟨λq=>?_,?_⟩
 ·refine ma F.ns λV W a2 U a3=>?_;rw [q,U] at e;exact El.sn e
 ·cases q:h₀.get? a with
  |none=>rfl
  |some o=>rw [F.keep _ _ q] at e;exact El.sn e
theorem At.Lp {φ:Fs}(V:C.Ok) {m:ag->Option af}{N:Led}(F:Fr C.h₀ C.L U m) (W:aI C.h₀ C.L U N):∀a o,C.P.and N a o->a≠C.L/\U.get? a=some o:=λa o p=>p.elim (λp=>⟨λe=>by
  have:=V.sub _ _ p;rw [e,aq.get?_none_of_le F.above] at this;exact (El.ns this),F.keep _ _ (V.sub _ _ p)⟩) λp=>⟨(W _ p).2.1,(W _ p).1⟩
theorem UZ (hC:C.Ok) (hG:yO C fs) (hf:fs.f[i]? = some f) (hl:vs.length=es.length) (h:Dn (specs fs) σ i es k) (a:At C σ (vs.zip es++τ) K s.heap) (hQ:Nx C σ τ K s Q k):Wp C (call f.val vs) Q s:=by
 have Lq:=(hG.fn i f hf).1;unfold Dn at h;rw [show (specs fs).f[i]? = some f.spec by rw [fQ,hf];rfl] at h
 dsimp only at h;cases e1:n8 σ es with
 |none=>rw [e1] at h;exact h.elim
 |some ds=>
  rw [e1] at h;dsimp only at h;cases a with
  |@mk N0 _ F N S=>
   refine gk (S.mH hC hl e1) λbF zz S' r1 r2=>?_;have hN:=At.Lp (φ:=K) hC F N;have news:∀{h':aq}{T:Led},(∀b o,b≠C.L->s.heap.get? b=some o->h'.get? b=some o)->(∀p∈T,h'.get? p.1=some p.2/\s.heap.get? p.1=none)->aI C.h₀ C.L h' (T++N0):=λkp V p U=>(bT.mp U).elim (λU=>⟨(V p U).1,uL F (V p U).2⟩) λU=>⟨kp _ _ (N p U).2.1 (N p U).1,(N p U).2⟩;have off:∀{h':aq}{T:Led},(∀p∈T,h'.get? p.1=some p.2/\s.heap.get? p.1=none)->∀p∈T,∀q∈N0,p.1≠q.1:=λV p U q hq e=>by have:=(V p U).2;rw [e,(N q hq).1] at this;exact El.sn this
   cases e2:n7 es with
   |true=>
    rw [e2] at h;refine Lq (C.P.and bF) K.1 vs ds _ s Q F (λa o q=>hN a o (q.imp_right (S'.sub _))) (r2 e2) h λu d T h' tk F' kp V nd hd hk=>hQ _ _ _ _ ?_ hk;cases W:f.spec.1 with
    |false=>
     rw [W] at hd;exact .mk F' (news kp V) ((S'.grow nd (off V)).dR ((show Dat _ u d from hd).mono λa o q=>q.elim (λq=>q.imp_right λq=>bj _ q) λq=>.inr (bE _ q)))
    |true=>
     rw [W] at hd;refine CN hd ?_;clear hd;intro a n ws ys T1 bx cu jl hd;subst bx;clear hk;subst cu;subst jl;have n1:=bR.mp nd;exact .mk F' (news kp V)
      ((S'.grow n1.2 λp U=>off V p (.tail _ U)).rY (λp U=>(bT.mp U).elim (λU e=>n1.1 (e▸bf.mpr (av p U rfl))) λU e=>off V _ (.head _) p U e.symm) (.jo (hd.mono λa o q=>q.elim (λq=>q.imp_right λq=>bj _ q) λq=>.inr (bE _ q))))
   |false=>
    rw [e2] at h;refine Lq _ K.1 vs ds _ s Q F hN r1 h λu d T h' tk F' kp V nd hd hk=>hQ _ _ _ _ (.mk F' (news kp V) ((S'.grow nd (off V)).dR ?_)) hk.2;have ha:=hk.1;cases W:f.spec.1 with
    |true=>
     rw [W] at hd;refine CN hd ?_;clear hd;intro a n ws ys T1 bx cu jl hd;subst bx;clear hk;subst cu;clear V nd;subst jl;exact El.ft ha
    |false=>
     rw [W] at hd;exact (show Dat _ u d from hd).atom ha
theorem Lr (hl:vs.length=es.length) (a:At C σ (vs.zip es++τ) K h) (g:one f es):∃v e,vs=[v]/\At C σ ((v,e)::τ) K h/\f e:=by
 cases es with
 |nil=>exact g.elim
 |cons e r=>cases r with
  |cons=>exact g.elim
  |nil=>cases vs with
   |nil=>exact nomatch hl
   |cons v r=>cases r with
    |nil=>exact bQ v e rfl a g
    |cons=>exact sz (jC hl)
theorem Ls {vs:List af}{es:List Ev}(hl:vs.length=es.length) (a:At C σ (vs.zip es++τ) K h) {f:Int->Int->Prop}(g:two (λa b=>bp a λx=>bp b λy=>f x y) es):∃x t y u,vs=[.int x t,.int y u]/\At C σ τ K h/\f x y:=by
 cases es with
 |nil=>exact g.elim
 |cons e r=>cases vs with
  |nil=>exact El.zs hl
  |cons v vs=>
   have V:At C σ (vs.zip r++(v,e)::τ) K h:=by cases a with | mk F N S=>exact .mk F N S.over
   refine aO (Lr (jC hl) V g) ?_;clear g;intro w e2 U W g;clear hl a V;subst U;refine ar (qc g) ?_;clear g;intro x U g;subst U;refine aO (W.eQ g) ?_;clear g;intro y u U g a3;subst U;refine aO (a3.eQ (f:=λz=>z=x) rfl) λz t U e3 a4=>?_;subst U;exact nU z t y u rfl a4 (e3▸g)
theorem U0 (V:C.Ok) (hl:vs.length=es.length) (h:KU σ b es k) (a:At C σ (vs.zip es++τ) K s.heap) (hQ:Nx C σ τ K s Q k):Wp C (call (.builtin (K6 b)) vs) Q s:=by
 cases b with
 |len=>
  refine aO (Lr hl a h) λv e U W g=>?_;clear hl a;subst U;refine ar (fW g) λd e1 g=>?_;cases W with
  |mk F N S=>cases S.pop V with
   |mk _ S' _ r=>
    have r:=r d e1;have a2:At C σ τ K s.heap:=.mk F N S';clear e1;cases d with
    |list ds=>
     refine dM r.listI λl ws n U p q=>?_;subst U;refine len_list (kj (At.bU V F N) p) (by refine ae (ee ..) (ae (q.len ..) ?_);exact AP (pD.mpr g.1) (by decide)) ?_
     refine ae (ee ..) (ae (q.len ..) ?_);exact hQ _ _ _ _ a2.int g.2.out
    |tuple ds=>
     refine aO r.tupI λl ws U p q=>?_;subst U;refine len_tuple (md _ (At.bU V F N _ _ p) rfl 0 rfl) (by refine ae (ee ..) (ae (q.len ..) ?_);exact AP (pD.mpr g.1) (by decide)) ?_
     refine ae (ee ..) (ae (q.len ..) ?_);exact hQ _ _ _ _ a2.int g.2.out
    |_=>exact g.elim
 |max=>
  refine iZ (Ls hl a h) λx t y u U W g=>?_;clear a;subst U;cases W with
  |mk F N S=>
   refine max_two_N V.hh F N λh' tk F' N'=>?_;rw [show (if y > x then y else x)=max x y from by rw [Int.max_def];split <;> split <;> omega]
   exact hQ _ _ _ _ (At.mk F' N' S).int g
 |min=>
  refine iZ (Ls hl a h) λx t y u U W g=>?_;clear a;subst U;cases W with
  |mk F N S=>
   refine min_two_N V.hh F N λh' tk F' N'=>?_;rw [show (if y<x then y else x)=min x y from by rw [Int.min_def];split <;> split <;> omega]
   exact hQ _ _ _ _ (At.mk F' N' S).int g
end
theorem Lu:∀{a b:Led},(a.map (·.1)).Nodup->(∀p∈a,p∈b)->∃c,b.Perm (a++c):=@λA B C D=>match A,B,C,D with
 |[],b,zz,zy=>⟨b,.refl _⟩
 |p::a,b,hn,hs=>by
  refine uu (ad8 (hs p (.head _))) λs t U=>?_;subst U;refine El.aa (bR.mp hn) λW h2=>El.ea (Lu (b:=s++t) h2 λq V=>by
   have:=hs q (.tail _ V);rcases bT.mp this with h | h
   ·exact bE _ h
   ·clear hn hs this;rcases aT.mp h with rfl | h
    ·exact (W (bf.mpr (av _ V rfl))).elim
    ·exact bj _ h) λc hc=>?_
  exact ⟨c,nh.trans (hc.cons _)⟩
theorem DJ:∀{l:Led},(∀p∈l,@Ne Nat p.1 I/\@Ne Nat p.1 A/\@Ne Nat p.1 D)->LCg.Off3 I A D l:=@λB C=>match B,C with
 |[],zz=>trivial
 |p::r,h=>⟨h p (.head _),DJ λq U=>h q (.tail _ U)⟩
section
variable {C:Cx}{σ:List Tr}{τ:List bg}{K:Led}{v w:af}{d:ah}{s:ai}{Q:af->ai->Prop}{m:ag->Option af}{N ZL:Led}
end
def fJ (K:Led) (c:ak) (u:Option af):Prop:=∃o,(c,o)∈K/\o.data=.cell u
structure DK (C:Cx):Prop where
 rd:∀{i:Nat}{x:ag}{m:ag->Option af}{K:Led}{v:af},C.xs[i]? = some x->C.env.kindOf x=some .cell->C.rd m K i v->∃c,C.env.cells.lookup x=some c/\fJ K c (some v)
 is:∀{x:ag},C.env.kindOf x=some .cell->(C.env.cells.lookup x).isSome=true
theorem Lv {α:Type}{x:ag}{c:α}:∀{U:List (ag×α)},U.lookup x=some c->(x,c)∈U:=@λA=>match A with
 |[]=>λh=>El.ns h
 |(y,d)::U=>λh=>by
  rw [AQ] at h;cases hb:x == y with
  |true=>rw [hb] at h;cases h;cases eq_of_beq hb;exact .head _
  |false=>rw [hb] at h;exact .tail _ (Lv h)
structure Al (C:Cx) (fs:bX):Prop where
 ok:C.Ok
 g:yO C fs
 e1:C.env.globals=iA
 e2:C.env.builtins=tD
 e3:C.env.scope.kind=.function
 ck:DK C
def aX (C:Cx) (fs:bX) (ir:SE) (x:Expr):Prop:=∀(σ:List Tr) (k:List Ev->Prop),den (specs fs) ir σ k->∀(τ:List bg) (K:Fs) (Q:af->ai->Prop) (s:ai),At C σ τ K s.heap->Nx C σ τ K s Q (λe=>k [e])->Wp C (b5 x C.env) Q s
def fX (C:Cx) (fs:bX) (ir:SE) (x:Expr):Prop:=∀(σ:List Tr) (k:List Ev->Prop),den (specs fs) ir σ k->∀(τ:List bg) (K:Fs) (Q:Bool->ai->Prop) (s:ai),At C σ τ K s.heap->(∀b h' tk,At C σ τ K h'->k [aR (.bool b)]->Q b {s with heap:=h',toks:=tk})->Wp C (AM x C.env (b5 x C.env)) Q s
def fK (C:Cx) (fs:bX) (ir:SE) (xs:List Expr):Prop:=∀(σ:List Tr) (k:List Ev->Prop),den (specs fs) ir σ k->∀(pos:aB) (τ:List bg) (K:Fs) (Q:List af->ai->Prop) (s:ai),At C σ τ K s.heap->(∀vs es h' tk,vs.length=es.length->At C σ (vs.zip es++τ) K h'->k es->Q vs {s with heap:=h',toks:=tk})->Wp C (qW (iT pos (gf xs C.env))) Q s
section
variable {C:Cx}{fs:bX}{σ:List Tr}{τ:List bg}{K:Led}{m:ag->Option af}{N ZL:Led}{s:ai}{Q:af->ai->Prop}{x:ag}{s2:cj}{el:Expr}{elt cond:SE}{k:Ev->Prop}
abbrev ae6 (fs:bX) (x:ag) (s2:cj) (P:Cx->Prop):Prop:=∀C':Cx,Al C' fs->C'.env.scope=s2->C'.xs=[x]->P C'
end
section
variable {C:Cx}{fs:bX}{σ:List Tr}{x y a b c t:Expr}{p:aB}{ia ib ic it:SE}{xs:List Expr}
theorem U1:aX C fs .bad x:=λzz zz h=>(show False from h).elim
theorem U2:fX C fs .bad x:=λzz zz h=>(show False from h).elim
theorem Lw (V:Al C fs) {x:ag}(hx:C.xs[i]? = some x):aX C fs (.var i) (.Name x p):=by
 intro σ k h τ K Q s a U;have h:(match σ[i]? with | none=>False | some t=>match t with | .un=>False | .fr _=>False | .dat d=>k [aR d] | _=>k [.bo i []]):=h
 cases e:σ[i]? with
 |none=>rw [e] at h;exact h.elim
 |some t=>
  rw [e] at h;cases a with
  |mk F N S=>
   have go:t≠.un->(∀{v},C.rd K.1 K.2 i v->(∀d,t=.dat d->Dat (C.P.and _) v d)->Q v s)->Wp C (b5 (.Name x p) C.env) Q s:=λhu g=>(S.slot e hu).elim λv r=>V.ok.ld p hx F N S.eP r.1 (g r.1 r.2);have bo:∀{v},C.rd K.1 K.2 i v->k [.bo i []]->Q v s:=λr h=>U _ _ _ _ (.mk F N (S.yw (p:=[]) r (show eE _ _ [] _ from rfl))) h;cases t with
   |un=>exact h.elim
   |fr _=>exact h.elim
   |dat d=>exact go (λe=>nomatch e) λr hd=>U _ _ _ _ (.mk F N (S.dR (hd d rfl))) h
   |_=>exact go (λe=>nomatch e) λr zz=>bo r h
theorem U3 {c:Lc}{q:Const}(h:K5 q=some c):aX C fs (.lit c) (.Constant q n p):=by
 intro σ k g τ K Q s a U;cases q with
 |int n=>cases h;exact ad9 (U _ _ _ _ a.int g)
 |str n=>cases h;exact Constant_str (U _ _ _ _ (a.val λzz=>.str _ _) g)
 |bool n=>cases h;exact wpAny_Constant_bool (U _ _ _ _ a.bool g)
 |none=>cases h;exact wpAny_Constant_none (U _ _ _ _ (a.val λzz=>.none) g)
 |_=>exact El.ns h
theorem DL:fK C fs .nil []:=λσ k h pos τ K Q s a U=>j5 (U [] [] _ _ rfl a h)
theorem DM (V:notStar y=true) (W:aX C fs ia y) (hr:fK C fs ib xs):fK C fs (.cons ia ib) (y::xs):=λσ k h pos τ K Q s U hQ=>je (W σ _ h τ K _ s U λv e V t1 a1 g1=>hr σ _ g1 pos _ K _ _ a1 λvs es h2 t2 l2 a2 g2=>hQ (v::vs) (e::es) _ _ (congrArg l5 l2) (by cases a2 with | mk F N S=>exact .mk F N S.under) g2) (dF V)
theorem U4 (h:fK C fs ia xs):aX C fs (.tup ia) (.Tuple xs k p):=λσ k g τ K Q s a U=>Tuple_ (h σ _ g p τ K _ s a λvs es h1 t1 V W g1=>UT V g1.1 g1.2 W λv e h2 t2 a2 g2=>U v e h2 t2 a2 g2)
theorem Lx (h:fK C fs ia xs):aX C fs (.lst ia) (.List xs p):=λσ k g τ K Q s a U=>List_ (h σ _ g p τ K _ s a λvs es h1 t1 V W g1=>US V g1.1 g1.2 W λv e h2 t2 a2 g2=>U v e h2 t2 a2 g2)
theorem U5 (V:C.Ok) (W:aX C fs ia a) (hb:aX C fs ib b):aX C fs (.bin o ia ib) (.BinOp a o b p):=λσ k h τ K Q s U hQ=>wpAny_BinOp (W σ _ h τ K _ s U λva ea h1 t1 a1 g1=>hb σ _ g1 _ K _ _ a1 λvb eb h2 t2 a2 g2=>UL V g2 a2 λv e h3 t3 a3 g3=>hQ v e h3 t3 a3 g3)
theorem U6 (ha:aX C fs ia a):aX C fs (.neg ia) (.UnaryOp .USub a p):=λσ k h τ K Q s U hQ=>UnaryOp_ (ha σ _ h τ K _ s U λva ea h1 t1 W g1=>by
 refine aO (W.eQ (show bp ea _ from g1)) λn t V g a2=>?_;clear W;subst V;exact neg_int (hQ _ _ _ _ a2.int g))
theorem Ly (W:C.Ok) (ha:aX C fs ia a) (hb:aX C fs ib b) (h:den (specs fs) (.cmp o ia ib) σ k) {K:Fs}(at':At C σ τ K s.heap) (hQ:∀c h' tk,At C σ τ K h'->k [aR (.bool c)]->Q (.bool c) {s with heap:=h',toks:=tk}) :
  Wp C (b5 a C.env) (λva U=>Wp C (b5 b C.env) (λvb V=>Wp C (compareOp o va vb) Q V) U) s:=
 ha σ _ h τ K _ s at' λva ea h1 t1 a1 g1=>hb σ _ g1 _ K _ _ a1 λvb eb h2 t2 a2 g2=>Ds W g2 a2 λc g3=>hQ _ _ _ ((a2.pop W).pop W) g3
theorem U7 (V:C.Ok) (W:(!He o b)=true) (ha:aX C fs ia a) (hb:aX C fs ib b):aX C fs (.cmp o ia ib) (.Compare a [o] [b] p):=λσ k h τ K Q s U hQ=>wpAny_Compare1 (Ly V ha hb h U λc h1 t1 a1 g1=>hQ _ _ _ _ a1.bool g1) (oq W)
theorem U8 (V:C.Ok) (W:(!He o b)=true) (ha:aX C fs ia a) (hb:aX C fs ib b):fX C fs (.cmp o ia ib) (.Compare a [o] [b] p):=λσ k h τ K Q s U hQ=>wpAny_isTrue_Compare1 (Ly V ha hb h U λc h1 t1 a1 g1=>wK (hQ _ _ _ a1 g1)) (oq W)
theorem U9 (U:C.Ok) (hm:(!lastMarks [o,r] [b,c])=true) (ha:aX C fs ia a) (hb:aX C fs ib b) (hc:aX C fs ic c):aX C fs (.pY o r ia ib ic) (.Compare a [o,r] [b,c] p):=by
 refine λσ k h τ K Q s V hQ=>Compare_chain (ha σ _ h τ K _ s V λva ea h1 t1 a1 g1=>chain_link (hb σ _ g1 _ K _ _ a1 λvb eb h2 t2 W g2=>Ds U g2 W λt g3=>wK ?_)) (oq hm);cases t with
 |true=>exact chain_last (hc σ _ g3 _ K _ _ W λvc ec h4 t4 a4 g4=>Ds U g4 a4 λu g5=>hQ _ _ _ _ (((a4.pop U).pop U).pop U).bool g5)
 |false=>exact hQ _ _ _ _ ((W.pop U).pop U).bool g3
theorem Lz {c:Bool}{P R:Prop}{α:Type}{a b:iS α}{Q:α->ai->Prop}(h:bw c P R) (U:P->Wp C a Q s) (V:R->Wp C b Q s):if c then Wp C a Q s else Wp C b Q s:=by
 cases c with
 |true=>exact U h
 |false=>exact V h
theorem LA {c:Bool}{P R U V:Prop}(h:bw c P R) (W:P->U) (h2:R->V):if c then U else V:=by
 cases c with
 |true=>exact W h
 |false=>exact h2 h
theorem Va (ht:fX C fs it t) (ha:aX C fs ia a) (hb:aX C fs ib b):aX C fs (.ite it ia ib) (.IfExp t a b p):=λσ k h τ K Q s U hQ=>IfExp_ (ht σ _ h τ K _ s U λc h1 t1 a1 g1=>Lz g1 (λg=>ha σ _ g τ K _ _ a1 λv e V t2 W g2=>hQ v e V t2 W g2) λg=>hb σ _ g τ K _ _ a1 λv e V t2 W g2=>hQ v e V t2 W g2)
theorem Vb (V:C.Ok) (hn:mw b=true) (W:aX C fs ia a) (hb:aX C fs ib b):aX C fs (.sub ia ib) (.Subscript a b p):=λσ k h τ K Q s U hQ=>Subscript_ (W σ _ h τ K _ s U λva ea h1 t1 a1 g1=>hb σ _ g1 _ K _ _ a1 λvb eb h2 t2 a2 g2=>UO V hn (show lz σ ea eb (λe=>k [e]) from g2) a2 λv e h3 t3 a3 g3=>hQ v e h3 t3 a3 g3)
def uM (C:Cx) (fs:bX) (ir:SE) (l:Option Expr):Prop:=∀(σ:List Tr) (g:Option Int->Prop),den (specs fs) ir σ (λvl=>Dm vl g)->∀(τ:List bg) (K:Fs) (Q:af->ai->Prop) (s:ai),At C σ τ K s.heap->(∀v o h' tk,IsPart v o->At C σ τ K h'->g o->Q v {s with heap:=h',toks:=tk})->Wp C (evalPart l C.env) Q s
theorem Vc:uM C fs .nil none:=λσ g h τ K Q s a U=>aea (U _ _ _ _ .none a h)
theorem Vd (ha:aX C fs ia a):uM C fs ia (some a):=λσ g h τ K Q s U hQ=>evalPart_some_step (ha σ _ h τ K Q s U λv e h' tk W g'=>by
 refine aO (W.eQ (show bp e λn=>g (some n) from g')) λn t V g2 a2=>?_;clear W;subst V;exact hQ _ _ _ _ (.int _ _) a2 g2)
theorem Ve (V:C.Ok) (W:aX C fs ia a) (hl:uM C fs ib l) (hu:uM C fs ic u):aX C fs (.slc ia ib ic) (.Subscript a (.Slice l u none p2) p):=by
 refine λσ k h τ K Q s U hQ=>Subscript_ (W σ _ h τ K _ s U λva ea h1 t1 a1 g1=>wpAny_Slice ?_);refine hl σ _ g1 _ K _ _ a1 λvl ol h2 t2 pl a2 g2=>hu σ _ g2 _ K _ _ a2 λvh oh h3 t3 ph a3 g3=>aea <| UQ (s:={s with heap:=h3,toks:=t3}) V pl ph g3 a3 λv e h4 t4 a4 g4=>hQ v e h4 t4 a4 g4
theorem At.keeps {K:Fs}(a:At C σ τ K h):Keeps C.h₀ h:=by
 cases a with | mk F N S=>exact F.keep
theorem DN (U:Al C fs) (hg:kn C f g) (V:qk C g) (hb:dZ C.env.scope f=true) {k:Ev->Prop}(st:∀y∈x::xs,notStar y=true) (hx:fK C fs ia (x::xs)) (h:den (specs fs) ia σ D) {K:Fs}(W:At C σ τ K s.heap)
  (hQ:∀vs es h' tk,vs.length=es.length->At C σ (vs.zip es++τ) K h'->D es->Wp C (call g vs) Q {s with heap:=h',toks:=tk}):Wp C (b5 (.Call (.Name f fp) (x::xs) [] p) C.env) Q s:=by
 cases W with
 |mk F N S=>
  refine El.aa (qe hb) λh1 h2=>qX (hg C.env fp _ _ s U.e1 U.e2 U.e3 h1 h2 F (V C.env p x xs _ s st (hx σ _ h p τ K _ s (.mk F N S) λvs es h1 t1 l1 a1 g1=>⟨a1.keeps,hQ vs es h1 t1 l1 a1 g1⟩)))
theorem LB {id:String}:qk C (.builtin id):=λenv pos x r Q s U h=>
 callWith_builtin1 (cK h (λzz zz x=>x.2) λzz zz x=>x) (dF (U _ (.head _))) (mG λy V=>U y (.tail _ V))
theorem yP:qk C (.type T):=λenv pos x r Q s U h=>PyProof.Rows.callWith_type1 (cK h (λzz zz x=>x.2) λzz zz e=>e) (dF (U x (.head _))) (mG λy V=>U y (.tail _ V))
theorem Vf (U:Al C fs) (b:Bi):kn C (mz b) (.builtin (K6 b)):=by
 cases b with
 |len=>exact U.g.gl _ (.head _) _ rfl
 |max=>exact U.g.gl _ (.tail _ (.head _)) _ rfl
 |min=>exact U.g.gl _ (.tail _ (.tail _ (.head _))) _ rfl
theorem Vg (U:Al C fs) {b:Bi}(e:f=mz b) (hb:dZ C.env.scope f=true) (st:∀y∈x::xs,notStar y=true) (hx:fK C fs ia (x::xs)):aX C fs (.bi b ia) (.Call (.Name f fp) (x::xs) [] p):=by
 subst e;exact λσ k h τ K Q s V W=>DN (k:=λzz=>True) U (Vf U b) LB hb st hx h V λvs es h1 t1 l1 a1 g1=>U0 U.ok l1 g1 a1 λv e h2 t2 a2 g2=>W v e h2 t2 a2 g2
theorem Vh (V:Al C fs) (U:fs.f[i]? = some f/\f.nm=z) (hb:dZ C.env.scope z=true) (st:∀y∈x::xs,notStar y=true) (hx:fK C fs ia (x::xs)):aX C fs (.fn i ia) (.Call (.Name z fp) (x::xs) [] p):=by
 refine El.aa U ?_;clear U;intro U W;subst W;exact λσ k h τ K Q s at' hQ=>DN (k:=λzz=>True) V (V.g.fn i f U).2.1 (V.g.fn i f U).2.2 hb st hx h at' λvs es h1 t1 l1 a1 g1=>UZ (s:={s with heap:=h1,toks:=t1}) (Q:=Q) V.ok V.g U l1 g1 a1 λv e h2 t2 a2 g2=>hQ v e h2 t2 a2 g2
theorem yQ {iter:Expr}(h:lE iter=true):∀x,wN iter env x=pure x:=λx=>by
 cases iter <;> first | rfl | exact El.ft h
section
variable {src elt cond:SE}{el iter ct:Expr}{x:ag}{px pos:aB}{s2:cj}
theorem Vi {K:Fs}{τ:List bg}{D:ak}{h:aq}{tk:Nat}{N' bF:Led}{ys:List af}{yd:List ah}{s:ai}{Q:af->ai->Prop}{k:List Ev->Prop}(U:∀v e h' tk,At C σ ((v,e)::τ) K h'->k [e]->Q v {s with heap:=h',toks:=tk}) (F:Fr C.h₀ C.L h K.1) (N:aI C.h₀ C.L h ((D,aQ ys ys.length)::N')) (ne:∀p∈N',@Ne Nat p.1 D) (S:Sp C σ τ K.1 N' K.2 bF) (hd:aU (C.P.and bF) ys yd) (hk:k [.ow (.dl yd)]):Q (.ref D) {s with heap:=h,toks:=tk}:=U _ _ _ _ (.mk F N (S.rY ne (.jo hd))) hk
inductive SrcL (C:Cx) (σ:List Tr) (τ:List bg) (K:Fs) (h:aq) (ds:List ah):af->Prop
 |mk {N ZL:Led}{a:ak}{ws:List af}:Fr C.h₀ C.L h K.1->aI C.h₀ C.L h N->Sp C σ τ K.1 N K.2 ZL->aU (C.P.and ZL) ws ds->LCg.SrcAt C.h₀ a ws.toArray N->SrcL C σ τ K h ds (.ref a)
theorem DO (U:C.Ok) {K:Fs}(a:At C σ ((v,e)::τ) K h) (e1:p9 σ e=some ds):SrcL C σ τ K h ds v:=by
 cases a with
 |mk F N S=>cases S.og U e1 with
  |mk z V p d=>exact .mk F N V d (p.1.imp (λq=>(dq _ (U.sub _ _ q) p.2.c p.2.d)) λq=>(dq _ q p.2.c p.2.d))
end
theorem yR (V:C.Ok) (W:∀env:da,AM x env (b5 x env)=(do let v <-b5 x env;qY x.pos;Hf [v] (truthy v))) (hx:aX C fs ia x):fX C fs (.tv ia) x:=λσ k h τ K Q s U hQ=>isTrue_plain (hx σ _ h τ K _ s U λva ea h1 t1 a1 g1=>UU V g1 a1 λb h2 t2 a2 g2=>hQ b h2 t2 a2 g2) (W _)
theorem Vj (V:fX C fs ia a):fX C fs (.nt ia) (.UnaryOp .Not a p):=λσ k h τ K Q s U W=>isTrue_not (V σ _ h τ K _ s U λb h1 t1 a1 g1=>W _ h1 t1 a1 g1)
theorem Vk (ha:fX C fs ia a):fX C fs ia (.BoolOp .And [a] p):=λσ k h τ K Q s U V=>isTrue_and (ha σ _ h τ K _ s U λc h1 t1 W g1=>by
 cases c with
 |true=>exact isTrue_and_nil (V _ _ _ W g1)
 |false=>exact V _ _ _ W g1)
theorem Vl (ha:fX C fs ia a) (hb:fX C fs ib (.BoolOp .And xs p)):fX C fs (.an ia ib) (.BoolOp .And (a::xs) p):=λσ k h τ K Q s U V=>isTrue_and (ha σ _ h τ K _ s U λc h1 t1 W g1=>LA g1 (λg=>hb σ _ g τ K _ _ W λu h2 t2 a2 g2=>V _ _ _ a2 g2) λg=>V _ _ _ W g)
theorem Vm (ha:fX C fs ia a):fX C fs ia (.BoolOp .Or [a] p):=λσ k h τ K Q s U V=>isTrue_or (ha σ _ h τ K _ s U λc h1 t1 W g1=>by
 cases c with
 |true=>exact V _ _ _ W g1
 |false=>exact isTrue_or_nil (V _ _ _ W g1))
theorem Vn (ha:fX C fs ia a) (hb:fX C fs ib (.BoolOp .Or xs p)):fX C fs (.orr ia ib) (.BoolOp .Or (a::xs) p):=λσ k h τ K Q s U V=>isTrue_or (ha σ _ h τ K _ s U λc h1 t1 W g1=>LA g1 (λg=>V _ _ _ W g) λg=>hb σ _ g τ K _ _ W λu h2 t2 a2 g2=>V _ _ _ a2 g2)
end
abbrev qm (o:Expr):Prop:=∀(name:ag) (env:da) (m:iS af),attributeBase o name env m=m
theorem LC {pos:aB}:∀{r:List Expr},(∀y∈r,notStar y=true)->((iT pos (gf r env)).all (!·.1))=true:=@λA B=>match A,B with
 |[],zz=>rfl
 |y::r,U=>by
  refine ae (dF (U y (.head _)) ..) <| LC (r:=r) λz hz=>U z (.tail _ hz)
theorem kr {E:af->ai->Prop}{V pos:aB}(hb:∀y∈U,notStar y=true) (hl:U.length<30) (hr:qm o) (he:(V.endLine == pos.line)=true)
  (h:aA M A (b5 o env) (λW eH=>aA M A (getMethod W name (do return (<-importBound o env).getD true)) (λfx gz=>aA M A (Hd pos fx.1 fx.2 (iT pos (gf U env)) []) Q E gz) E eH) E s) :
  aA M A (b5 (.Call (.Attribute o name V) U [] pos) env) Q E s:=by
 have h1:methodCallForm U.length (iT pos (gf U env)) []=true:=by
  unfold methodCallForm;refine ae (LC hb ..) <| decide_eq_true (show U.length+0<30 from hl)
 refine MethodCall_ h ?_;refine (?_:(attributeBase o name env (b5 o env)>>=λW=>qY V.atName>>=λzz=>methodCall o name V pos env W U.length (iT pos (gf U env)) [])=_);refine ae (hr ..) <| congrArg (λg=>b5 o env>>=λW=>qY V.atName>>=λzz=>g W) (funext λW=>?_);unfold methodCall;refine ae (h1 ..) ?_;have hp:methodCallPos true o env V pos=pure pos:=if_pos he;refine ae (hp ..) ?_;rfl
structure Cx.St (C:Cx):Prop where
 st:∀{i:Nat}{x:ag}{m:ag->Option af}{N K:Led}{v:af}{Q:Unit->ai->Prop}{s:ai},C.xs[i]? = some x->C.wr i->C.ck m K->(N.map (·.1)).Nodup->(∀q∈K,q∈N)->Fr C.h₀ C.L s.heap m->aI C.h₀ C.L s.heap N->(∀h' tk m' (f:ak×ay->ak×ay),Fr C.h₀ C.L h' m'->aI C.h₀ C.L h' (N.map f)->(∀q,(f q).1=q.1)->(∀q∈N,q∉K->f q=q)->C.ck m' (K.map f)->(∀j w,j≠i->C.rd m K j w->C.rd m' (K.map f) j w)->C.rd m' (K.map f) i v->Q () {s with heap:=h',toks:=tk})->Wp C (wO C.env x v) Q s
abbrev cw (τ:List bg):Prop:=∀q∈τ,∃t,q.2=.ow t
section
variable {C:Cx}{σ:List Tr}{τ τ':List bg}{m m':ag->Option af}{N N' K K' ZL:Led}{v w:af}{t u:Tr}{d:ah}{i:Nat}{p:List Nat}
theorem cv.any (ho:cw τ):∀{O:Led},cv C m N K ZL τ O->cv C m' N' K' ZL τ O:=by
 induction τ with
 |nil=>exact λx=>x
 |cons q τ U=>
  rintro O ⟨A,B,e,x,y⟩
  refine El.ea (ho q (.head _)) λt ht=>bQ A B e ?_ (U (λq V=>ho q (.tail _ V)) y);rw [ht] at x ⊢;exact x
theorem yS:∀{l:Led},(∀q∈l,f q=q)->l.map f=l:=λh=>(wQ h).trans (Rw _)
theorem Sp.Vo (S:Sp C σ ((v,.ow t)::τ) m N K ZL) (ho:cw τ) (hi:i<C.xs.length) (f1:∀q,(f q).1=q.1) (f2:∀q∈N,q∉K->f q=q) (hk:C.ck m' (K.map f)) (h1:∀j w,j≠i->C.rd m K j w->C.rd m' (K.map f) j w) (h2:C.rd m' (K.map f) i v):∃bF,Sp C (σ.set i t) τ m' (N.map f) (K.map f) bF:=by
 cases S with
 |@mk Os Ot vs nd pm rs ln mp W hx=>
  refine aO W ?_;clear W;intro V Or bx r W;subst bx;obtain ⟨u,hu⟩:∃u,σ[i]? = some u:=⟨_,eC (ln.1▸hi)⟩;have nk:∀q∈(V++Or)++(Os++ZL),f q=q:=λq U=>by
   have hp:N.Perm (K++((V++Or)++(Os++ZL))):=pm.trans (((cE Os K ZL).append_left _).trans (cE _ _ _));refine f2 q (hp.mem_iff.mpr (bj _ U)) λk=>?_;have n:=(hp.map (·.1)).nodup_iff.mp nd;rw [bH] at n;exact (ed.mp n).2.2 _ (bf.mpr ⟨q,k,rfl⟩) _ (bf.mpr ⟨q,U,rfl⟩) rfl
  have yT:(N.map f).Perm ((V++Or)++(Os++(K.map f++ZL))):=by
   have:=pm.map f;rw [bH,bH (l₁:=Os),bH (l₁:=K),yS λq U=>nk q (bE _ U),yS λq U=>nk q (bj _ (bE _ U)),yS (l:=ZL) λq U=>nk q (bj _ (bj _ U))] at this;exact this
  have jr:((N.map f).map (·.1)).Nodup:=by
   rw [qZ];exact (wQ (g:=(·.1)) λq _=>f1 q)▸nd
  refine fS (rs.focus hu) λw A B e1 zz e3 g=>?_;have hz:∀q∈ZL,q∈A++ZL:=λzz h=>bj _ h;refine ar (g (P':=C.P.and (A++ZL)) (t':=t) (O':=V) (and_mono hz) (Rep.mono (and_mono hz) t r)) λO' g1 g2=>⟨A++ZL,.mk (Os:=O') (Ot:=Or) jr ?_ g1 ⟨by refine ae (tE ..) <| ln.1,hk⟩ (λj x y a b c=>?_) ((W.mono (N':=N) (λzz h=>h) hz).any ho) λq h=>hz q (hx q h)⟩
  ·refine yT.trans ?_;have:((V++Or)++(Os++(K.map f++ZL))).Perm (Or++((V++B)++(K.map f++(A++ZL)))):=by
    refine (aeb.append_right _).trans <| ae (bt ..) <| .append_left _ <| ae (bt V B ..) <| .append_left _ ((e3.append_right _).trans ?_);refine ae (bt ..) <| (cE _ _ _).trans (.append_left _ (cE _ _ _))
   exact this.trans (.append_left _ (g2.symm.append_right _))
  ·by_cases e:j=i
   ·clear hi h1 hu g g1 b;subst e;rw [Hg (by clear zz;obtain ⟨hl,_⟩:=dU.mp e1;exact hl)] at a
    cases a;exact h2
   ·have e':i≠j:=λq=>e q.symm;rw [q9 e'] at a b;exact h1 j x e (mp j x y a b c)
theorem Sp.deep (S:Sp C σ ((v,.ow t)::τ) m N K ZL):Sp C σ ((v,.ow (toOl t))::τ) m N K ZL:=by
 cases t with
 |dl ds=>
  cases S with
  |@mk Os Ot vs nd pm rs ln mp U hx=>
   refine aO U ?_;clear U;intro Ov Or V W U;subst V;obtain ⟨a,n,ws,rfl,rfl,h⟩:=W;refine .mk nd pm rs ln mp (bQ _ Or rfl (Rep.uE (O:=[]) ?_) U) hx;have key:∀{ws:List af}{ds:List ah},aU (C.P.and ZL) ws ds->bO (C.P.and ZL) (ds.map .dat) [] ws:=by
    intro ws ds;induction ds generalizing ws with
    |nil=>exact λh=>⟨rfl,by cases ws with | nil=>rfl | cons=>exact sz h.len⟩
    |cons d ds ih=>exact λh=>by cases ws with
     |nil=>exact El.zs h.len
     |cons w ws=>exact bQ [] [] rfl ⟨rfl,h.1⟩ (ih h.2)
   exact key h
 |_=>exact S
theorem Sp.mC (S:Sp C σ τ m N K ZL) (hi:σ[i]? = some t) (hd:t.data=some d):∃bF,(∀q∈ZL,q∈bF)/\Sp C (σ.set i (.dat d)) τ m N K bF/\∀{v w:af}{p:List Nat}{u:Tr}{e:ah},C.rd m K i v->eE N v p w->eg t p=some u->u.data=some e->C.Ok->Dat (C.P.and bF) w e:=by
 cases S with
 |@mk Os Ot vs nd pm rs ln mp W hx=>
  refine fS (rs.focus hi) λw A B e1 r e3 f=>?_;have hz:∀q∈ZL,q∈A++ZL:=λzz h=>bj _ h;have V:t≠.un:=λe=>by rw [e] at hd;exact El.ns hd
  have U:Dat (C.P.and (A++ZL)) w d:=(Rep.jK t r hd).mono λzz zz q=>q.elim (λq=>q.imp_right (hz _)) λq=>.inr (bE _ q);refine ar (f (P':=C.P.and (A++ZL)) (v':=w) (t':=.dat d) (O':=[]) (and_mono hz) ⟨rfl,U⟩) λO' g1 g2=>?_;have hs:vs.set i w=vs:=by clear r U g1;obtain ⟨hl,e⟩:=dU.mp e1;refine ae (e ..).symm <| wG hl
  rw [hs] at g1;have pA:N.Perm (A++(Ot++(B++(K++ZL)))):=pm.trans ((((e3.append_right (K++ZL)).append_left Ot).trans (by refine ae (bt ..) <| cE ..)))
  refine dq (A++ZL) hz (.mk (Os:=O') (Ot:=Ot) nd (pm.trans (.append_left _ ?_)) g1 ⟨by refine ae (tE ..) <| ln.1,ln.2⟩ (λj x y a b c=>?_) (W.mono (λzz h=>h) hz) λq h=>hz q (hx q h)) (λ{v' w' p u e} hr hp hu he hC=>?_)
  ·refine (e3.append_right _).trans <| ae (bt ..) <| (cE _ _ _).trans ((ra B (cE _ _ _)).trans (g2.symm.append_right _))
  ·by_cases e:j=i
   ·clear f g1 hs b;subst e;rw [e1] at a;cases a;exact mp j _ t e1 hi V
   ·have e':i≠j:=λq=>e q.symm;rw [q9 e'] at b;exact mp j x y a b c
  ·clear U hs;cases hC.uq hr (mp i w t e1 hi V);cases r.x5 (λq hq=>pA.mem_iff.mpr (bE _ hq)) hu with
   |mk pv r1 pe _=>
    cases pv.uniq (mq nd) hp
    exact (Rep.jK u r1 he).mono λzz zz q=>q.elim (λq=>q.imp_right (hz _)) λq=>.inr (bE _ (pe.mem_iff.mpr (bE _ q)))
theorem DP {σ:List Tr}{i:Nat}(h:mC σ i k):∃t d,σ[i]? = some t/\t.data=some d/\k (σ.set i (.dat d)):=by
 unfold Mine.mC at h;cases e:σ[i]? with
 |none=>rw [e] at h;exact h.elim
 |some t=>
  rw [e] at h;refine ar (fW h) λd U V=>bQ t d rfl U V
theorem qn (hC:C.Ok) (hk:jq σ e k) (a:At C σ ((v,e)::τ) φ h) (ho:cw τ):∃t U,At C U ((v,.ow t)::τ) φ h/\k t U:=by
 cases e with
 |ow t=>exact iC t σ a hk
 |bo j p=>
  refine ar (fW (show wD (Ev.data σ (.bo j p)) _ from hk)) λd e1 hk=>aO (DP hk) λt d0 e2 e3 hk=>ar (bind_some e1) λu e4 e5=>ar (bind_some (show (σ[j]?.bind λt=>eg t p)=some u from e4)) λt' W e7=>?_;rw [e2] at W;cases W;cases a with
  |mk F N S=>
   cases S.top with
   |mk r _ _ S0=>
    refine xK r λV w b c=>?_;clear r;clear a a_1;subst V;refine ef (S0.mC (i:=j) e2 e3) λbF zz S1 f=>iC _ _ (.mk F N (S1.dR (f b c e7 e5 hC))) hk
theorem Vp (hC:C.Ok) (hk:jq σ e k) (a:At C σ ((v,e)::(w,.bo i p)::τ) φ h) (ho:cw τ):∃t U,At C U ((v,.ow t)::(w,.bo i p)::τ) φ h/\k t U:=by
 cases e with
 |ow t=>exact iC t σ a hk
 |bo j W=>
  refine ar (fW (show wD (Ev.data σ (.bo j W)) _ from hk)) λd e1 hk=>aO (DP hk) λt d0 e2 e3 hk=>ar (bind_some e1) λu e4 e5=>ar (bind_some (show (σ[j]?.bind λt=>eg t W)=some u from e4)) λt' e6 e7=>?_;rw [e2] at e6;cases e6;cases a with
  |mk F N S=>
   cases S.top with
   |mk r _ _ S0=>
    refine xK r λV w' b c=>?_;clear r;clear a a_1;subst V;refine ef (S0.mC (i:=j) e2 e3) λbF zz S1 f=>iC _ _ (.mk F N (S1.dR (f b c e7 e5 hC))) hk
end
section
variable {prog:bM}{w:aW}{A:cD}{E:af->ai->Prop}{s:ai}{h₀:aq}{L D b:ak}{m:ag->Option af}{rest:Led}{n n2:Nat}{vs us:List af}{v:af}
theorem DQ (F:Fr h₀ L s.heap m) (N:aI h₀ L s.heap ((D,aQ vs n)::rest)) (ne:∀q∈rest,q.1≠D) (hz:vs.length<2 ^ 24) (h:∀h',Fr h₀ L h' m->aI h₀ L h' ((D,aQ (vs++[v]) (n+1))::rest)->Q .none {s with heap:=h'}):aA (az prog w) A (call (.builtin "list.append") [.ref D,v]) Q E s:=by
 have e:(vs++[v]).toArray=vs.toArray.push v:=by simp
 unfold aQ at h;rw [e] at h;exact append_K F N (.head ne) h (by unfold cc;refine ae (ee ..) <| cA hz)
theorem Vq (l:ak) (items:Array af) (n:Nat) (b:ak) (o:ay) (us:List af) (q:nY o us) (h1:¬(!items.isEmpty && bY.List.listTooLong (items.size+us.toArray.size))=true) (V:items.size<=cc) (W:items.size+us.toArray.size<=cc+1) :
  Meets (bY.«list.extend» ⟨[.ref l,.ref b],[]⟩) (λzz R s=>s.heap.get? l=some {cls:=.type "list",dict:=none,data:=.seq items n,slots:=#[]}/\s.heap.get? b=some o/\R (.ok (.ret af.none)) {s with heap:=s.heap.update l (ay.mapSeq λx=>x++us.toArray),toks:=s.toks}):=
 .of_wp λprog w A R s h=>by
  obtain ⟨hp,g,d,tk,os⟩:=s;refine cg h ?_;clear h;intro hl hb h;obtain ⟨c,dd,oo,sl⟩:=o;obtain ⟨hc,⟨k,hd⟩,he⟩:=q;cases hc;cases hd;clear he
  generalize us.toArray=it at *;have f3:=sub_list_list;have f4:=sub_tuple_list;have U:(items++it).size<=cc+1:=by refine ae (Array.size_append ..) <| W
  wp_walk using (AR hl rfl (hz:=V) (_hz':=U)),wpAny_loadPart' hl,wpAny_loadPart' hb
  exact av _ rfl h
theorem LD (F:Fr h₀ L s.heap m) (N:aI h₀ L s.heap ((D,aQ vs n)::rest)) (ne:∀q∈rest,q.1≠D) (hb:s.heap.get? b=some o) (q:nY o us) (hz:vs.length+us.length<2 ^ 24)
  (h:∀h' n',Fr h₀ L h' m->aI h₀ L h' ((D,aQ (vs++us) n')::rest)->Q .none {s with heap:=h'}):aA (az prog w) A (call (.builtin "list.extend") [.ref D,.ref b]) Q E s:=by
 have V:=N _ (.head _);have U:vs.toArray.size+us.toArray.size<=cc:=by unfold cc;simp only [ee];exact cA hz
 refine call_meets aec (av _ V.1 rfl) PySem.F.entry_list_extend (PySem.F.args_list_extend_2 _ _) (Vq D vs.toArray n b o us q (extend_door U) (aD (ba _ _) U) (tF U)) (aL V.1 hb ?_);have lJ:(s.heap.update D (ay.mapSeq λx=>x++us.toArray)).get? D=some (aQ (vs++us) (if (vs.toArray++us.toArray).size == vs.toArray.size then n else n+1)):=by
  rw [aq.get?_update_self _ V.1 (by refine ae (mapSeq_app ..) ?_;rfl)]
  refine (?_:some (ay.mapSeq _ (W.listOf vs.toArray n))=_);unfold W.listOf;refine ae (mapSeq_app ..) ?_;unfold aQ W.listOf;exact ae (List.append_toArray ..) rfl
 exact h _ _ (F.change (aq.SameBut.update ..) V.2.1 V.2.2) (N.setIn (own:=[]) (λzz h=>El.nm h) ne (aq.SameBut.update ..) lJ)
theorem LF {k:Int}{u:Tok}(F:Fr h₀ L s.heap m) (N:aI h₀ L s.heap ((D,aQ vs n)::rest)) (ne:∀q∈rest,q.1≠D) (h0:0<=k) (U:k<2 ^ 63) (hk:k<vs.length)
  (h:∀h',Fr h₀ L h' m->aI h₀ L h' ((D,aQ (vs.set k.toNat v) n)::rest)->Q () {s with heap:=h'}):aA (az prog w) A (wR (.ref D) (.int k u) v) Q E s:=by
 have z:=N _ (.head _);have hz:(vs.set k.toNat v).toArray.size=vs.toArray.size:=by simp
 refine ki_setAt z.1 h0 U (by refine ae (ee ..) <| hk) (h _ (F.change (aq.SameBut.update ..) z.2.1 z.2.2) (ki_turn (pre:=[]) _ N (λzz h=>El.nm h) ne (by simp) (if_pos (beq_iff_eq.mpr hz))))
end
inductive Wr (C:Cx) (σ:List Tr) (τ:List bg) (m:ag->Option af) (N K ZL:Led) (i:Nat) (p:List Nat) (u:Tr):af->Prop
 |mk {a:ak}{n:Nat}{ws:List af}{Oz Ot rest:Led}:N.Perm ((a,aQ ws n)::rest)->(∀q∈rest,q.1≠a)->Rep (C.P.and ZL) u ((a,aQ ws n)::Oz) (.ref a)->cv C m N K ZL τ Ot->
   (∀{fI:List af}{n':Nat}{u':Tr}{LH Ot':Led}{τ':List bg},Rep (C.P.and ZL) u' ((a,aQ fI n')::LH) (.ref a)->cv C m ((a,aQ fI n')::rest) K ZL τ' Ot'->(Oz++Ot).Perm (LH++Ot')->∀t,σ[i]? = some t->Sp C (σ.set i (jL t p u')) τ' m ((a,aQ fI n')::rest) K ZL)->Wr C σ τ m N K ZL i p u (.ref a)
section
variable {C:Cx}{σ:List Tr}{τ τ':List bg}{m m':ag->Option af}{N N' K ZL:Led}{v w:af}{t u:Tr}{d:ah}{i:Nat}{p:List Nat}
theorem Sp.write (hC:C.Ok) (S:Sp C σ ((w,.bo i p)::τ) m N K ZL) (ht:σ[i]? = some t) (hu:eg t p=some u) (hl:yC u≠none):Wr C σ τ m N K ZL i p u w:=by
 cases S with
 |@mk Os Ot vs nd pm rs ln mp tm hx=>
  refine aO tm ?_;clear tm;intro zz Or bx cu tm;subst bx;obtain ⟨rfl,wv,b,c⟩:=cu;refine fS (rs.focus ht) λx A B e1 r e3 f=>?_;have nu:t≠.un:=λe=>by clear ht r;subst e;cases KY hu;exact hl rfl
  rw [hC.uq b (mp i x t e1 ht nu)] at c;have pA:N.Perm (A++(Or++(B++(K++ZL)))):=pm.trans ((((e3.append_right (K++ZL)).append_left Or).trans (by refine ae (bt ..) <| cE ..)))
  cases r.x5 (λq W=>pA.mem_iff.mpr (bE _ W)) hu with
  |@mk w' Ou V pv r1 pe g=>
   cases c.uniq (mq nd) pv
   have key:∀{a:ak}{n:Nat}{ws:List af}{Oz:Led},w=.ref a->Ou=(a,aQ ws n)::Oz->Wr C σ τ m N K ZL i p u w:=λ{a n ws Oz} ea eo=>by
    clear c pv;subst ea eo;have pN:N.Perm ((a,aQ ws n)::(Oz++(V++(Or++(B++(K++ZL)))))):=pA.trans ((pe.append_right _).trans (by refine ae (bt ..) ?_;rfl))
    have jr:=(pN.map (·.1)).nodup_iff.mp nd;refine El.aa (bR.mp jr) λn1 n2=>.mk (Oz:=Oz) (Ot:=Or) pN (λq W e=>n1 (e▸bf.mpr (av q W rfl))) r1 tm λ{fI n' u' U Ot' τ'} r' Vr hp t' LI=>?_;rw [ht] at LI;cases LI;refine ar (g (λzz zz h=>h) r') λO1 g1 g2=>ar (f (v':=x) (λzz zz h=>h) g1) λO2 f1 f2=>?_;have hs:vs.set i x=vs:=by obtain ⟨hl,e⟩:=dU.mp e1;refine ae (e ..).symm <| wG hl
    rw [hs] at f1;refine .mk (Os:=O2) (Ot:=Ot') (yv n2 λq W e=>n1 (e▸bf.mpr (av q W rfl))) ?_ f1 ⟨by refine ae (tE ..) <| ln.1,ln.2⟩ (λj y z b1 c1 d1=>?_) Vr hx
    ·have e5:(Oz++(V++(Or++(B++(K++ZL))))).Perm (Ot'++(U++(V++(B++(K++ZL))))):=by
      have q1:(Oz++(V++(Or++(B++(K++ZL))))).Perm ((Oz++Or)++(V++(B++(K++ZL)))):=by
       refine ae (bt ..) <| .append_left _ (cE _ _ _)
      have q2:((U++Ot')++(V++(B++(K++ZL)))).Perm (Ot'++(U++(V++(B++(K++ZL))))):=by
       refine ae (bt ..) <| cE _ _ _
      exact q1.trans ((hp.append_right _).trans q2)
     refine (e5.cons _).trans ?_;have q3:(O2++(K++ZL)).Perm ((a,aQ fI n')::(U++(V++(B++(K++ZL))))):=(f2.append_right _).trans (((g2.append_right B).append_right _).trans (by simp only [bt,ad3];exact .refl _))
     exact nh.symm.trans (.append_left Ot' q3.symm)
    ·by_cases e:j=i
     ·subst e;rw [e1] at b1;cases b1;exact mp j _ t e1 ht nu
     ·have e':i≠j:=λq=>e q.symm;rw [q9 e'] at c1;exact mp j y z b1 c1 d1
   clear hu;cases u with
   |dl ds=>refine dM r1 λa n ws ea eo zz=>?_;clear r1;exact key ea eo
   |ol us=>refine iZ r1 λa n ws Oz ea eo zz=>?_;clear r1;exact key ea eo
   |_=>exact (hl rfl).elim
theorem DR {k:List Tr->Prop}(h:ik σ i p f k):∃t u,σ[i]? = some t/\eg t p=some u/\f u λU=>k (σ.set i (jL t p U)):=by
 unfold ik at h;cases e:σ[i]? with
 |none=>rw [e] at h;exact h.elim
 |some t=>
  rw [e] at h;refine ar (UC h) λu V W=>bQ t u rfl V W
theorem Sp.uN {n:Nat}(h:Rep (C.P.and ZL) (.dl ds) ((a,aQ ws n)::Oz) (.ref a)):Oz=[]/\aU (C.P.and ZL) ws ds:=by
 refine dM h ?_;clear h;intro W n' U e1 e2 h;cases e1
 injection e2 with e2 e3
 have V:=congrArg (λq=>xZ q.2) e2;exact ⟨e3,(show ws=U from V)▸h⟩
theorem Sp.DS {n:Nat}{us:List Tr}(h:Rep (C.P.and ZL) (.ol us) ((a,aQ ws n)::Oz) (.ref a)):bO (C.P.and ZL) us Oz ws:=by
 refine iZ h ?_;clear h;intro a' n' U V e1 e2 h;cases e1
 injection e2 with e2 e3
 have W:=congrArg (λq=>xZ q.2) e2;exact (show ws=U from W)▸e3▸h
theorem bO.snoc {P:Fz}(h:Rep P u U x):∀{ts:List Tr}{O:Led}{vs:List af},bO P ts O vs->bO P (ts++[u]) (O++U) (vs++[x]):=@λC D F G=>match C,D,F,G with
 |[],zz,V,⟨e1,e2⟩=>by subst e1 e2;exact i4 U [] (cL _).symm h rfl rfl
 |zz::V,W,[],x=>(show False from x).elim
 |t::ts,zz,V::W,⟨A,B,e,r,y⟩=>(bQ A (B++U) (by exact ae (e ..) (ae (bt ..) rfl)) r (bO.snoc h y))
theorem yU {P:Fz}:∀{ws:List af}{ds:List ah},aU P ws ds->bO P (ds.map .dat) [] ws:=@λA B C=>match A,B,C with
 |[],[],zz=>⟨rfl,rfl⟩
 |w::ws,d::ds,h=>(bQ [] [] rfl ⟨rfl,h.1⟩ (yU h.2))
 |[],zz::U,h=>El.zs h.len
 |zz::U,[],h=>sz h.len
theorem bO.join {P:Fz}{us:List af}(h:bO P U V us):∀{ts:List Tr}{O:Led}{vs:List af},bO P ts O vs->bO P (ts++U) (O++V) (vs++us):=@λC D F G=>match C,D,F,G with
 |[],zz,W,⟨e1,e2⟩=>by subst e1 e2;exact h
 |zz::W,zx,[],x=>(show False from x).elim
 |t::ts,zz,W::zx,⟨A,B,e,r,y⟩=>(bQ A (B++V) (by exact ae (e ..) (ae (bt ..) rfl)) r (bO.join h y))
theorem LJ {P:Fz}(h:Dat P x d):∀{ws:List af}{ds:List ah}(j:Nat),aU P ws ds->aU P (ws.set j x) (ds.set j d):=@λA B C D=>match A,B,C,D with
 |[],zz,U,y=>by refine ae (show _=[] from y) ?_;rfl
 |zz::U,[],V,y=>(show False from y).elim
 |w::ws,e::ds,0,y=>⟨h,y.2⟩
 |w::ws,e::ds,j+1,y=>⟨y.1,LJ h j y.2⟩
theorem fL {h₀ h:aq}{L:ak}(x:aI h₀ L h N) (e:N.Perm N'):aI h₀ L h N':=λq U=>x q (e.mem_iff.mpr U)
end
section
variable {C:Cx}{σ:List Tr}{τ:List bg}{φ:Fs}{v w:af}{t u:Tr}{s:ai}{i:Nat}{p:List Nat}{k:List Tr->Prop}
abbrev Nw (C:Cx) (τ:List bg) (φ:Fs) (s:ai) {α:Type}(a:α) (Q:α->ai->Prop) (k:List Tr->Prop):Prop:=∀aH h' tk,At C aH τ φ h'->k aH->Q a {s with heap:=h',toks:=tk}
theorem Vs (hC:C.Ok) (h:ik σ i p (λt=>uG t u) k) (a:At C σ ((v,.ow u)::(w,.bo i p)::τ) φ s.heap) (ho:cw τ) (hQ:Nw C τ φ s (.none:af) Q k):∃D,w=.ref D/\Wp C (call (.builtin "list.append") [.ref D,v]) Q s:=by
 refine aO (DR h) λt x W h2 h=>?_;cases a with
 |mk F N S=>
  cases x with
  |dl ds=>
   refine ef (fW (show wD u.data _ from h)) λd e1 hz h=>?_;cases S.pop hC with
   |mk z S1 f _=>
    have hd:=f u rfl d e1;clear S;cases S1.write hC W h2 (λe=>El.sn e) with
    |@mk a n ws Oz Ot rest pN ne r V g=>
     refine El.aa (Sp.uN r) λU hw=>?_;clear r;subst U;refine av a rfl (DQ F (fL N pN) ne (by refine ae (hw.len ..) <| hz) λh' F' N'=>hQ _ _ _ (.mk F' N' (g (.jo (bB.append hw (.one hd))) (V.any ho) (.refl _) t W)) h)
  |ol ts=>
   refine El.aa h ?_;clear h;intro hz h;have S1:=S.over (τ₁:=[_]);clear S;cases S1.write hC W h2 (λe=>El.sn e) with
   |@mk a n ws Oz Ot rest pN ne r V g=>
    have hw:=Sp.DS r;refine aO V ?_;clear V;intro Ov Or U rv V;subst U;exact av a rfl (DQ F (fL N pN) ne (by rw [hw.len];exact hz) λh' F' N'=>hQ _ _ _ (.mk F' N' (g (.uE (hw.snoc rv)) (V.any ho) (by rw [bt]) t W)) h)
  |_=>exact h.elim
theorem Vt (U:C.Ok) (he:p9 σ e=some xs) (h:ik σ i p (λt=>DB t xs) k) (a:At C σ ((v,e)::(w,.bo i p)::τ) φ s.heap) (ho:cw τ) (hQ:Nw C τ φ s (.none:af) Q k):∃D,w=.ref D/\Wp C (call (.builtin "list.extend") [.ref D,v]) Q s:=by
 refine aO (DR h) λt x V h2 h=>?_;cases a with
 |mk F N S=>
  cases S.og U he with
  |@mk bF b nb us z S1 W hb=>
   have dA:=At.bU U F N _ _ W.1;cases x with
   |dl ds=>
    refine El.aa h ?_;clear h;intro hz h;clear S;cases S1.write U V h2 (λe=>El.sn e) with
    |@mk a n ws Oz Ot rest pN ne r tm g=>
     refine El.aa (Sp.uN r) λbx hw=>?_;clear r;subst bx;exact av a rfl (LD F (fL N pN) ne dA W.2 (by refine ae (hw.len ..) (ae (hb.len ..) ?_);exact hz) λh' n' F' N'=>hQ _ _ _ (.mk F' N' (g (.jo (bB.append hw hb)) (tm.any ho) (.refl _) t V)) h)
   |ol ts=>
    refine El.aa h ?_;clear h;intro hz h;clear S;cases S1.write U V h2 (λe=>El.sn e) with
    |@mk a n ws Oz Ot rest pN ne r tm g=>
     have hw:=Sp.DS r;exact av a rfl (LD F (fL N pN) ne dA W.2 (by rw [hw.len,hb.len];exact hz) λh' n' F' N'=>hQ _ _ _ (.mk F' N' (g (.uE (bO.join (yU hb) hw)) (tm.any ho) (by rw [cL]) t V)) h)
   |_=>exact h.elim
end
theorem Vu {α:Type}(a b c d:List α):((a++b)++(c++d)).Perm ((c++b)++(a++d)):=by
 refine ae (bt ..) (ae (bt ..) ?_);exact (ra a (cE b c d)).trans ((cE a c _).trans (.append_left c (cE a b d)))
section
variable {C:Cx}{σ:List Tr}{τ:List bg}{φ:Fs}{v w:af}{t u:Tr}{s:ai}{i:Nat}{p:List Nat}{k:List Tr->Prop}
theorem yV (ho:cw τ):cw ((v,.ow t)::τ):=cz.mpr ⟨⟨t,rfl⟩,ho⟩
theorem At.swap (a:At C σ ((v,e)::(w,U)::τ) φ h):At C σ ((w,U)::(v,e)::τ) φ h:=by
 cases a with | mk F N S=>exact .mk F N (S.over (τ₁:=[_]))
theorem LK (hC:C.Ok) (h:ik σ i p (λt k=>km t n0 λj=>qj t j u k) k) (a:At C σ ((v,.ow u)::(w,.bo i p)::τ) φ s.heap) (ho:cw τ) (hQ:Nw C τ φ s () Q k):Wp C (wR w (.int n0 tk) v) Q s:=by
 refine aO (DR h) λt x h1 h2 h=>?_;cases h with
 |@mk l e1 hb h=>
  cases a with
  |mk F N S=>
   cases x with
   |dl ds=>
    refine ar (fW (show wD u.data _ from h)) λd e2 h=>?_;cases e1
    cases S.pop hC with
    |mk z S1 f _=>
     have hd:=f u rfl d e2;clear S;cases S1.write hC h1 h2 (λe=>El.sn e) with
     |@mk a n ws Oz Ot rest pN ne r V g=>
      refine El.aa (Sp.uN r) λU hw=>?_;clear r;subst U;exact LF F (fL N pN) ne hb.1 hb.2.1 (by refine ae (hw.len ..) <| hb.2.2) λh' F' N'=>hQ _ _ _ (.mk F' N' (g (.jo (LJ hd _ hw)) (V.any ho) (.refl _) t h1)) h
   |ol ts=>
    cases e1
    cases (S.over (τ₁:=[_])).write hC h1 h2 (λe=>El.sn e) with
    |@mk a n ws Oz Ot rest pN ne r V g=>
     have hw:=Sp.DS r;refine aO V ?_;clear V;intro Ov Or U rv V;subst U;have b8:n0.toNat<ts.length:=by exact (Iv (.t (.K .b .t) (.Q .q .b)) .b .c rfl hb.2.2 (dh (A3 hb.1)))
     obtain ⟨old,W⟩:∃o,ts[n0.toNat]? = some o:=⟨_,eC b8⟩;refine fS (hw.focus W) λy A B e3 r3 e4 f=>ar (f (v':=v) (t':=u) (O':=Ov) (λzz zz h=>h) rv) λO' f1 f2=>LF F (fL N pN) ne hb.1 hb.2.1 (by refine ae (hw.len ..) <| hb.2.2) λh' F' N'=>?_
     have S3:=g (n':=n) (τ':=(y,.ow old)::τ) (Ot':=A++Or) (.uE f1) (bQ A Or rfl r3 (V.any ho)) ?_ t h1
     ·cases S3.pop hC with | mk _ S4 _ _=>exact hQ _ _ _ (.mk F' N' S4) h
     ·exact (e4.append_right _).trans ((Vu A B Ov Or).trans (f2.symm.append_right _))
   |_=>exact El.ns e1
theorem ku (hC:C.Ok) (hS:C.St) (hw:C.wr i) (hx:C.xs[i]? = some x) (h:jn σ i o t k) (a:At C σ ((v,.ow t)::τ) φ s.heap) (ho:cw τ) (hQ:∀V W h' tk,At C V τ W h'->k V->Q () {s with heap:=h',toks:=tk}):Wp C (wO C.env x v) Q s:=by
 have hi:i<C.xs.length:=(dU.mp hx).1;have U:∀{t':Tr},At C σ ((v,.ow t')::τ) φ s.heap->k (σ.set i t')->Wp C (wO C.env x v) Q s:=λ{t'} a h=>by
  cases a with
  |mk F N S=>
   exact hS.st (K:=φ.2) hx hw S.Dr.1 S.Dr.2 S.eP F N λh' tk m' f F' N' f1 f2 hk r1 r2=>by
    refine El.ea (S.Vo ho hi f1 f2 hk r1 r2) λbF S'=>hQ _ (m',φ.2.map f) _ _ (.mk F' N' S') h
 cases o with
 |fr=>
  refine ar (fW (show wD t.data _ from h)) λd e1 h=>?_;cases a with
  |mk F N S=>cases S.pop hC with | mk _ S1 f _=>exact U (.mk F N (S1.dR (f t rfl d e1))) h
 |own=>exact U a h
 |n5=>exact U a h
 |deep=>cases a with | mk F N S=>exact U (.mk F N S.deep) h
noncomputable abbrev kx (vs:List af) (ts:List Tr):List bg:=vs.zip (ts.map .ow)
theorem DT (ho:cw τ):∀{vs:List af}{ts:List Tr},cw (kx vs ts++τ):=@λA B=>match A,B with
 |[],zz=>ho
 |zz::U,[]=>ho
 |zz::vs,t::ts=>cz.mpr ⟨⟨t,rfl⟩,DT ho (vs:=vs) (ts:=ts)⟩
theorem LL (hC:C.Ok) (hS:C.St) {f:ag->af->iS Unit}(hf:∀x v Q s,Wp C (wO C.env x v) Q s->Wp C (f x v) Q s):∀{is:Tg}{xs:List ag}{vs:List af}{ts:List Tr}{σ:List Tr}{φ:Fs}{s:ai}{Q:Unit->ai->Prop},bB (λ(q:Nat×Ow) x=>C.xs[q.1]? = some x) is xs->(∀q∈is,C.wr q.1)->vs.length=ts.length->fy is ts σ k->At C σ (kx vs ts++τ) φ s.heap->cw τ->
  (∀U V h' tk,At C U τ V h'->k U->Q () {s with heap:=h',toks:=tk})->Wp C (wM (xs.map λx=>f x) vs) Q s:=@λA B D F G H J K L M N O P R T=>match A,B,D,F,G,H,J,K,L,M,N,O,P,R,T with
 |[],zz,vs,ts,σ,φ,s,Q,hx,zw,hl,h,a,ho,W=>by
  refine ae (show _=[] from hx) ?_;cases ts with
  |cons=>exact h.elim
  |nil=>cases vs with
   |cons=>exact sz hl
   |nil=>exact aed (W _ _ _ _ a h)
 |q::is,[],zz,zy,zx,zw,zv,zu,hx,zt,zr,zp,zo,zn,zm=>(show False from hx).elim
 |q::is,x::xs,vs,ts,σ,φ,s,Q,hx,hw,hl,h,a,ho,W=>by
  cases ts with
  |nil=>exact h.elim
  |cons t ts=>cases vs with
   |nil=>exact El.zs hl
   |cons v vs=>
    exact aee (hf _ _ _ _ (ku hC hS (hw _ (.head _)) hx.1 (show jn σ q.1 q.2 t (λU=>fy is ts U k) from h) a (DT ho) λU V h' tk a' g=>LL hC hS hf hx.2 (λq h=>hw q (.tail _ h)) (jC hl) g a' ho W))
end
section
variable {P P':Fz}{ns:List ag}{es:List eY}{as:List bu}
theorem lu.mono (U:∀a o,P a o->P' a o):∀{a:bu}{v:af},lu P a v->lu P' a v:=@λA B C=>match A,B,C with
 |.tr t,zz,x=>Rep.mono U t x
 |.any,zz,x=>x
 |.rf zz,V,x=>x
theorem cY.mono (V:∀a o,P a o->P' a o):∀{es:List eY}{ns:List ag}{as:List bu},cY P es ns as->cY P' es ns as:=@λA B C D=>match A,B,C,D with
 |[],zz,U,x=>x
 |zz::U,[],W,x=>(show False from x).elim
 |zz::U,W::zw,[],x=>(show False from x).elim
 |zz::U,W::zw,zv::zu,x=>(cB x.1 x.2.1 (x.2.2.1.mono V) (cY.mono V x.2.2.2))
theorem cY.get:∀{es:List eY}{ns:List ag}{as:List bu}{j:Nat},cY P es ns as->as[j]? = some a->∃e,es[j]? = some e/\lu P a e.val:=@λA B C D F G=>match A,B,C,D,F,G with
 |[],zz,as,U,x,h=>by rw [show as=[] from x] at h;exact El.ns h
 |zz::U,[],V,W,x,zv=>(show False from x).elim
 |zz::U,V::W,[],zv,x,zu=>(show False from x).elim
 |e::zz,U::V,W::zv,0,x,h=>(av e rfl (dJ h▸x.2.2.1))
 |zz::es,U::V,W::zv,j+1,x,h=>cY.get (es:=es) (j:=j) x.2.2.2 h
theorem uO {x:ak×ak}:rP (pZ x as):=λzz zz zz zz h q=>⟨q.1,q.2.imp λzz q=>q.imp λzz q=>⟨q.1,q.2.mono h⟩⟩
end
section
variable {C:Cx}{σ:List Tr}{τ:List bg}{m:ag->Option af}{N N' K ZL bF:Led}{i:Nat}{x:ak×ak}{as:List bu}
theorem eE.keep (U:∀a ws,SeqIn (λa o=>(a,o)∈N) a ws->SeqIn (λa o=>(a,o)∈N') a ws):∀{p:List Nat}{w:af},eE N v p w->eE N' v p w:=@λA B C=>match A,B,C with
 |[],zz,x=>x
 |zz::p,V,⟨a,ws,x,y,z⟩=>(bQ a ws (eE.keep U (p:=p) x) (U _ _ y) z)
theorem cv.keep (U:∀a ws,SeqIn (λa o=>(a,o)∈N) a ws->SeqIn (λa o=>(a,o)∈N') a ws) (V:∀q∈ZL,q∈bF):∀{τ:List bg}{O:Led},cv C m N K ZL τ O->cv C m N' K bF τ O:=@λD F G=>match D,F,G with
 |[],zz,x=>x
 |q::τ,zz,⟨A,B,e,x,y⟩=>(bQ A B e (by
   cases h:q.2 with
   |ow t=>rw [h] at x;exact Rep.mono (and_mono V) t x
   |bo i p=>rw [h] at x;exact ⟨x.1,x.2.imp λzz q=>⟨q.1,q.2.keep U⟩⟩) (cv.keep U V y))
theorem LM {rest M:Led}{es:List eY}{n:Nat}(V:N.Perm ((x.1,gV 242 x.2)::(x.2,gc es n)::rest)) (W:∀q∈rest,q∈M):∀a ws,SeqIn (λa o=>(a,o)∈N) a ws->SeqIn (λa o=>(a,o)∈M) a ws:=λa ws h=>by
 have U:∀{o:ay},(a,o)∈N->o≠gV 242 x.2->o≠gc es n->(a,o)∈M:=λh n1 n2=>by
  rcases aT.mp (V.mem_iff.mp h) with e | h
  ·exact (n1 (wJ e).2).elim
  ·rcases aT.mp h with e | h
   ·exact (n2 (wJ e).2).elim
   ·exact W _ h
 rcases h with ⟨k,h⟩ | h
 ·exact .inl (av k (U h.1 (λe=>nomatch h.2.c.symm.trans (congrArg ay.cls e)) (λe=>absurd (h.2.c.symm.trans (congrArg ay.cls e)) (show af.type "list"≠.type "dict" by decide))) h.2)
 ·exact .inr (U h (λe=>nomatch congrArg ay.cls e) λe=>nomatch congrArg ay.data e)
theorem Vv {A B D E F G:Led}:(A++(B++(D++(E++(F++G))))).Perm (D++((B++E)++(F++(A++G)))):=by
 refine ae (bt B E ..) <| (cE A B _).trans <| (ra B ((cE A D _).trans (.append_left D ((cE A E _).trans (.append_left E (cE A F G)))))).trans <| cE B D _
theorem Vx (hn:(adr N).Nodup) (V:N.Perm (O++rest)) (ha:adr O'=adr O) (hT:(adr T).Nodup) (hd:∀p∈T,∀q∈N,p.1≠q.1):(adr (T++(O'++rest))).Nodup:=by
 have e:adr (O'++rest)=adr (O++rest):=by refine (?_:pI _ _=pI _ _);refine ae (bH ..) (ae (bH ..) ?_);exact congrArg (·++_) ha
 refine (?_:(pI _ _).Nodup);refine ae (bH ..) <| ed.mpr (aL hT (by refine (?_:(adr (O'++rest)).Nodup);refine ae (e ..) <| (V.map _).nodup_iff.mp hn) (λa W b h2=>?_))
 refine ar (bf.mp W) λp h3 U=>?_;clear W;subst U;refine ar (bf.mp ((V.map (·.1)).mem_iff.mpr (show b∈adr (O++rest) from e▸h2))) λq h4 U=>?_;clear h2;subst U;exact hd p h3 q h4
inductive LN (C:Cx) (σ:List Tr) (τ:List bg) (m:ag->Option af) (N K ZL:Led) (i:Nat) (x:ak×ak) (as:List bu):Prop
 |mk {es:List eY}{n:Nat}{rest:Led}:C.rd m K i (.ref x.1)->cY (C.P.and ZL) es bU as->N.Perm ((x.1,gV 242 x.2)::(x.2,gc es n)::rest)->(∀q∈ZL,q∈rest)->
  (∀{ij:List bu}{O' T:Led},pZ x ij (C.P.and (T++ZL)) O' (.ref x.1)->adr O'=[x.1,x.2]->(adr T).Nodup->(∀p∈T,∀q∈N,p.1≠q.1)->Sp C (σ.set i (b6 x ij)) τ m (T++(O'++rest)) K (T++ZL))->LN C σ τ m N K ZL i x as
theorem Sp.inst (S:Sp C σ τ m N K ZL) (hi:σ[i]? = some (b6 x as)):LN C σ τ m N K ZL i x as:=by
 cases S with
 |@mk Os Ot vs nd pm rs ln mp tm hx=>
  refine fS (rs.focus hi) λv A B e1 U e3 f=>?_;obtain ⟨_,rfl,es,n,rfl,ha⟩:=U;have V:N.Perm ((x.1,gV 242 x.2)::(x.2,gc es n)::(Ot++(B++(K++ZL)))):=pm.trans ((((e3.append_right (K++ZL)).append_left Ot).trans (by refine ae (bt ..) <| cE ..)))
  refine .mk (mp i _ _ e1 hi λe=>nomatch e) ha V (λq h=>bj _ (bj _ (bj _ h))) λ{W O' T} hI hO hT hd=>?_;have hz:∀q∈ZL,q∈T++ZL:=λzz h=>bj _ h;refine ar (f (P':=C.P.and (T++ZL)) (v':=.ref x.1) (t':=b6 x W) (O':=O') (and_mono hz) ⟨uO,hI⟩) λyW g1 g2=>?_;have hs:vs.set i (.ref x.1)=vs:=by obtain ⟨hl,e⟩:=dU.mp e1;refine ae (e ..).symm <| wG hl
  rw [hs] at g1;refine .mk (Vx (O:=[(x.1,gV 242 x.2),(x.2,gc es n)]) nd V hO hT hd) (Vv.trans (.append_left _ (g2.symm.append_right _))) g1 ⟨by refine ae (tE ..) ?_;exact ln.1,ln.2⟩ (λj y z b1 c1 d1=>?_) (tm.keep (LM V λq h=>bj _ (bj _ h)) hz) λq h=>hz q (hx q h)
  by_cases e:j=i
  ·clear f g1 hs c1;subst e;rw [e1] at b1;cases b1;exact mp j _ _ e1 hi λe=>nomatch e
  ·have e':i≠j:=λq=>e q.symm;rw [q9 e'] at c1;exact mp j y z b1 c1 d1
inductive LO (C:Cx) (σ:List Tr) (τ:List bg) (m:ag->Option af) (N K ZL:Led) (x:ak×ak) (as:List bu):af->Prop
 |mk {es:List eY}{n:Nat}{rest:Led}:cY (C.P.and ZL) es bU as->N.Perm ((x.1,gV 242 x.2)::(x.2,gc es n)::rest)->(∀q∈ZL,q∈rest)->Sp C σ τ m rest K ZL->LO C σ τ m N K ZL x as (.ref x.1)
theorem Sp.b6 (S:Sp C σ ((v,.ow (b6 x as))::τ) m N K ZL):LO C σ τ m N K ZL x as v:=by
 cases S with
 |@mk Os Ot vs nd pm rs ln mp U hx=>
  refine aO U ?_;clear U;intro zz Or V W U;subst V;obtain ⟨_,rfl,es,n,rfl,ha⟩:=W;have pA:N.Perm ((x.1,gV 242 x.2)::(x.2,gc es n)::(Or++(Os++(K++ZL)))):=pm.trans (by refine ae (bt ..) <| .refl _)
  exact .mk ha pA (λq h=>bj _ (bj _ (bj _ h))) (.mk (bR.mp (bR.mp ((pA.map (·.1)).nodup_iff.mp nd)).2).2 (.refl _) rs ln mp (U.keep (LM pA λzz h=>h) λzz h=>h) hx)
end
section
variable {C:Cx}{fs:bX}{σ:List Tr}{τ:List bg}{K:Fs}{s:ai}{Q:af->ai->Prop}{xs:List Expr}{ia:SE}{xp p ap pp:aB}{i mi:Nat}{xn nm:ag}{x:ak×ak}{as:List bu}{g:Mn}
theorem Vy (U:Al C fs) (hx:C.xs[i]? = some xn) (hn:bU[j]? = some nm):aX C fs (.er i j) (.Attribute (.Name xn xp) nm p):=by
 intro σ k h τ K Q s a hQ;cases (show Df σ i j (λt=>k [.ow t]) from h) with
 |@mk y as t h1 h2 h3=>cases a with
  |mk F N S=>cases S.inst h1 with
   |@mk es n rest r V W _ _=>
    refine ar (V.get h2) λe he hv=>Hh (U.ok.ld xp hx F N S.eP r (U.g.dO.get ⟨F,(N _ (W.mem_iff.mpr (.head _))).1,(N _ (W.mem_iff.mpr (.tail _ (.head _)))).1,V⟩ hn he (hQ _ (.ow t) s.heap _ (.mk F N (S.oa hv)) h3)))
theorem LP (hC:C.Ok) (hm:DH C f sp) {N rest ZL:Led}(F:Fr C.h₀ C.L s.heap m) (W:aI C.h₀ C.L s.heap N) (nd:(adr N).Nodup) (pN:N.Perm ((x.1,gV 242 x.2)::(x.2,gc es n)::rest)) (hz:∀q∈ZL,q∈rest) (ha:cY (C.P.and ZL) es bU as) (hd:aU (C.P.and ZL) vs ds) (hs:sp x as ds k)
  (hQ:∀u d V (O' T:Led) h' tk,Fr C.h₀ C.L h' m->aI C.h₀ C.L h' (T++(O'++rest))->adr O'=[x.1,x.2]->(adr T).Nodup->(∀p∈T,∀q∈N,p.1≠q.1)->pZ x V (C.P.and (T++ZL)) O' (.ref x.1)->Dat (C.P.and (T++ZL)) u d->k d V->Q u {s with heap:=h',toks:=tk}):Wp C (call f (.ref x.1::vs)) Q s:=by
 have jr:(x.1::x.2::adr rest).Nodup:=(pN.map (λq:ak×ay=>q.1)).nodup_iff.mp nd;have off:∀q∈rest,q.1∉[x.1,x.2]:=λq U h=>by
  have U:q.1∈adr rest:=bf.mpr (av q U rfl);refine El.aa (bR.mp jr) λn1 n2=>?_;rcases aT.mp h with e | h
  ·exact n1 (e▸.tail _ U)
  ·exact (bR.mp n2).1 (cQ.mp h▸U)
 have Vz:∀{q:ak×ay},q∈[(x.1,gV 242 x.2),(x.2,gc es n)]->q∈N:=λh=>pN.mem_iff.mpr (bE rest h);have inR:∀{q:ak×ay},q∈rest->q∈N:=λh=>pN.mem_iff.mpr (.tail _ (.tail _ h));have nO:aI C.h₀ C.L s.heap [(x.1,gV 242 x.2),(x.2,gc es n)]:=λq U=>W q (Vz U);refine jB (hm (C.P.and ZL) m x as _ vs ds k s _ F (λa o q=>?_) (rL rfl es n rfl ha) nO ((ed.mp (show (([x.1,x.2]:List ak)++adr rest).Nodup from jr)).1) hd hs λu d V O' T h' tk F' kp eO hO hT nT hI hu hk=>?_)
 ·rcases q with q | q
  ·refine aL (λe=>?_) (F.keep _ _ (hC.sub _ _ q)) (λh=>?_)
   ·have:=hC.sub _ _ q;rw [e,aq.get?_none_of_le F.above] at this;exact El.ns this
   ·refine ar (bf.mp h) λp hp e=>?_;have:=(nO p hp).2.2;have e:p.1=a:=e;rw [e,hC.sub _ _ q] at this;exact El.sn this
  ·exact aL (W _ (inR (hz _ q))).2.1 (W _ (inR (hz _ q))).1 (off _ (hz _ q))
 ·refine hQ u d V O' T h' tk F' (λq U=>?_) eO nT (λq U r hr e=>?_) (uO _ _ _ _ (λa o q=>q.elim (λq=>q.imp_right λq=>bj _ q) λq=>.inr (bE _ q)) hI) (hu.mono λa o q=>q.elim (λq=>q.imp_right λq=>bj _ q) λq=>.inr (bE _ q)) hk
  ·rcases bT.mp U with U | U
   ·exact ⟨hO q (bj _ U),uL F (hT q U)⟩
   ·rcases bT.mp U with U | U
    ·refine ar (bf.mp (show q.1∈adr [(x.1,gV 242 x.2),(x.2,gc es n)] from eO▸bf.mpr (av q U rfl))) λr hr e=>⟨hO q (bE _ U),(show r.1=q.1 from e)▸(nO r hr).2⟩
    ·exact ⟨kp _ _ (W _ (inR U)).2.1 (off q U) (W _ (inR U)).1,(W _ (inR U)).2⟩
  ·have:=hT q U;rw [e,(W r hr).1] at this;exact El.sn this
theorem Sp.nd {N K ZL:Led}(S:Sp C σ τ m N K ZL):(adr N).Nodup:=by
 cases S with
 |mk nd _ _ _ _ _ _=>exact nd
theorem DU (hA:Al C fs) (hx:C.xs[i]? = some xn) (V:fs.m[mi]? = some g/\g.nm=nm) (hE:fK C fs ia xs) (st:∀y∈xs,notStar y=true) (hl:xs.length<30) (he:(ap.endLine == pp.line)=true) (h1:σ[i]? = some (b6 x as)) (h:den (specs fs) ia σ λvs=>jm (specs fs).m σ mi vs x as k) (a:At C σ τ K s.heap) (hQ:∀u d U h' tk,At C (σ.set i (b6 x U)) ((u,aR d)::τ) K h'->k d U->Q u {s with heap:=h',toks:=tk}):Wp C (b5 (.Call (.Attribute (.Name xn xp) nm ap) xs [] pp) C.env) Q s:=by
 refine El.aa V ?_;clear V;intro V bx;subst bx;refine cg (hA.g.mt mi g V) λm1 m2 zz=>?_;have a':=a;cases a' with
 |mk F N S=>cases S.inst h1 with
  |@mk es n rest r ha pN _ _=>
   refine kr st hl (λzz zz zz=>rfl) he (hA.ok.ld xp hx F N S.eP r (m2.1 _ _ _ _ _ _ _ _ _ s ⟨F,(N _ (pN.mem_iff.mpr (.head _))).1,(N _ (pN.mem_iff.mpr (.tail _ (.head _)))).1,ha⟩ (m2.2 _ _ _ _ _ s F.keep st (hE σ _ h _ τ K _ s a λvs ws h2 t2 l2 a2 g2=>⟨a2.keeps,?_⟩))));cases g2 with
   |@mk ds sp e1 e2 e3 g3=>
    have e1:(specs fs).m[mi]? = some sp:=e1;rw [show (specs fs).m[mi]? = some g.spec by rw [fQ,V];rfl] at e1
    cases e1
    cases a2 with
    |mk F2 N2 S2=>
     refine gk (S2.mH hA.ok l2 e2) λbF zz S3 zz r2=>?_;cases S3.inst h1 with
     |@mk es n rest r ha pN hz W=>
      exact LP (s:={s with heap:=h2,toks:=t2}) hA.ok m1 F2 N2 S3.nd pN hz ha (r2 e3) g3 λu d U O' T h' tk F' N' eO nT hd hI hu hk=>hQ u d U h' tk (.mk F' N' ((W hI eO nT hd).dR hu)) hk
theorem set_same {α:Type}{l:List α}{i:Nat}{x:α}(h:l[i]? = some x):l.set i x=l:=by
 obtain ⟨hl,e⟩:=dU.mp h;refine ae (e ..).symm <| wG hl
theorem VA (W:Al C fs) (hx:C.xs[i]? = some xn) (hm:fs.m[mi]? = some g/\g.nm=nm) (hE:fK C fs ia xs) (st:∀y∈xs,notStar y=true) (hl:xs.length<30) (he:(ap.endLine == pp.line)=true):aX C fs (.mp i mi ia) (.Call (.Attribute (.Name xn xp) nm ap) xs [] pp):=by
 intro σ k h τ K Q s a hQ;cases (show jO σ i _ from h) with
 |@mk x as U h2=>exact DU W hx hm hE st hl he U h2 a λu d ij h' tk V g2=>hQ u _ h' tk (by rw [g2.1,set_same U] at V;exact V) g2.2
theorem VB (hA:Al C fs) (W:fs.m[mi]? = some g/\g.nm=ag.ofString "__init__") (hn:nm=ag.ofString "SequenceMatcher") (hb:dZ C.env.scope nm=true) (st:∀z∈y::xs,notStar z=true) (hE:fK C fs ia (y::xs)):aX C fs (.new mi ia) (.Call (.Name nm fp) (y::xs) [] p):=by
 subst hn;refine El.aa W ?_;clear W;intro W e;refine cg ((hA.g.mt mi g W).2.2 e) λn1 n2 n3=>λσ k h τ K Q s a hQ=>DN (k:=λzz=>True) hA n2 n3 hb st hE h a λvs es h1 t1 l1 a1 g1=>?_;have g1:∀x,jm (specs fs).m σ mi es x [] λd as=>d=.none/\k [.ow (b6 x as)]:=g1;have ms:(specs fs).m[mi]? = some g.spec:=by rw [fQ,W];rfl
 have LQ:∃ds,n8 σ es=some ds/\n7 es=true:=by
  cases g1 (0,0) with
  |mk _ b c _=>exact av _ b c
 refine ar LQ λds e1 e2=>?_;clear LQ;cases a1 with
 |@mk N0 _ F N S=>
  refine gk (S.mH hA.ok l1 e1) λbF zz S' zz r2=>?_;have hN:=At.Lp (φ:=K) hA.ok F N;refine n1 (C.P.and bF) K.1 vs ds (λx as=>k [.ow (b6 x as)]) {s with heap:=h1,toks:=t1} Q F (λa o q=>hN a o (q.imp_right (S'.sub _))) (r2 e2) (λx=>?_) λx as O T h' tk F' kp hO nd hI hk=>?_
  ·cases g1 x with
   |mk a b c d=>
    rw [e1] at b;cases b;cases ms.symm.trans a
    exact d
  ·refine cg (ed.mp (show ((adr O)++(adr T)).Nodup by refine ae (bH ..).symm <| nd)) λnO nT mr=>?_
   have off:∀p∈O++T,∀q∈N0,p.1≠q.1:=λp U q V e=>by have:=(hO p U).2;rw [e,(N q V).1] at this;exact El.sn this
   have S2:=S'.grow nT λp U=>off p (bj _ U);refine hQ _ (.ow (b6 x as)) h' tk (.mk (N:=O++(T++N0)) (ZL:=T++bF) F' (λp U=>?_) ?_) hk
   ·rw [<-bt] at U;rcases bT.mp U with U | U
    ·exact ⟨(hO p U).1,uL F (hO p U).2⟩
    ·exact ⟨kp _ _ (N p U).2.1 (N p U).1,(N p U).2⟩
   ·cases S2 with
    |@mk Os Ot us VC pm rs ln mp tm hx=>
     refine .mk ?_ ((pm.append_left O).trans (by rw [bt])) rs ln mp (bQ O Ot rfl ⟨uO,uO _ _ _ _ (λa o q=>q.elim (λq=>q.imp_right λq=>bj _ q) λq=>.inr (bE _ q)) hI⟩ (tm.mono (λzz h=>bj _ h) λzz h=>h)) hx
     refine (?_:(pI _ _).Nodup);refine ae (bH ..) <| ed.mpr (aL nO VC (λa ha b hb e=>?_));subst e;refine ar (bf.mp hb) λq V eq=>?_;rcases bT.mp V with V | V
     ·exact mr a ha a (bf.mpr (av q V eq)) rfl
     ·refine ar (bf.mp ha) λp U ep=>off p (bE _ U) q V (ep.trans eq.symm)
theorem VD (W:Al C fs) (U:fs.m[mi]? = some g/\g.nm=nm) (hr:qm r) (hR:aX C fs ir r) (hE:fK C fs ia xs) (st:∀y∈xs,notStar y=true) (hl:xs.length<30) (he:(ap.endLine == pp.line)=true):aX C fs (.yb mi ir ia) (.Call (.Attribute r nm ap) xs [] pp):=by
 refine El.aa U ?_;clear U;intro U bx;subst bx;refine cg (W.g.mt mi g U) λm1 m2 zz=>λσ k h τ K Q s a hQ=>kr st hl hr he (hR σ _ h τ K _ s a λv e h1 t1 a1 g1=>?_);cases (show Dp _ e from g1) with
 |@mk x as g5=>
  have a':=a1;cases a' with
  |mk F N S=>cases S.b6 with
   |@mk es n rest ha V _ _=>
    refine m2.1 _ _ _ _ _ _ _ _ _ _ ⟨F,(N _ (V.mem_iff.mpr (.head _))).1,(N _ (V.mem_iff.mpr (.tail _ (.head _)))).1,ha⟩ (m2.2 _ _ _ _ _ _ F.keep st (hE σ _ g5 _ _ K _ _ a1 λvs ws h2 t2 l2 a2 g2=>⟨a2.keeps,?_⟩));cases g2 with
    |@mk ds sp e1 e2 e3 g3=>
     have e1:(specs fs).m[mi]? = some sp:=e1;rw [show (specs fs).m[mi]? = some g.spec by rw [fQ,U];rfl] at e1
     cases e1
     cases a2 with
     |mk F2 N2 S2=>
      refine gk (S2.mH W.ok l2 e2) λbF zz S3 zz r2=>?_;clear g5 g1 a1 S S2;cases S3.b6 with
      |@mk es n rest ha V hz S4=>
       refine LP (s:={s with heap:=h2,toks:=t2}) W.ok m1 F2 N2 S3.nd V hz ha (r2 e3) g3 λu d ij O' T h' tk F' N' eO nT hd hI hu hk=>hQ u _ h' tk (.mk (N:=T++rest) F' (λq hq=>N' q ?_) ((S4.grow nT λp hp q hq=>hd p hp q (V.mem_iff.mpr (.tail _ (.tail _ hq)))).dR hu)) hk
       exact (bT.mp hq).elim (bE _) λh=>bj _ (bj _ h)
theorem VE (U:Al C fs) {f1 f2 f3 LR:ag}{p1 p2 p3 p4 p5 p6:aB}(e1:f1=ag.ofString "list") (e2:f2=ag.ofString "map") (e3:f3=ag.ofString "Match") (e4:LR=ag.ofString "_make") (b1:dZ C.env.scope f1=true) (b2:dZ C.env.scope f2=true) (b3:dZ C.env.scope f3=true) (hx:C.xs[i]? = some xn):aX C fs (.yc i) (.Call (.Name f1 p1) [.Call (.Name f2 p2) [.Attribute (.Name f3 p3) LR p4,.Name xn xp] [] p5] [] p6):=by
 subst e1 e2 e3 e4;intro σ k h τ K Q s a hQ;cases (show De σ i (λrs=>k [.ow (.dl rs)]) from h) with
 |@mk bl h1 h2 h3=>cases a with
  |@mk N0 _ F N S=>
   refine El.aa (qe b1) λa1 a2=>El.aa (qe b2) λa3 a4=>El.aa (qe b3) λa5 a6=>qX (U.g.gl (ag.ofString "list") (.tail _ (.tail _ (.tail _ (.tail _ (.head _))))) _ rfl C.env p1 _ _ s U.e1 U.e2 U.e3 a1 a2 F (yP C.env p6 _ [] _ s (cm.mpr rfl) (je ?_ (dF rfl))));refine qX (U.g.gl (ag.ofString "map") (.tail _ (.tail _ (.tail _ (.tail _ (.tail _ (.tail _ (.tail _ (.head _)))))))) _ rfl C.env p2 _ _ s U.e1 U.e2 U.e3 a3 a4 F (yP C.env p5 _ [.Name xn xp] _ s (cz.mpr ⟨rfl,cm.mpr rfl⟩) (je ?_ (dF rfl))));refine Hh (U.g.df.gm C.env p3 _ _ s U.e1 U.e2 U.e3 a5 a6 F (U.g.df.mm.get F N λq h' tk W N' lt=>?_));have S':=S.yx (o:=sb) lt;refine ar (S'.slot h1 λe=>nomatch e) λv r zz=>je (U.ok.ld xp hx W N' S'.eP r (j5 ⟨W.keep,?_⟩)) (dF rfl);cases S'.part (i:=i) (p:=[]) (u:=.dl (bl.map p8)) (by refine ae (h1 ..) ?_;rfl) λe=>nomatch e with
   |mk r2 pv rp pm _=>
    cases U.ok.uq r r2
    clear r r2;cases (show _=v from pv);refine dM rp λl n ws bx cu hd=>?_;clear rp;subst bx;subst cu;have at':=At.bU U.ok W N';refine cK (U.g.df.mm.run (s:={s with heap:=h',toks:=tk}) (Q:=Q) W N' (.head _) (λa o p=>at' a o (p.imp_right (S'.sub _))) (N' _ (pm.mem_iff.mpr (.head _))).1 hd h2 λD h2 se fI n' T F2 kp hD nD hT nT hw=>?_) (λmv gz h=>j5 h) λzz zz e=>e
    have off:∀p∈T,∀q'∈(q,sb)::N0,p.1≠q'.1:=λp V q' hq e=>by have:=(hT p V).2.1;rw [e,(N' q' hq).1] at this;exact El.sn this
    refine hQ _ (.ow (.dl (bl.map eG))) h2 se (.mk F2 (N:=(D,aQ fI n')::(T++(q,sb)::N0)) (λp V=>?_) ((S'.grow nT off).rY (λp V e=>?_) (.jo (hw.mono λa o p=>.inr (bE _ p))))) h3
    ·rcases aT.mp V with rfl | V
     ·exact ⟨hD,uL W nD⟩
     ·rcases bT.mp V with V | V
      ·exact ⟨(hT p V).1,uL W (hT p V).2.1⟩
      ·exact ⟨kp _ _ (N' p V).1,(N' p V).2⟩
    ·rcases bT.mp V with V | V
     ·exact (hT p V).2.2 e
     ·have:=nD;rw [<-show p.1=D from e,(N' p V).1] at this;exact El.sn this
end
section
variable {P P':Fz}{v:af}{o:ay}{g:Int->Option ah}{n:Nat}{S:Int->Bool}
theorem uA.mono {x:Option af}(h:uA P x y) (U:∀a o,P a o->P' a o):uA P' x y:=by
 cases y with
 |none=>exact h
 |some d=>exact h.imp λv h=>⟨h.1,h.2.mono U⟩
theorem ke.mono (h:ke P n g o) (U:∀a o,P a o->P' a o):ke P' n g o:=⟨h.d.imp λkv h=>(aL h.1 h.2.1 (λi=>(h.2.2 i).mono U))⟩
theorem LS:rP (lx n g):=λzz zz zz zz U q=>q.imp λa q=>q.imp λo q=>(cB q.1 q.2.1 q.2.2.1 (q.2.2.2.mono U))
theorem mI {r:Fz->af->Prop}(h:∀(P P':Fz) v,(∀a o,P a o->P' a o)->r P v->r P' v):rP λP O v=>O=[]/\r P v:=λzz zz zz zz U q=>⟨q.1,h _ _ _ U q.2⟩
theorem uP:∀(P P':Fz) v,(∀a o,P a o->P' a o)->fU g P v->fU g P' v:=λzz zz zz U q=>q.imp λa q=>q.imp λo q=>q.imp λn q=>(cB q.1 (U _ _ q.2.1) q.2.2.1 (q.2.2.2.mono U))
theorem LU:∀(P P':Fz) v,(∀a o,P a o->P' a o)->jM S P v->jM S P' v:=λzz zz zz U q=>q.imp λa q=>q.imp λo q=>(aL q.1 (U _ _ q.2.1) q.2.2)
theorem VF:∀(P P':Fz) v,(∀a o,P a o->P' a o)->n6 g P v->n6 g P' v:=λzz zz zz U q=>by
 cases q with | mk a b c d=>exact .mk (U _ _ a) (U _ _ b) c (d.mono U)
theorem VG:∀(P P':Fz) v,(∀a o,P a o->P' a o)->p7 S P v->p7 S P' v:=λzz zz zz U q=>by
 cases q with | mk a b c=>exact .mk (U _ _ a) (U _ _ b) c
end
section
variable {C:Cx}{fs:bX}{σ:List Tr}{τ:List bg}{K:Fs}{s:ai}{Q:af->ai->Prop}{i j:Nat}{xn nm:ag}{x:ak×ak}{as:List bu}{m:ag->Option af}{N KL ZL:Led}{v:af}
theorem Sp.lK (S:Sp C σ τ m N KL ZL) (hi:σ[i]? = some (b7 r)):∃v,C.rd m KL i v/\r (C.P.and ZL) v:=by
 cases S.part (i:=i) (p:=[]) (u:=b7 r) (by refine ae (hi ..) ?_;rfl) λe=>nomatch e with
 |mk rd U V _ _=>
  cases (show _=_ from U)
  exact av _ rd V.2.2
theorem Sp.yX {o:ay}(S:Sp C σ τ m N KL ZL) (lt:∀p∈N,p.1<D) (U:rP λP O v=>O=[]/\r P v) (h:r (C.P.and ((D,o)::ZL)) (.ref D)):Sp C σ ((.ref D,.ow (b7 r))::τ) m ((D,o)::N) KL ((D,o)::ZL):=(S.yx lt).oa (aL U rfl h)
theorem LV {id:String}(F:Fr C.h₀ C.L h m) (U:aI C.h₀ C.L h N):Fr C.h₀ C.L (h.push (gQ id b)) m/\aI C.h₀ C.L (h.push (gQ id b)) ((h.objs.size,gQ id b)::N)/\∀p∈N,p.1<h.objs.size:=
 (aL (F.push _) (U.push F _) (λp V=>aq.lt_size (U p V).1))
theorem VH (hC:C.Ok) {S:Int->Bool}{o:ay}(F:Fr C.h₀ C.L s.heap m) (hN:aI C.h₀ C.L s.heap N) (U:Sp C σ τ m N KL ZL) (hp:C.P.and ZL a o) (ho:yh S o)
  (hQ:∀q h' tk N' bF,Fr C.h₀ C.L h' m->aI C.h₀ C.L h' N'->Sp C σ ((.ref q,.ow (b7 (p7 S)))::τ) m N' KL bF->Q (.ref q) {s with heap:=h',toks:=tk}):Wp C (pH (.ref a) "__contains__" true) Q s:=by
 have hx:=At.bU hC F hN a o (hp.imp_right (U.sub _));refine CN (ho C.pg C.w s.heap a hx) λn o' es ep st V hc W zz=>?_;cases hx.symm.trans V
 clear V;obtain ⟨c,od,dt,sl⟩:=o;refine cg hc λbx cu jl=>?_;clear hc;subst bx;subst cu;subst jl;simp only at W;subst W;obtain ⟨hh,g,d,t,os⟩:=s;refine cg (LV (id:="set.__contains__") (b:=a) F hN) λF' N' lt=>?_;exact T3 hx (hQ _ _ _ _ _ F' N' (U.yX lt (mI VG) (.mk (.inr (.head _)) (hp.imp_right (wU _)) ho)))
theorem VI (hC:C.Ok) {g:Int->Option ah}{o:ay}{n:Nat}(F:Fr C.h₀ C.L s.heap m) (hN:aI C.h₀ C.L s.heap N) (U:Sp C σ τ m N KL ZL) (hp:C.P.and ZL a o) (lo:(a == wC)=false) (ho:ke (C.P.and ZL) n g o)
  (hQ:∀q h' tk N' bF,Fr C.h₀ C.L h' m->aI C.h₀ C.L h' N'->Sp C σ ((.ref q,.ow (b7 (n6 g)))::τ) m N' KL bF->Q (.ref q) {s with heap:=h',toks:=tk}):Wp C (pH (.ref a) "get" true) Q s:=by
 have hx:=At.bU hC F hN a o (hp.imp_right (U.sub _));refine ar ho.d λkv hd zz=>aO (hd C.pg C.w) λes ep hc V zz=>?_;clear hd;obtain ⟨c,od,dt,sl⟩:=o;refine cg hc λW cu jl=>?_;clear hc;subst W;subst cu;subst jl;simp only at V;subst V;obtain ⟨hh,gg,d,t,os⟩:=s;refine cg (LV (id:="dict.get") (b:=a) F hN) λF' N' lt=>?_;exact T8 hx (hQ _ _ _ _ _ F' N' (U.yX lt (mI VF) (.mk (.inr (.head _)) (hp.imp_right (wU _)) lo (ho.mono λa o q=>q.imp_right (wU _)))))
theorem LW {P:Fz}{x:Option af}{v:af}(h:uA P x y) (V:Dat P v d):Dat P (x.getD v) (y.getD d):=by
 cases y with
 |none=>refine ae (show x=none from h) <| V
 |some d=>refine ar h λu U hu=>?_;clear h;subst U;exact hu
theorem LX {E:af->ai->Prop}{s:ai}{id:String}{q:ak}{pos:aB}{Q:af->ai->Prop}
  (h:aA M A (qW (iT pos (gf (e::rest) env))) (λvs V=>(∃a,C0 id a q V.heap)/\aA M A (call (.ref q) (first++vs)) Q E V) E s)
  (W:gf (e::rest) env=(false,b5 e env)::gf rest env) (U:(iT pos (gf rest env)).any (·.1)=false) :
  aA M A (Hd pos (.ref q) first (iT pos (gf (e::rest) env)) []) Q E s:=by
 rw [W] at h ⊢;exact callWith_of (P:=λh=>∃a,C0 id a q h) (by refine (?_:((false || (iT pos (gf rest env)).any (·.1)) || false)=false);refine ae (U ..) ?_;rfl) (λh X=>X.elim λa X=>Uq h X) (evalArgs_plain h)
variable {ia:SE}{ea:Expr}{xs:List Expr}{p xp ap:aB}
theorem VJ (hA:Al C fs) (hx:C.xs[i]? = some xn) (st:∀y∈ea::xs,notStar y=true) (hE:fK C fs ia (ea::xs)) {k:List Ev->Prop}(h:mh σ i (λg=>den (specs fs) ia σ λvs=>lC σ vs λc d=>k [aR ((g c).getD d)]) λS=>den (specs fs) ia σ λvs=>qb σ vs λc=>k [aR (.bool (S c))])
  (a:At C σ τ K s.heap) (hQ:Nx C σ τ K s Q λe=>k [e]):Wp C (b5 (.Call (.Name xn xp) (ea::xs) [] p) C.env) Q s:=by
 cases h with
 |@get g h1 h2=>cases a with
  |mk F N S=>
   refine ar (S.lK h1) λv rd r=>?_;cases r with
   |@mk q a o n b1 b2 b3 b4=>
    refine qX (hA.ok.ld xp hx F N S.eP rd (LX (id:="dict.get") (first:=[]) (hE σ _ h2 p τ K _ s (.mk F N S) λvs es h' tk l1 a1 g2=>?_) (dF (st _ (.head _))) (mG λy hy=>st y (.tail _ hy))))
    cases g2 with
    |@mk c d e1 e2 g3=>cases a1 with
     |mk F2 N2 S2=>
      refine gk (S2.mH hA.ok l1 e1) λbF zz S3 zz r2=>ar (S3.lK h1) λv' U r'=>?_;cases hA.ok.uq rd U
      have V:=At.bU hA.ok F2 N2;refine aO ((r2 e2).ig) λv1 vr W d1 dr=>?_;clear l1 S2 r2;subst W;refine aO dr.ig λv2 DV W d2 qo=>?_;subst W;obtain rfl:=qo.mf;cases d1
      clear b1 rd U;cases r' with
      |@mk _ a' o' n' c1 c2 c3 c4=>
       have hq:=V _ _ (c1.imp_right (S3.sub _));have ho:=V _ _ (c2.imp_right (S3.sub _));refine ef c4.d λkv hd zz ht=>⟨⟨a',hq⟩,Uo (s:={s with heap:=h',toks:=tk}) hq (aq.dictOf_iff.mpr (av o' ho (hd C.pg C.w))).mapOf c3 (hQ _ _ h' _ (.mk F2 N2 (S3.dR (LW (ht c) d2))) g3)⟩
 |@has S0 h1 h2=>cases a with
  |mk F N S=>
   refine ar (S.lK h1) λv rd r=>?_;cases r with
   |@mk q a o b1 b2 b4=>
    refine qX (hA.ok.ld xp hx F N S.eP rd (LX (id:="set.__contains__") (first:=[]) (hE σ _ h2 p τ K _ s (.mk F N S) λvs es h' tk l1 a1 g2=>?_) (dF (st _ (.head _))) (mG λy hy=>st y (.tail _ hy))))
    cases g2 with
    |@mk c e1 e2 g3=>cases a1 with
     |mk F2 N2 S2=>
      refine gk (S2.mH hA.ok l1 e1) λbF zz S3 zz r2=>ar (S3.lK h1) λv' U r'=>?_;cases hA.ok.uq rd U
      have V:=At.bU hA.ok F2 N2;refine aO ((r2 e2).ig) λv1 vr W d1 dr=>?_;clear l1 S2 zz r2;subst W;obtain rfl:=dr.mf;cases d1
      clear b1 rd U;cases r' with
      |@mk _ a' o' c1 c2 c4=>
       have hq:=V _ _ (c1.imp_right (S3.sub _));have ho:=V _ _ (c2.imp_right (S3.sub _));refine El.ea (c4 C.pg C.w h' a' ho) λn hs=>⟨⟨a',hq⟩,Up (s:={s with heap:=h',toks:=tk}) hq hs (hQ _ _ h' _ (.mk F2 N2 (S3.dR (.bool _))) g3)⟩
theorem DW {α:Type}{l:List α}{i:Nat}{x:α}(h:l[i]? = some x):l.set i x=l:=by
 obtain ⟨hl,e⟩:=dU.mp h;refine ae (e ..).symm <| wG hl
theorem Sp.lay (S:Sp C σ τ m N KL ZL) (hi:σ[i]? = some t) (U:t≠.un) (h:∀O v,Rep (C.P.and ZL) t O v->Rep (C.P.and (O++ZL)) t' [] v):∃bF,Sp C (σ.set i t') τ m N KL bF:=by
 cases S with
 |@mk Os Ot vs nd pm rs ln mp V hx=>
  refine fS (rs.focus hi) λw A B e1 r e3 f=>?_;have hz:∀q∈ZL,q∈A++ZL:=λzz h=>bj _ h;refine ar (f (P':=C.P.and (A++ZL)) (v':=w) (t':=t') (O':=[]) (and_mono hz) (h A w r)) λO' g1 g2=>?_;rw [DW e1] at g1;refine ⟨A++ZL,.mk (Os:=O') (Ot:=Ot) nd (pm.trans (.append_left _ ?_)) g1 ⟨by refine ae (tE ..) <| ln.1,ln.2⟩ (λj x y a b c=>?_) (V.mono (λzz h=>h) hz) λq h=>hz q (hx q h)⟩
  ·refine (e3.append_right _).trans <| ae (bt ..) <| (cE _ _ _).trans ((ra B (cE _ _ _)).trans (g2.symm.append_right _))
  ·by_cases e:j=i
   ·clear f g1 b;subst e;rw [e1] at a;cases a;exact mp j _ t e1 hi U
   ·have W:i≠j:=λq=>e q.symm;rw [q9 W] at b;exact mp j x y a b c
inductive LY (C:Cx) (σ:List Tr) (τ:List bg) (m:ag->Option af) (N KL ZL:Led) (i n:Nat) (g:Int->Option ah):Prop
 |mk {a:ak}{o:ay}{rest:Led}:C.rd m KL i (.ref a)->N.Perm ((a,o)::rest)->(∀q∈rest,q.1≠a)->(∀q∈ZL,q∈rest)->ke (C.P.and ZL) n g o->(∀o' n' g',ke (C.P.and ZL) n' g' o'->Sp C (σ.set i (.fr (lx n' g'))) τ m ((a,o')::rest) KL ZL)->LY C σ τ m N KL ZL i n g
theorem Sp.od {n:Nat}{g:Int->Option ah}(S:Sp C σ τ m N KL ZL) (hi:σ[i]? = some (.fr (lx n g))):LY C σ τ m N KL ZL i n g:=by
 cases S with
 |@mk Os Ot vs nd pm rs ln mp tm hx=>
  refine fS (rs.focus hi) λv A B e1 bx e3 f=>?_;obtain ⟨_,a,o,rfl,rfl,lo,hd⟩:=bx;have pA:N.Perm ((a,o)::(Ot++(B++(KL++ZL)))):=pm.trans ((((e3.append_right (KL++ZL)).append_left Ot).trans (by refine ae (bt ..) <| cE ..)))
  have U:=(pA.map (·.1)).nodup_iff.mp nd;refine .mk (mp i _ _ e1 hi λe=>nomatch e) pA (λq hq e=>(bR.mp U).1 (bf.mpr (av q hq e))) (λq h=>bj _ (bj _ (bj _ h))) hd λo' n' g' iJ=>ar (f (P':=C.P.and ZL) (v':=.ref a) (t':=.fr (lx n' g')) (O':=[(a,o')]) (λzz zz h=>h) ⟨LS,a,o',rfl,rfl,lo,iJ⟩) λyW g1 g2=>?_;rw [DW e1] at g1;refine .mk U (Os:=yW) (Ot:=Ot) ?_ g1 ⟨by refine ae (tE ..) <| ln.1,ln.2⟩ (λj y z b1 c1 d1=>?_) (tm.keep (λb ws hq=>?_) λzz h=>h) hx
  ·refine (?_:([(a,o')]++(Ot++(B++(KL++ZL)))).Perm _);refine (cE _ _ _).trans (.append_left Ot ?_);refine ae (bt ..).symm <| g2.symm.append_right _
  ·by_cases e:j=i
   ·clear f g1 c1;subst e;rw [e1] at b1;cases b1;exact mp j _ _ e1 hi λe=>nomatch e
   ·have e':i≠j:=λq=>e q.symm;rw [q9 e'] at c1;exact mp j y z b1 c1 d1
  ·refine ar hd.d λkv hk zz=>aO (hk C.pg C.w) λes ep hc V zz=>?_;have W:∀{u:ay},(b,u)∈N->u.data≠o.data->(b,u)∈(a,o')::(Ot++(B++(KL++ZL))):=λh n1=>(aT.mp (pA.mem_iff.mp h)).elim (λe=>(n1 (congrArg ay.data (wJ e).2)).elim) (wU _);rcases hq with ⟨k,h⟩ | h
   ·exact .inl (av k (W h.1 (by refine El.ea h.2.d λzz d=>ae (V ..) (ae (d ..) ?_);exact λe=>nomatch e)) h.2)
   ·exact .inr (W h (by refine ae (V ..) <| λe=>nomatch e))
theorem VK (U:Al C fs) (hx:C.xs[i]? = some xn) (hn:bU[j]? = some nm) {z:ag}(hz:z=ag.ofString "__contains__") {k:List Ev->Prop}(h:yk σ i j λe=>k [e]) (a:At C σ τ K s.heap) (hQ:Nx C σ τ K s Q λe=>k [e]):Wp C (b5 (.Attribute (.Attribute (.Name xn xp) nm p) z ap) C.env) Q s:=by
 subst hz;cases h with
 |mk h1 h2 h3=>cases a with
  |mk F N S=>cases S.inst h1 with
   |@mk es n rest r V W _ _=>
    obtain ⟨e,he,zz,zz,b,o,ev,hp,ho⟩:=V.get h2;refine Attribute_any_ (Hh (U.ok.ld xp hx F N S.eP r (U.g.dO.get ⟨F,(N _ (W.mem_iff.mpr (.head _))).1,(N _ (W.mem_iff.mpr (.tail _ (.head _)))).1,V⟩ hn he ?_)));refine ae (ev ..) <| VH U.ok F N S hp ho λq h' tk N' bF F' n' S'=>hQ _ _ h' tk (.mk F' n' S') h3
theorem VL (V:Al C fs) (hx:C.xs[i]? = some xn) {z:ag}(hz:z=ag.ofString "get") {k:List Ev->Prop}(h:yl σ i λe=>k [e]) (a:At C σ τ K s.heap) (W:Nx C σ τ K s Q λe=>k [e]):Wp C (b5 (.Attribute (.Name xn xp) z ap) C.env) Q s:=by
 subst hz;cases h with
 |mk h1 h3=>cases a with
  |mk F N S=>
   refine CM (S.lK h1) λv rd b o n U hp lo ho=>?_;subst U;exact Hh (V.ok.ld xp hx F N S.eP rd (VI V.ok F N S hp lo ho λq h' tk N' bF F' n' S'=>W _ _ h' tk (.mk F' n' S') h3))
theorem VM (V:Al C fs) (hx:C.xs[i]? = some xn) {z:ag}(hz:z=ag.ofString "get") (st:∀y∈ea::xs,notStar y=true) (hl:(ea::xs).length<30) (he:(ap.endLine == p.line)=true) (hE:fK C fs ia (ea::xs)) {k:List Ev->Prop}(h:ym σ i λg=>den (specs fs) ia σ λvs=>lC σ vs λc d=>k [aR ((g c).getD d)])
  (a:At C σ τ K s.heap) (hQ:Nx C σ τ K s Q λe=>k [e]):Wp C (b5 (.Call (.Attribute (.Name xn xp) z ap) (ea::xs) [] p) C.env) Q s:=by
 subst hz;cases h with
 |@mk g h1 h2=>cases a with
  |mk F N S=>
   refine CM (S.lK h1) λv rd b o n U hp lo ho=>?_;subst U;have hb:=At.bU V.ok F N _ _ (hp.imp_right (S.sub _));refine ef ho.d λkv hd zz zz=>?_;have hD:=(aq.dictOf_iff.mpr (av o hb (hd C.pg C.w))).mapOf;refine kr st hl (λzz zz zz=>rfl) he (V.ok.ld xp hx F N S.eP rd (Rx hD.typeIs aef aeg PySem.F.type_dict_get hD.noDict (tG (hE σ _ h2 p τ K _ s (.mk F N S) λvs es h' tk l1 a1 g2=>?_) (dF (st _ (.head _))) (mG λy hy=>st y (.tail _ hy)))));cases g2 with
   |@mk c d e1 e2 g3=>cases a1 with
    |mk F2 N2 S2=>
     refine gk (S2.mH V.ok l1 e1) λbF zz W zz r2=>CM (W.lK h1) λv' VN b' o' n' ev c2 c3 c4=>?_;cases (V.ok.uq rd VN).trans ev
     refine aO ((r2 e2).ig) λv1 vr U d1 dr=>?_;clear l1 S2 r2;subst U;refine aO dr.ig λv2 DV U d2 qo=>?_;subst U;obtain rfl:=qo.mf;cases d1
     have lJ:=At.bU V.ok F2 N2 _ _ (c2.imp_right (W.sub _));refine ef c4.d λkv' iJ zz ht=>?_;have hM:=(aq.dictOf_iff.mpr (av o' lJ (iJ C.pg C.w))).mapOf;exact call_meetsIn (s:={s with heap:=h',toks:=tk}) aeg hM.typeIs PySem.F.entry_dict_get (PySem.F.args_dict_get_3 _ _ _) (ad2 (jc C.pg C.w) _ (wF C.pg C.w _ _) c3 _) (av _ hM (hQ _ _ h' _ (.mk F2 N2 (W.dR (LW (ht c) d2))) g3))
theorem LZ (V:Al C fs) {fz:Bool}{k:List Ev->Prop}(h:k [.ow (Dd fz)]) (a:At C σ τ K s.heap) (W:Nx C σ τ K s Q λe=>k [e]):Wp C (b5 (.Dict [] [] p) C.env) Q s:=by
 cases a with
 |mk F N S=>
  refine newDict_K F N V.g.df.nl λd h' o U N' lt lo zz zz hi zz=>?_;have hd:∀P:Fz,ke P 0 (λzz=>none) o:=λP=>⟨[],λzz zz=>yg hi,aK _,λzz=>rfl⟩;refine W _ (.ow (Dd fz)) h' _ ?_ h;clear h;cases fz with
  |true=>exact .mk U N' (S.yX lt (mI uP) ⟨_,_,0,rfl,.inr (.head _),lo,hd _⟩)
  |false=>exact .mk U N' (S.push lt ⟨LS,_,_,rfl,rfl,lo,hd _⟩)
end
section
variable {C:Cx}{fs:bX}{σ:List Tr}{τ:List bg}{K:Fs}{s:ai}{Q:af->ai->Prop}{i j:Nat}{xn nm z:ag}{m:ag->Option af}{N KL ZL:Led}{v:af}{p fp xp ap:aB}
theorem VO (led:Bool):yh (λzz=>false) {cls:=.type "set",dict:=none,data:=.set #[] 0 (.fresh 0 0 led)}:=λpg w h a e=>⟨0,(setObjOf_fresh (knd:=jc pg w) led).setOf e (by decide)⟩
theorem VP (U:Al C fs) (hz:z=ag.ofString "set") (hb:dZ C.env.scope z=true) {k:List Ev->Prop}(h:k [.ow (b7 (jM λzz=>false))]) (a:At C σ τ K s.heap) (V:Nx C σ τ K s Q λe=>k [e]):Wp C (b5 (.Call (.Name z fp) [] [] p) C.env) Q s:=by
 subst hz;cases a with
 |mk F N S=>
  refine El.aa (qe hb) λW h2=>qX (U.g.gl (ag.ofString "set") (by decide +kernel) (.type "set") rfl C.env fp _ _ s U.e1 U.e2 U.e3 W h2 F (PySem.callWith_type rfl (PySem.evalArgs_none (kse_new F N λD h' led F' N' lt zz zz=>?_))))
  exact V _ (.ow (b7 (jM λzz=>false))) h' _ (.mk F' N' (S.yX lt (mI LU) (bQ _ _ rfl (.inr (.head _)) (VO led)))) h
end
theorem il.mono {P P':Fz}{a:ak}{n:Nat}{g:Int->Option (List ah)}{l:Option (Int×ak)}{o:ay}{ls:Led}{kv:List (Int×af)}(h:il P a n g l o ls kv) (U:∀a o,P a o->P' a o):il P' a n g l o ls kv:=
 ⟨h.lo,h.d,h.n,h.no,λc ds e=>by
  refine dM (h.ye c ds e) λb ws k V W h3=>(iD b ws k V W (h3.mono U)),h.inj,h.pt⟩
theorem yY:rP (gw a n g l):=λzz zz zz zz U q=>⟨q.1,by
 refine ma q.2 λo ls kv e h=>(Kc o ls kv e (h.mono U))⟩
theorem il.kc {P:Fz}{a:ak}{n:Nat}{g:Int->Option (List ah)}{l:Option (Int×ak)}{o:ay}{ls:Led}{kv:List (Int×af)}{ZL:Led}(h:il (P.and ZL) a n g l o ls kv):ke (P.and (((a,o)::ls)++ZL)) n (λc=>(g c).map .list) o:=
 ⟨kv,h.d,h.n,λc=>by
  cases e:g c with
  |none=>exact h.no c e
  |some ds=>
   refine dM (h.ye c ds e) λb ws k U V W=>⟨_,U,.lst (.inr (bE _ (.tail _ V))) (W.mono λa o q=>q.imp_right (bj _))⟩⟩
section
variable {C:Cx}{σ:List Tr}{τ:List bg}{φ:Fs}{i:Nat}
theorem VQ:∀(P P':Fz) v,(∀a o,P a o->P' a o)->r9 a g P v->r9 a g P' v:=λzz zz zz U q=>⟨q.1,uP _ _ _ U q.2⟩
theorem cY.turn {P:Fz}(h:∀v,lu P a0 v->lu P a1 v):∀{es:List eY}{ns:List ag}{as:List bu}{j:Nat},cY P es ns as->as[j]? = some a0->cY P es ns (as.set j a1):=@λA B C D F G=>match A,B,C,D,F,G with
 |[],zz,as,j,x,e=>by
  rw [show as=[] from x] at e;exact El.ns e
 |zz::U,[],V,W,x,zv=>(show False from x).elim
 |zz::U,V::W,[],zv,x,zu=>(show False from x).elim
 |zz::U,V::W,a::as,0,⟨x1,x2,x3,x4⟩,e=>by
  clear G;cases e;exact cB x1 x2 (h _ x3) x4
 |zz::U,V::W,a::as,j+1,⟨x1,x2,x3,x4⟩,e=>(cB x1 x2 x3 (cY.turn h x4 (j:=j) e))
theorem VR {n j d:Nat}(ne:d≠i) (hi:σ[i]? = some (b6 x as)) (hj:as[j]? = some (.rf a)) (hd:σ[d]? = some (.fr (gw a n g l))) (A:At C σ τ φ h) :
  At C ((σ.set d (b7 (r9 a λc=>(g c).map .list))).set i (b6 x (as.set j (.tr (b7 (fU λc=>(g c).map .list)))))) τ φ h:=by
 cases A with
 |mk F N S=>
  obtain ⟨bF,S'⟩:=S.lay (t':=b7 (r9 a λc=>(g c).map .list)) hd (λe=>nomatch e) λO v r=>by
   refine uv r λzz V o ls kv W T=>?_;clear r;subst V;subst W;exact ⟨mI VQ,rfl,rfl,a,o,n,rfl,(.inr (.head _)),T.lo,T.kc⟩
  refine ar (S'.lK (i:=d) (Hg (dU.mp hd).1)) λw rd r=>?_;have yZ:(σ.set d (b7 (r9 a λc=>(g c).map .list)))[i]? = some (b6 x as):=by rw [q9 ne];exact hi
  cases S'.inst yZ with
  |@mk es m rest rd2 ha pN hz U=>
   refine .mk F (fL N pN) (U (T:=[]) (O':=[(x.1,gV 242 x.2),(x.2,gc es m)]) (rL rfl es m rfl (ha.turn (λv q=>?_) hj)) rfl gW λzz h=>El.nm h);refine ae (show v=.ref a from q) <| aL (mI uP) rfl (r.1▸r.2)
end
def L0 (C:Cx) (σ:List Tr) (τ:List bg) (φ:Fs) (h:aq) (fl:iP) (f:Fl):Prop:=match f with
 |.nx=>fl=.next/\At C σ τ φ h
 |.brk=>fl=.brk/\At C σ τ φ h
 |.cnt=>fl=.cont/\At C σ τ φ h
 |.ret e=>∃v,fl=.ret v/\At C σ ((v,e)::τ) φ h
abbrev js (C:Cx) (τ:List bg) (s:ai) (Q:iP->ai->Prop) (k:KS):Prop:=∀fl f aH gA h' tk,L0 C aH τ gA h' fl f->k f aH->Q fl {s with heap:=h',toks:=tk}
def bV (C:Cx) (fs:bX) (c:iS iP) (ir:SS):Prop:=∀(σ:List Tr) (k:KS),aJ (specs fs) ir σ k->∀(τ:List bg) (φ:Fs) (Q:iP->ai->Prop) (s:ai),At C σ τ φ s.heap->cw τ->js C τ s Q k->Wp C c Q s
structure AlS (C:Cx) (fs:bX):Prop extends Al C fs where
 s:C.St
structure bZ (C:Cx) (fs:bX):Prop extends AlS C fs where
 hw:∀i,C.wr i
 bk:C.env.blockKind=.function
 ll:C.env.locals=C.L
section
variable {C:Cx}{fs:bX}{σ:List Tr}{τ:List bg}{φ:Fs}{s:ai}{E T:Expr->Option SE}{H:Hn}{Q:iP->ai->Prop}{k:KS}
theorem sf (h:lF e=true):Ry e t l env=pure false:=by
 cases e <;> first | rfl | exact El.ft h
theorem L3:∀{es:List Expr}{xs:List ag},bB (λe x=>∃p,e=Expr.Name x p) es xs->(jd es env).length=xs.length/\(jd es env).findIdx? (·.1)=none/\∃ps:List aB,ps.length=xs.length/\(jd es env).map (·.2)=(xs.zip ps).map λq=>d7 (.Name q.1 q.2) env:=@λA B C=>match A,B,C with
 |[],zz,h=>by refine ae (show _=[] from h) <| ⟨rfl,rfl,[],rfl,rfl⟩
 |zz::V,[],h=>(show False from h).elim
 |e::r,x::xs,h=>by
  refine El.aa h ?_;clear h;intro U h;obtain ⟨p,rfl⟩:=U;obtain ⟨a,b,ps,c,d⟩:=L3 (env:=env) h;refine ⟨congrArg l5 a,?_,p::ps,congrArg l5 c,(congrArg (_::·) d)⟩;refine (?_:List.findIdx? (·.1) ((false,d7 (.Name x p) env)::jd r env)=none);rw [List.findIdx?_cons,b];rfl
theorem cv.perm {N K ZL:Led}{τ τ':List bg}(e:τ.Perm τ'):∀{O:Led},cv C m N K ZL τ O->∃O',O.Perm O'/\cv C m N K ZL τ' O':=by
 induction e with
 |nil=>exact λx=>(av _ (.refl _) x)
 |cons q _ V=>
  rintro O ⟨A,B,rfl,x,y⟩
  refine ar (V y) λU e y=>⟨A++U,e.append_left A,A,U,rfl,x,y⟩
 |swap a b r=>
  rintro O ⟨A,_,rfl,x,B,D,rfl,y,z⟩
  exact ⟨(B++(A++D)),cE _ _ _,B,_,rfl,y,A,D,rfl,x,z⟩
 |trans _ _ i1 i2=>
  intro O x;refine ar (i1 x) λO1 e1 x=>ar (i2 x) λW e2 x=>av W (e1.trans e2) x
theorem At.perm {τ τ':List bg}(e:τ.Perm τ') (a:At C σ τ φ h):At C σ τ' φ h:=by
 cases a with
 |mk F N S=>cases S with
  |@mk Os Ot vs nd pm rs ln mp U hx=>
   refine ar (U.perm e) λO' V U=>.mk F N (.mk nd (pm.trans (V.append_right _)) rs ln mp U hx)
theorem At.items (hC:C.Ok) (e:rX t=some ts) (a:At C σ ((v,.ow t)::τ) φ h):∃D ws,v=.ref D/\sa h D ws/\ws.length=ts.length/\At C σ (kx ws ts++τ) φ h:=by
 have U:∀{ws:List af}{ds:List ah}{m:ag->Option af}{N K ZL:Led},aU (C.P.and ZL) ws ds->Sp C σ τ m N K ZL->Sp C σ (kx ws (ds.map .dat)++τ) m N K ZL:=by
  intro ws ds m N K ZL;induction ds generalizing ws with
  |nil=>exact λh S=>by cases ws with | nil=>exact S | cons=>exact sz h.len
  |cons d ds ih=>exact λh S=>by cases ws with
   |nil=>exact El.zs h.len
   |cons w ws=>exact (ih h.2 S).dR h.1
 cases a with
 |@mk N0 y5 F N S=>
  cases t with
  |dat d=>cases d with
   |tuple ds=>
    cases e
    refine El.aa S.lD λr W=>aO r.tupI λD ws V p g=>?_;clear S r;subst V;exact i4 D ws rfl (.tup (md _ (At.bU hC F N _ _ (p.imp_right (W.sub _))) rfl 0 rfl)) (by exact ae (g.len ..) (ae (aY ..) rfl)) (.mk F N (U g W))
   |list ds=>
    cases e
    refine El.aa S.lD λr W=>dM r.listI λD ws o V p g=>?_;clear S r;subst V;exact i4 D ws rfl (.Lm (kj (At.bU hC F N) (p.imp_left λp=>p.imp_right (W.sub _)))) (by exact ae (g.len ..) (ae (aY ..) rfl)) (.mk F N (U g W))
   |dict l=>
    refine El.aa S.lD λr W=>?_;clear S;cases r with
    |@mt D dx i j k ti tj tk p=>
     cases e
     exact i4 D [.int i ti,.int j tj,.int k tk] rfl (.mt (At.bU hC F N _ _ (p.imp_right (W.sub _)))) rfl (.mk F N (U (ds:=[.int i,.int j,.int k]) (cB (.int _ _) (.int _ _) (.int _ _) rfl) W))
   |_=>exact El.ns e
  |ot us=>
   cases e
   cases S with
   |@mk Os Ot vs nd pm rs ln mp tm hx=>
    refine aO tm ?_;clear tm;intro Ov Or V cu tm;subst V;obtain ⟨D,ws,Oz,rfl,rfl,g⟩:=cu;refine i4 D ws rfl (.tup (md _ (N.get (pm.mem_iff.mpr (.head _))) rfl 0 rfl)) g.len (.mk (ZL:=(D,lr ws)::y5) F N ?_);have hz:∀q∈y5,q∈(D,lr ws)::y5:=λq h=>.tail _ h;have up:∀{ts:List Tr}{O:Led}{ws:List af}{m:ag->Option af}{N K ZL:Led},bO (C.P.and ZL) ts O ws->cv C m N K ZL (kx ws ts) O:=by
     intro ts;induction ts with
     |nil=>intro O ws m N K ZL h;refine ae (h.2 ..) <| h.1
     |cons t ts ih=>intro O ws m N K ZL h;cases ws with
      |nil=>exact (show False from h).elim
      |cons w ws=>refine aO h λA B e x y=>?_;clear h;exact bQ A B e x (ih y)
    refine .more (T:=[]) nd (pm.trans ?_) rs ln mp (cv.join (tm.mono (λzz h=>h) hz) (up (bO.mono (and_mono hz) _ g))) hx hz;refine (?_:((D,lr ws)::((Oz++Or)++(Os++(φ.2++_)))).Perm _);refine ae (bt ..).symm (ae (bt ..).symm (ae (bt ..).symm (ae (bt ..).symm ?_)));exact nh.symm
  |_=>exact El.ns e
theorem sg {k:List Tr->Prop}:∀{is:Tg}{ts:List Tr}{σ:List Tr},fy is ts σ k->ts.length=is.length:=@λA B C D=>match A,B,C,D with
 |[],[],zz,V=>rfl
 |[],zz::V,W,h=>(show False from h).elim
 |zz::V,[],W,h=>(show False from h).elim
 |q::is,t::ts,σ,h=>by
  refine congrArg l5 ?_;have h:jn σ q.1 q.2 t λU=>fy is ts U k:=h;cases ho:q.2 with
  |fr=>rw [ho] at h;exact (fW (show wD t.data _ from h)).elim λzz h=>sg h.2
  |own=>rw [ho] at h;exact sg (show fy is ts _ k from h)
  |deep=>rw [ho] at h;exact sg (show fy is ts _ k from h)
  |n5=>rw [ho] at h;exact sg (show fy is ts _ k from h)
theorem VS (U:Al C fs) {N:Led}{Q:Unit->ai->Prop}(g:sa s.heap D ws) (F:Fr C.h₀ C.L s.heap m) (V:aI C.h₀ C.L s.heap N) (hn:(jd es C.env).length=ws.length) (hs:(jd es C.env).findIdx? (·.1)=none) (h:∀h',Fr C.h₀ C.L h' m->aI C.h₀ C.L h' N->Wp C (wM ((jd es C.env).map (·.2)) ws) Q {s with heap:=h'}):Wp C (d7 (.Tuple es kk tp) C.env (.ref D)) Q s:=by
 cases g with
 |tup g=>exact unpackN_ F V g U.ok.hh (by exact ae (hn ..) (ae (ee ..) rfl)) hs h
 |mt g=>exact U.g.df.mu _ _ _ _ _ _ _ _ _ _ s F V g hn hs h
 |Lm g=>exact kun_list F V g U.ok.hh (by exact ae (hn ..) (ae (ee ..) rfl)) hs h
theorem L4 (hA:AlS C fs) {k:List Tr->Prop}{Q:Unit->ai->Prop}(hn:bB (λ(q:Nat×Ow) x=>C.xs[q.1]? = some x) is xs) (V:∀q∈is,C.wr q.1) (he:bB (λe x=>∃p,e=Expr.Name x p) es xs) (g:sa s.heap D ws) (hl:ws.length=ts.length) (h:fy is ts σ k) (a:At C σ (kx ws ts++τ) φ s.heap) (ho:cw τ)
  (hQ:∀U W h' tk,At C U τ W h'->k U->Q () {s with heap:=h',toks:=tk}):Wp C (d7 (.Tuple es kk tp) C.env (.ref D)) Q s:=by
 obtain ⟨l1,l2,ps,l3,l4⟩:=L3 (env:=C.env) he;have key:∀{h':aq},At C σ (kx ws ts++τ) φ h'->Wp C (wM ((xs.zip ps).map λq=>d7 (.Name q.1 q.2) C.env) ws) Q {s with heap:=h'}:=λ{h'} a=>by
  have gen:∀{is:Tg}{xs:List ag}{ps:List aB}{ws:List af}{ts:List Tr}{σ:List Tr}{φ:Fs}{s:ai},bB (λ(q:Nat×Ow) x=>C.xs[q.1]? = some x) is xs->(∀q∈is,C.wr q.1)->ps.length=xs.length->ws.length=ts.length->fy is ts σ k->At C σ (kx ws ts++τ) φ s.heap->(∀U W h' tk,At C U τ W h'->k U->Q () {s with heap:=h',toks:=tk})->Wp C (wM ((xs.zip ps).map λq=>d7 (.Name q.1 q.2) C.env) ws) Q s:=by
   intro is;induction is with
   |nil=>
    intro xs ps ws ts σ φ s hx V hp hl h a hQ;refine ae (show xs=[] from hx) ?_;cases ts with
    |cons=>exact h.elim
    |nil=>cases ws with
     |cons=>exact sz hl
     |nil=>exact aed (hQ _ _ _ _ a h)
   |cons q is ih=>
    intro xs ps ws ts σ φ s hx V hp hl h a hQ;cases xs with
    |nil=>exact (show False from hx).elim
    |cons x xs=>cases ps with
     |nil=>exact El.zs hp
     |cons p ps=>cases ts with
      |nil=>exact h.elim
      |cons t ts=>cases ws with
       |nil=>exact El.zs hl
       |cons w ws=>exact aee (assign_Name (ku hA.ok hA.s (V _ (.head _)) hx.1 (show jn σ q.1 q.2 t (λU=>fy is ts U k) from h) a (DT ho) λU W h' tk a' g=>ih hx.2 (λq h=>V q (.tail _ h)) (jC hp) (jC hl) g a' hQ))
  exact gen hn V l3 hl h a hQ
 cases a with
 |mk F N S=>
  refine VS hA.toAl g F N (by exact ae (l1 ..) (ae (hl ..) (ae (sg h ..) (ae (hn.len ..) rfl)))) l2 λh' F' N'=>ae (l4 ..) <| key (.mk F' N' S)
theorem uQ (hA:AlS C fs) {k:List Tr->Prop}{Q:Unit->ai->Prop}(hn:bB (λ(q:Nat×Ow) x=>C.xs[q.1]? = some x) is xs) (V:∀q∈is,C.wr q.1) (he:bB (λe x=>∃p,e=Expr.Name x p) es xs) (e:rX t=some ts) (h:fy is ts σ k) (a:At C σ ((v,.ow t)::τ) φ s.heap) (ho:cw τ)
  (hQ:∀U W h' tk,At C U τ W h'->k U->Q () {s with heap:=h',toks:=tk}):Wp C (d7 (.Tuple es kk tp) C.env v) Q s:=by
 refine nQ (a.items hA.ok e) ?_;clear a;intro D ws bx g hl a;subst bx;exact L4 hA hn V he g hl h a ho hQ
end
theorem DX {es:List Expr}{p:aB}{v:Expr}(h:lF v=true):swapsWithSole [.Tuple es k p] v l env=pure false:=sf (t:=some (.Tuple es k p)) (l:=l) (env:=env) h
noncomputable def DY (ts:List Expr) (v:Expr):Bool:=!(v.ctorIdx == 25) || !(ts.length == 2 || ts.length == 3)
theorem DZ {ts:List Expr}{v:Expr}{p:aB}(h:DY ts v=true):Hi [.Tuple ts k p] v env=pure none:=by
 cases v with
 |Tuple vs k2 p2=>
  have h:(!(ts.length == 2 || ts.length == 3))=true:=h;unfold Hi;exact if_pos (by refine ae (h ..) ?_;rfl)
 |_=>rfl
noncomputable def D0 (ts vs:List Expr) (xs:List ag):Bool:=
 (ts.length == 2 || ts.length == 3) && (vs.length == ts.length && (vs.all notStar && ((ts.all λt=>t.pos.line == (ts.head?.map (·.pos.line)).getD 0) && (xs.eraseDups.length == xs.length && (!(vs.all (foldedForSure 8)) && !(vs.all (constantsAlone 8)))))))
theorem sh (h:wL o k):∃d,o=some d/\k d:=by
 cases o with
 |none=>exact h.elim
 |some d=>exact av d rfl h
section
variable {C:Cx}{fs:bX}{σ:List Tr}{τ:List bg}{φ:Fs}{s:ai}{v:Expr}{p tp xp:aB}{e es:SE}{ts vs:List Expr}{is:Tg}{xs:List ag}{kk:Nat}
theorem L5 (V:bZ C fs) (hn:lF v=true) (hx:C.xs[i]? = some x) (W:aX C fs e v):bV C fs (cJ (.Assign [.Name x xp] v p) C.env) (.asg i o e):=by
 refine λσ k h τ φ Q s a ho hQ=>Rz (W σ _ h τ φ _ s a λw ev h1 t1 a1 g1=>?_) (sf hn);refine dX (qn V.ok (k:=λt U=>jn U i o t λU=>k .nx U) g1 a1 ho) λt U a2 g2=>ku V.ok V.s (V.hw _) hx g2 a2 ho λU gA h' tk a3 g3=>hQ _ .nx _ _ _ _ ⟨rfl,a3⟩ g3
theorem VT (V:bZ C fs) (hn:lF v=true) (hs:DY ts v=true) (n1:bB (λ(q:Nat×Ow) x=>C.xs[q.1]? = some x) is xs) (n2:bB (λe x=>∃p,e=Expr.Name x p) ts xs) (W:aX C fs e v):bV C fs (cJ (.Assign [.Tuple ts kk tp] v p) C.env) (.mA is e):=by
 refine λσ k h τ φ Q s a ho hQ=>RA (W σ _ h τ φ _ s a λw ev h1 t1 a1 g1=>?_) (DX hn) (DZ hs);refine dX (qn V.ok (k:=λt U=>wL (rX t) λts=>fy is ts U λU=>k .nx U) g1 a1 ho) λt U a2 g2=>ar (sh g2) λus e1 g3=>uQ V.toAlS n1 (λq zz=>V.hw q.1) n2 e1 g3 a2 ho λU gA h' tk a3 g3=>hQ _ .nx _ _ _ _ ⟨rfl,a3⟩ g3
theorem L6:∀{ts:List Expr}{xs:List ag},bB (λe x=>∃p,e=Expr.Name x p) ts xs->(∀x∈xs,C.env.kindOf x=some .local)->(ts.all λt=>t.pos.line == l)=true->(ts.filterMap fun
  |.Name id pos=>if C.env.kindOf id == some .local && pos.line == l then some id else none
  |_=>none)=xs:=@λA B D F G=>match A,B,D,F,G with
 |[],xs,h,zz,W=>by refine ae (show xs=[] from h) ?_;rfl
 |zz::W,[],h,zx,zw=>(show False from h).elim
 |e::r,x::xs,⟨V,h⟩,hx,hl=>by
  refine El.ea V λp U=>?_;clear V;subst U;refine El.aa (b0 (show ((Expr.Name x p).pos.line == l && r.all λt=>t.pos.line == l)=true from hl)) λl1 l2=>?_;have hk:=hx x (.head _);have hp:(p.line == l)=true:=l1;have c:(C.env.kindOf x == some .local && p.line == l)=true:=by rw [hk,hp];rfl
  refine (List.filterMap_cons_some (b:=x) ?_).trans (congrArg (x::·) (L6 h (λy hy=>hx y (.tail _ hy)) l2));exact if_pos c
theorem VU (W:bZ C fs) {ts vs:List Expr}{xs:List ag}{k1 k2:Nat}{p1 p2:aB}(hn:bB (λe x=>∃p,e=Expr.Name x p) ts xs) (hx:∀x∈xs,C.env.kindOf x=some .local) (h:D0 ts vs xs=true):Hi [.Tuple ts k1 p1] (.Tuple vs k2 p2) C.env=pure (some xs):=by
 refine El.aa (b0 h) λh1 h=>El.aa (b0 h) λh2 h=>El.aa (b0 h) λh3 h=>El.aa (b0 h) λh4 h=>El.aa (b0 h) λh5 h=>El.aa (b0 h) λh6 h7=>?_;have hs:(vs.any λ| .Starred ..=>true | _=>false)=false:=by
  rw [List.any_eq_false];intro e V;have:=nr.mp h3 e V;clear V;cases e with
  |Starred a b=>exact absurd (show false=true from this) nv
  |_=>exact nv
 have hf:=L6 hn hx h4;have hl:=hn.len;have e2:vs.length=ts.length:=eq_of_beq h2;have e5:xs.eraseDups.length=xs.length:=eq_of_beq h5;unfold Hi;dsimp only;refine (if_neg ?_).trans ((if_neg λh=>nv (hs.symm.trans h)).trans ?_)
 ·refine ae (h1 ..) (ae (e2 ..) (ae (W.bk ..) ?_));simp
 ·have U:∀z:List ag,z=xs->(if (z.length != ts.length || z.eraseDups.length != z.length)=true then (pure none:iS (Option (List ag))) else if vs.all (foldedForSure 8)=true then pure none else if vs.all (constantsAlone 8)=true then (do unsupported "assign.tuple-of-constant-expressions:order-of-the-stores";pure (some z)) else pure (some z))=pure (some xs):=by
   rintro z rfl
   refine ae (hl ..).symm (ae (e5 ..) (ae (oq h6 ..) (ae (oq h7 ..) (ae (hl ..).symm ?_))));simp
  exact U _ hf
theorem L7 {α β:Type}{R:α->β->Prop}:∀{l:List α}{r:List β},bB R l r->bB R l.reverse r.reverse:=@λA B C=>match A,B,C with
 |[],zz,x=>by refine ae (show _=[] from x) <| rfl
 |zz::U,[],x=>(show False from x).elim
 |zz::U,V::W,x=>by refine ae (RB ..) (ae (RB ..) ?_);exact bB.append (L7 x.2) ⟨x.1,rfl⟩
theorem L8:∀{vs:List Ev}{ts:List Tr},trees vs=some ts->vs=ts.map .ow:=@λA B C=>match A,B,C with
 |[],zz,h=>by cases h;rfl
 |e::r,zz,h=>by
  cases e with
  |bo i p=>exact El.ns h
  |ow t=>
   refine ar (map_some (show (trees r).map (t::·)=some _ from h)) λus e1 U=>?_;clear h;subst U;exact congrArg (_::·) (L8 e1)
theorem VV (U:bZ C fs) {k2:Nat}(n1:bB (λ(q:Nat×Ow) x=>C.xs[q.1]? = some x) is xs) (n2:bB (λe x=>∃p,e=Expr.Name x p) ts xs) (h4:D0 ts vs xs=true) (h5:∀x∈xs,C.env.kindOf x=some .local) (hE:fK C fs es vs):bV C fs (cJ (.Assign [.Tuple ts kk tp] (.Tuple vs k2 p2) p) C.env) (.fA is es):=by
 refine λσ k h τ φ Q s a ho hQ=>Assign_Tuple_swapped (names:=xs) (Tuple_ (hE σ _ h p2 τ φ _ s a λus ev h1 t1 l1 a1 g1=>?_)) rfl (VU U n2 h5 h4);refine ef (sh g1) λts e1 hz g2=>?_;cases L8 e1
 have hl:us.length=ts.length:=by exact ae (l1 ..) (ae (aY ..) rfl)
 cases a1 with
 |mk F N S=>
  refine kup_newTuple F N (λD h2 F2 V lt=>?_) (by refine ae (hl ..) <| aD hz (by decide))
  refine unpackItemsN_ F2 V (md _ (V _ (.head _)).1 rfl 0 rfl) U.ok.hh (by have:=sg g2;rw [rb,rb] at this;exact ae (ee ..) (ae (hl ..) (ae (this ..) (ae (n1.len ..) rfl)))) (λW F3 N3=>?_)
  have a3:At C σ (kx us ts++τ) φ W:=.mk F3 N3 (S.yx lt);have a4:At C σ (kx us.reverse ts.reverse++τ) φ W:=a3.perm (by
   refine List.Perm.append_right _ ?_;unfold kx;rw [List.map_reverse,aeh,aeh,<-List.reverse_zipWith (by rw [aY];exact hl)]
   exact (aei _).symm)
  exact LL U.ok U.s (λx v Q s h=>bindName_ h) (L7 n1) (λq zz=>U.hw q.1) (by refine ae (rb ..) (ae (rb ..) ?_);exact hl) g2 a4 ho λaH gA h' tk a5 g5=>hQ _ .nx _ _ _ _ ⟨rfl,a5⟩ g5
end
theorem VW {E:af->ai->Prop}{s:ai}{o i:Expr}{p:aB}{v:af}(h:aA M A (b5 o env) (λov U=>aA M A (b5 i env) (λiv V=>aA M A (wR ov iv v) Q E V) E U) E s):aA M A (d7 (.Subscript o i p) env v) Q E s:=by
 refine ae (assign_Subscript ..) <| au (fo (cK h (λov U W=>au (fo (cK W (λiv V ky=>au (pJ (au (fo (cK ky (λzz i6 fH=>wpAny_release fH) λzz zz x=>x))))) λzz zz x=>x))) λzz zz x=>x))
theorem D1 {e:Ev}(h:r7 e k):∃i p,e=.bo i p/\k i p:=by
 cases e with
 |ow t=>exact h.elim
 |bo i p=>exact iC i p rfl h
section
variable {C:Cx}{fs:bX}{σ:List Tr}{τ:List bg}{φ:Fs}{s:ai}{o o1 o2 i1 i2 ix v x:Expr}{e r r1 r2 j j1 j2:SE}{p p1 p2 tp ap pp:aB}
theorem VX (hA:bZ C fs) (h1:aX C fs r o) (h2:aX C fs j ix) {v:af}(h:DG (specs fs) r j u σ k) (a:At C σ ((v,.ow u)::τ) φ s.heap) (ho:cw τ) (hQ:Nw C τ φ s () Q k) :
  Wp C (b5 o C.env) (λov V=>Wp C (b5 ix C.env) (λiv W=>Wp C (wR ov iv v) Q W) V) s:=
 h1 σ _ h _ φ _ s a λw e h3 t3 a3 g3=>by
  refine dX (D1 g3) λi p U g3=>?_;subst U;exact h2 σ _ g3 _ φ _ _ a3 λiv ie h4 t4 a4 g4=>by
   refine aO (a4.eQ (show bp ie _ from g4)) λn tk U g5 a5=>?_;clear a4;subst U;exact LK hA.ok g5 a5.swap ho λaH h' tk a6 g6=>hQ aH h' tk a6 g6
theorem VY (V:bZ C fs) (hn:lF v=true) (W:aX C fs e v) (h1:aX C fs r o) (h2:aX C fs j ix):bV C fs (cJ (.Assign [.Subscript o ix tp] v p) C.env) (.set r j e):=by
 refine λσ k h τ φ Q s a ho hQ=>wpAny_Assign_Subscript (W σ _ h τ φ _ s a λw ev h6 t6 a6 g6=>?_) (sf hn);refine dX (qn V.ok (k:=λu U=>DG (specs fs) r j u U λU=>k .nx U) g6 a6 ho) λu U a7 g7=>VX V h1 h2 g7 a7 ho λU h' tk a8 g8=>hQ _ .nx _ _ _ _ ⟨rfl,a8⟩ g8
theorem At.lst (hC:C.Ok) {p:List Nat}{P:Prop}(g:uH σ i p P) (a:At C σ ((w,.bo i p)::τ) φ h):P/\∃D ws n N,w=.ref D/\aI C.h₀ C.L h N/\(D,aQ ws n)∈N:=by
 unfold uH at g;cases e:(σ[i]?.bind λt=>eg t p).bind yC with
 |none=>rw [e] at g;exact g.elim
 |some l=>
  rw [e] at g;refine ar (bind_some e) λu e1 e2=>?_;cases a with
  |mk F N S=>
   cases S.top with
   |mk r _ _ S'=>
    refine dX (i5.part hC S r e1 λq=>by rw [q] at e2;exact El.ns e2) λOu rest W r4=>?_
    clear e1;cases u with
    |dl ds=>refine dM W λD n ws U V zz=>?_;clear W;clear S r;subst U;subst V;exact ⟨g,D,ws,n,_,rfl,N,(r4.mem_iff.mpr (.head _))⟩
    |ol us=>refine iZ W λD n ws Oz U V zz=>?_;clear W;clear S r;subst U;subst V;exact ⟨g,D,ws,n,_,rfl,N,(r4.mem_iff.mpr (.head _))⟩
    |_=>exact El.ns e2
theorem sj (U:bZ C fs):interactive C.env=false:=by
 refine (?_:(C.env.scope.kind == ScopeKind.module && _)=false);refine ae (U.e3 ..) ?_;rfl
theorem L9 (hA:bZ C fs) {id:String}{m:ag}{k:KS}{Q:iP->ai->Prop}{f:Nat->List Nat->List Ev->Prop}(hn:notStar x=true) (hr:qm o) (hl:(ap.endLine == pp.line)=true) (ho:aX C fs r o) (hx:aX C fs e x) (m1:Slot "list" m id) (m2:j4 (af.builtin id)=pure (af.type "method_descriptor"))
  (h:den (specs fs) r σ (one λw=>r7 w λi p=>uH σ i p (den (specs fs) e σ (f i p)))) (a:At C σ τ φ s.heap)
  (go:∀{w v:af}{i:Nat}{p:List Nat}{V:Ev}{h':aq}{tk:Nat},f i p [V]->At C σ ((v,V)::(w,.bo i p)::τ) φ h'->∃D,w=.ref D/\Wp C (call (.builtin id) [.ref D,v]) (λzz=>Q .next) {s with heap:=h',toks:=tk}):Wp C (cJ (.Expr (.Call (.Attribute o m ap) [x] [] pp) p) C.env) Q s:=by
 have hs:∀y∈[x],notStar y=true:=cm.mpr hn;refine wV (kr hs (aF rfl) hr hl (ho σ _ h τ φ _ s a λw e h4 t4 a4 W=>?_)) (sj hA) rfl;refine dX (D1 W) λi p U W=>?_;subst U;obtain ⟨g5,D,ws,n,N,U,hN,hm⟩:=a4.lst hA.ok W;subst U;refine wW hN hm m1 m2 (tG (je (hx σ _ g5 _ φ _ _ a4 λv V h6 t6 a6 g6=>j5 ?_) (dF hn)) (dF hn) rfl);refine ar (go (tk:=t6) g6 a6) λD' eD run=>?_;cases eD
 exact run
theorem VZ (V:bZ C fs) (W:m=ag.ofString "append") (hn:notStar x=true) (hr:qm o) (hl:(ap.endLine == pp.line)=true) (h1:aX C fs r o) (h2:aX C fs e x):bV C fs (cJ (.Expr (.Call (.Attribute o m ap) [x] [] pp) p) C.env) (.app r e):=by
 subst W;refine λσ k h τ φ Q s a ho hQ=>L9 (k:=k) (f:=λi p=>one λv=>jq σ v λu U=>ik U i p (λt=>uG t u) λU=>k .nx U) V hn hr hl h1 h2 aej aek h a λ{w v i p ev h' tk} g a=>?_;have st:∃t U,At C U ((v,.ow t)::(w,.bo i p)::τ) φ h'/\ik U i p (λt'=>uG t' t) λU=>k .nx U:=Vp V.ok (k:=λu U=>ik U i p (λt=>uG t u) λU=>k .nx U) g a ho;refine dX st λt U a2 g2=>?_;clear st;exact Vs V.ok (s:={s with heap:=h',toks:=tk}) g2 a2 ho λU h' tk a3 g3=>hQ _ .nx _ _ _ _ ⟨rfl,a3⟩ g3
theorem V0 (V:bZ C fs) (W:m=ag.ofString "extend") (hn:notStar x=true) (hr:qm o) (hl:(ap.endLine == pp.line)=true) (h1:aX C fs r o) (h2:aX C fs e x):bV C fs (cJ (.Expr (.Call (.Attribute o m ap) [x] [] pp) p) C.env) (.ext r e):=by
 subst W;refine λσ k h τ φ Q s a ho hQ=>L9 (k:=k) (f:=λi p=>one λv=>gv σ v λxs=>ik σ i p (λt=>DB t xs) λU=>k .nx U) V hn hr hl h1 h2 aec PySem.F.type_list_extend h a λ{w v i p ev h' tk} g a=>ar (qd (show gv σ ev _ from g)) λxs e1 g=>Vt V.ok (s:={s with heap:=h',toks:=tk}) e1 g a ho λU h' tk a3 g3=>hQ _ .nx _ _ _ _ ⟨rfl,a3⟩ g3
end
section
variable {C:Cx}{fs:bX}{σ:List Tr}{τ:List bg}{φ:Fs}{s:ai}{o ix v:Expr}{e r j:SE}{p tp ap pp xp:aB}
theorem Ma (h:uI σ i k):∃d r,σ[i]? = some (.dl (d::r))/\iI r.length/\k d (σ.set i (.dl r)):=by
 unfold uI at h;cases e:σ[i]? with
 |none=>rw [e] at h;exact h.elim
 |some t=>
  rw [e] at h;clear e;cases t with
  |dl ds=>cases ds with
   |nil=>exact h.elim
   |cons d r=>exact bQ d r rfl h.1 h.2
  |_=>exact h.elim
theorem Mb (hC:C.Ok) (h:uI σ i k) (a:At C σ ((w,.bo i [])::τ) φ s.heap) (ho:cw τ) (hQ:∀v d U h',At C U ((v,aR d)::τ) φ h'->k d U->Q v {s with heap:=h'}):∃D ws n N,w=.ref D/\aI C.h₀ C.L s.heap N/\(D,aQ ws n)∈N/\Wp C (call (.builtin "list.pop") [.ref D,.int 0 t]) Q s:=by
 refine aO (Ma h) λd r h1 h2 h3=>?_;cases a with
 |mk F N S=>
  cases S.write hC h1 (show eg (.dl (d::r)) []=some (.dl (d::r)) from rfl) (λe=>El.sn e) with
  |@mk a n ws Oz Ot rest pN ne rp tm g=>
   refine El.aa (Sp.uN rp) λW hw=>?_;clear rp;subst W;cases ws with
   |nil=>exact El.zs hw.len
   |cons v V=>
    have hl:V.length<2 ^ 24:=by refine ae (hw.2.len ..) <| h2
    refine xQ a (v::V) n _ rfl N (pN.mem_iff.mpr (.head _)) (kl_popAt (its:=(v::V).toArray) (k:=0) (p:=[]) (q:=V) F (fL N pN) (by decide) (by unfold l6;simp) rfl (.head ne) (by refine (?_:V.length+1<=_);unfold cc;omega) λh' F' N'=>?_)
    exact hQ v d _ h' (.mk F' N' ((g (.jo hw.2) (tm.any ho) (.refl _) _ h1).dR hw.1)) h3
theorem V1 (V:bZ C fs) {zb:aB}(n1:bB (λ(q:Nat×Ow) x=>C.xs[q.1]? = some x) is xs) (n2:bB (λe x=>∃p,e=Expr.Name x p) ts xs) (W:m=ag.ofString "pop") (hl:(ap.endLine == pp.line)=true) (hx:C.xs[i]? = some x):bV C fs (cJ (.Assign [.Tuple ts kk tp] (.Call (.Attribute (.Name x xp) m ap) [.Constant (.int 0) za zb] [] pp) p) C.env) (.yz is i):=by
 subst W;have hs:∀y∈[Expr.Constant (.int 0) za zb],notStar y=true:=cm.mpr rfl;refine λσ k h τ φ Q s a ho hQ=>RA (kr hs (aF rfl) (λzz zz zz=>rfl) hl ?_) (DX rfl) (DZ rfl);have h:uI σ i λd U=>wL (rW d) λts=>fy is ts U λU=>k .nx U:=h;refine aO (Ma h) λd r g1 zz zz=>?_;cases a with
 |mk F N S=>
  refine ar (S.slot g1 λe=>nomatch e) λw r1 zz=>V.ok.ld xp hx F N S.eP r1 ?_;have a1:At C σ ((w,.bo i [])::τ) φ s.heap:=.mk F N (S.yw (p:=[]) r1 (show eE _ _ [] _ from rfl));refine lh (Mb (t:=s.toks) (Q:=λzz zz=>True) V.ok h a1 ho λzz zz zz zz zz zz=>trivial) λD ws n N' bx N1 W zz=>?_;clear r1;subst bx;refine wW N1 W ael aem (tG (je (ad9 (j5 ?_)) (dF (hs _ (.head _)))) (dF rfl) rfl);obtain ⟨D',_,_,_,eD,_,_,run⟩:=Mb (s:={s with toks:=s.toks+1}) (t:=s.toks) (Q:=λw s=>Wp C (d7 (.Tuple ts kk tp) C.env w) (λzz=>Q .next) s) V.ok h a1 ho λv d U h' a2 g2=>by
   refine ar (sh g2) λus e1 g3=>uQ V.toAlS n1 (λq zz=>V.hw q.1) n2 (t:=.dat d) (by clear g2;cases d <;> first | exact e1 | exact nomatch e1) g3 a2 ho λU gA h' tk a3 g3=>hQ _ .nx _ _ _ _ ⟨rfl,a3⟩ g3
  clear left_1;cases eD;exact run
theorem At.dup {p:List Nat}(a:At C σ ((w,.bo i p)::τ) φ h):At C σ ((w,.bo i p)::(w,.bo i p)::τ) φ h:=by
 cases a with
 |mk F N S=>cases S.top with
  |mk r _ _ _=>refine El.aa r ?_;clear r;intro U r;clear a a_1 a_2;subst U;exact .mk F N (S.oa ⟨rfl,r⟩)
theorem V2 (W:bZ C fs) (hx:C.xs[i]? = some x) (hE:aX C fs e v):bV C fs (cJ (.AugAssign (.Name x xp) oo v p) C.env) (.aug i oo e):=by
 refine λσ k h τ φ Q s a ho hQ=>wpAny_AugAssign_Name ?_;have h:(match σ[i]? with
  |some t=>bp (.ow t) λx=>den (specs fs) e σ (one λv=>bp v λy=>DC oo x y λz=>k .nx (σ.set i (.dat (.int z))))
  |none=>False):=h
 cases e0:σ[i]? with
 |none=>rw [e0] at h;exact h.elim
 |some t=>
  rw [e0] at h;refine ar (qc h) λn en h=>?_;cases en
  cases a with
  |mk F N S=>
   refine ar (S.slot e0 λe=>nomatch e) λw r1 r2=>El.ea ((r2 _ rfl).jJ) λtk U=>?_;clear r2;subst U;refine W.ok.ldn hx F N S.eP r1 (hE σ _ h τ φ _ s (.mk F N S) λw ev h6 t6 a6 g6=>?_);refine aO (a6.eQ (show bp ev _ from g6)) λy u U g7 a7=>?_;clear a6;subst U;have fin:∀{z:Int},k .nx (σ.set i (.dat (.int z)))->Wp C (wO C.env x (.int z t6)) (λzz=>Q .next) {s with heap:=h6,toks:=t6+1}:=λ{z} g=>
    ku W.ok W.s (W.hw _) (s:={s with heap:=h6,toks:=t6+1}) (i:=i) (o:=.own) (t:=.dat (.int z)) (k:=λV=>k .nx V) hx g (a7.int) ho λV gA h' tk a8 g8=>hQ .next .nx V gA h' tk ⟨rfl,a8⟩ g8
   clear h g6;cases oo with
   |Add=>exact iadd_int (fin g7)
   |Sub=>exact P.isub_int (fin g7)
   |_=>exact g7.elim
theorem V3 {e:Ev}(h:one f [e]):f e:=h
theorem V4 {U V new:af}(h:mw i=true):augStore i U V new=(do Hf [new,U,V] (wR U V new);release [new,U,V] [];pure .next):=by
 cases i <;> first | rfl | exact El.ft h
theorem V5 (hA:bZ C fs) (hn:mw ix=true) (h1:aX C fs r o) (h2:aX C fs j ix) (hE:aX C fs e v):bV C fs (cJ (.AugAssign (.Subscript o ix tp) oo v p) C.env) (.kl r j oo e):=by
 refine λσ k h τ φ Q s a ho hQ=>wpAny_AugAssign_SubscriptAny (h1 σ _ h τ φ _ s a λw e h5 t5 a5 g5=>?_) (λov iv new=>V4 hn);refine dX (D1 g5) λi p U g5=>?_;subst U;refine h2 σ _ g5 _ φ _ _ a5.dup λiv ie h6 t6 a6 g6=>ar (qc (show bp ie _ from g6)) λn0 en zz=>?_;subst en;refine aO (a6.eQ (f:=λx=>x=n0) rfl) λn u U e7 a7=>?_;clear a6;subst U;subst e7;refine (item_at hA.ok (V3 g6) a7 λold oe h8 t8 a8 g8=>?_).1;refine aO (a8.eQ (show bp oe _ from g8)) λx ux U g9 a9=>?_;clear a8;subst U;refine hE σ _ g9 _ φ _ _ a9 λwv we kz bC Mc y6=>aO (Mc.eQ (show bp we _ from y6)) λy uy U V D2=>?_;clear Mc;subst U;have fin:∀{z:Int}{tk:Tok}{W:Nat},ik σ i p (λt k=>km t n λj=>qj t j (.dat (.int z)) k) (λaH=>k .nx aH)->Wp C (wR w (.int n u) (.int z tk)) (λzz=>Q .next) {s with heap:=kz,toks:=W}:=λ{z tk W} g=>by
  cases D2 with
  |mk F N S=>exact LK (s:={s with heap:=kz,toks:=W}) hA.ok g (.mk F N (S.dR (.int z tk))) ho λaH h' tk V6 V7=>hQ _ .nx _ _ _ _ ⟨rfl,V6⟩ V7
 clear h g5 g6 zz g8 g9 y6;cases oo with
 |Add=>exact iadd_int (fin V)
 |Sub=>exact P.isub_int (fin V)
 |_=>exact V.elim
end
def oB (P:Fz) (tup:Bool) (d:ah) (v:af) (h:aq):Prop:=Dat P v d∨(tup=true/\∃T i t x dx,v=.ref T/\d=.tuple [.int i,dx]/\IsTup h T #[.int i t,x]/\Dat P x dx)
noncomputable abbrev Cx.over (C:Cx) (X:Led):Cx:={C with X:=X}
noncomputable abbrev qp (T:Led):Tr:=.fr λzz O zz=>O=T
section
variable {C:Cx}{fs:bX}{σ:List Tr}{τ:List bg}{φ:Fs}{s:ai}{m:ag->Option af}{N K ZL X:Led}{h:aq}
theorem Cx.Ok.over (U:C.Ok):(C.over X).Ok:=⟨U.hh,U.hu,U.sub,U.uq,U.ldn,U.yu⟩
theorem bZ.over (U:bZ C fs):bZ (C.over X) fs where
 ok:=U.ok.over
 g:=⟨U.g.fn,U.g.gl,U.g.mt,⟨U.g.dO.get,U.g.dO.set⟩,⟨U.g.df.nl,U.g.df.mu,U.g.df.so,⟨U.g.df.mm.get,U.g.df.mm.run⟩,U.g.df.gm⟩⟩
 e1:=U.e1
 e2:=U.e2
 e3:=U.e3
 ck:=⟨U.ck.rd,U.ck.is⟩
 s:=⟨U.s.st⟩
 bk:=U.bk
 ll:=U.ll
 hw:=U.hw
theorem cv.oC:∀{τ:List bg}{O:Led},cv (C.over X) m N K ZL τ O->cv C m N K ZL τ O:=@λD F G=>match D,F,G with
 |[],zz,x=>x
 |q::τ,zz,⟨A,B,e,x,y⟩=>(bQ A B e (by cases h:q.2 <;> (rw [h] at x;exact x)) (cv.oC y))
theorem cv.toX:∀{τ:List bg}{O:Led},cv C m N K ZL τ O->cv (C.over X) m N K ZL τ O:=@λD F G=>match D,F,G with
 |[],zz,x=>x
 |q::τ,zz,⟨A,B,e,x,y⟩=>(bQ A B e (by cases h:q.2 <;> (rw [h] at x;exact x)) (cv.toX y))
theorem Sp.oC (S:Sp (C.over X) σ τ m N K ZL) (h:∀q∈C.X,q∈X):Sp C σ τ m N K ZL:=by
 cases S with
 |@mk Os Ot vs nd pm rs ln mp U hx=>exact .mk nd pm rs ln mp U.oC λq V=>hx q (h q V)
theorem Sp.toX (S:Sp C σ τ m N K ZL) (h:∀q∈X,q∈ZL):Sp (C.over X) σ τ m N K ZL:=by
 cases S with
 |@mk Os Ot vs nd pm rs ln mp U hx=>exact .mk nd pm rs ln mp U.toX h
theorem Sp.hx (S:Sp C σ τ m N K ZL):∀q∈C.X,q∈ZL:=by
 cases S with
 |mk nd pm rs ln mp U hx=>exact hx
theorem At.oC (a:At (C.over X) σ τ φ h) (hx:∀q∈C.X,q∈X):At C σ τ φ h:=by
 cases a with | mk F N S=>exact .mk F N (S.oC hx)
theorem At.drop (a:At C σ ((v,e)::τ) φ h):At C σ τ φ h:=by
 cases a with | mk F N S=>cases S.top with | mk _ _ _ U=>exact .mk F N U
theorem Sp.Me (S:Sp C σ τ m N K ZL) (ho:cw τ) (W:(T.map (·.1)).Nodup) (hd:∀p∈T,∀q∈N,p.1≠q.1):Sp C σ ((v,.ow (qp T))::τ) m (T++N) K ZL:=by
 cases S with
 |@mk Os Ot vs nd pm rs ln mp tm hx=>
  refine .mk ?_ ((pm.append_left T).trans (by rw [bt])) rs ln mp (bQ T Ot rfl ⟨λzz zz zz zz zz h=>h,rfl⟩ (tm.any ho)) hx
  refine ae (bH ..) <| ed.mpr (aL W nd (λa V b hb e=>?_));refine ar (bf.mp V) λp hp U=>?_;clear V;subst U;refine ar (bf.mp hb) λq hq U=>?_;clear hb;subst U;exact hd p hp q hq e
theorem Sp.Mf (S:Sp C σ ((v,.ow (qp T))::τ) m N K ZL) (ho:cw τ):∃N',N.Perm (T++N')/\(∀p∈T,∀q∈N',p.1≠q.1)/\Sp C σ τ m N' K ZL:=by
 cases S with
 |@mk Os Ot vs nd pm rs ln mp W hx=>
  refine aO W ?_;clear W;intro O Or bx cu W;subst bx;obtain ⟨_,rfl⟩:=cu;have U:=pm.trans (by rw [bt])
  have V:=(U.map (·.1)).nodup_iff.mp nd;rw [bH] at V;refine cg (ed.mp V) λn1 n2 n3=>dq _ U (λp hp q hq=>n3 _ (bf.mpr (av p hp rfl)) _ (bf.mpr (av q hq rfl))) (.mk n2 (.refl _) rs ln mp (W.any ho) hx)
inductive c0 (xs:List ag):Expr->Tg×Bool->Prop
 |nm {x:ag}{i:Nat}{w:Ow}{p:aB}:xs[i]? = some x->c0 xs (.Name x p) ([(i,w)],false)
 |tup {es:List Expr}{k:Nat}{p:aB}{is:Tg}{ys:List ag}:bB (λ(q:Nat×Ow) x=>xs[q.1]? = some x) is ys->bB (λe x=>∃p,e=Expr.Name x p) es ys->c0 xs (.Tuple es k p) (is,true)
theorem Mg (W:AlS C fs) {q:Tg×Bool}(hT:c0 C.xs t q) (U:∀p∈q.1,C.wr p.1) (hi:oB (C.P.and ZL) q.2 d v s.heap) (F:Fr C.h₀ C.L s.heap φ.1) (hN:aI C.h₀ C.L s.heap N0) (S:Sp C σ τ φ.1 N0 φ.2 ZL) (h:iH q.1 q.2 d σ k) (ho:cw τ)
  (hQ:∀V gA h' tk,At C V τ gA h'->k V->Q () {s with heap:=h',toks:=tk}):Wp C (d7 t C.env v) Q s:=by
 cases hT with
 |@nm x i w p hx=>
  rcases hi with hd | ⟨e,_⟩
  ·exact assign_Name (ku W.ok W.s (U _ (.head _)) hx (show jn σ i w (.dat d) k from h) (.mk F hN (S.dR hd)) ho hQ)
  ·exact El.ft e
 |tup n1 n2=>
  refine ar (sh (show wL (rW d) _ from h)) λts e3 h=>?_;rcases hi with hd | ⟨_,T,i,t,x,dx,rfl,rfl,g,hd⟩
  ·exact uQ W n1 U n2 (t:=.dat d) (by cases d <;> first | exact e3 | exact nomatch e3) h (.mk F hN (S.dR hd)) ho hQ
  ·cases e3
   exact L4 W n1 U n2 (ws:=[.int i t,x]) (.tup g) rfl h (.mk F hN ((S.dR hd).dR (.int i t))) ho hQ
noncomputable def objs (h:aq) (wr:List ak):Led:=wr.filterMap λb=>(h.get? b).map λo=>(b,o)
theorem mem_objs:p∈objs h wr↔p.1∈wr/\h.get? p.1=some p.2:=by
 unfold objs;rw [Hj];constructor
 ·rintro ⟨b,hb,e⟩
  refine ar (map_some e) λo e1 U=>?_;clear e;subst U;exact ⟨hb,e1⟩
 ·rintro ⟨hb,e⟩
  exact av p.1 hb (by refine ae (e ..) ?_;rfl)
theorem D3:∀{wr:List ak},wr.Nodup->((objs h wr).map (·.1)).Nodup:=@λA B=>match A,B with
 |[],zz=>gW
 |b::wr,n=>by
  refine El.aa (bR.mp n) λn1 n2=>?_;unfold objs;refine ae (AO ..) ?_;cases e:h.get? b with
  |none=>exact D3 n2
  |some o=>exact bR.mpr ⟨λq=>by
    refine ar (bf.mp q) λp U e=>?_;have e:p.1=b:=e;exact n1 (e▸(mem_objs.mp U).1),D3 n2⟩
end
theorem y7 {C:Cx}{fs:bX}{σ:List Tr}{τ:List bg}{s:ai}{m:ag->Option af}{N K ZL:Led}(hA:bZ C fs) {q:Tg×Bool}(hT:c0 C.xs t q) (hB:∀X,bV (C.over X) fs (gM b C.env) ir)
  {P Md:Nat->af->aq->Prop}{St:Nat->aq->Prop}(hn:n=ds.length) (W:wX C.pg C.w C.A t I fp wr n P Md St) (Mh:C.env.locals∉fp) (eR:∀b∈wr,C.h₀.get? b=none) (sk:wr.Nodup) (V8:∀i h,St i h->∀b∈wr,h.get? b≠none)
  (F:Fr C.h₀ C.L s.heap m) (hN:aI C.h₀ C.L s.heap N) (S:Sp C σ τ m N K ZL) (zc:∀p∈N,p.1∉wr) (V9:St 0 s.heap) (mJ:∀b∈fp,b∈wr∨∃o,C.P.and ZL b o) (hP:∀i v h d,P i v h->ds[i]? = some d->oB (C.P.and ZL) q.2 d v h)
  (h:du (λd σ k=>iH q.1 q.2 d σ λV=>aJ (specs fs) ir V k) k ds σ) (ho:cw τ) (hQ:js C τ s Q k):tH C.pg C.w C.A C.h₀ C.env t b Q (λzz zz=>False) (.ref I) s:=by
 subst hn;have hX:=S.hx
 let J:Nat->(ag->Option af)->Led->Prop:=λi m N=>∃σ K Z,Sp (C.over ZL) σ τ m N K Z/\du (λd σ k=>iH q.1 q.2 d σ λV=>aJ (specs fs) ir V k) k (ds.drop i) σ
 unfold tH;refine ae (hA.ll ..) <| ⟨I,fp,wr,ds.length,P,Md,St,m,N,J,rfl,W,hA.ll▸Mh,eR,zc,V9,F,hN,(Kc σ K ZL (S.toX λzz h=>h) (by refine ae (Hl ..) <| h)),?_,?_⟩
 ·rintro i v m₁ D4 U Mi own hi Wa ⟨ae7,Wb,ae8,uR,Mj⟩ Wc Wd Mk Ml sq Mm D5
  obtain ⟨d,hd⟩:∃d,ds[i]? = some d:=⟨_,eC hi⟩;have uS:ds.drop i=d::ds.drop (i+1):=by
   refine ae (AS hi ..) ?_
   congr 1
   exact dJ ((eC hi).symm.trans hd)
  rw [uS] at Mj;have We:∀p∈objs U wr,∀q∈D4,p.1≠q.1:=λp hp q hq e=>Wc q hq (e▸(mem_objs.mp hp).1);have D6:aI C.h₀ C.L U (objs U wr++D4):=λp hp=>by
   rcases bT.mp hp with hp | hp
   ·refine El.aa (mem_objs.mp hp) λp1 p2=>aL p2 (λe=>Mh (hA.ll▸e▸W.sub _ p1)) (eR _ p1)
   ·exact D5 p (bj _ hp)
  have Wf:=uR.Me (v:=.none) ho (D3 sk) We;have zd:cw (((af.none,Ev.ow (qp (objs U wr))))::τ):=yV ho;refine Mg (C:=C.over ZL) (φ:=(m₁,Wb)) (s:={s with heap:=U,toks:=Mi}) (hA.over).toAlS hT (λq zz=>hA.hw q.1) ?_ Mm D6 Wf Mj zd λV gA h' tk a' g'=>?_
  ·rcases hP i v U d Wa hd with x | ⟨e,T,i,t,x,dx,e1,e2,e3,e4⟩
   ·exact .inl (x.mono (and_mono uR.hx))
   ·exact .inr ⟨e,T,i,t,x,dx,e1,e2,e3,(e4.mono (and_mono uR.hx))⟩
  ·refine hB ZL V _ g' _ gA _ {s with heap:=h',toks:=tk} a' zd λfl f gy jP h3 mK hf kf=>?_
   have fin:At (C.over ZL) gy ((.none,.ow (qp (objs U wr)))::τ) jP h3->du (λd σ k=>iH q.1 q.2 d σ λV=>aJ (specs fs) ir V k) k (ds.drop (i+1)) gy->LoopStepU C.h₀ C.L wr own (J (i+1)) {s with heap:=U,toks:=Mi} .next {s with heap:=h3,toks:=mK}:=λa g=>by
    cases a with
    |@mk N3 Z3 F3 D7 S3=>
     refine ef (S3.Mf ho) λN' pm D8 S4=>⟨rfl,h3,mK,jP.1,N',rfl,F3,λp hp=>?_,λp hp hw=>?_,gy,jP.2,Z3,S4,g⟩
     ·rcases bT.mp hp with hp | hp
      ·rcases mJ p.1 (Wd p hp) with x | ⟨o,x⟩
       ·exact D7 p (pm.mem_iff.mpr (bE _ (mem_objs.mpr ⟨x,Mk p hp⟩)))
       ·rcases x with x | x
        ·have e1:=hA.ok.sub _ _ x;have e2:=(D5 p (bE _ hp)).2.2;rw [e1] at e2;exact El.sn e2
        ·have e1:=(D5 _ (bj _ (uR.sub _ (uR.hx _ x)))).1;have e2:=Mk p hp;have e3:o=p.2:=dJ (e1.symm.trans e2);clear e1;subst e3;exact D7 p (S3.sub _ (S3.hx _ x))
      ·exact D7 p (pm.mem_iff.mpr (bj _ hp))
     ·cases e:U.get? p.1 with
      |none=>exact V8 _ _ sq _ hw e
      |some o=>exact D8 (p.1,o) (mem_objs.mpr ⟨hw,e⟩) p hp rfl
   cases f with
   |nx=>refine El.aa hf λbx a3=>?_;clear hf;subst bx;exact .next (fin a3 kf)
   |cnt=>refine El.aa hf λbx a3=>?_;clear hf;subst bx;exact .cont (fin a3 kf)
   |brk=>refine El.aa hf λbx a3=>?_;clear hf;subst bx;exact .brk (hQ .next .nx gy jP h3 mK ⟨rfl,a3.drop.oC hX⟩ kf)
   |ret e=>
    refine ar hf λv bx a3=>?_;clear hf;subst bx;exact .ret (hQ (.ret v) (.ret e) gy jP h3 mK (av v rfl (show At C gy ((v,e)::τ) jP h3 from ((a3.perm (.swap _ _ _)).drop.oC hX))) kf)
 ·rintro h' tk m' N' F' Wg _ ⟨V,K',Z',S',g'⟩
  rw [RC (aK _)] at g';exact hQ .next .nx V (m',K') h' tk ⟨rfl,.mk F' Wg (S'.oC hX)⟩ g'
theorem Mo {E:af->ai->Prop}{Q:Unit->ai->Prop}{s:ai}(V:RD s.heap I x l c) (h:Q () s):aA (az prog w) A (ny U (.ref I) v) Q E s:=by
 unfold ny;cases U <;> first
  |exact aZ h
  |(cases v <;> first
    |exact aZ h
    |(refine au (wpAny_load V ?_)
      exact aZ h))
theorem Mp:∀{ds:List ah}{n i:Nat}{d:ah},(ou n ds)[i]? = some d->∃U,ds[i]? = some U/\d=.tuple [.int ((n+i:Nat):Int),U]:=@λA B C D F=>match A,B,C,D,F with
 |[],zz,zy,zx,h=>by cases h
 |x::r,n,0,d,h=>(av x rfl (by cases h;rfl))
 |x::r,n,i+1,d,h=>by
  refine ar (Mp (ds:=r) (n:=n+1) (i:=i) h) λU V W=>av U V (by refine ae (W ..) (ae (G5 ..) ?_);rfl)
theorem Mq:∀{ds:List ah}{n:Nat},(ou n ds).length=ds.length:=@λA B=>match A,B with
 |[],zz=>rfl
 |zz::r,n=>congrArg l5 (Mq (ds:=r))
section
variable {C:Cx}{fs:bX}{σ:List Tr}{τ:List bg}{φ:Fs}{s:ai}{Q:iP->ai->Prop}{k:KS}{ds:List ah}{q:Tg×Bool}{ir:SS}{t:Expr}{b:List cU}
abbrev mM (fs:bX) (q:Tg×Bool) (ir:SS) (k:KS) (ds:List ah) (σ:List Tr):Prop:=du (λd σ k=>iH q.1 q.2 d σ λaH=>aJ (specs fs) ir aH k) k ds σ
theorem sr {N:Led}(x:aI h₀ L h N):aI h₀ L (h.push o) N:=λp U=>⟨aq.get?_push_of_some _ (x p U).1,(x p U).2⟩
theorem ze {N:Led}(x:aI h₀ L h N) {b:ak}(hb:h.objs.size<=b):∀p∈N,p.1≠b:=λp U e=>absurd (aq.lt_size (x p U).1) (cW.mpr (e▸hb))
theorem Mr (U:bZ C fs) (hT:c0 C.xs t q) (hB:∀X,bV (C.over X) fs (gM b C.env) ir) (hd:r8 d=some ds) (h:mM fs q ir k ds σ) (a:At C σ ((v,aR d)::τ) φ s.heap) (ho:cw τ) (hQ:js C τ s Q k):Wp C (gX v) (λit gz=>tH C.pg C.w C.A C.h₀ C.env t b Q (λzz zz=>False) it gz) s:=by
 cases a with
 |@mk N ZL F hN S=>
  refine El.aa S.lD λr W=>?_;have bU:=At.bU U.ok F hN;have su:C.env.locals<s.heap.objs.size:=U.ll▸F.ns.lt;have eR:∀b∈[s.heap.objs.size],C.h₀.get? b=none:=cm.mpr (wY F);have hL:∀{l:ak}{o:ay},C.P.and ZL l o->C.env.locals∉[s.heap.objs.size,l]:=λ{l o} p=>by
   refine λx=>(aT.mp x).elim (λe=>cy su e) λx=>?_;have e:=cQ.mp x;rw [U.ll] at e;rcases p with p | p
   ·have:=U.ok.sub _ _ p;have hb:C.h₀.get? C.L=none:=aq.get?_none_of_le F.above;rw [e,this] at hb;exact El.sn hb
   ·exact (hN _ (W.sub _ p)).2.1 e.symm
  have zc:∀p∈N,p.1∉[s.heap.objs.size]:=λp hp x=>ze hN (aK _) p hp (cQ.mp x);have Ms:∀{l:ak}{o:ay},C.P.and ZL l o->∀b∈[s.heap.objs.size,l],b∈[s.heap.objs.size]∨∃o,C.P.and ZL b o:=λ{l o} p=>cz.mpr ⟨.inl (.head _),cm.mpr (.inr ⟨o,p⟩)⟩;have V:∀{ws:List af}(g:aU (C.P.and ZL) ws ds) (i:Nat) (v:af) (h:aq) (d:ah),ws.toArray[i]? = some v->ds[i]? = some d->oB (C.P.and ZL) q.2 d v h:=λ{ws} g i v h d e1 e2=>by
   refine ar (g.get e2) λx e3 e4=>?_;rw [qU] at e1;cases e1.symm.trans e3
   exact .inl e4
  clear S;cases d with
  |list es=>
   cases hd
   refine dM r.listI λl ws n bx p g=>?_;subst bx;have hl:=kj bU (p.imp_left λp=>p.imp_right (W.sub _));have gB:l≠s.heap.objs.size:=λe=>absurd (aq.lt_size (bU _ _ (p.1.imp_right (W.sub _)))) (e▸jD _);refine wZ hl <| y7 (s:={s with heap:=_}) U hT hB (by exact ae (ee ..) (ae (g.len ..) rfl)) (.ofWalks (j6.list U.ok.hh s.heap.objs.size l gB ws.toArray) λi v s Q E st q=>letGo_listiter st.1 q) (hL p.1) eR (bR.mpr ⟨(λh=>El.nm h),gW⟩) (λi h st=>cm.mpr (by refine ar st.1 λo e zz=>ae (e ..) <| λh=>El.sn h)) (F.push _) (sr hN) W zc ⟨(dq _ (aq.get?_push_size _ rfl) rfl rfl),hl.at λo e=>aq.get?_push_of_some _ e⟩ (Ms p.1) (V g) h ho hQ
  |tuple es=>
   cases hd
   refine aO r.tupI λl ws bx p g=>?_;subst bx;have hl:s.heap.IsTuple l ws.toArray:=(md _ (bU _ _ (p.imp_right (W.sub _))) rfl 0 rfl);have gB:l≠s.heap.objs.size:=λe=>absurd (aq.lt_size (bU _ _ (p.imp_right (W.sub _)))) (e▸jD _);refine wpAny_pyIter_tuple hl <| y7 (s:={s with heap:=_}) U hT hB (by exact ae (ee ..) (ae (g.len ..) rfl)) (.ofWalks (j6.tuple U.ok.hh s.heap.objs.size l gB ws.toArray) λi v s Q E st q=>letGo_tupleiter st.1 q) (hL p) eR (bR.mpr ⟨(λh=>El.nm h),gW⟩) (λi h st=>cm.mpr (by refine ar st.1 λo e zz=>ae (e ..) <| λh=>El.sn h)) (F.push _) (sr hN) W zc ⟨(dq _ (aq.get?_push_size _ rfl) rfl rfl),hl.at λo e=>aq.get?_push_of_some _ e⟩ (Ms p) (V g) h ho hQ
  |_=>exact El.ns hd
theorem Wh (W:bZ C fs) (hT:c0 C.xs t q) (hB:∀X,bV (C.over X) fs (gM b C.env) ir) (hr:Hm s.heap r x y 1 t0 u0 v0) (hs:-(2 ^ 62)<x/\x<2 ^ 62/\-(2 ^ 62)<y/\y<2 ^ 62) (h:mM fs q ir k (dE x y) σ) (a:At C σ τ φ s.heap) (ho:cw τ) (hQ:js C τ s Q k):Wp C (gX (.ref r)) (λit V=>tH C.pg C.w C.A C.h₀ C.env t b Q (λzz zz=>False) it V) s:=by
 cases a with
 |@mk N ZL F hN S=>
  have su:C.env.locals<s.heap.objs.size:=W.ll▸F.ns.lt;refine aen hr (RE (tC hs.1) hs.2.1 (tC hs.2.2.1) hs.2.2.2) ?_;have len:(dE x y).length=(y-x).toNat:=by unfold dE;exact ae (aY ..) (ae (pK ..) rfl)
  refine y7 (s:={s with heap:=_}) W hT hB len.symm (.ofWalks (j6.range W.ok.hh s.heap.objs.size x 1 (y-x).toNat) λi v s Q E st q=>Mo st q) ?_ (cm.mpr (wY F)) (bR.mpr ⟨(λh=>El.nm h),gW⟩) (λi h st=>cm.mpr (by rw [show h.get? _=some _ from st];exact λh=>El.sn h)) (F.push _) (sr hN) S (λp hp x=>ze hN (aK _) p hp (cQ.mp x)) ?_ (λb hb=>.inl hb) (λi v h d e1 e2=>?_) h ho hQ
  ·exact λx=>cy su (cQ.mp x)
  ·have:=aq.get?_push_size s.heap (o:={cls:=.type "range_iterator",data:=.fields #[jE x,jE (bY.Range.rangeSize x y 1),jE 1]}) rfl;rw [RG] at this ⊢;refine (?_:RD _ _ _ _ _)
   simpa using this
  ·refine El.ea e1 λt U=>?_;clear e1;subst U;unfold dE at e2;rw [fQ] at e2;refine ar (map_some e2) λj e3 U=>?_;clear e2;subst U;obtain ⟨hj,e4⟩:=dU.mp e3;rw [aeo] at e4;subst e4;refine ae (RH ..) <| .inl (.int _ t)
theorem Wi (V:bZ C fs) (hT:c0 C.xs t q) (hq:q.2=true) (hB:∀X,bV (C.over X) fs (gM b C.env) ir) (h:mM fs q ir k (ou 0 ds) σ) (a:At C σ ((v,aR (.list ds))::τ) φ s.heap) (ho:cw τ) (hQ:js C τ s Q k):Wp C (call (.type "enumerate") [v]) (λxv eH=>Wp C (gX xv) (λit gz=>tH C.pg C.w C.A C.h₀ C.env t b Q (λzz zz=>False) it gz) eH) s:=by
 have hc:∃es kk p,t=.Tuple es kk p:=by
  clear h;cases hT with
  |nm=>exact El.ft hq
  |tup=>exact CO _ _ _ rfl
 refine pV hc λes kk p U=>?_;clear hc;subst U;cases a with
 |@mk N ZL F W S=>
  refine El.aa S.lD λr S'=>?_;have su:C.env.locals<s.heap.objs.size:=V.ll▸F.ns.lt;refine dM r.listI λl ws n U pp g=>?_;clear S r;subst U;have hg:=At.bU V.ok F W _ _ (pp.1.imp_right (S'.sub _));have hl:=kj (At.bU V.ok F W) (pp.imp_left λp=>p.imp_right (S'.sub _));have b8:l<s.heap.objs.size:=aq.lt_size hg;refine call_enumerate_list hl λh' hE hI hsz hk=>wpAny_pyIter_enum hE ?_;have nd:[s.heap.objs.size+1,s.heap.objs.size].Nodup:=bR.mpr ⟨λx=>AU _ (cQ.mp x),bR.mpr ⟨(λh=>El.nm h),gW⟩⟩;refine y7 (s:={s with heap:=h'}) V hT hB (by exact ae (ee ..) (ae (g.len ..) (ae (Mq ..) rfl))) (wX.ofWalksU (WalksT.enumerate V.ok.hh (s.heap.objs.size+1) s.heap.objs.size l (AU _) (ktu_ne 1 b8) (cy b8) ws.toArray).toU) ?_ (cz.mpr ⟨ktu_new F (ba _ _),cm.mpr (ktu_new F (aK _))⟩) nd ?_ (F.keeps hk) (W.grown hk) S' ?_ (aL ⟨.none,hE⟩ hI (hl.at λo e=>hk l o e)) ?_ ?_ h ho hQ
  ·intro x;rcases aT.mp x with e | x
   ·exact ktu_ne 1 su e
   ·rcases aT.mp x with e | x
    ·exact cy su e
    ·have e:=cQ.mp x;rw [V.ll] at e;rcases pp with p | p
     ·have:=V.ok.sub _ _ p;have hb:C.h₀.get? C.L=none:=aq.get?_none_of_le F.above;rw [e,this] at hb;exact El.sn hb
     ·exact (W _ (S'.sub _ p)).2.1 e.symm
  ·rintro i h ⟨⟨old,he⟩,⟨oi,Wj,_⟩,_⟩
   refine cz.mpr ⟨?_,cm.mpr (by refine ae (Wj ..) <| λh=>El.sn h)⟩
   rw [show h.get? _=some _ from he];exact λh=>El.sn h
  ·intro p hp x;rcases aT.mp x with e | x
   ·exact ze W (ba _ 1) p hp e
   ·exact ze W (aK _) p hp (cQ.mp x)
  ·exact cz.mpr ⟨.inl (.head _),cz.mpr ⟨.inl (.tail _ (.head _)),cm.mpr (.inr ⟨_,pp.1⟩)⟩⟩
  ·rintro i v h d ⟨T,vals,rfl,⟨t,x,e1,rfl⟩,hT⟩ e2
   refine ar (Mp e2) λdx e3 U=>?_;clear e2;subst U;refine ar (g.get e3) λy e4 e5=>?_;rw [qU] at e1;cases e1.symm.trans e4
   exact .inr ⟨hq,T,_,t,x,dx,rfl,rfl,by refine ae (jf ..) <| hT,e5⟩
end
noncomputable def ghost:List (Nat×Nat)->Nat->SS->SS:=@λA B C=>match A,B,C with
 |[],zz,r=>r
 |q::gh,l,r=>if q.1=l then .seq (if q.2=999 then .DA else .fz q.2) (ghost gh l r) else ghost gh l r
section
variable {C:Cx}{fs:bX}{σ:List Tr}{τ:List bg}{φ:Fs}{s:ai}{Q:iP->ai->Prop}{k:KS}{ds:List ah}{q:Tg×Bool}{ir:SS}{t a b it x:Expr}{bd:List cU}{e ia ib:SE}{fp p:aB}{f:ag}{r:List Expr}
theorem D9 (V:bZ C fs) (hg:kn C f (.type T)) (hb:dZ C.env.scope f=true) (W:∀y∈x::r,notStar y=true) (at':At C σ τ φ s.heap) {Q:af->ai->Prop}(h:Wp C (qW (iT p (gf (x::r) C.env))) (λvs U=>Keeps C.h₀ U.heap/\Wp C (call (.type T) vs) Q U) s):Wp C (b5 (.Call (.Name f fp) (x::r) [] p) C.env) Q s:=by
 cases at' with
 |mk F N S=>
  refine El.aa (qe hb) λh1 h2=>qX (hg C.env fp _ _ s V.e1 V.e2 V.e3 h1 h2 F (yP C.env p x r _ s W h))
def sv (C:Cx) (fs:bX) (q:Tg×Bool) (ir:SS) (t:Expr) (bd:List cU) (i:It) (it:Expr):Prop:=∀(σ:List Tr) (k:KS) (τ:List bg) (φ:Fs) (Q:iP->ai->Prop) (s:ai),Li (specs fs) q.2 i σ (λds aH=>mM fs q ir k ds aH)->At C σ τ φ s.heap->cw τ->js C τ s Q k->Wp C (b5 it C.env) (λxv eH=>Wp C (gX xv) (λit gz=>tH C.pg C.w C.A C.h₀ C.env t bd Q (λzz zz=>False) it gz) eH) s
theorem uT (U:bZ C fs) (hs:∀x,wN it C.env x=pure x) (h:sv C fs q ir t bd i it):bV C fs (cJ (.For t it bd [] p) C.env) (.eu q.1 q.2 i ir):=by
 intro σ k g τ φ Q s a ho V;have w:=h σ k τ φ Q s g a ho V;cases a with
 |mk F N S=>exact For_turns (U.ll▸F) w hs
theorem Mt (hA:bZ C fs) (hT:c0 C.xs t q) (hB:∀X,bV (C.over X) fs (gM bd C.env) ir) {x y:Int}{r:ak}(hr:Hm (V.push o) r x y 1 t0 u0 v0) (g:(-(2 ^ 62)<x/\x<2 ^ 62/\-(2 ^ 62)<y/\y<2 ^ 62)/\mM fs q ir k (dE x y) σ) (W:At C σ τ φ V) (ho:cw τ) (hQ:js C τ s Q k):Wp C (gX (.ref r)) (λit U=>tH C.pg C.w C.A C.h₀ C.env t bd Q (λzz zz=>False) it U) {s with heap:=V.push o,toks:=tk}:=by
 refine Wh (s:={s with heap:=_,toks:=_}) hA hT hB hr g.1 g.2 (φ:=φ) (show At C σ τ φ (V.push o) from ?_) ho hQ
 cases W with | mk F N S=>exact .mk (F.push _) (sr N) S
theorem Wk (V:bZ C fs) (hf:f=ag.ofString "range") (hb:dZ C.env.scope f=true) (U:∀y∈[b],notStar y=true) (hE:aX C fs ib b) (hT:c0 C.xs t q) (hB:∀X,bV (C.over X) fs (gM bd C.env) ir):sv C fs q ir t bd (.qf (.lit (.int 0)) ib) (.Call (.Name f fp) [b] [] p):=by
 subst hf;intro σ k τ φ Q s h a ho hQ;have h:den (specs fs) ib σ (one λvb=>bp vb λy=>(-(2 ^ 62)<(0:Int)/\(0:Int)<2 ^ 62/\-(2 ^ 62)<y/\y<2 ^ 62)/\mM fs q ir k (dE 0 y) σ):=h;refine D9 V (V.g.gl (ag.ofString "range") (.tail _ (.tail _ (.tail _ (.tail _ (.tail _ (.head _)))))) _ rfl) hb U a (je (hE σ _ h τ φ _ s a λv e h6 t6 W g6=>j5 ⟨W.keeps,?_⟩) (dF (U _ (.head _))));refine aO (W.eQ (show bp e _ from g6)) λy u bx g7 a7=>?_;clear W;subst bx;exact RJ (Mt V hT hB (aq.get?_push_size _ rfl) g7 a7 ho hQ)
theorem Wl (hA:bZ C fs) (hf:f=ag.ofString "range") (hb:dZ C.env.scope f=true) (U:∀y∈[a,b],notStar y=true) (hF:aX C fs ia a) (hE:aX C fs ib b) (hT:c0 C.xs t q) (hB:∀X,bV (C.over X) fs (gM bd C.env) ir):sv C fs q ir t bd (.qf ia ib) (.Call (.Name f fp) [a,b] [] p):=by
 subst hf;intro σ k τ φ Q s h at' ho hQ;have h:den (specs fs) ia σ (one λva=>bp va λx=>den (specs fs) ib σ (one λvb=>bp vb λy=>(-(2 ^ 62)<x/\x<2 ^ 62/\-(2 ^ 62)<y/\y<2 ^ 62)/\mM fs q ir k (dE x y) σ)):=h;refine D9 hA (hA.g.gl (ag.ofString "range") (.tail _ (.tail _ (.tail _ (.tail _ (.tail _ (.head _)))))) _ rfl) hb U at' (je (hF σ _ h τ φ _ s at' λv e h8 t8 a8 g8=>?_) (dF (U _ (.head _))));refine aO (a8.eQ (show bp e _ from g8)) λx u V g9 a9=>?_;clear a8;subst V;refine je (hE σ _ g9 τ φ _ _ a9 λv e kz bC W y6=>j5 ⟨W.keeps,?_⟩) (dF (U _ (.tail _ (.head _))));refine aO (W.eQ (show bp e _ from y6)) λy u2 V Wm D2=>?_;clear W;subst V;exact call_range_2 (Mt hA hT hB (aq.get?_push_size _ rfl) Wm D2 ho hQ)
theorem Wn (U:bZ C fs) (hf:f=ag.ofString "enumerate") (hb:dZ C.env.scope f=true) (V:∀y∈[b],notStar y=true) (hE:aX C fs ib b) (hT:c0 C.xs t q) (hB:∀X,bV (C.over X) fs (gM bd C.env) ir):sv C fs q ir t bd (.r6 ib) (.Call (.Name f fp) [b] [] p):=by
 subst hf;intro σ k τ φ Q s h a ho hQ;refine D9 U (U.g.gl (ag.ofString "enumerate") (.tail _ (.tail _ (.tail _ (.tail _ (.tail _ (.tail _ (.head _))))))) _ rfl) hb V a (je (hE σ _ h τ φ _ s a λv ev h6 t6 a6 g6=>j5 ⟨a6.keeps,?_⟩) (dF (V _ (.head _))));refine dX (qn U.ok (k:=λt W=>wD t.data λd=>match Dg d with | some ds=>q.2=true/\mM fs q ir k (ou 0 ds) W | none=>False) g6 a6 ho) λtr W a7 g7=>ar (fW g7) λd e8 g8=>?_
 cases d with
 |list ds=>cases a7 with
  |mk F N S=>cases S.pop U.ok with
   |mk _ S1 f _=>exact Wi (s:={s with heap:=h6,toks:=t6}) U hT g8.1 hB g8.2 (.mk F N (S1.dR (f tr rfl _ e8))) ho hQ
 |_=>exact g8.elim
theorem Wq (W:bZ C fs) (hE:aX C fs e it) (hT:c0 C.xs t q) (hB:∀X,bV (C.over X) fs (gM bd C.env) ir):sv C fs q ir t bd (.seq e) it:=by
 intro σ k τ φ Q s h a ho hQ;refine hE σ _ h τ φ _ s a λv ev h6 t6 a6 g6=>dX (qn W.ok (k:=λt U=>wD t.data λd=>match r8 d with | some ds=>mM fs q ir k ds U | none=>False) g6 a6 ho) λtr U a7 g7=>ar (fW g7) λd e8 V=>?_
 cases e9:r8 d with
 |none=>rw [e9] at V;exact V.elim
 |some ds=>
  rw [e9] at V;cases a7 with
  |mk F N S=>cases S.pop W.ok with
   |mk _ S1 f _=>exact Mr (s:={s with heap:=h6,toks:=t6}) W hT hB e9 V (.mk F N (S1.dR (f tr rfl _ e8))) ho hQ
theorem Ws (hT:fX C fs te t) (hB:bV C fs (gM bd C.env) ir):bV C fs (cJ (.While t bd [] p) C.env) (.mB te ir):=by
 intro σ k h τ φ Q s a ho hQ;have h:ox (λσ f=>den (specs fs) te σ (one λv=>ly v f)) (aJ (specs fs) ir) σ k:=h;cases h with
 |mk J n hJ turn=>
  refine Us (λn s'=>∃σ φ h tk,s'={s with heap:=h,toks:=tk}/\At C σ τ φ h/\J n σ) ?_ n (nU σ φ s.heap s.toks rfl a hJ)
  rintro n s' ⟨W,oE,Mu,Mv,rfl,a1,Wt⟩
  refine hT W _ (turn n W Wt) τ oE _ _ a1 λc h2 se a2 g2=>?_;have g2:bw c _ _:=g2;cases c with
  |false=>
   refine ae (if_neg (by simp) ..) <| hQ .next .nx _ _ _ _ ⟨rfl,a2⟩ g2
  |true=>
   refine ae (if_pos rfl ..) <| hB W _ g2 τ oE _ {s with heap:=h2,toks:=se} a2 ho λfl f gy jP h3 mK V kf=>?_
   cases f with
   |nx=>refine El.aa V λU a3=>?_;clear V;subst U;refine ar kf λn' l Ea=>?_;clear kf;exact ⟨n',l,gy,jP,h3,mK,rfl,a3,Ea⟩
   |cnt=>refine El.aa V λU a3=>?_;clear V;subst U;refine ar kf λn' l Ea=>?_;clear kf;exact ⟨n',l,gy,jP,h3,mK,rfl,a3,Ea⟩
   |brk=>refine El.aa V λU a3=>?_;clear V;subst U;exact hQ .next .nx _ _ _ _ ⟨rfl,a3⟩ kf
   |ret e=>refine ar V λv U a3=>?_;clear V;subst U;exact hQ (.ret v) (.ret e) _ _ _ _ (av v rfl a3) kf
theorem Wu (hC:C.Ok) (hc:bV C fs c ir):bV C fs c (.seq (.fz i) ir):=by
 intro σ k h τ φ Q s a ho V;refine aO (DP (show mC σ i (λU=>aJ (specs fs) ir U k) from h)) λt d e1 e2 h=>?_;cases a with
 |mk F N S=>
  refine ef (S.mC e1 e2) λbF zz W zz=>hc _ k h τ φ Q s (.mk F N W) ho V
theorem zf (U:C.Ok) (hc:bV C fs c ir):∀gh:List (Nat×Nat),bV C fs c (ghost gh l ir):=@λA=>match A with
 |[]=>hc
 |q::gh=>by
  show bV C fs c (if _ then _ else _)
  by_cases e:q.1=l
  ·refine ae (if_pos e ..) ?_;by_cases e2:q.2=999
   ·refine ae (if_pos e2 ..) ?_;intro σ k h τ φ Q s a ho W;cases (show yJ σ (λV=>aJ (specs fs) (ghost gh l ir) V k) from h) with
    |mk q1 q2 q3 q4 q5=>exact zf U hc gh _ _ q5 _ _ _ _ (VR q1 q2 q3 q4 a) ho W
   ·refine ae (if_neg e2 ..) <| Wu U (zf U hc gh)
  ·refine ae (if_neg e ..) <| zf U hc gh
theorem Wv {st:cU}{r:List cU}{x y:SS}(h1:bV C fs (cJ st C.env) x) (h2:bV C fs (gM r C.env) y):bV C fs (gM (st::r) C.env) (.seq x y):=by
 intro σ k h τ φ Q s a ho hQ;refine wpAny_execs_cons (h1 σ _ h τ φ _ s a ho λfl f gy jP h3 mK V kf=>?_);cases f with
 |nx=>refine El.aa V λU W=>?_;clear V;subst U;exact h2 gy k kf τ jP Q _ W ho λfl f Ww Wx h4 sy V kf=>hQ fl f Ww Wx h4 sy V kf
 |cnt=>refine El.aa V λU W=>?_;clear V;subst U;exact hQ _ .cnt _ _ _ _ ⟨rfl,W⟩ kf
 |brk=>refine El.aa V λU W=>?_;clear V;subst U;exact hQ _ .brk _ _ _ _ ⟨rfl,W⟩ kf
 |ret e=>refine ar V λv U W=>?_;clear V;subst U;exact hQ _ (.ret e) _ _ _ _ (av v rfl W) kf
theorem Wy:bV C fs (gM [] C.env) .nil:=λσ k h τ φ Q s a ho U=>wpAny_execs_nil (U _ .nx _ _ _ _ ⟨rfl,a⟩ h)
theorem Wz:bV C fs c .bad:=λzz zz h=>(show False from h).elim
theorem WA (hT:fX C fs te t) (h1:bV C fs (gM bd C.env) ir) (h2:bV C fs (gM b2 C.env) Mw):bV C fs (cJ (.If t bd b2 p) C.env) (.cS te ir Mw):=λσ k h τ φ Q s a ho hQ=>wpAny_If (hT σ _ h τ φ _ s a λc h4 t4 a4 g4=>Lz (show bw c (aJ (specs fs) ir σ k) (aJ (specs fs) Mw σ k) from g4) (λg=>h1 σ k g τ φ Q _ a4 ho λfl f U V h4 W hf kf=>hQ fl f U V h4 W hf kf) λg=>h2 σ k g τ φ Q _ a4 ho λfl f U V h4 W hf kf=>hQ fl f U V h4 W hf kf)
theorem WB {x:ag}(U:bZ C fs):bV C fs (cJ (.Expr (.Constant (.str x) n p2) p) C.env) .nil:=λσ k h τ φ Q s a ho V=>wV (Constant_str (V .next .nx _ _ s.heap _ ⟨rfl,a⟩ h)) (sj U) rfl
theorem WC:bV C fs (cJ (.Return none p) C.env) (.ret (.lit .none)):=λσ k h τ φ Q s a ho U=>wpAny_Return_none (U (.ret .none) (.ret (aR .none)) _ _ s.heap s.toks (av _ rfl (a.val λzz=>.none)) h)
theorem WD:bV C fs (cJ (.Break p) C.env) .brk:=λσ k h τ φ Q s a ho U=>wpAny_Break (U .brk .brk _ _ s.heap s.toks ⟨rfl,a⟩ h)
theorem WE:bV C fs (cJ (.Continue p) C.env) .cnt:=λσ k h τ φ Q s a ho U=>wpAny_Continue (U .cont .cnt _ _ s.heap s.toks ⟨rfl,a⟩ h)
theorem WG:bV C fs (cJ (.Pass p) C.env) .nil:=λσ k h τ φ Q s a ho U=>wpAny_Pass (U .next .nx _ _ s.heap s.toks ⟨rfl,a⟩ h)
theorem WH (U:aX C fs e x):bV C fs (cJ (.Return (some x) p) C.env) (.ret e):=λσ k h τ φ Q s a ho V=>wpAny_Return_some (U σ _ h τ φ _ s a λv e h3 t3 W g3=>V (.ret v) (.ret e) _ _ _ _ (av v rfl W) g3)
end
section
variable {C:Cx}{fs:bX}{σ:List Tr}{τ:List bg}{φ:Fs}{s:ai}{i j:Nat}{xn yn:ag}{v:af}{t:Tr}{p xp yp:aB}{k:List Tr->Prop}{Q:Unit->ai->Prop}
theorem WI (V:bZ C fs) (hx:C.xs[i]? = some xn) (hy:C.xs[j]? = some yn) {k:KS}(h:yD σ i j λU=>k .nx U) {Q:iP->ai->Prop}(a:At C σ τ φ s.heap) (ho:cw τ) (hQ:js C τ s Q k):Wp C (cJ (.Assign [.Name xn xp] (.Name yn yp) p) C.env) Q s:=by
 cases h with
 |@mk n g h1 h2=>cases a with
  |mk F N S=>
   obtain ⟨bF,S'⟩:=S.lay (t':=b7 (fU g)) h1 (λe=>nomatch e) λO v r=>by
    obtain ⟨zz,b,o,W,cu,lo,hd⟩:=r;subst W;subst cu;exact ⟨mI uP,rfl,b,o,n,rfl,(.inr (.head _)),lo,(hd.mono λa o q=>q.imp_right (wU _))⟩
   have lj:(σ.set j (b7 (fU g)))[j]? = some (b7 (fU g)):=Hg (dU.mp h1).1;refine ar (S'.lK lj) λw rd r=>Rz (V.ok.ld yp hy F N S.eP rd (ku (o:=.own) V.ok V.s (V.hw _) hx h2 (.mk F N (S'.oa (aL (mI uP) rfl r))) ho λU gA h' tk a3 g3=>hQ _ .nx _ _ _ _ ⟨rfl,a3⟩ g3)) (sf rfl)
theorem WJ (hA:bZ C fs) (hx:C.xs[i]? = some xn) (hy:C.xs[j]? = some yn) (h:yE σ t i j k) (a:At C σ ((v,.ow t)::τ) φ s.heap) (hQ:∀U h' tk,At C U ((v,.ow t)::τ) φ h'->k U->Q () {s with heap:=h',toks:=tk}):Wp C (d7 (.Subscript (.Name xn xp) (.Name yn yp) p) C.env v) Q s:=by
 cases h with
 |@mk n g c d e h1 h2 h3 h4=>
  subst e;cases a with
  |mk F N S=>
   have hv:=S.lD.1;refine ar (S.slot h1 λe=>nomatch e) λw W hw=>?_;clear h1;cases hw _ rfl with
   |int _ tc=>
   cases S.od h2 with
   |@mk b o rest rd pN ne hz hd V=>
    refine ef hd.d λkv hk hl ht=>?_;have N':=fL N pN;have nb:=N' (b,o) (.head _);refine VW (hA.ok.ld xp hx F N S.eP rd (hA.ok.ld yp hy F N S.eP W (wpAny_setItem_pairs (hsz:=by unfold cc;omega) (wF C.pg C.w c tc) (aq.dictOf_iff.mpr ⟨o,nb.1,hk C.pg C.w⟩) λh' oF hs=>?_)))
    refine ar (aq.dictOf_iff.mp oF) λo' lJ iJ=>hQ _ h' _ (.mk (F.change hs nb.2.1 nb.2.2) (N'.setIn (own:=[]) (λ_ h=>nomatch h) ne hs lJ) (V o' (n+1) _ ⟨_,λ_ _=>yg iJ,aD (stored_length_le _ _ _) (gY hl),λx=>by
     refine ae (KD ..) ?_;by_cases e:x=c
     ·refine ae (if_pos e ..) (ae (if_pos e ..) ?_);exact ⟨v,rfl,hv⟩
     ·refine ae (if_neg e ..) (ae (if_neg e ..) ?_);exact ht x⟩)) h4
end
theorem WK {E:af->ai->Prop}{s:ai}{nm:ag}{p:aB}{v:af}(h:aA M A (b5 o env) (λov U=>aA M A (setAttr ov nm v) Q E U) E s):aA M A (d7 (.Attribute o nm p) env v) Q E s:=by
 refine ae (assign_Attribute ..) <| au (fo (cK h (λov U V=>au (pJ (au (fo (cK V (λzz i6 W=>wpAny_release W) λzz zz x=>x))))) λzz zz x=>x))
inductive gR (xs:List ag):Expr->lI->Prop
 |nm {x:ag}{i:Nat}{o:Ow}{p:aB}:xs[i]? = some x->gR xs (.Name x p) (.nm i o)
 |dO {x nm:ag}{i j:Nat}{xp p:aB}:xs[i]? = some x->bU[j]? = some nm->gR xs (.Attribute (.Name x xp) nm p) (.dO i j)
 |tp {es:List Expr}{k:Nat}{p:aB}{is:Tg}{ys:List ag}:bB (λ(q:Nat×Ow) x=>xs[q.1]? = some x) is ys->bB (λe x=>∃p,e=Expr.Name x p) es ys->gR xs (.Tuple es k p) (.tp is)
 |qg {x y:ag}{i j:Nat}{xp yp p:aB}:xs[i]? = some x->xs[j]? = some y->gR xs (.Subscript (.Name x xp) (.Name y yp) p) (.qg i j)
theorem gR.each {xs:List ag}{e:Expr}{g:lI}(h:gR xs e g):(jd (e::r) env).map (·.2)=d7 e env::(jd r env).map (·.2):=by
 cases h <;> rfl
section
variable {C:Cx}{fs:bX}{σ:List Tr}{τ:List bg}{φ:Fs}{s:ai}{v:af}{t:Tr}{e e1 e2 e3 x:Expr}{g g1 g2 g3:lI}{ia:SE}{p xp p1:aB}{i j:Nat}{xn nm:ag}{k:List Tr->Prop}
theorem Mx {P:Fz}(h:Dat P v d):nq v=true:=by
 cases h <;> rfl
theorem WL {P:Fz}(h:Rep P t O v) (ht:DD t=true):nq v=true:=by
 cases t with
 |dat d=>exact Mx h.2
 |dl ds=>refine ma h λa n ws U zz=>?_;clear h;subst U;rfl
 |ol ts=>obtain ⟨a,n,ws,Oz,U,zz⟩:=h;subst U;rfl
 |ot ts=>refine ma h λa ws Oz U zz=>?_;clear h;subst U;rfl
 |_=>exact El.ft ht
theorem My {P:Fz}(hc:mE t) (h:Rep P t O v):O=[]/\nq v=true:=by
 cases hc with
 |dat d=>exact ⟨h.1,Mx h.2⟩
 |fz m n=>exact ⟨h.2.1,n _ _ h.2.2⟩
theorem Eb (hA:Al C fs) {N ZL:Led}(hx:C.xs[i]? = some xn) (hn:bU[j]? = some nm) (h:uJ σ i j a k) (F:Fr C.h₀ C.L s.heap φ.1) (hN:aI C.h₀ C.L s.heap N) (S:Sp C σ τ φ.1 N φ.2 ZL) (hv:lu (C.P.and ZL) a v) (hi:nq v=true) (hQ:∀U h' tk,At C U τ φ h'->k U->Q () {s with heap:=h',toks:=tk}):Wp C (d7 (.Attribute (.Name xn xp) nm p) C.env v) Q s:=by
 cases h with
 |@mk y as h1 hj hk=>cases S.inst h1 with
  |@mk es n rest r ha pN hz V=>
   refine WK (hA.ok.ld xp hx F hN S.eP r ?_);have W:N.Perm ((y.2,gc es n)::(y.1,gV 242 y.2)::rest):=pN.trans (.swap _ _ _);have nd:=(bR.mp ((W.map (λq:ak×ay=>q.1)).nodup_iff.mp S.nd)).1;refine hA.g.dO.set ⟨F,(hN _ (pN.mem_iff.mpr (.head _))).1,(hN _ (pN.mem_iff.mpr (.tail _ (.head _)))).1,ha⟩ (fL hN W) (λq hq e=>nd (bf.mpr (av q hq e))) hn hj.1 hi λh' uK n' tk F' N' up=>hQ _ h' tk (.mk F' (fL N' (.swap _ _ _)) (V (T:=[]) (rL rfl uK n' rfl (up _ _ _ ha hv)) rfl gW λzz h=>El.nm h)) hk
theorem At.Mz (hc:mE t) (a:At C σ ((v,.ow t)::τ) φ h):At C σ ((v,.ow t)::(v,.ow t)::τ) φ h:=by
 cases a with
 |mk F N S=>cases S.top with
  |mk r _ _ _=>exact .mk F N (S.oa (show Rep _ t [] v from (My hc r).1▸r))
theorem sC (V:bZ C fs) (hT:gR C.xs e g) (h:Lj σ t k g) (hc:mE t) (a:At C σ ((v,.ow t)::τ) φ s.heap) (ho:cw τ) (W:∀U gA h' tk,At C U ((v,.ow t)::τ) gA h'->k U->Q () {s with heap:=h',toks:=tk}):Wp C (d7 e C.env v) Q s:=by
 cases hT with
 |nm hx=>exact assign_Name (ku V.ok V.s (V.hw _) hx h (a.Mz hc) (yV ho) W)
 |dO hx hn=>cases a with
  |mk F N S=>cases S.top with
   |mk r _ _ _=>
    refine El.aa (My hc r) λbx hi=>?_;clear a_1 a_2;subst bx;exact Eb V.toAl hx hn h F N S r hi λU h' tk a g=>W U φ h' tk a g
 |qg hx hy=>exact WJ V hx hy h a λU h' tk a g=>W U φ h' tk a g
 |tp n1 n2=>
  refine ar (sh (show wL (rX t) _ from h)) λts e1 h=>uQ V.toAlS n1 (λq zz=>V.hw q.1) n2 e1 h (a.Mz hc) (yV ho) W
theorem Ec (V:bZ C fs) {v:af}{k:Tr->List Tr->Prop}(g:jq σ ev λt U=>DE t λt'=>k t' U) (a:At C σ ((v,ev)::τ) φ h) (ho:cw τ):∃t U,At C U ((v,.ow t)::τ) φ h/\mE t/\k t U:=by
 refine dX (qn V.ok (k:=λt U=>DE t λt'=>k t' U) g a ho) λt U W g2=>?_;have g2:(match t.data with
  |some d=>k (.dat d) U
  |none=>mE t/\k t U):=g2
 cases e:t.data with
 |none=>rw [e] at g2;exact bQ t U W g2.1 g2.2
 |some d=>
  rw [e] at g2;cases W with
  |mk F N S=>cases S.pop V.ok with
   |mk _ S' f _=>exact bQ (.dat d) U (.mk F N (S'.dR (f t rfl d e))) (.dat d) g2
theorem WM (V:bZ C fs) (hn:lF x=true) (W:gR C.xs (.Attribute e nm p1) g) (hE:aX C fs ia x):bV C fs (cJ (.Assign [.Attribute e nm p1] x p) C.env) (.fg [g] ia):=by
 refine λσ k h τ φ Q s a ho hQ=>wpAny_Assign_stores (hE σ _ h τ φ _ s a λv ev h1 t1 a1 q1=>?_) (sf (t:=some (.Attribute e nm p1)) (l:=p.line) (env:=C.env) hn) rfl;refine aO (Ec (k:=λt U=>oz t (λU=>k .nx U) [g] U) V q1 a1 ho) λt U a2 hc q2=>sC (k:=λU=>k .nx U) (s:={s with heap:=h1,toks:=t1}) V W q2 hc a2 ho λgy jP h3 tk a3 q3=>hQ _ .nx _ _ _ _ ⟨rfl,a3.drop⟩ q3
theorem WN (V:bZ C fs) (W:gR C.xs e1 g1) (h2:gR C.xs e2 g2) (hE:aX C fs ia x):bV C fs (cJ (.Assign [e1,e2] x p) C.env) (.fg [g1,g2] ia):=by
 refine λσ k h τ φ Q s a ho hQ=>RK (hE σ _ h τ φ _ s a λv ev h3 t3 a3 q3=>?_) (by refine ae (W.each ..) (ae (h2.each ..) ?_);rfl) (by clear h;cases W <;> rfl)
 refine aO (Ec (k:=λt U=>oz t (λU=>k .nx U) [g1,g2] U) V q3 a3 ho) λt U a4 hc q4=>sC (k:=oz t (λU=>k .nx U) [g2]) V W q4 hc a4 ho λMA φ5 h5 t5 a5 q5=>sC (k:=λU=>k .nx U) (s:={s with heap:=h5,toks:=t5}) V h2 q5 hc a5 ho λzg zh h6 t6 a6 q6=>hQ _ .nx _ _ _ _ ⟨rfl,a6.drop⟩ q6
theorem WO (V:bZ C fs) (W:gR C.xs e1 g1) (h2:gR C.xs e2 g2) (h3:gR C.xs e3 g3) (hE:aX C fs ia x):bV C fs (cJ (.Assign [e1,e2,e3] x p) C.env) (.fg [g1,g2,g3] ia):=by
 refine λσ k h τ φ Q s a ho hQ=>wpAny_Assign_three (hE σ _ h τ φ _ s a λv ev h4 t4 a4 q4=>?_) (by refine ae (W.each ..) (ae (h2.each ..) (ae (h3.each ..) ?_));rfl) (by clear h;cases W <;> rfl)
 refine aO (Ec (k:=λt U=>oz t (λU=>k .nx U) [g1,g2,g3] U) V q4 a4 ho) λt U a5 hc q5=>sC (k:=oz t (λU=>k .nx U) [g2,g3]) V W q5 hc a5 ho λzg zh h6 t6 a6 q6=>sC (k:=oz t (λU=>k .nx U) [g3]) (s:={s with heap:=h6,toks:=t6}) V h2 q6 hc a6 ho λσ7 φ7 h7 t7 a7 q7=>sC (k:=λU=>k .nx U) (s:={s with heap:=h7,toks:=t7}) V h3 q7 hc a7 ho λσ8 φ8 h8 t8 a8 q8=>hQ _ .nx _ _ _ _ ⟨rfl,a8.drop⟩ q8
theorem WQ (V:bZ C fs) (hx:C.xs[i]? = some xn) (hn:bU[j]? = some nm) (hy:C.xs[n]? = some yn) (hE:aX C fs ia x):bV C fs (cJ (.Assign [.Attribute (.Name xn xp) nm p1,.Name yn p2] x p) C.env) (.yA i j n o ia):=by
 refine λσ k h τ φ Q s a ho hQ=>RK (hE σ _ h τ φ _ s a λv ev h3 t3 a3 q3=>?_) rfl rfl;refine aO (qn V.ok (k:=λt W=>DD t=true/\uJ W i j .any λoy=>jn oy n o t λU=>k .nx U) q3 a3 ho) λt W a4 hi q4=>?_;cases a4 with
 |mk F N S=>cases S.top with
  |mk r _ _ _=>exact Eb (s:={s with heap:=h3,toks:=t3}) V.toAl hx hn q4 F N S trivial (WL r hi) λMA h5 t5 a5 q5=>assign_Name (ku (k:=λU=>k .nx U) (s:={s with heap:=h5,toks:=t5}) V.ok V.s (V.hw _) hy q5 a5 ho λzg zh h6 t6 a6 q6=>hQ _ .nx _ _ _ _ ⟨rfl,a6⟩ q6)
variable {mi:Nat}{g:Mn}{xs:List Expr}{ap pp:aB}{q:Tg×Bool}{ir:SS}{tg:Expr}{bd:List cU}
theorem WR (U:bZ C fs) (hx:C.xs[i]? = some xn) (V:fs.m[mi]? = some g/\g.nm=nm) (W:fK C fs ia xs) (st:∀y∈xs,notStar y=true) (hl:xs.length<30) (he:(ap.endLine == pp.line)=true):bV C fs (cJ (.Expr (.Call (.Attribute (.Name xn xp) nm ap) xs [] pp) p) C.env) (.qh i mi ia):=by
 intro σ k h τ φ Q s a ho hQ;cases (show jO σ i _ from h) with
 |@mk x as h1 h2=>exact wV (DU U.toAl hx V W st hl he h1 h2 a λu d ij h' tk a2 g2=>hQ .next .nx _ φ h' tk ⟨rfl,a2.drop⟩ g2) (sj U) rfl
theorem WS (V:bZ C fs) (hx:C.xs[i]? = some xn) (W:fs.m[mi]? = some g/\g.nm=nm) (hE:fK C fs ia xs) (st:∀y∈xs,notStar y=true) (hl:xs.length<30) (he:(ap.endLine == pp.line)=true) (hT:c0 C.xs tg q) (hB:∀X,bV (C.over X) fs (gM bd C.env) ir):sv C fs q ir tg bd (.yy i mi ia) (.Call (.Attribute (.Name xn xp) nm ap) xs [] pp):=by
 intro σ k τ φ Q s h a ho hQ;cases (show jO σ i _ from h) with
 |@mk x as h1 h2=>
  refine DU V.toAl hx W hE st hl he h1 h2 a λu d ij h' tk a2 g2=>?_;cases U:r8 d with
  |none=>rw [U] at g2;exact g2.elim
  |some ds=>
   rw [U] at g2;exact Mr (s:={s with heap:=h',toks:=tk}) V hT hB U g2 a2 ho hQ
theorem WT:j4 (.builtin "list.sort")=pure (.type "method_descriptor"):=by kernel_rfl
inductive MB (C:Cx) (σ:List Tr) (τ:List bg) (m:ag->Option af) (N K ZL:Led) (i:Nat) (ds:List ah):Prop
 |mk {a:ak}{n:Nat}{ws:List af}{rest:Led}:C.rd m K i (.ref a)->N.Perm ((a,aQ ws n)::rest)->(∀q∈rest,q.1≠a)->(∀q∈ZL,q∈rest)->aU (C.P.and ZL) ws ds->(∀{fI:List af}{n':Nat}{es:List ah},aU (C.P.and ZL) fI es->Sp C (σ.set i (.dl es)) τ m ((a,aQ fI n')::rest) K ZL)->MB C σ τ m N K ZL i ds
theorem Sp.zi (W:C.Ok) {N K ZL:Led}(S:Sp C σ τ m N K ZL) (hi:σ[i]? = some (.dl ds)) (ho:cw τ):MB C σ τ m N K ZL i ds:=by
 refine ar (S.slot hi λe=>nomatch e) λw r1 zz=>?_;have S1:=S.yw (p:=[]) r1 (show eE N w [] w from rfl);have mr:∀a,w=.ref a->∀q∈ZL,q.1≠a:=λa e q V e2=>by
  cases S with
  |@mk Os Ot vs nd pm rs ln mp tm hx=>
   refine fS (rs.focus hi) λv A B e1 U e3 zz=>?_;obtain ⟨b,k,us,rfl,rfl,_⟩:=U;cases (W.uq r1 (mp i _ _ e1 hi λe=>nomatch e)).symm.trans e
   have n1:=((pm.trans ((e3.append_right _).append_left _)).map (λq:ak×ay=>q.1)).nodup_iff.mp nd;rw [bH,bH] at n1;exact (ed.mp (ed.mp n1).2.1).2.2 a (.head _) q.1 (bf.mpr (av q (bj _ V) rfl)) e2.symm
 clear zz;cases S1.write W hi (show eg (.dl ds) []=some (.dl ds) from rfl) (λe=>El.sn e) with
 |@mk a n ws Oz Ot rest pN ne rp tm g=>
  refine El.aa (Sp.uN rp) λU hw=>?_;clear rp;subst U;exact .mk r1 pN ne (λq V=>(aT.mp (pN.mem_iff.mp (S.sub q V))).resolve_left λe=>mr a rfl q V (by exact ae (e ..) rfl)) hw λ{fI n' es} h=>g (.jo h) (tm.any ho) (.refl _) _ hi
theorem WU (hA:bZ C fs) (n1:bB (λ(q:Nat×Ow) x=>C.xs[q.1]? = some x) is ys) (n2:bB (λe x=>∃p,e=Expr.Name x p) ts ys) (hm:nm=ag.ofString "pop") (hl:(ap.endLine == pp.line)=true) (hx:C.xs[i]? = some xn):bV C fs (cJ (.Assign [.Tuple ts kk tp] (.Call (.Attribute (.Name xn xp) nm ap) [] [] pp) p) C.env) (.yB is i):=by
 subst hm;refine λσ k h τ φ Q s a ho hQ=>RA (kr (λzz h=>El.nm h) (aF rfl) (λzz zz zz=>rfl) hl ?_) (DX rfl) (DZ rfl);cases (show yK σ i _ from h) with
 |@mk r d h1 h2 h3=>cases a with
  |mk F N S=>cases S.zi hA.ok h1 ho with
   |@mk a n ws rest rv pN ne hz hw V=>
    refine hA.ok.ld xp hx F N S.eP rv (wW (fL N pN) (.head _) ael aem (callWith_method0 ?_));refine aO hw.split λw1 w2 U W zj=>?_;clear hw;subst U;obtain ⟨v,rfl⟩:∃v,w2=[v]:=by
     refine aO zj.ig λv q U zz hq=>?_;subst U;obtain rfl:=hq.mf;exact ⟨v,rfl⟩
    refine kl_pop F (fL N pN) (kpa_last _ _) (.head ne) (by unfold cc;refine ae (aG ..) (ae (W.len ..) ?_);refine (?_:r.length+1<=_);have:r.length<2 ^ 24:=h2;omega) λh' F' N'=>?_
    refine ar (sh h3) λus e1 g3=>uQ (s:={s with heap:=h'}) hA.toAlS n1 (λq zz=>hA.hw q.1) n2 (t:=.dat d) (by cases d <;> first | exact e1 | exact nomatch e1) g3 (.mk F' N' ((V W).dR zj.1)) ho λaH gA h' tk a3 g3=>hQ _ .nx _ _ _ _ ⟨rfl,a3⟩ g3
theorem WV (U:bZ C fs) (hm:nm=ag.ofString "sort") (hl:(ap.endLine == pp.line)=true) (hx:C.xs[i]? = some xn):bV C fs (cJ (.Expr (.Call (.Attribute (.Name xn xp) nm ap) [] [] pp) p) C.env) (.qi i):=by
 subst hm;refine λσ k h τ φ Q s a ho hQ=>wV (kr (λzz h=>El.nm h) (aF rfl) (λzz zz zz=>rfl) hl ?_) (sj U) rfl;cases (show DF σ i _ from h) with
 |@mk bl total h1 h2 h3 h4 h5=>cases a with
  |mk F N S=>cases S.zi U.ok h1 ho with
   |@mk a n ws rest rv pN ne hz hw V=>
    refine U.ok.ld xp hx F N S.eP rv (wW (fL N pN) (.head _) PyProof.Rows.slot_list_sort WT (callWith_method0 ?_));exact U.g.df.so _ _ a n ws rest bl total _ s F (fL N pN) ne (λb o q=>q.imp (U.ok.sub _ _) (hz _)) hw h2 h3 h4 λh' tk fI n' F' N' W=>hQ .next .nx _ φ h' tk ⟨rfl,.mk F' N' (V W)⟩ h5
end
section
variable {C:Cx}{fs:bX}{σ:List Tr}{τ:List bg}{φ:Fs}{s:ai}{i:Nat}{m:ag->Option af}{N KL ZL:Led}{v v2:af}{t t2:Tr}
inductive MC (C:Cx) (σ:List Tr) (τ:List bg) (m:ag->Option af) (N KL ZL:Led) (i:Nat) (t t2:Tr) (v2:af):Prop
 |mk {v:af}{O O2 rest:Led}:C.rd m KL i v->Rep (C.P.and ZL) t O v->Rep (C.P.and ZL) t2 O2 v2->N.Perm (O++(O2++rest))->(∀q∈ZL,q∈rest)->(∀t' O',Rep (C.P.and ZL) t' O' v->(adr (O'++rest)).Nodup->Sp C (σ.set i t') τ m (O'++rest) KL ZL)->MC C σ τ m N KL ZL i t t2 v2
theorem Sp.MD (S:Sp C σ ((v2,.ow t2)::τ) m N KL ZL) (ho:cw τ) (hi:σ[i]? = some t) (nu:t≠.un):MC C σ τ m N KL ZL i t t2 v2:=by
 cases S with
 |@mk Os Ot vs nd pm rs ln mp U hx=>
  refine aO U ?_;clear U;intro O2 Or V r2 U;subst V;refine fS (rs.focus hi) λw A B e1 r e3 f=>.mk (mp i _ _ e1 hi nu) r r2 (rest:=Or++(B++(KL++ZL))) (pm.trans ?_) (λq h=>bj _ (bj _ (bj _ h))) λt' O' hr W=>?_
  ·refine ((e3.append_right (KL++ZL)).append_left (O2++Or)).trans <| ae (bt ..) (ae (bt ..) ?_);exact (ra O2 (cE _ _ _)).trans (cE _ _ _)
  ·refine ar (f (P':=C.P.and ZL) (v':=w) (λzz zz h=>h) hr) λyW g1 g2=>?_;rw [DW e1] at g1;refine .mk (Os:=yW) (Ot:=Or) W ?_ g1 ⟨by refine ae (tE ..) <| ln.1,ln.2⟩ (λj y z b1 c1 d1=>?_) (U.any ho) hx
   ·refine (cE _ _ _).trans (.append_left Or ?_);refine ae (bt ..).symm <| g2.symm.append_right _
   ·by_cases e:j=i
    ·clear f g1 c1;subst e;rw [e1] at b1;cases b1;exact mp j _ _ e1 hi nu
    ·have e':i≠j:=λq=>e q.symm;rw [q9 e'] at c1;exact mp j y z b1 c1 d1
section
variable {P:Fz}{a:ak}{n:Nat}{g:Int->Option (List ah)}{l:Option (Int×ak)}{o:ay}{ls:Led}{kv:List (Int×af)}{c:Int}{b:ak}
theorem oG:mF g c d c=some d:=if_pos rfl
theorem oH (h:x≠c):mF g c d x=g x:=if_neg h
theorem il.there (T:il P a n g l o ls kv) {v:af}(h:valueAt kv c=some v):∃b,v=.ref b/\il P a (n+1) (mF g c ((g c).getD [])) (some (c,b)) o ls kv:=by
 cases e:g c with
 |none=>rw [T.no c e] at h;exact El.ns h
 |some ds=>
  refine dM (T.ye c ds e) λb ws k U W h3=>?_;rw [U] at h;cases h
  refine ⟨b,rfl,T.lo,T.d,tF T.n,λx hx=>?_,λx V hx=>?_,T.inj,λc' b' q=>?_⟩
  ·by_cases q:x=c
   ·clear e U;subst q;rw [oG] at hx;exact El.sn hx
   ·rw [oH q] at hx;exact T.no x hx
  ·by_cases q:x=c
   ·clear U;subst q;rw [oG] at hx;cases hx;exact T.ye x ds e
   ·rw [oH q] at hx;exact T.ye x V hx
  ·cases q;exact U
theorem il.made (T:il P a n g l o ls kv) {b k:ak}(h:valueAt kv c=none) (hd:∀(pg:bM) (w:aW),o'.IsDictOf (jc pg w) (stored kv c (.ref b))) (hw:aU P ws []) (hb:∀q∈ls,q.1≠b):il P a (n+1) (mF g c ((g c).getD [])) (some (c,b)) o' ((b,aQ ws k)::ls) (stored kv c (.ref b)):=by
 have e:g c=none:=by
  cases e:g c with
  |none=>rfl
  |some ds=>
   refine ma (T.ye c ds e) λzz zz zz U zz=>?_;rw [U] at h;exact El.sn h
 have off:∀x,valueAt kv x≠some (.ref b):=λx q=>by
  cases ex:g x with
  |none=>rw [T.no x ex] at q;exact El.ns q
  |some ds=>
   refine dM (T.ye x ds ex) λW zz zz U V zz=>?_;rw [U] at q;clear hd;cases q;exact hb _ V rfl
 have sc:∀x,valueAt (stored kv c (.ref b)) x=if x=c then some (.ref b) else valueAt kv x:=λx=>KD kv c (.ref b) x;refine ⟨T.lo,hd,aD (stored_length_le _ _ _) (gY T.n),λx hx=>?_,λx Ed hx=>?_,λx y W U V=>?_,λc' W q=>?_⟩
 ·by_cases q:x=c
  ·clear h hd e sc;subst q;rw [oG] at hx;exact El.sn hx
  ·rw [oH q] at hx;refine ae (sc ..) (ae (if_neg q ..) ?_);exact T.no x hx
 ·by_cases q:x=c
  ·clear h hd;subst q;rw [oG,e] at hx;cases hx
   exact iD b ws k (by exact ae (sc ..) (ae (if_pos rfl ..) rfl)) (.head _) hw
  ·rw [oH q] at hx;refine dM (T.ye x Ed hx) λW fI k' U V h3=>iD W fI k' (by refine ae (sc ..) (ae (if_neg q ..) ?_);exact U) (.tail _ V) h3
 ·rw [sc] at U V;by_cases p:x=c
  ·by_cases q:y=c
   ·exact p.trans q.symm
   ·rw [if_pos p] at U;rw [if_neg q] at V;cases U;exact (off _ V).elim
  ·by_cases q:y=c
   ·rw [if_neg p] at U;rw [if_pos q] at V;cases V;exact (off _ U).elim
   ·rw [if_neg p] at U;rw [if_neg q] at V;exact T.inj x y W U V
 ·cases q;exact ae (sc ..) (ae (if_pos rfl ..) rfl)
theorem il.longer (T:il P a n g (some (c,b)) o ls kv) {ls1 ls2:Led}{ws:List af}{k k':Nat}{ds:List ah}{v:af}{d:ah}(W:∀q,q∈ls↔q=(b,aQ ws k)∨q∈ls2) (hb:∀q∈ls2,q.1≠b) (hg:g c=some ds) (hv:Dat P v d):il P a n (mF g c (ds++[d])) none o ((b,aQ (ws++[v]) k')::ls2) kv:=by
 refine dM (T.ye c ds hg) λb' U k1 V h2 h3=>?_;rw [T.pt c b rfl] at V;cases V
 have hw:aU P ws ds:=by
  rcases (W _).mp h2 with e | e
  ·clear T W hb h2;cases e;exact h3
  ·exact (hb _ e rfl).elim
 refine ⟨T.lo,T.d,T.n,λx hx=>?_,λx Ed hx=>?_,T.inj,λzz zz q=>El.ns q⟩
 ·by_cases q:x=c
  ·clear T hg;subst q;rw [oG] at hx;exact El.sn hx
  ·rw [oH q] at hx;exact T.no x hx
 ·by_cases q:x=c
  ·clear hg;subst q;rw [oG] at hx;cases hx
   exact iD b _ k' (T.pt x b rfl) (.head _) (hw.append (.one hv))
  ·rw [oH q] at hx;refine dM (T.ye x Ed hx) λb' U k1 V h2 h3=>iD b' U k1 V ?_ h3;rcases (W _).mp h2 with e | e
   ·clear W hb hw;cases e;exact (q (T.inj x c b V (T.pt c b rfl))).elim
   ·exact .tail _ e
end
theorem WW (hC:C.Ok) {a:ak}{n:Nat}{g:Int->Option (List ah)}{l:Option (Int×ak)}{c:Int}(hi:σ[i]? = some (.fr (gw a n g l))) (hn:n<2 ^ 24) (A:At C σ ((v2,.ow (.dl []))::τ) φ s.heap) (ho:cw τ)
  (hQ:∀b h' tk,At C (σ.set i (.fr (gw a (n+1) (mF g c ((g c).getD [])) (some (c,b))))) τ φ h'->Q (.ref b) {s with heap:=h',toks:=tk}):Wp C (call (.builtin "dict.setdefault") [.ref a,.int c tc,v2]) Q s:=by
 cases A with
 |mk F N S=>
  have uU:=S.nd;cases S.MD ho hi λe=>nomatch e with
  |@mk v O O2 rest rd r r2 pN hz back=>
   refine uv r λzz W o ls kv cu T=>?_;clear r;clear rd;subst W;subst cu;refine dM r2 λU n2 ws W cu hw=>?_;clear r2;clear S;subst W;subst cu;have nd:=(pN.map (λq:ak×ay=>q.1)).nodup_iff.mp uU;refine El.aa (bR.mp nd) λuV jr=>?_;have N':=fL N pN;have na:=N' (a,o) (.head _);have ne:∀q∈ls++([(U,aQ ws n2)]++rest),q.1≠a:=λq V e=>uV (bf.mpr (av q V e));have e2:(ls++([(U,aQ ws n2)]++rest)).map (λq:ak×ay=>q.1)=adr ls++(U::adr rest):=by refine ae (bH ..) ?_;rfl
   have jr:(adr ls++(U::adr rest)).Nodup:=e2▸(show ((ls++([(U,aQ ws n2)]++rest)).map (λq:ak×ay=>q.1)).Nodup from jr);have uV:a∉adr ls++(U::adr rest):=e2▸(show a∉(ls++([(U,aQ ws n2)]++rest)).map (λq:ak×ay=>q.1) from uV);refine cg (ed.mp jr) λd1 d2 d3=>?_;have hD:=aq.dictOf_iff.mpr (av o na.1 (T.d C.pg C.w));have sub:∀q∈(a,o)::ls++rest,q∈(a,o)::ls++([(U,aQ ws n2)]++rest):=λq V=>(bT.mp V).elim (bE _) λV=>bj _ (bj _ V);refine call_meetsIn aep hD.mapOf.typeIs PySem.F.entry_dict_setdefault (PySem.F.args_dict_setdefault_3 _ _ _) (kt_meets_setdefault (jc C.pg C.w) a (wF C.pg C.w c tc) T.lo _) (jH kv hD (by have:=T.n;unfold cc;omega) (λv' zk=>?_) (λhn h' oF hs=>?_))
   ·refine ar (T.there zk) λb W T'=>?_;clear zk;subst W;refine hQ b s.heap _ (.mk F (λq V=>N' q (sub q V)) (back _ ((a,o)::ls) (xP yY rfl o ls kv rfl T') ?_));refine (?_:(pI _ ((a,o)::(ls++rest))).Nodup);refine ae (iQ ..) (ae (bH ..) ?_);refine bR.mpr ⟨λh=>uV ?_,ed.mpr (aL d1 (bR.mp d2).2 (λx hx y hy=>d3 x hx y (.tail _ hy)))⟩;exact (bT.mp h).elim (bE _) λh=>bj _ (.tail _ h)
   ·refine ar (aq.dictOf_iff.mp oF) λo' lJ iJ=>?_;have N2:=N'.setIn (own:=[]) (λzz h=>El.nm h) ne hs lJ;have hb:∀q∈ls,q.1≠U:=λq V e=>d3 q.1 (bf.mpr (av q V rfl)) U (.head _) e;have T':=T.made (b:=U) (k:=n2) (ws:=ws) hn (λzz zz=>yg iJ) hw hb;refine hQ U h' _ (.mk (N:=(a,o')::((U,aQ ws n2)::ls)++rest) (F.change hs na.2.1 na.2.2) (λq V=>N2 q ?_) (back _ ((a,o')::(U,aQ ws n2)::ls) (xP yY rfl o' _ _ rfl T') ?_))
    ·rcases aT.mp V with rfl | V
     ·exact .head _
     ·refine .tail _ ?_;rcases aT.mp V with rfl | V
      ·exact bj _ (.head _)
      ·exact (bT.mp V).elim (bE _) λh=>bj _ (.tail _ h)
    ·refine (?_:(pI _ ((a,o')::(U,aQ ws n2)::(ls++rest))).Nodup);refine ae (iQ ..) (ae (iQ ..) (ae (bH ..) ?_));refine bR.mpr ⟨λh=>uV ?_,bR.mpr ⟨λh=>?_,ed.mpr (aL d1 (bR.mp d2).2 (λx hx y hy=>d3 x hx y (.tail _ hy)))⟩⟩
     ·rcases aT.mp h with e | h
      ·exact bj _ ((show a=U from e)▸.head _)
      ·exact (bT.mp h).elim (bE _) λh=>bj _ (.tail _ h)
     ·rcases bT.mp h with h | h
      ·exact d3 _ h _ (.head _) rfl
      ·exact (bR.mp d2).1 h
theorem WX (hC:C.Ok) {a:ak}{n:Nat}{g:Int->Option (List ah)}{c:Int}{b:ak}(hi:σ[i]? = some (.fr (gw a n g (some (c,b))))) (hg:g c=some ds) (hl:ds.length<2 ^ 24) (A:At C σ ((v2,aR d)::τ) φ s.heap) (ho:cw τ)
  (hQ:∀h',At C (σ.set i (.fr (gw a n (mF g c (ds++[d])) none))) τ φ h'->Q .none {s with heap:=h'}):Wp C (call (.builtin "list.append") [.ref b,v2]) Q s:=by
 cases A with
 |@mk N0 _ F N S=>
  have uU:=S.nd;have hv:=S.lD.1;cases S.MD ho hi λe=>nomatch e with
  |@mk v O O2 rest rd r r2 pN hz W=>
   refine uv r λzz U o ls kv cu T=>?_;clear r;clear rd;subst U;subst cu;refine El.aa r2 λU zz=>?_;clear r2;subst U;refine dM (T.ye c ds hg) λb' ws k h1 h2 h3=>?_;rw [T.pt c b rfl] at h1;cases h1
   refine uu (ad8 h2) λV l2 U=>?_;subst U;have pA:N0.Perm ((b,aQ ws k)::((a,o)::(V++l2)++rest)):=by
    refine pN.trans <| ae (fE ..) ?_;refine (?_:((a,o)::((V++(b,aQ ws k)::l2)++rest)).Perm _);refine (((nh (l₁:=V)).append_right rest).cons _).trans <| .swap _ _ _
   have nd:=(pA.map (λq:ak×ay=>q.1)).nodup_iff.mp uU;have ne:∀q∈(a,o)::(V++l2)++rest,q.1≠b:=λq hq e=>(bR.mp nd).1 (bf.mpr (av q hq e));refine DQ F (fL N pA) ne (by refine ae (h3.len ..) <| hl) λh' F' N'=>?_
   have T':=T.longer (k:=k) (k':=k+1) (ws:=ws) (ls1:=[]) (ls2:=V++l2) (λq=>⟨λh=>?_,λh=>?_⟩) (λq hq=>ne q (.tail _ (bE _ hq))) hg hv
   ·have pB:((b,aQ (ws++[v2]) (k+1))::((a,o)::(V++l2)++rest)).Perm ((a,o)::((b,aQ (ws++[v2]) (k+1))::(V++l2))++rest):=.swap _ _ _;exact hQ h' (.mk (N:=(a,o)::((b,aQ (ws++[v2]) (k+1))::(V++l2))++rest) F' (fL N' pB) (W _ ((a,o)::(b,aQ (ws++[v2]) (k+1))::(V++l2)) (xP yY rfl o _ _ rfl T') ((pB.map (λq:ak×ay=>q.1)).nodup_iff.mp nd)))
   ·rcases bT.mp h with h | h
    ·exact .inr (bE _ h)
    ·rcases aT.mp h with h | h
     ·exact .inl h
     ·exact .inr (bj _ h)
   ·rcases h with rfl | h
    ·exact h2
    ·exact (bT.mp h).elim (bE _) λh=>bj _ (.tail _ h)
theorem WY {a:ak}:∀(P P':Fz) v,(∀a o,P a o->P' a o)->yF a P v->yF a P' v:=λzz zz zz zz q=>q
variable {j n:Nat}{xn nm yn zn mn:ag}{xp p1 p2 p ap pp lp yp zp:aB}
theorem WZ (U:bZ C fs) (hx:C.xs[i]? = some xn) (hn:bU[j]? = some nm) (hy:C.xs[n]? = some yn) (h:yG σ i j n λV=>k .nx V) (a:At C σ τ φ s.heap) (ho:cw τ) (hQ:js C τ s Q k):Wp C (cJ (.Assign [.Attribute (.Name xn xp) nm p1,.Name yn p2] (.Dict [] [] lp) p) C.env) Q s:=by
 cases h with
 |@mk x as h1 hj hk=>cases a with
  |mk F N S=>
   refine RK (newDict_K F N U.g.df.nl λd h' o F' N' lt lo zz zz hi zz=>?_) rfl rfl;have T:∀P:Fz,il P d 0 (λzz=>none) none o [] []:=λP=>⟨lo,λzz zz=>yg hi,aK _,λzz zz=>rfl,(λzz zz q=>El.ns q),(λzz zz zz q=>El.ns q),(λzz zz q=>El.ns q)⟩;have S':=S.push (o:=o) (t:=.fr (gw d 0 (λzz=>none) none)) lt (xP yY rfl o [] [] rfl (T _));exact Eb (k:=λW=>k .nx (W.set n (.fr (gw d 0 (λzz=>none) none)))) (a:=.rf d) (s:={s with heap:=h'}) U.toAl hx hn ⟨h1,hj,hk d⟩ F' N' S' rfl rfl λMA h5 t5 a5 q5=>assign_Name (ku (o:=.own) (k:=λgy=>k .nx gy) (s:={s with heap:=h5,toks:=t5}) U.ok U.s (U.hw _) hy q5 a5 ho λzg zh h6 t6 a6 q6=>hQ _ .nx _ _ _ _ ⟨rfl,a6⟩ q6)
theorem W0 (V:bZ C fs) (hx:C.xs[i]? = some xn) (hy:C.xs[d]? = some yn) (hz:C.xs[e]? = some zn) (hm:mn=ag.ofString "setdefault") (hl:(ap.endLine == pp.line)=true) (h:yH σ i d e λW=>k .nx W) (A:At C σ τ φ s.heap) (ho:cw τ) (hQ:js C τ s Q k) :
  Wp C (cJ (.Assign [.Name xn xp] (.Call (.Attribute (.Name yn yp) mn ap) [.Name zn zp,.List [] lp] [] pp) p) C.env) Q s:=by
 subst hm;cases h with
 |@mk a n g l c h1 h2 hn hk=>
  have st:∀y∈[Expr.Name zn zp,.List [] lp],notStar y=true:=cz.mpr ⟨rfl,cm.mpr rfl⟩;have hE:fK C fs (.cons (.var e) (.cons (.lst .nil) .nil)) [.Name zn zp,.List [] lp]:=DM rfl (Lw V.toAl hz) (DM rfl (Lx DL) DL);have hd:den (specs fs) (.cons (.var e) (.cons (.lst .nil) .nil)) σ λes=>es=[aR (.int c),.ow (.dl [])]:=by
   refine (?_:(match σ[e]? with
    |none=>False
    |some t=>_))
   refine ae (h2 ..) <| aw (aF rfl) rfl
  have A0:=A;cases A0 with
  |@mk N0 ZL F N S=>
   cases S.part (i:=d) (p:=[]) (u:=.fr (gw a n g l)) (by refine ae (h1 ..) ?_;rfl) λe=>nomatch e with
   |mk rd pv rp pN _=>
    cases (show _=_ from pv)
    refine uv rp λzz U o ls kv cu T=>?_;clear rp;clear pv;subst U;subst cu;have hD:=(aq.dictOf_iff.mpr (av o (N _ (pN.mem_iff.mpr (.head _))).1 (T.d C.pg C.w))).mapOf;refine Rz (kr st (aF rfl) (λzz zz zz=>rfl) hl (V.ok.ld yp hy F N S.eP rd (Rx hD.typeIs aef aep PySem.F.type_dict_setdefault hD.noDict (tG (hE σ _ hd pp τ φ _ s A λvs es h' tk l1 a1 g2=>?_) (dF rfl) rfl)))) (sf rfl);subst g2;refine dX (KH l1) λv1 vr U l2=>?_;clear l1;subst U;refine dX (KH l2) λv2 DV U l3=>?_;subst U;obtain rfl:=AV.mp l3;refine aO (At.eQ (f:=λn=>n=c) (show At C σ ((v1,aR (.int c))::(v2,.ow (.dl []))::τ) φ h' from a1) rfl) λn1 t1 U e1 a2=>?_;subst U;subst e1;refine WW (s:={s with heap:=h',toks:=tk}) V.ok h1 hn a2 ho λb h3 t3 a3=>?_
    cases a3 with
    |mk F3 N3 S3=>exact ku (o:=.own) (k:=λgy=>k .nx gy) (s:={s with heap:=h3,toks:=t3}) V.ok V.s (V.hw _) hx (hk b) (.mk F3 N3 (S3.oa (aL (mI WY) rfl rfl))) ho λzg zh h6 t6 a6 q6=>hQ _ .nx _ _ _ _ ⟨rfl,a6⟩ q6
theorem W2 (U:bZ C fs) (hx:C.xs[i]? = some xn) (hz:C.xs[e]? = some zn) (hm:mn=ag.ofString "append") (hl:(ap.endLine == pp.line)=true) (h:yI σ i e λV=>k .nx V) (A:At C σ τ φ s.heap) (ho:cw τ) (hQ:js C τ s Q k) :
  Wp C (cJ (.Expr (.Call (.Attribute (.Name xn xp) mn ap) [.Name zn zp] [] pp) p) C.env) Q s:=by
 subst hm;cases h with
 |@mk d a n g c b ds dv h1 h2 h3 hg hn hk=>cases A with
  |@mk N0 ZL F N S=>
   refine ar (S.lK h1) λv W ev=>?_;clear h1;cases (show v=.ref b from ev);refine ar (S.slot h2 λe=>nomatch e) λw W3 hw=>?_;cases S.part (i:=d) (p:=[]) (u:=.fr (gw a n g (some (c,b)))) (by refine ae (h3 ..) ?_;rfl) λe=>nomatch e with
   |mk rd pv rp pN _=>
    clear rd;cases (show _=_ from pv);refine uv rp λzz bx o ls kv cu T=>?_;clear rp;subst bx;subst cu;refine dM (T.ye c ds hg) λb' ws k1 q1 q2 q3=>?_;rw [T.pt c b rfl] at q1;cases q1
    refine wV (kr (cm.mpr rfl) (aF rfl) (λzz zz zz=>rfl) hl (U.ok.ld xp hx F N S.eP W (wW N (pN.mem_iff.mpr (bE _ (.tail _ q2))) aej aek (tG (je (U.ok.ld zp hz F N S.eP W3 (j5 ?_)) (dF rfl)) (dF rfl) rfl)))) (sj U) rfl;exact WX (s:=s) U.ok h3 hg hn (.mk F N (S.dR (hw _ rfl))) ho λh' a2=>hQ .next .nx _ φ h' _ ⟨rfl,a2⟩ hk
end
/- cells in a ledger -/
noncomputable def fY (c:ak) (o:ay) (q:ak×ay):ak×ay:=if q.1=c then (c,o) else q
theorem Ee (q:ak×ay):(fY c o q).1=q.1:=by
 unfold fY;by_cases e:q.1=c
 ·refine ae (if_pos e ..) <| e.symm
 ·exact ae (if_neg e ..) rfl
theorem fJ.uq {K:Led}(n:(K.map (·.1)).Nodup) (h:fJ K c u) (h':fJ K c U):u=U:=by
 refine ar h λo a b=>ar h' λo' V W=>?_;cases mq n _ _ _ a V
 exact Data.cell.inj (b.symm.trans W)
theorem fJ.up {K:Led}(ne:U≠c) (h:fJ K U u):fJ (K.map (fY c o)) U u:=by
 refine ar h λV a b=>av V (bf.mpr (av _ a (if_neg ne))) b
theorem fJ.set {K:Led}(hd:o.data=.cell U) (h:fJ K c u):fJ (K.map (fY c o)) c U:=by
 refine ar h λV a b=>av o (bf.mpr (av _ a (if_pos rfl))) hd
theorem sD {K:Led}(n:(K.map (·.1)).Nodup):((K.map (fY c o)).map (·.1)).Nodup:=by
 refine ae (qZ ..) <| (wQ (g:=(·.1)) λq _=>Ee q)▸n
/- comprehensions that capture names -/
noncomputable def iK (env:da):List (ag×gZ)->List (ag×ak)->List (ag×ak):=@λA B=>match A,B with
 |[],acc=>acc
 |(n,k)::r,acc=>iK env r (if k == .free then (n,(env.cells.lookup n).getD 0)::acc else acc)
theorem Ef {env:da}(U:∀n k V,f (n,k) V=if k == .free then (do let c <-Ho env n;pure (.yield ((n,c)::V))) else pure (.yield V)):∀{names:List (ag×gZ)}{acc:List (ag×ak)},(∀y∈names,y.2=.free->(env.cells.lookup y.1).isSome=true)->forIn names acc f=pure (iK env names acc):=@λA B=>match A,B with
 |[],acc=>λzz=>RL
 |(n,k)::r,acc=>λh=>by
  refine ae (tI ..) (ae (U ..) ?_);by_cases e:(k == gZ.free)=true
  ·refine El.ea (AW.mp (h _ (.head _) (eq_of_beq e))) λc hc=>?_;refine (?_:_=(pure (iK env r (if k == .free then (n,(env.cells.lookup n).getD 0)::acc else acc)):iS (List (ag×ak))));refine ae (if_pos e ..) (ae (if_pos e ..) ?_);have ec:Ho env n=pure c:=by unfold Ho;exact ae (hc ..) rfl
   refine ae (ec ..) (ae (hc ..) ?_);exact Ef U λy W=>h y (.tail _ W)
  ·refine (?_:_=(pure (iK env r (if k == .free then (n,(env.cells.lookup n).getD 0)::acc else acc)):iS (List (ag×ak))));refine ae (if_neg e ..) (ae (if_neg e ..) ?_);exact Ef U λy W=>h y (.tail _ W)
theorem Eg {env:da}(h:∀y∈scope.names,y.2=.free->(env.cells.lookup y.1).isSome=true):closureFor scope env=pure (iK env scope.names []):=by
 have e:=Ef (env:=env) (names:=scope.names) (acc:=[]) (f:=λx U=>match x with
  |(name,V)=>if (V == gZ.free)=true then (do let c <-Ho env name;pure (AX ((name,c)::U))) else pure (AX U)) (λn k U=>rfl) h
 refine (?_:(forIn scope.names [] _>>=λU=>(pure U:iS (List (ag×ak))))=_);refine Eq.trans (congrArg (λz:iS (List (ag×ak))=>z>>=λU=>pure U) e) ?_;rfl
theorem uW {env:da}(hc:env.cells.lookup x=some c):∀{names:List (ag×gZ)}{acc:List (ag×ak)},((x,gZ.free)∈names∨acc.lookup x=some c)->(∀U,acc.lookup x=some U->U=c)->(iK env names acc).lookup x=some c:=@λA B=>match A,B with
 |[],acc=>λh zz=>h.elim (λh=>El.nm h) id
 |(n,k)::r,acc=>λh W=>by
  refine (?_:(iK env r (if k == .free then (n,(env.cells.lookup n).getD 0)::acc else acc)).lookup x=_);by_cases e:(k == gZ.free)=true
  ·refine ae (if_pos e ..) ?_;by_cases V:x=n
   ·clear h;subst V;have e3:((x,(env.cells.lookup x).getD 0)::acc).lookup x=some c:=by refine ae (List.lookup_cons_self ..) (ae (hc ..) ?_);rfl
    exact uW hc (.inr e3) λU q=>dJ (q.symm.trans e3)
   ·have e3:((n,(env.cells.lookup n).getD 0)::acc).lookup x=acc.lookup x:=by exact ae (AQ ..) (ae (beq_eq_false_iff_ne.mpr V ..) rfl)
    refine uW hc (h.imp (λq=>?_) λq=>e3.trans q) λU q=>W U (e3.symm.trans q);rcases aT.mp q with q | q
    ·exact (V (wJ q).1).elim
    ·exact q
  ·refine ae (if_neg e ..) <| uW hc (h.imp (λq=>?_) λq=>q) W;rcases aT.mp q with q | q
   ·exact (e (by refine ae ((wJ q).2 ..).symm ?_;rfl)).elim
   ·exact q
noncomputable def fM (s:cj):cj:={s with names:=s.names.map λ(n,k)=>if k == .free then (n,.cell) else (n,k)}
theorem ME {s:cj}{env:da}(U:env.scope.kind=.function) (V:∀y∈s.names,y.2=.free->env.kindOf y.1=some .cell):tJ s env=fM s:=by
 unfold tJ fM;refine congrArg (λl=>({s with names:=l}:cj)) (wQ λy W=>?_)
 obtain ⟨n,k⟩:=y;refine (?_:(if (k == gZ.free && env.scope.kind == .function && env.kindOf n == some .cell) then (n,gZ.cell) else (n,k))=if k == gZ.free then (n,gZ.cell) else (n,k));by_cases e:(k == gZ.free)=true
 ·have e2:=V _ W (eq_of_beq e);have e3:(k == gZ.free && env.scope.kind == .function && env.kindOf n == some .cell)=true:=by refine ae (e ..) (ae (U ..) (ae (show env.kindOf n=some .cell from e2) ?_));rfl
  exact (if_pos e3).trans (if_pos e).symm
 ·have e3:¬(k == gZ.free && env.scope.kind == .function && env.kindOf n == some .cell)=true:=λq=>e (b0 (b0 q).1).1;exact (if_neg e3).trans (if_neg e).symm
def MF (loc:List ag) (cap:List (ag×ak×af)) (A:ak) (K:Led) (i:Nat) (w:af):Prop:=
 (K.map (·.1)).Nodup/\((∃x o m₂,loc[i]? = some x/\(A,o)∈K/\LCg.NsObj o m₂/\m₂ x=some w)∨(∃j q,i=loc.length+j/\cap[j]? = some q/\w=q.2.2/\fJ K q.2.1 (some w)))
structure mN where
 I:ak
 oI:ay
 A:ak
 D:ak
 oD:ay
 R:Led
noncomputable abbrev mN.led (l:mN) (o:ay):Led:=(l.I,l.oI)::(l.A,o)::(l.D,l.oD)::l.R
noncomputable abbrev qq (C:Cx) (env:da) (loc:List ag) (cap:List (ag×ak×af)) (ZL:Led) (jt:ag->Option af) (l:mN):Cx:=
 {C with env:=env,xs:=loc++cap.map (·.1),X:=ZL,wr:=λi=>i<loc.length,ck:=λm K=>m=jt/\(K.map (·.1)).Nodup/\∃o m₂,LCg.NsObj o m₂/\K=l.led o,rd:=λzz=>MF loc cap l.A}
structure mO (env:da) (loc:List ag) (cap:List (ag×ak×af)) (A:ak):Prop where
 al:env.locals=A
 hk:env.scope.kind=.function
 lo:∀x∈loc,env.kindOf x=some .local
 ca:∀q∈cap,env.kindOf q.1=some .cell/\env.cells.lookup q.1=some q.2.1
 db:∀x∈loc++cap.map (·.1),(x == ("__debug__":ag))=false
 nd:loc.Nodup
 is:∀{x:ag},env.kindOf x=some .cell->(env.cells.lookup x).isSome=true
theorem MG {m m':ag->Option af}(h:LCg.NsObj o m) (h':LCg.NsObj o m') (x:ag):m x=m' x:=by
 refine aO h λes ep e1 zz e2=>?_;clear h;refine aO h' λW ep' U zz V=>?_;clear h';clear zz;cases e1.symm.trans U;exact (e2 x).symm.trans (V x)
section
variable {C:Cx}{fs:bX}{env:da}{loc:List ag}{cap:List (ag×ak×af)}{ZL:Led}{jt:ag->Option af}{l:mN}
theorem W4 (hC:C.Ok) (T:mO env loc cap l.A):(qq C env loc cap ZL jt l).Ok:={
 hh:=hC.hh
 hu:=hC.hu
 sub:=hC.sub
 uq:=λ{m K i v v'} r r'=>by
  rcases r.2 with ⟨x,o,m₂,a,b,c,d⟩ | ⟨j,q,a,b,c,d⟩
  ·rcases r'.2 with ⟨x',o',U,V,W,c',d'⟩ | ⟨j',q',V,W,c',d'⟩
   ·cases a.symm.trans V
    cases mq r.1 _ _ _ b W
    exact dJ (d.symm.trans ((MG c c' x).trans d'))
   ·have:=(dU.mp a).1;clear r r' a;subst V;exact absurd this (cW.mpr (ba _ _))
  ·clear r;rcases r'.2 with ⟨x',o',U,V,W,c',d'⟩ | ⟨j',q',V,W,c',d'⟩
   ·have:=(dU.mp V).1;subst a;exact absurd this (cW.mpr (ba _ _))
   ·cases Nat.add_left_cancel (a.symm.trans V)
    clear d';cases b.symm.trans W;exact c.trans c'.symm
 ldn:=λ{i x m N K v Q s} hi F hN mP r hq=>by
  rcases r.2 with ⟨y,o,m₂,a,b,c,d⟩ | ⟨j,q,a,b,c,d⟩
  ·have e:(loc++cap.map (·.1))[i]? = some y:=by rw [kT (dU.mp a).1];exact a
   cases (show (loc++cap.map (·.1))[i]? = some x from hi).symm.trans e
   have ns:s.heap.Ns l.A m₂:=c.ns (hN.get (mP _ b));rw [<-T.al] at ns;exact RM T.hk (T.lo _ (d6 a)) ns d hq
  ·have e:(loc++cap.map (·.1))[i]? = some q.1:=by
    clear hi r;subst a;rw [hH (ba _ _),jZ,fQ,b];rfl
   clear c;cases (show (loc++cap.map (·.1))[i]? = some x from hi).symm.trans e;refine El.aa (T.ca q (d6 b)) λk1 k2=>ar d λo d1 d2=>aeq T.hk k1 k2 (av o (hN _ (mP _ d1)).1 d2) hq
 yu:=T.db}
theorem W5 (T:mO env loc cap l.A):(qq C env loc cap ZL jt l).St:=⟨λ{i x m N K v Q s} hi hw ck nd mP F hN h=>by
 have hw:i<loc.length:=hw;have hx:loc[i]? = some x:=by
  have:(loc++cap.map (·.1))[i]? = some x:=hi
  rwa [kT hw] at this
 have ck:m=jt/\(K.map (·.1)).Nodup/\∃o m₂,LCg.NsObj o m₂/\K=l.led o:=ck;refine Ke ck λem W o m₂ ho eK=>?_;clear ck;have hA:(l.A,o)∈K:=by refine ae (eK ..) <| .tail _ (.head _)
 have hg:=hN _ (mP _ hA);have ns:s.heap.Ns env.locals m₂:=by refine ae (T.al ..) <| ho.ns hg.1
 refine RN (T.lo x (d6 hx)) ns (λh' hn hs=>?_) (by refine ae (T.hk ..) ?_;rfl)
 rw [T.al] at hn hs;refine ar (LCg.ns_obj hn) λU lJ V=>?_;have kp:∀b ob,b≠l.A->s.heap.get? b=some ob->h'.get? b=some ob:=λb ob hb e=>(hs.2 b hb).trans e;have Eh:(l.A,U)∈K.map (fY l.A U):=bf.mpr (av _ hA (if_pos rfl));have MH:K.map (fY l.A U)=l.led U:=by
  refine ae (eK ..) ?_;rw [eK] at W;have n1:=bR.mp W;have n2:=bR.mp n1.2;have n3:=bR.mp n2.2;refine (?_:fY l.A U (l.I,l.oI)::fY l.A U (l.A,o)::fY l.A U (l.D,l.oD)::l.R.map (fY l.A U)=_);have q1:fY l.A U (l.I,l.oI)=(l.I,l.oI):=if_neg λe:l.I=l.A=>n1.1 (by refine ae (e ..) <| .head _)
  have q2:fY l.A U (l.A,o)=(l.A,U):=if_pos rfl;have q3:fY l.A U (l.D,l.oD)=(l.D,l.oD):=if_neg λe:l.D=l.A=>n2.1 (by refine ae (e ..).symm <| .head _)
  have q4:l.R.map (fY l.A U)=l.R:=yS λq hq=>if_neg λe:q.1=l.A=>n2.1 (.tail _ (bf.mpr (av q hq e)));exact ae (q1 ..) (ae (q2 ..) (ae (q3 ..) (ae (q4 ..) rfl)))
 refine h h' _ m (fY l.A U) ⟨F.ns.at λo e=>kp _ _ hg.2.1.symm e,λb ob e=>kp b ob (λq=>by rw [q,hg.2.2] at e;exact El.ns e) (F.keep b ob e),F.above⟩ (λq hq=>?_) Ee (λq hq qr=>?_) ⟨em,sD W,U,_,V,MH⟩ (λj w hj r=>?_) ⟨sD W,.inl (rM x U _ hx Eh V (if_pos rfl))⟩
 ·refine ar (bf.mp hq) λq' qu e=>?_;clear hq;subst e;unfold fY;by_cases e:q'.1=l.A
  ·refine ae (if_pos e ..) <| ⟨lJ,hg.2⟩
  ·refine ae (if_neg e ..) <| ⟨kp _ _ e (hN q' qu).1,(hN q' qu).2⟩
 ·refine if_neg λe=>qr ?_;clear qr;obtain ⟨b,ob⟩:=q;clear T hi ck F hN h eK hg hn hs lJ kp Eh MH;cases (show b=l.A from e);cases mq nd _ _ _ hq (mP _ hA)
  exact hA
 ·refine ⟨sD W,r.2.imp (λr=>?_) λr=>?_⟩
  ·refine fS r λy o1 m1 a b c d=>?_;clear r;clear eK hg;cases mq W _ _ _ b hA;refine rM y U _ a Eh V ?_;have ne:y≠x:=λe=>by
    clear hi hn V;subst e;exact hj ((tK hw T.nd).mp (hx.trans a.symm)).symm
   exact (if_neg ne).trans ((MG ho c y).trans d)
  ·refine nQ r λj' q a b c d=>?_;clear r;refine i4 j' q a b c ?_;by_cases e:q.2.1=l.A
   ·refine ar d λoc d1 d2=>?_;rw [e] at d1;clear eK hg;cases mq W _ _ _ d1 hA;refine dX ho λes ep e1 zz=>?_;clear ho;rw [e1] at d2;clear r c d;cases d2
   ·exact d.up e⟩
theorem W6 {C:Cx}{fs:bX}(U:yO C fs):yO (qq C env loc cap ZL jt l) fs:=⟨U.fn,U.gl,U.mt,⟨U.dO.get,U.dO.set⟩,⟨U.df.nl,U.df.mu,U.df.so,⟨U.df.mm.get,U.df.mm.run⟩,U.df.gm⟩⟩
theorem W7 {C:Cx}(T:mO env loc cap l.A):DK (qq C env loc cap ZL jt l):=⟨λ{i x m K v} hx hk U=>by
 have hx:(loc++cap.map (·.1))[i]? = some x:=hx;have hk:env.kindOf x=some .cell:=hk;have U:MF loc cap l.A K i v:=U;rcases U.2 with ⟨y,o,m₂,V,zz,zy,zx⟩ | ⟨j,q,V,W,h3,h4⟩
 ·have hl:=(dU.mp V).1;rw [kT hl,V] at hx;cases hx
  cases (T.lo _ (d6 V)).symm.trans hk
 ·clear U;subst V;clear U;subst h3;rw [hH (ba _ _),jZ,fQ,W] at hx;clear hk;cases hx;exact (av _ (T.ca q (d6 W)).2 h4),T.is⟩
theorem W8 (U:Al C fs) (T:mO env loc cap l.A) (e1:env.globals=iA) (e2:env.builtins=tD):AlS (qq C env loc cap ZL jt l) fs:={ok:=W4 U.ok T,g:=W6 U.g,e1:=e1,e2:=e2,e3:=T.hk,ck:=W7 T,s:=W5 T}
end
section
variable {C:Cx}{fs:bX}{env:da}{loc:List ag}{cap:List (ag×ak×af)}{N K ZL:Led}{m:ag->Option af}{σ:List Tr}{τ:List bg}
theorem MI {P:Fz}{σ:List Tr}(h:bO P σ O vs):∀n:Nat,bO P (dK n .un++σ) O (dK n .none++vs):=@λA=>match A with
 |0=>h
 |n+1=>bQ [] O rfl rfl (MI h n)
theorem W9 {I A D:ak}(S:Sp C σ τ m N K ZL) (off:LCg.Off3 I A D N) (ne:(@Ne Nat I A)/\(@Ne Nat I D)/\(@Ne Nat A D)) (hn:LCg.NsObj oA m₂) (hc:∀q∈cap,fJ K q.2.1 (some q.2.2)) (hd:aU (C.P.and ZL) (cap.map (·.2.2)) cN) :
  ∃R,(∀q∈N,q∈R∨q∈ZL)/\Sp (qq C env loc cap ZL m ⟨I,oI,A,D,oD,R⟩) (dK loc.length .un++cN.map .dat) [] m ((I,oI)::(A,oA)::(D,oD)::N) (mN.led ⟨I,oI,A,D,oD,R⟩ oA) ZL:=by
 cases S with
 |@mk Os Ot vs nd pm rs ln mp tm hx=>
  have U:=LCg.Off3.mem off;have no:∀a:ak,(∀p∈N,p.1≠a)->a∉N.map (·.1):=λa h q=>by refine ar (bf.mp q) λp V e=>h p V e
  have W:N.Perm ((Ot++(Os++K))++ZL):=by
   refine pm.trans ?_;rw [bt,bt]
  have yT:((I,oI)::(A,oA)::(D,oD)::N).Perm (mN.led ⟨I,oI,A,D,oD,Ot++(Os++K)⟩ oA++ZL):=.cons _ (.cons _ (.cons _ W));have jr:(((I,oI)::(A,oA)::(D,oD)::N).map (·.1)).Nodup:=by
   refine bR.mpr ⟨λh=>?_,bR.mpr ⟨λh=>?_,bR.mpr ⟨no _ λp V=>(U p V).2.2,nd⟩⟩⟩
   ·rcases aT.mp h with h | h
    ·exact ne.1 h
    ·rcases aT.mp h with h | h
     ·exact ne.2.1 h
     ·exact no _ (λp V=>(U p V).1) h
   ·rcases aT.mp h with h | h
    ·exact ne.2.2 h
    ·exact no _ (λp V=>(U p V).2.1) h
  have MJ:((mN.led ⟨I,oI,A,D,oD,Ot++(Os++K)⟩ oA).map (·.1)).Nodup:=by
   have:=(yT.map (·.1)).nodup_iff.mp jr;rw [bH] at this;exact (ed.mp this).1
  have hl:=hd.len;refine av (Ot++(Os++K)) (λq hq=>bT.mp (W.mem_iff.mp hq)) (.mk (Os:=[]) (Ot:=[]) (vs:=dK loc.length .none++cap.map (·.2.2)) jr yT (MI (yU hd) _) ⟨?_,rfl,MJ,oA,m₂,hn,rfl⟩ (λi w t h1 h2 h3=>⟨MJ,.inr ?_⟩) rfl λzz h=>h)
  ·refine (?_:_=(loc++cap.map (·.1)).length);exact ae (aG ..) (ae (aG ..) (ae (AY ..) (ae (aY ..) (ae (aY ..) (ae (hl ..).symm (ae (aY ..) rfl))))))
  ·by_cases hi:i<loc.length
   ·rw [kT (by refine ae (AY ..) <| hi)] at h2
    obtain ⟨_,e⟩:=dU.mp h2;rw [aer] at e;exact (h3 e.symm).elim
   ·have Ei:(dK loc.length af.none).length<=i:=by refine ae (AY ..) <| cW.mp hi
    rw [hH Ei,AY,fQ] at h1;refine ar (map_some h1) λq e1 e2=>i4 (i-loc.length) q (Hp (cW.mp hi)).symm e1 e2 <| ar (hc q (d6 e1)) λo a b=>av o (.tail _ (.tail _ (.tail _ (bj _ (bj _ a))))) (by rw [e2];exact b)
theorem Xa (hC:C'.Ok) (hP:C'.P=C.P) (hX:C'.X=ZL) {A I D:ak}(S:Sp C σ τ m N K ZL) (nd:(((I,oI)::(A,oA)::(D,oD)::N).map (·.1)).Nodup) (hK:∀q∈(I,oI)::(A,oA)::(D,oD)::N,q∈K'∨q∈ZL) (S':Sp C' aH [(u,.ow t)] m' N' K' bF) (hy:t.data=some y) :
  ∃T,N'.Perm (((I,oI)::(A,oA)::(D,oD)::N)++T)/\Sp C σ τ m (N++T) K (ZL++T)/\Dat (C.P.and (ZL++T)) u y/\LCg.Off3 I A D (N++T):=by
 cases S'.pop hC with
 |@mk Xb z1 S2 f g=>
  have z2:=S2.sub;have hd:=f t rfl y hy;rw [hP] at hd;have hN:∀q∈(I,oI)::(A,oA)::(D,oD)::N,q∈N':=λq hq=>(hK q hq).elim (S'.eP q) λh=>S2.sub q (by cases S2 with | mk _ _ _ _ _ _ hx=>exact hx q (hX▸h))
  refine El.ea (Lu nd hN) λT pT=>?_;have U:((((I,oI)::(A,oA)::(D,oD)::N)++T).map (·.1)).Nodup:=(pT.map _).nodup_iff.mp (by cases S' with | mk nd _ _ _ _ _ _=>exact nd)
  rw [bH] at U;refine cg (ed.mp U) λzz Xc mr=>?_;have S3:Sp C σ τ m (N++T) K (ZL++T):=by
   cases S with
   |@mk Os Ot vs uU pm rs ln mp tm hx=>
    refine .more (T:=[]) ?_ ((pm.append_right T).trans ?_) rs ln mp (tm.mono (λzz h=>bE _ h) λzz h=>bE _ h) hx λzz h=>bE _ h
    ·refine ae (bH ..) <| ed.mpr (aL uU Xc (λa V b hb=>mr a (.tail _ (.tail _ (.tail _ V))) b hb))
    ·rw [bt,bt,bt]
  refine jH T pT S3 (hd.mono λa o q=>q.imp_right λq=>?_) (DJ λp hp=>?_)
  ·rcases bT.mp (pT.mem_iff.mp (z2 _ q)) with h | h
   ·exact bE _ ((hK _ h).resolve_left λh=>S2.mr h q)
   ·exact bj _ h
  ·refine El.aa (bR.mp (show (I::A::D::(N.map (·.1))).Nodup from nd)) λn1 n2=>El.aa (bR.mp n2) λn2 n3=>El.aa (bR.mp n3) λn3 zz=>?_;have W:∀a∈[I,A,D],a∉N.map (·.1)->p.1≠a:=λa V hn e=>by
    rcases bT.mp hp with h | h
    ·exact hn (e▸bf.mpr (av p h rfl))
    ·refine mr a ?_ _ (bf.mpr (av p h rfl)) e.symm;clear nd hK hN pT U mr n1 hn e;rcases aT.mp V with rfl | V
     ·exact .head _
     ·clear n2;rcases aT.mp V with rfl | V
      ·exact .tail _ (.head _)
      ·clear n2 n3;cases cQ.mp V;exact .tail _ (.tail _ (.head _))
   exact aL (W I (.head _) λh=>n1 (.tail _ (.tail _ h))) (W A (.tail _ (.head _)) λh=>n2 (.tail _ h)) (W D (.tail _ (.tail _ (.head _))) n3)
theorem MK (hA:Al C fs) {I A D:ak}{q:Tg×Bool}(T:mO env loc cap A) (eA:env.globals=iA) (eB:env.builtins=tD) (hT:c0 (loc++cap.map (·.1)) tg q) (eR:∀p∈q.1,p.1<loc.length)
  (hE:∀C':Cx,Al C' fs->C'.env=env->C'.xs=loc++cap.map (·.1)->aX C' fs elt el)
  {s:ai}(F:Fr C.h₀ C.L s.heap m) (NN:aI C.h₀ C.L s.heap ((I,oI)::(A,oA)::(D,oD)::N)) (S:Sp C σ τ m N K ZL) (off:LCg.Off3 I A D N) (ne:(@Ne Nat I A)/\(@Ne Nat I D)/\(@Ne Nat A D)) (hn:LCg.NsObj oA m₂) (hc:∀q∈cap,fJ K q.2.1 (some q.2.2)) (hd:aU (C.P.and ZL) (cap.map (·.2.2)) cN)
  (hv:oB (C.P.and ZL) q.2 d v s.heap) {R:ah->Prop}(h:iH q.1 q.2 d (dK loc.length .un++cN.map .dat) λfV=>den (specs fs) elt fV (one λe=>match e with
   |.ow t=>wD t.data R
   |.bo zz zy=>False))
  (hQ:∀u y h' tk V U T,Fr C.h₀ C.L h' m->aI C.h₀ C.L h' ((I,oI)::(A,V)::(D,oD)::(N++T))->LCg.NsObj V U->Sp C σ τ m (N++T) K (ZL++T)->Dat (C.P.and (ZL++T)) u y->LCg.Off3 I A D (N++T)->R y->Q u {s with heap:=h',toks:=tk}) :
  aA (az C.pg C.w) C.A (d7 tg env v) (λzz eH=>aA (az C.pg C.w) C.A (b5 el env) Q (λzz zz=>False) eH) (λzz zz=>False) s:=by
 obtain ⟨W,hR,S'⟩:=W9 (env:=env) (loc:=loc) (cap:=cap) S off ne hn hc hd
 let C':=qq C env loc cap ZL m ⟨I,oI,A,D,oD,W⟩
 have hS:AlS C' fs:=W8 hA T eA eB;refine Mg (C:=C') (φ:=(m,mN.led ⟨I,oI,A,D,oD,W⟩ oA)) hS hT eR hv F NN S' h (λzz h=>El.nm h) λfV oE h1 t1 a1 g1=>hE C' hS.toAl rfl rfl fV _ g1 [] oE Q {s with heap:=h1,toks:=t1} a1 λu e h2 t2 a2 g2=>?_
 cases e with
 |bo _ _=>exact g2.elim
 |ow t=>
  refine ar (fW g2) λy ey hy=>?_;cases a2 with
  |@mk N2 Z2 F2 D6 S2=>
   have ck:oE.1=m/\(oE.2.map (·.1)).Nodup/\∃o m₂,LCg.NsObj o m₂/\oE.2=mN.led ⟨I,oI,A,D,oD,W⟩ o:=S2.Dr.1;refine Ke ck λem nk V U Ej eK=>?_;clear ck;have nd:(((I,oI)::(A,V)::(D,oD)::N).map (·.1)).Nodup:=by
    have:(((I,oI)::(A,oA)::(D,oD)::N).map (·.1)).Nodup:=by cases S' with | mk nd _ _ _ _ _ _=>exact nd
    exact this
   have hK:∀q∈(I,oI)::(A,V)::(D,oD)::N,q∈oE.2∨q∈ZL:=λq hq=>by
    refine ae (eK ..) ?_;rcases aT.mp hq with rfl | hq
    ·exact .inl (.head _)
    ·rcases aT.mp hq with rfl | hq
     ·exact .inl (.tail _ (.head _))
     ·rcases aT.mp hq with rfl | hq
      ·exact .inl (.tail _ (.tail _ (.head _)))
      ·exact (hR q hq).imp (λh=>.tail _ (.tail _ (.tail _ h))) id
   refine gk (Xa (C:=C) (ZL:=ZL) hS.ok rfl rfl S nd hK S2 ey) λT pT S3 D8 lL=>hQ u y h2 t2 V U T (em▸F2) (λq hq=>D6 q (pT.mem_iff.mpr hq)) Ej S3 D8 lL hy
end
section
variable {prog:bM}{w:aW}{A:cD}{E:af->ai->Prop}{R:eZ->ai->Prop}{s:ai}
theorem Xe {pos:aB}{env:da}(I:Nat->ai->Prop)
  (turn:∀n s,I n s->aA (az prog w) A (iU it) (λr V=>match r with
   |none=>R (.ok .next) V
   |some v=>aA (az prog w) A (ny U it v) (λzz V=>aA (az prog w) A (d7 U env v) (λzz W=>aA (az prog w) A (b5 elt env) (λx i6=>
     aA (az prog w) A (call (.builtin "list.append") [acc,x]) (λzz gC=>∃m,m<n/\I m gC) (λzz zz=>False) i6) (λzz zz=>False) W) (λzz zz=>False) V) (λzz zz=>False) V) (λzz zz=>False) s)
  (n:Nat) (h:I n s):dc (az prog w) A (.compLoop (.ListComp elt [⟨U,iter,[],0⟩] scope pos) 0 it acc env) R s:=by
 refine RO rfl I (λn s hI=>?_) n h;refine (?_:aA _ A ((AZ (.ListComp elt [⟨U,iter,[],0⟩] scope pos) 0 it acc env).onRaise (λx=>do Hq x env;RQ x)) _ _ s)
 refine RS <| ae (compTurn_list1 ..) <| au (pJ (au (cK (turn n s hI) (λr V dS=>?_) λzz zz h'=>h'.elim)));cases r with
 |none=>exact aZ dS
 |some v=>
  exact au (cK dS (λzz W ky=>au (cK ky (λzz i6 fH=>au (au (cK fH (λx gC uX=>au (cK uX (λzz kA sE=>aZ (aZ ⟨rfl,sE⟩)) λzz zz h'=>h'.elim)) λzz zz h'=>h'.elim))) λzz zz h'=>h'.elim)) λzz zz h'=>h'.elim)
end
section
variable {C:Cx}{fs:bX}{env:da}{loc:List ag}{cap:List (ag×ak×af)}{N₀ K Z₀:Led}{m:ag->Option af}{σ:List Tr}{τ:List bg}
abbrev uY (fs:bX) (elt:SE) (q:Tg×Bool) (n9:List Tr) (k:Ev->Prop) (ds yd:List ah):Prop:=Dq (λfV k=>den (specs fs) elt fV (one k)) q n9 k ds yd
inductive Ek (C:Cx) (fs:bX) (σ:List Tr) (τ:List bg) (m:ag->Option af) (K N₀ Z₀:Led) (I A D:ak) (St:Nat->aq->Prop) (n:Nat) (ds:List ah) (V:List ah->List ah->Prop) (s:ai) (k:Nat):ai->Prop
 |mk {i:Nat}{h':aq}{tk:Nat}{N Z:Led}{ys:List af}{yd:List ah}{oI oA:ay}{m₂:ag->Option af}:i<=n->k=n+1-i->ys.length=i->St i h'->Fr C.h₀ C.L h' m->aI C.h₀ C.L h' ((I,oI)::(A,oA)::(D,aQ ys ys.length)::N)->LCg.NsObj oA m₂->LCg.Off3 I A D N->Sp C σ τ m N K Z->(∀q∈N₀,q∈N)->(∀q∈Z₀,q∈Z)->aU (C.P.and Z) ys yd->V (ds.drop i) yd->Ek C fs σ τ m K N₀ Z₀ I A D St n ds V s k {s with heap:=h',toks:=tk}
theorem Xf (hA:Al C fs) {I A D:ak}{pos:aB}{q:Tg×Bool}(T:mO env loc cap A) (eA:env.globals=iA) (eB:env.builtins=tD) (hT:c0 (loc++cap.map (·.1)) tg q) (eR:∀p∈q.1,p.1<loc.length)
  (hE:∀C':Cx,Al C' fs->C'.env=env->C'.xs=loc++cap.map (·.1)->aX C' fs elt el)
  {P Md:Nat->af->aq->Prop}{St:Nat->aq->Prop}(hn:ds.length=n) (hsz:n<=cc) (W:wX C.pg C.w C.A tg I fp [I] n P Md St)
  (mQ:∀i h,St i h->∃o,h.get? I=some o) (mJ:∀b∈fp,b=I∨(∃o,C.h₀.get? b=some o)∨∃o,(b,o)∈N₀) (ne:(@Ne Nat I A)/\(@Ne Nat I D)/\(@Ne Nat A D))
  (hP:∀i v h d,P i v h->ds[i]? = some d->oB (C.P.and Z₀) q.2 d v h) (hc:∀q∈cap,fJ K q.2.1 (some q.2.2)) (hd:aU (C.P.and Z₀) (cap.map (·.2.2)) cN)
  {s:ai}{R:eZ->ai->Prop}
  (hR:∀h' tk N Z ys yd oA m₂,Fr C.h₀ C.L h' m->aI C.h₀ C.L h' ((A,oA)::(D,aQ ys ys.length)::N)->LCg.NsObj oA m₂->LCg.Off3 I A D N->Sp C σ τ m N K Z->aU (C.P.and Z) ys yd->k (.ow (.dl yd))->R (.ok .next) {s with heap:=h',toks:=tk})
  (h:Ek C fs σ τ m K N₀ Z₀ I A D St n ds (uY fs elt q (dK loc.length .un++cN.map .dat) k) s (n+1) eH) :
  dc (az C.pg C.w) C.A (.compLoop (.ListComp el [⟨tg,iter,[],0⟩] scope pos) 0 (.ref I) (.ref D) env) R eH:=by
 subst hn;refine Xe (Ek C fs σ τ m K N₀ Z₀ I A D St ds.length ds (uY fs elt q (dK loc.length .un++cN.map .dat) k) s) (λkk s' hJ=>?_) _ h;cases hJ with
 |@mk i h' tk N Z ys yd oI oA m₂ hi ek Em st F NN eS off S hN hZ hy hV=>
  have lL:=LCg.Off3.mem off;have nI:=NN (I,oI) (.head _);have nA:=NN (A,oA) (.tail _ (.head _));have nD:=NN (D,aQ ys ys.length) (.tail _ (.tail _ (.head _)));have but:∀{U:aq},(∀b o,b∉[I]->h'.get? b=some o->U.get? b=some o)->Fr C.h₀ C.L U m/\aI C.h₀ C.L U ((A,oA)::(D,aQ ys ys.length)::N):=λ{U} kp=>by
   refine ⟨LCg.fr_but F kp (cR nI.2.1) nI.2.2,LCg.news_but (λp hp=>NN p (.tail _ hp)) kp λp hp=>?_⟩;rcases aT.mp hp with rfl | hp
   ·exact cR ne.1
   ·rcases aT.mp hp with rfl | hp
    ·exact cR ne.2.1
    ·exact (lL p hp).1
  by_cases V:i<ds.length
  ·refine El.ea (⟨_,eC V⟩:∃d,ds[i]? = some d) λd uZ=>?_;have uS:ds.drop i=d::ds.drop (i+1):=by
    refine ae (AS V ..) <| congrArg (·::_) (dJ ((eC V).symm.trans uZ))
   rw [uS] at hV;refine W.item i _ _ _ V st λv U kB Xg lN=>W.go i v _ _ _ Xg λfH En u4 ML=>?_;have kp:∀b o,b∉[I]->h'.get? b=some o->fH.get? b=some o:=λb o hb e=>ML b o hb (lN b o hb e);refine El.aa (but kp) λF3 N3=>El.ea (mQ _ _ u4) λkC u5=>?_;have u6:aI C.h₀ C.L fH ((I,kC)::(A,oA)::(D,aQ ys ys.length)::N):=cz.mpr ⟨⟨u5,nI.2⟩,N3⟩;have Eo:aU (C.P.and Z) (cap.map (·.2.2)) cN:=hd.mono λzz zz q=>q.imp_right (hZ _);have hv:oB (C.P.and Z) q.2 d v fH:=by
    rcases hP i v fH d En uZ with x | ⟨e,T,i,t,x,dx,e1,e2,e3,e4⟩
    ·exact .inl (x.mono λzz zz q=>q.imp_right (hZ _))
    ·exact .inr ⟨e,T,i,t,x,dx,e1,e2,e3,(e4.mono λzz zz q=>q.imp_right (hZ _))⟩
   refine MK (s:={s with heap:=fH,toks:=kB}) hA T eA eB hT eR hE F3 u6 S off ne eS hc Eo hv (R:=λy=>mj (λd k=>iH q.1 q.2 d (dK loc.length Tr.un++cN.map Tr.dat) λfV=>den (specs fs) elt fV (one k)) (λd k=>one k [aR (.bool true)]) (ds.drop (i+1)) λr=>k (.ow (.dl (yd++(y::r))))) hV λu y h4 sy jQ MM T4 F4 N4 Ep S4 Er qv g4=>?_
   have o4:=LCg.Off3.mem qv;have zD:=(N4 (D,aQ ys ys.length) (.tail _ (.tail _ (.head _)))).1;refine append_at (s:={s with heap:=h4,toks:=sy}) (its:=ys.toArray) (n:=ys.length) zD (λh5 u7 Es=>?_) (by show ys.toArray.size<=cc;refine ae (ee ..) (ae (Em ..) ?_);exact aD hi hsz)
   have kD:∀b o,b≠D->h4.get? b=some o->h5.get? b=some o:=λb o hb e=>(u7.2 b hb).trans e;refine av (ds.length+1-(i+1)) (Cy (aC ek) (aE (Cz V)).symm (aE (xy V))) (.mk (i:=i+1) (N:=N++T4) (Z:=Z++T4) (ys:=ys++[u]) (yd:=yd++[y]) (oI:=kC) (oA:=jQ) (m₂:=MM) V rfl (by rw [aG,Em];rfl) ?_ (F4.change u7 nD.2.1 nD.2.2) (λp hp=>?_) Ep qv S4 (λq h=>bE _ (hN q h)) (λq h=>bE _ (hZ q h)) (bB.append (hy.mono λzz zz q=>q.imp_right (bE _)) (.one Er)) ?_)
   ·refine W.frame _ _ _ u4 λb hb o e=>?_;clear mQ hR W h NN off nI but lN ML kp u6 qv o4;rcases mJ b hb with rfl | ⟨o0,h0⟩ | ⟨o0,h0⟩
    ·cases u5.symm.trans e
     exact kD _ _ ne.2.1 (N4 (b,kC) (.head _)).1
    ·cases (F3.keep _ _ h0).symm.trans e
     exact kD _ _ (λq=>by rw [q,nD.2.2] at h0;exact El.ns h0) (F4.keep _ _ h0)
    ·have hm:=hN _ h0;cases (N3 _ (.tail _ (.tail _ hm))).1.symm.trans e
     exact kD _ _ (lL _ hm).2.2 (N4 _ (.tail _ (.tail _ (.tail _ (bE _ hm))))).1
   ·rcases aT.mp hp with rfl | hp
    ·exact ⟨kD _ _ ne.2.1 (N4 (I,kC) (.head _)).1,nI.2⟩
    ·rcases aT.mp hp with rfl | hp
     ·exact ⟨kD _ _ ne.2.2 (N4 (A,jQ) (.tail _ (.head _))).1,nA.2⟩
     ·rcases aT.mp hp with rfl | hp
      ·exact ⟨Es.trans (congrArg some (LCg.lst_snoc ys u)),nD.2⟩
      ·have z:=N4 p (.tail _ (.tail _ (.tail _ hp)));exact ⟨kD _ _ (o4 p hp).2.2 z.1,z.2⟩
   ·refine (?_:mj _ _ (ds.drop (i+1)) λr=>k (.ow (.dl ((yd++[y])++r))))
    simpa only [bt,List.singleton_append] using g4
  ·have ei:i=ds.length:=aN hi (cW.mp V);clear hi ek Em V;subst ei;rw [RT] at hV;refine W.done _ _ _ st λU kB lN=>El.aa (but lN) λF2 N2=>?_;have hV:k (.ow (.dl (yd++[]))):=hV;rw [cL] at hV;exact hR U kB N Z ys yd oA m₂ F2 N2 eS off S hy hV
end
section
variable {C:Cx}{fs:bX}{loc:List ag}{cap:List (ag×ak×af)}{N K Z:Led}{m:ag->Option af}{σ:List Tr}{τ:List bg}
structure oK (env:da) (s2:cj) (loc:List ag) (Et:List ag):Prop where
 ek:env.scope.kind=.function
 hk:s2.kind=.function
 hc:∀y∈s2.names,y.2≠.cell
 hl:∀y∈s2.names,y.2=.local->s2.names.lookup y.1=some .local
 lo:∀x∈loc,(fM s2).names.lookup x=some .local
 ca:∀x∈Et,(fM s2).names.lookup x=some .cell/\(x,gZ.free)∈s2.names
 fr:∀y∈s2.names,y.2=.free->y.1∈Et/\env.kindOf y.1=some .cell
 db:∀x∈loc++Et,(x == ("__debug__":ag))=false
 nd:loc.Nodup
structure MN (C:Cx) (loc:List ag) (cap:List (ag×ak×af)) (s2:cj) (N:Led) (I:ak) (oI:ay) (m:ag->Option af) (h dS:aq) (A D:ak) (oA:ay) (m₂:ag->Option af) (env:da):Prop where
 old:∀b o,h.get? b=some o->dS.get? b=some o
 T:mO env loc cap A
 e1:env.globals=iA
 e2:env.builtins=tD
 e3:env.scope=fM s2
 hn:LCg.NsObj oA m₂
 NN:aI C.h₀ C.L dS ((I,oI)::(A,oA)::(D,aQ [] 0)::N)
 ne:(@Ne Nat I A)/\(@Ne Nat I D)/\(@Ne Nat A D)
 off:LCg.Off3 I A D N
 F:Fr C.h₀ C.L dS m
theorem MO (hA:Al C fs) {s2:cj}(T:oK C.env s2 loc (cap.map (·.1))) (u9:∀q∈cap,C.env.cells.lookup q.1=some q.2.1) {I:ak}{oI:ay}{tg el iter:Expr}{rest:List G9}{pos:aB}{s:ai}{E:af->ai->Prop}
  (Xh:∀U tk (Q:af->ai->Prop) (E:af->ai->Prop),(∀b o,s.heap.get? b=some o->U.get? b=some o)->Q (.ref I) {s with heap:=U,toks:=tk}->aA (az C.pg C.w) C.A (gX (.ref I)) Q E {s with heap:=U,toks:=tk})
  (F:Fr C.h₀ C.L s.heap m) (NN:aI C.h₀ C.L s.heap ((I,oI)::N)) (off:∀p∈N,@Ne Nat p.1 I) {RR:af->ak->eZ->ai->Prop}
  (hL:∀U tk A D oA m₂ env,MN C loc cap s2 N I oI m s.heap U A D oA m₂ env->dc (az C.pg C.w) C.A (.compLoop (.ListComp el (⟨tg,iter,[],0⟩::rest) s2 pos) 0 (.ref I) (.ref D) env) (RR (.ref D) A) {s with heap:=U,toks:=tk}) :
  aA (az C.pg C.w) C.A (qV []) (λacc i6=>aA (az C.pg C.w) C.A (Hr s2 C.env.globals (iK C.env s2.names []) [] C.env.qual none .none (some C.env)) (λvd gC=>
   dc (az C.pg C.w) C.A (.compStart (.ListComp el (⟨tg,iter,[],0⟩::rest) s2 pos) 0 (.ref I) acc {vd with scope:=tJ s2 C.env}) (RR acc vd.locals) gC) E i6) E s:=by
 have nI:=NN (I,oI) (.head _);have oM:aI C.h₀ C.L s.heap N:=λp hp=>NN p (.tail _ hp);refine Ba (wpAny_newFunctionEnv T.hc (by intro y hy;simp at hy) (λU Eu V=>?_) T.hk)
 dsimp only at Eu V ⊢;generalize hH2:s.heap.push {cls:=.type "list",dict:=none,data:=.seq ([]:List af).toArray}=H2 at Eu V ⊢;have hC:H2.objs.size=s.heap.objs.size+1:=by exact ae (hH2 ..).symm (ae (aq.size_push ..) rfl)
 have MP:s.heap.objs.size≠H2.objs.size:=by refine ae (hC ..) ?_;exact cy (nf _)
 have below:∀b,b<s.heap.objs.size->b≠H2.objs.size/\b≠s.heap.objs.size:=λb hb=>⟨by refine ae (hC ..) ?_;exact cy (pL hb),cy hb⟩
 have old:∀b o,s.heap.get? b=some o->U.get? b=some o:=λb o e=>V.extBut b o (below b (aq.lt_size e)).1 (aq.get?_push_of_some _ (hH2▸aq.get?_push_of_some _ e));have Xi:U.get? s.heap.objs.size=some (aQ [] 0):=V.extBut _ _ MP (aq.get?_push_of_some _ (hH2▸aq.get?_push_size _ rfl));have W:∀a,s.heap.objs.size<=a->C.h₀.get? a=none:=λa ha=>by
  cases e:C.h₀.get? a with
  |none=>rfl
  |some o'=>exact absurd (aq.lt_size (F.keep a o' e)) (cW.mpr ha)
 have Xj:=W _ (aK _);have Xk:C.h₀.get? H2.objs.size=none:=W _ (by refine ae (hC ..) ?_;exact kU _)
 have MQ:=below C.L F.ns.lt;have hI:=below I (aq.lt_size nI.1);refine ar (LCg.ns_obj Eu) λoA Xl eS=>?_;have lk:∀x,(RU s2 (iK C.env s2.names []) H2.objs.size C.env).kindOf x=(fM s2).names.lookup x:=λx=>by
  refine (?_:(tJ s2 C.env).names.lookup x=_);exact ae (ME T.ek λy hy e=>(T.fr y hy e).2 ..) rfl
 have TC:mO (RU s2 (iK C.env s2.names []) H2.objs.size C.env) loc cap H2.objs.size:={
  al:=rfl
  hk:=T.hk
  lo:=λx hx=>(lk x).trans (T.lo x hx)
  ca:=λq hq=>⟨(lk q.1).trans (T.ca _ (bf.mpr (av q hq rfl))).1,uW (u9 q hq) (.inl (T.ca _ (bf.mpr (av q hq rfl))).2) λc' e=>El.ns e⟩
  db:=T.db
  nd:=T.nd
  is:=λ{x} e=>by
   have e1:=Lv ((lk x).symm.trans e);refine ar (bf.mp e1) λy hy hq=>?_;have hf:(x,gZ.free)∈s2.names:=by
    obtain ⟨n,kd⟩:=y;cases kd with
    |free=>clear e e1;cases hq;exact hy
    |cell=>exact (T.hc _ hy rfl).elim
    |_=>clear e e1;cases hq
   refine El.ea (AW.mp (hA.ck.is (T.fr _ hf rfl).2)) λc hc=>?_;have e2:(iK C.env s2.names []).lookup x=some c:=uW hc (.inl hf) λc' e=>El.ns e;exact AW.mpr ⟨c,e2⟩}
 have key:MN C loc cap s2 N I oI m s.heap U H2.objs.size s.heap.objs.size oA _ (RU s2 (iK C.env s2.names []) H2.objs.size C.env):={
  old:=old
  T:=TC
  e1:=hA.e1
  e2:=hA.e2
  e3:=ME T.ek λy hy e=>(T.fr y hy e).2
  hn:=eS
  NN:=λp hp=>by
   rcases aT.mp hp with rfl | hp
   ·exact ⟨old _ _ nI.1,nI.2⟩
   ·rcases aT.mp hp with rfl | hp
    ·exact aL Xl (cR MQ.1) Xk
    ·rcases aT.mp hp with rfl | hp
     ·exact aL Xi (cR MQ.2) Xj
     ·exact ⟨old _ _ (oM p hp).1,(oM p hp).2⟩
  ne:=aL hI.1 hI.2 (cR MP)
  off:=DJ λp hp=>(aL (off p hp) (below _ (aq.lt_size (oM p hp).1)).1 (below _ (aq.lt_size (oM p hp).1)).2)
  F:=F.keeps old}
 exact codeAny_compStart_list (hL _ _ _ _ _ _ _ key) (Xh _ _ _ _ old (hL _ _ _ _ _ _ _ key))
theorem MR (hA:Al C fs) (T:oK C.env s2 loc (cap.map (·.1))) (u9:∀q∈cap,C.env.cells.lookup q.1=some q.2.1) {pos:aB}{q:Tg×Bool}(hT:c0 (loc++cap.map (·.1)) tg q) (eR:∀p∈q.1,p.1<loc.length)
  (hE:∀C':Cx,Al C' fs->C'.env.scope=fM s2->C'.xs=loc++cap.map (·.1)->aX C' fs elt el)
  {P Md:Nat->af->aq->Prop}{St:Nat->aq->Prop}(hn:ds.length=n) (hsz:n<=cc) (W:wX C.pg C.w C.A tg I fp [I] n P Md St)
  (V:∀(s:ai) (Q:af->ai->Prop) (E:af->ai->Prop),St 0 s.heap->Q (.ref I) s->aA (az C.pg C.w) C.A (gX (.ref I)) Q E s)
  (mQ:∀i h,St i h->∃o,h.get? I=some o) (mJ:∀b∈fp,b=I∨(∃o,C.h₀.get? b=some o)∨∃o,(b,o)∈N)
  (hP:∀i v h d,P i v h->ds[i]? = some d->oB (C.P.and Z) q.2 d v h) (hc:∀q∈cap,fJ K q.2.1 (some q.2.2)) (hd:aU (C.P.and Z) (cap.map (·.2.2)) cN)
  {s:ai}{E:af->ai->Prop}(st:St 0 s.heap) (F:Fr C.h₀ C.L s.heap m) (NN:aI C.h₀ C.L s.heap ((I,oI)::N)) (off:∀p∈N,@Ne Nat p.1 I) (S:Sp C σ τ m N K Z)
  (h:uY fs elt q (dK loc.length .un++cN.map .dat) k ds [])
  {RR:af->ak->eZ->ai->Prop}(hQ:∀D A h' tk N Z ys yd oA m₂,Fr C.h₀ C.L h' m->aI C.h₀ C.L h' ((A,oA)::(D,aQ ys ys.length)::N)->LCg.NsObj oA m₂->(@Ne Nat A D)->(∀p∈N,(@Ne Nat p.1 A)/\@Ne Nat p.1 D)->Sp C σ τ m N K Z->aU (C.P.and Z) ys yd->k (.ow (.dl yd))->RR (.ref D) A (.ok .next) {s with heap:=h',toks:=tk}) :
  aA (az C.pg C.w) C.A (qV []) (λacc i6=>aA (az C.pg C.w) C.A (Hr s2 C.env.globals (iK C.env s2.names []) [] C.env.qual none .none (some C.env)) (λU gC=>
   dc (az C.pg C.w) C.A (.compStart (.ListComp el [⟨tg,iter,[],0⟩] s2 pos) 0 (.ref I) acc {U with scope:=tJ s2 C.env}) (RR acc U.locals) gC) E i6) E s:=by
 refine MO (RR:=RR) hA T u9 (λdS tk Q E old q=>V _ Q E (W.frame _ _ _ st λb _ o e=>old b o e) q) F NN off λdS tk A D oA m₂ env Y=>Xf (N₀:=N) (Z₀:=Z) (s:=s) hA Y.T Y.e1 Y.e2 hT eR (λC' a b c=>hE C' a (b▸Y.e3) c) hn hsz W mQ mJ Y.ne hP hc hd (k:=k) (λh' tk N' Z' ys yd jQ m₂ F' mR ve Ew S' hy hk=>?_) (.mk (i:=0) (N:=N) (Z:=Z) (ys:=[]) (yd:=[]) (oI:=oI) (oA:=oA) (bA _) rfl rfl (W.frame _ _ _ st λb _ o e=>Y.old b o e) Y.F Y.NN Y.hn Y.off S (λ_ h=>h) (λ_ h=>h) (show aU (C.P.and Z) [] [] from rfl) h);exact hQ _ _ h' tk N' Z' ys yd jQ m₂ F' mR ve Y.ne.2.2 (λp hp=>(LCg.Off3.mem Ew p hp).2) S' hy hk
theorem MS {K:Fs}{s:ai}{k:List Ev->Prop}{Q:af->ai->Prop}{E:af->ai->Prop}{D A:ak}{h':aq}{tk:Nat}{N Z:Led}{ys:List af}{yd:List ah}{oA:ay}{m₂:ag->Option af}(hQ:Nx C σ τ K s Q λe=>k [e])
  (F:Fr C.h₀ C.L h' K.1) (NN:aI C.h₀ C.L h' ((A,oA)::(D,aQ ys ys.length)::N)) (eS:LCg.NsObj oA m₂) (ne:@Ne Nat A D) (off:∀p∈N,(@Ne Nat p.1 A)/\@Ne Nat p.1 D) (S:Sp C σ τ K.1 N K.2 Z) (hd:aU (C.P.and Z) ys yd) (hk:k [.ow (.dl yd)]) :
  Bb (az C.pg C.w) C.A E none Q (.ref D) A (.ok .next) {s with heap:=h',toks:=tk}:=by
 have V:=NN (A,oA) (.head _);refine av m₂ (eS.ns V.1) (λsF U=>Vi (s:=s) hQ (F.change U V.2.1 V.2.2) (λp W=>?_) (λp W=>(off p W).2) S hd hk);refine ⟨U.extBut _ _ ?_ (NN p (.tail _ W)).1,(NN p (.tail _ W)).2⟩;rcases aT.mp W with rfl | W
 ·exact cR ne
 ·exact (off p W).1
theorem Xm (hA:bZ C fs) (hx:C.xs[i]? = some y) {D A:ak}{N Z:Led}{s:ai}{E:af->ai->Prop}
  (F:Fr C.h₀ C.L h' m) (NN:aI C.h₀ C.L h' ((A,oA)::(D,aQ ys ys.length)::N)) (eS:LCg.NsObj oA m₂) (ne:@Ne Nat A D) (off:∀p∈N,(@Ne Nat p.1 A)/\@Ne Nat p.1 D) (S:Sp C σ τ m N K Z) (hd:aU (C.P.and Z) ys yd) (ho:cw τ) (g:jn σ i o (.dl yd) λaH=>k .nx aH) (hQ:js C τ s Q k)
  (hE:∀v s',False->E v s'):Bb (az C.pg C.w) C.A E (some (d7 (.Name y yp) C.env)) (λzz s'=>Q .next s') (.ref D) A (.ok .next) {s with heap:=h',toks:=tk}:=by
 have nA:=NN (A,oA) (.head _);have S1:Sp C σ ((.none,.ow (qp [(A,oA)]))::τ) m ([(A,oA)]++N) K Z:=S.Me ho (by simp) λp U q hq=>by clear NN eS ne nA;cases cQ.mp U;exact cR (off q hq).1
 have S2:=S1.rY (D:=D) (o:=aQ ys ys.length) (t:=.dl yd) (λp U=>by
  rcases aT.mp U with rfl | U
  ·exact ne
  ·exact (off p U).2) (.jo hd)
 have a2:At C σ ((.ref D,.ow (.dl yd))::(.none,.ow (qp [(A,oA)]))::τ) (m,K) h':=.mk F (λp U=>by
  rcases aT.mp U with rfl | U
  ·exact NN _ (.tail _ (.head _))
  ·rcases aT.mp U with rfl | U
   ·exact NN _ (.head _)
   ·exact NN _ (.tail _ (.tail _ U))) S2
 have zd:cw ((af.none,Ev.ow (qp [(A,oA)]))::τ):=yV ho;refine (?_:aA (az C.pg C.w) C.A (d7 (.Name y yp) C.env (.ref D)) _ E {s with heap:=h',toks:=tk})
 refine cK (assign_Name (ku (s:={s with heap:=h',toks:=tk}) hA.ok hA.s (hA.hw _) hx g a2 zd (Q:=λzz W=>∃m,W.heap.Ns A m/\∀h',aq.SameBut A W.heap h'->Q .next {W with heap:=h'}) λaH gA h3 mK a3 g3=>?_)) (λzz zz x=>x) hE
 cases a3 with
 |mk F3 N3 S3=>
  refine ef (S3.Mf ho) λN4 pm ne4 S4=>?_;have Ex:=N3 (A,oA) (pm.mem_iff.mpr (.head _));refine av m₂ (eS.ns Ex.1) (λsF V=>hQ _ .nx _ _ _ _ ⟨rfl,.mk (F3.change V Ex.2.1 Ex.2.2) (λp U=>?_) S4⟩ g3);have:=N3 p (pm.mem_iff.mpr (.tail _ U));exact ⟨V.extBut _ _ (cR (ne4 _ (.head _) p U)) this.1,this.2⟩
end
section
variable {C:Cx}{fs:bX}{loc:List ag}{σ:List Tr}{τ:List bg}
theorem zl (W:DK C) {N K ZL:Led}{m:ag->Option af}(S:Sp C σ τ m N K ZL):∀{is:List Nat}{xs:List ag}{k:List ah->Prop},bB (λi x=>C.xs[i]? = some x) is xs->(∀x∈xs,C.env.kindOf x=some .cell)->ml σ is k->
  ∃(cap:List (ag×ak×af)) (U:List ah),cap.map (·.1)=xs/\(∀q∈cap,C.env.cells.lookup q.1=some q.2.1/\fJ K q.2.1 (some q.2.2))/\aU (C.P.and ZL) (cap.map (·.2.2)) U/\k U:=@λA B D=>match A,B,D with
 |[],xs,k=>λV zz h=>(i4 [] [] (show xs=[] from V).symm (λq h=>El.nm h) rfl h)
 |i::r,[],k=>λV zz h=>(show False from V).elim
 |i::r,x::xs,k=>λV h2 h=>by
  have h:(match σ[i]? with | none=>False | some t=>match t with | .dat d=>ml σ r λds=>k (d::ds) | _=>False):=h
  cases e:σ[i]? with
  |none=>rw [e] at h;exact h.elim
  |some t=>
   rw [e] at h;cases t with
   |dat d=>
    refine ar (S.slot e (by intro q;cases q)) λv r hd=>?_
    refine ar (W.rd V.1 (h2 _ (.head _)) r) λc q1 q2=>nQ (zl W S V.2 (λx hx=>h2 x (.tail _ hx)) h) λcap U c1 c2 c3 c4=>i4 ((x,c,v)::cap) (d::U) (congrArg (x::·) c1) (cz.mpr ⟨⟨q1,q2⟩,c2⟩) ⟨hd d rfl,c3⟩ c4
   |_=>exact h.elim
theorem Xn (hA:Al C fs) {s2:cj}{U:List ag}{V:List Nat}(T:oK C.env s2 loc U) (lO:bB (λi x=>C.xs[i]? = some x) V U) {tg el iter:Expr}{pos:aB}{q:Tg×Bool}{src elt:SE}(hT:c0 (loc++U) tg q) (eR:∀p∈q.1,p.1<loc.length)
  (hE:∀C':Cx,Al C' fs->C'.env.scope=fM s2->C'.xs=loc++U->aX C' fs elt el) (hi:lE iter=true) (hS:aX C fs src iter) {k:List Ev->Prop}
  (h:den (specs fs) src σ (one λvs=>gv σ vs λds=>small ds.length/\ml σ V λcN=>uY fs elt q (dK loc.length .un++cN.map .dat) (λe=>k [e]) ds []))
  {K:Fs}{Q:af->ai->Prop}{s:ai}(a:At C σ τ K s.heap) (hQ:Nx C σ τ K s Q λe=>k [e]):Wp C (b5 (.ListComp el [⟨tg,iter,[],0⟩] s2 pos) C.env) Q s:=by
 have oN:∀x∈U,C.env.kindOf x=some .cell:=λx hx=>(T.fr _ (T.ca x hx).2 rfl).2;refine (?_:Wp C (RV (.ListComp el [⟨tg,iter,[],0⟩] s2 pos) s2 C.env _ (qV []) false (b5 iter C.env) none) Q s);refine RW (use:=none) rfl (yQ hi) (Eg λy hy e=>hA.ck.is (T.fr y hy e).2) T.hk T.hl (hS σ _ h τ K _ s a λv e h' tk a' g=>?_);refine ef (qd (show gv σ e _ from g)) λds e1 hz g=>?_;cases DO hA.ok a' e1 with
 |@mk N ZL W ws F NN S hd p=>
  refine nQ (zl hA.ck S lO oN g) λcap cN bx c2 c3 g=>?_;clear lO oN;subst bx;have hl:h'.IsList W ws.toArray:=p.list F.keep NN;have b8:W<h'.objs.size:=by refine ar hl λzz e zz=>?_;clear hl;exact aq.lt_size e
  have len:ws.toArray.size=ds.length:=by refine ae (ee ..) ?_;exact hd.len
  refine wZ (s:={s with heap:=h',toks:=tk}) hl ?_
  have up:∀b o,h'.get? b=some o->(h'.push {cls:=.type "list_iterator",data:=.fields #[.ref W,.int 0 0]}).get? b=some o:=λb o e=>aq.get?_push_of_some _ e;refine MR (RR:=λacc A=>Bb (az C.pg C.w) C.A (λzz zz=>False) none Q acc A) (s:={s with heap:=_,toks:=tk}) (I:=h'.objs.size) (oI:={cls:=.type "list_iterator",data:=.fields #[.ref W,.int 0 0]}) (St:=λi h=>h.IsListIter h'.objs.size W i/\h.IsList W ws.toArray) hA T (λq hq=>(c2 q hq).1) hT eR hE len.symm (by refine ae (len ..) ?_;exact hz) (wX.ofWalks (j6.list hA.ok.hh h'.objs.size W (cy b8) ws.toArray) λi v s Q E st q=>letGo_listiter st.1 q) (λs Q E st q=>(j6.list hA.ok.hh h'.objs.size W (cy b8) ws.toArray).self 0 s Q E st q) (λi h st=>by refine ar st.1 λo e zz=>?_;exact ⟨o,e⟩) (λb hb=>?_) (λi v h d hv he=>.inl ?_) (λq hq=>(c2 q hq).2) c3 ⟨(dq _ (aq.get?_push_size _ rfl) rfl rfl),hl.push _⟩ (F.keeps up) (λp hp=>?_) (λp hp=>cy (aq.lt_size (NN p hp).1)) S g (λD A h2 se N2 Z2 ys yd oA m₂ F2 mR eS ne off S2 hy hk=>MS hQ F2 mR eS ne off S2 hy hk)
  ·rcases aT.mp hb with rfl | hb
   ·exact .inl rfl
   ·clear a' hl b8 up;cases cQ.mp hb;rcases p with ⟨o,e,_⟩ | ⟨o,e,_⟩
    ·exact .inr (.inl ⟨o,e⟩)
    ·exact .inr (.inr ⟨o,e⟩)
  ·rw [qU] at hv;exact rQ hd _ _ _ hv he
  ·rcases aT.mp hp with rfl | hp
   ·exact aL (aq.get?_push_size _ rfl) (cR (cy F.ns.lt)) (wY F)
   ·exact ⟨up _ _ (NN p hp).1,(NN p hp).2⟩
end
section
variable {C:Cx}{fs:bX}{loc:List ag}{σ:List Tr}{τ:List bg}
theorem Ey (V:Al C fs) {s:ai}(hg:kn C f (.type T)) (hb:dZ C.env.scope f=true) (W:∀y∈x::r,notStar y=true) (at':At C σ τ φ s.heap) (h:Wp C (qW (iT p (gf (x::r) C.env))) (λvs U=>Keeps C.h₀ U.heap/\Wp C (call (.type T) vs) Q U) s):Wp C (b5 (.Call (.Name f fp) (x::r) [] p) C.env) Q s:=by
 cases at' with
 |mk F N S=>
  refine El.aa (qe hb) λh1 h2=>qX (hg C.env fp _ _ s V.e1 V.e2 V.e3 h1 h2 F (yP C.env p x r _ s W h))
theorem Xo {x y:Int}{i:Nat}{d:ah}(h:(dE x y)[i]? = some d):d=.int (x+(i:Nat)):=by
 unfold dE at h;rw [fQ] at h;refine ar (map_some h) λj e3 U=>?_;clear h;subst U;obtain ⟨W,V⟩:=dU.mp e3;rw [aeo] at V;clear e3;subst V;rfl
theorem MT:(dE x y).length=(y-x).toNat:=by unfold dE;exact ae (aY ..) (ae (pK ..) rfl)
theorem Xp (hA:Al C fs) {s2:cj}{U:List ag}{MU:List Nat}(T:oK C.env s2 loc U) (lO:bB (λi x=>C.xs[i]? = some x) MU U) {tg el b:Expr}{f:ag}{fp p pos:aB}{q:Tg×Bool}{ib elt:SE}(hT:c0 (loc++U) tg q) (eR:∀p∈q.1,p.1<loc.length)
  (hE:∀C':Cx,Al C' fs->C'.env.scope=fM s2->C'.xs=loc++U->aX C' fs elt el) (hf:f=ag.ofString "range") (hb:dZ C.env.scope f=true) (sq:∀y∈[b],notStar y=true) (hS:aX C fs ib b) {k:List Ev->Prop}
  (h:den (specs fs) ib σ (one λvb=>bp vb λy=>(-(2 ^ 62)<y/\y<2 ^ 62)/\small (dE 0 y).length/\ml σ MU λcN=>uY fs elt q (dK loc.length .un++cN.map .dat) (λe=>k [e]) (dE 0 y) []))
  {K:Fs}{s:ai}(a:At C σ τ K s.heap) {RR:af->ak->eZ->ai->Prop}
  (hQ:∀D A h' tk N Z ys yd oA m₂,Fr C.h₀ C.L h' K.1->aI C.h₀ C.L h' ((A,oA)::(D,aQ ys ys.length)::N)->LCg.NsObj oA m₂->(@Ne Nat A D)->(∀p∈N,(@Ne Nat p.1 A)/\@Ne Nat p.1 D)->Sp C σ τ K.1 N K.2 Z->aU (C.P.and Z) ys yd->k [.ow (.dl yd)]->RR (.ref D) A (.ok .next) {s with heap:=h',toks:=tk}) :
  aA (az C.pg C.w) C.A (b5 (.Call (.Name f fp) [b] [] p) C.env) (λx eH=>aA (az C.pg C.w) C.A (gX x) (λit gz=>aA (az C.pg C.w) C.A (qV []) (λacc i6=>aA (az C.pg C.w) C.A (Hr s2 C.env.globals (iK C.env s2.names []) [] C.env.qual none .none (some C.env)) (λvd gC=>
   dc (az C.pg C.w) C.A (.compStart (.ListComp el [⟨tg,.Call (.Name f fp) [b] [] p,[],0⟩] s2 pos) 0 it acc {vd with scope:=tJ s2 C.env}) (RR acc vd.locals) gC) (λzz zz=>False) i6) (λzz zz=>False) gz) (λzz zz=>False) eH) (λzz zz=>False) s:=by
 subst hf;have oN:∀x∈U,C.env.kindOf x=some .cell:=λx hx=>(T.fr _ (T.ca x hx).2 rfl).2;refine Ey hA (hA.g.gl (ag.ofString "range") (.tail _ (.tail _ (.tail _ (.tail _ (.tail _ (.head _)))))) _ rfl) hb sq a (je (hS σ _ h τ K _ s a λv e h6 t6 a6 g6=>j5 ⟨a6.keeps,?_⟩) (dF (sq _ (.head _))));refine aO (a6.eQ (show bp e _ from g6)) λy u V g7 a7=>?_;clear a6;subst V;refine RJ ?_;have hr:Hm (h6.push {cls:=.type "range",data:=.fields #[.int 0 t6,.int y u,.int 1 (t6+1)]}) h6.objs.size 0 y 1 t6 u (t6+1):=aq.get?_push_size _ rfl;cases a7 with
 |@mk N ZL F0 Ez S=>
  refine nQ (zl hA.ck S lO oN g7.2.2) λcap cN V c2 c3 g=>?_;clear lO oN;subst V;have F:=F0.push {cls:=.type "range",data:=.fields #[.int 0 t6,.int y u,.int 1 (t6+1)]};have NN:=sr (o:={cls:=.type "range",data:=.fields #[.int 0 t6,.int y u,.int 1 (t6+1)]}) Ez;generalize h6.push {cls:=.type "range",data:=.fields #[.int 0 t6,.int y u,.int 1 (t6+1)]}=H at hr F NN ⊢;refine aen (s:={s with heap:=H,toks:=t6+1+1}) hr (RE (by decide) (by decide) (tC g7.1.1) g7.1.2) ?_
  have up:∀b o,H.get? b=some o->(H.push {cls:=.type "range_iterator",data:=.fields #[jE 0,jE (bY.Range.rangeSize 0 y 1),jE 1]}).get? b=some o:=λb o e=>aq.get?_push_of_some _ e;have W:=j6.range (prog:=C.pg) (w:=C.w) hA.ok.hh H.objs.size 0 1 (y-0).toNat;refine MR (RR:=RR) (s:={s with heap:=_,toks:=t6+1+1}) (I:=H.objs.size) (oI:={cls:=.type "range_iterator",data:=.fields #[jE 0,jE (bY.Range.rangeSize 0 y 1),jE 1]}) hA T (λq hq=>(c2 q hq).1) hT eR hE (MT (x:=0) (y:=y)) (by refine ae (MT ..).symm ?_;exact g7.2.1) (wX.ofWalks W λi v s Q E st q=>Mo st q) (λs Q E st q=>W.self 0 s Q E st q) (λi h st=>⟨_,st⟩) (λb hb=>.inl (cQ.mp hb)) (λi v h d hv he=>.inl ?_) (λq hq=>(c2 q hq).2) c3 ?_ (F.keeps up) (λp hp=>?_) (λp hp=>cy (aq.lt_size (NN p hp).1)) S g (λD A h' tk N Z ys yd oA m₂ F2 mR eS ne off S2 hy hk=>hQ D A h' tk N Z ys yd oA m₂ F2 mR eS ne off S2 hy hk)
  ·refine El.ea hv λt V=>?_;clear hv;subst V;refine ae (Xo he ..) ?_;refine ae (RH ..) ?_;exact .int _ t
  ·have:=aq.get?_push_size H (o:={cls:=.type "range_iterator",data:=.fields #[jE 0,jE (bY.Range.rangeSize 0 y 1),jE 1]}) rfl;rw [RG] at this ⊢;refine (?_:RD _ _ _ _ _);simp at this ⊢;exact this
  ·rcases aT.mp hp with rfl | hp
   ·exact aL (aq.get?_push_size _ rfl) (cR (cy F.ns.lt)) (wY F)
   ·exact ⟨up _ _ (NN p hp).1,(NN p hp).2⟩
theorem Xq (hA:bZ C fs) {i:Nat}{o:Ow}{y:ag}{yp ap:aB}(hy:C.xs[i]? = some y) {s2:cj}{U:List ag}{V:List Nat}(T:oK C.env s2 loc U) (lO:bB (λi x=>C.xs[i]? = some x) V U) {tg el b:Expr}{f:ag}{fp p pos:aB}{q:Tg×Bool}{ib elt:SE}(hT:c0 (loc++U) tg q) (eR:∀p∈q.1,p.1<loc.length)
  (hE:∀C':Cx,Al C' fs->C'.env.scope=fM s2->C'.xs=loc++U->aX C' fs elt el) (hf:f=ag.ofString "range") (hb:dZ C.env.scope f=true) (sq:∀y∈[b],notStar y=true) (hS:aX C fs ib b)
  (Xr:Ry (.ListComp el [⟨tg,.Call (.Name f fp) [b] [] p,[],0⟩] s2 pos) (some (.Name y yp)) ap.line C.env=pure true):bV C fs (cJ (.Assign [.Name y yp] (.ListComp el [⟨tg,.Call (.Name f fp) [b] [] p,[],0⟩] s2 pos) ap) C.env) (.asg i o (.x7 q.1 q.2 V loc.length ib elt)):=by
 intro σ k h τ φ Q s a ho hQ;refine (?_:Wp C (cJ (.Assign [.Name y yp] (.ListComp el [⟨tg,.Call (.Name f fp) [b] [] p,[],0⟩] s2 pos) ap) C.env) Q s);unfold Wp;refine ae (exec_Assign_Name_used _ _ _ _ Xr ..) ?_;refine au (pJ (au ?_));refine (?_:aA (az C.pg C.w) C.A (do let _ <-RV (.ListComp el [⟨tg,.Call (.Name f fp) [b] [] p,[],0⟩] s2 pos) s2 C.env _ (qV []) false (b5 (.Call (.Name f fp) [b] [] p) C.env) (some (d7 (.Name y yp) C.env))) _ _ s)
 refine au (cK (RW (use:=some (d7 (.Name y yp) C.env)) (Q:=λzz s'=>Q .next s') rfl (λzz=>rfl) (Eg λy hy e=>hA.ck.is (T.fr y hy e).2) T.hk T.hl ?_) (λ_ s' hq=>aZ (aZ hq)) λ_ _ e=>e);exact Xp (k:=one λv=>jq σ v λt W=>jn W i o t λW=>k .nx W) hA.toAl T lO hT eR hE hf hb sq hS h a (RR:=λacc A=>Bb (az C.pg C.w) C.A (λzz zz=>False) (some (d7 (.Name y yp) C.env)) (λzz s'=>Q .next s') acc A) λD A h' tk N Z ys yd oA m₂ F NN eS ne off S hd hk=>Xm (m:=φ.1) (K:=φ.2) (k:=k) hA hy F NN eS ne off S hd ho hk hQ (λzz zz h=>h)
end
end Internal.Mine
end
section
open PySem PySem.W PySem.Calls PyProof.Rows PyProof.Rows.LCg
open Mine
namespace Internal.Mine
section
variable {prog:bM}{w:aW}{A:cD}{R:eZ->ai->Prop}{E:af->ai->Prop}{s:ai}
noncomputable abbrev fB (elt t0 V t1 i1:Expr) (U:List Expr) (scope:cj) (pos:aB):Expr:=.ListComp elt [⟨t0,V,[],0⟩,⟨t1,i1,U,0⟩] scope pos
theorem Xs (elt t0 V t1 i1:Expr) (U:List Expr) (scope:cj) (pos:aB) (it acc:af) (env:da) :
  AZ (fB elt t0 V t1 i1 U scope pos) 0 it acc env=(do
   qY V.pos
   match <-iU it with
   |none=>pure (.done .next)
   |some v=>
    ny t0 it v
    d7 t0 env v
    let x <-b5 i1 env
    qY i1.pos
    let x <-wN i1 env x
    let _ <-runOwn (.compStart (fB elt t0 V t1 i1 U scope pos) 1 (<-Hf [x] (gX x)) acc env) env
    again (.compLoop (fB elt t0 V t1 i1 U scope pos) 0 it acc env)):=by rfl
theorem Xu (elt t0 V t1 i1:Expr) (U:List Expr) (scope:cj) (pos:aB) (it acc:af) (env:da) :
  AZ (fB elt t0 V t1 i1 U scope pos) 1 it acc env=(do
   qY i1.pos
   match <-iU it with
   |none=>pure (.done .next)
   |some v=>
    ny t1 it v
    d7 t1 env v
    let mut ok:=true
    for c in U do
     if ok then ok <-AM c env (b5 c env)
    if ok then
     (do let _ <-call (.builtin "list.append") [acc,<-b5 elt env])
    again (.compLoop (fB elt t0 V t1 i1 U scope pos) 1 it acc env)):=by rfl
theorem Xv {pos:aB}{env:da}(hh:A.handled=none) (I:Nat->ai->Prop)
  (turn:∀n s,I n s->aA (az prog w) A (iU it) (λr U=>match r with
   |none=>R (.ok .next) U
   |some v=>aA (az prog w) A (d7 t0 env v) (λ_ V=>aA (az prog w) A (b5 i1 env) (λx W=>aA (az prog w) A (gX x) (λzq gC=>
     dc (az prog w) A (.compStart (fB elt t0 i0 t1 i1 vf scope pos) 1 zq acc env) (λr kA=>match r with | .ok _=>∃m,m<n/\I m kA | .error _=>False) gC)
     (nB (az prog w) A env λe s'=>R (.error e) s') W) (nB (az prog w) A env λe s'=>R (.error e) s') V) (nB (az prog w) A env λe s'=>R (.error e) s') U) (nB (az prog w) A env λe s'=>R (.error e) s') s)
  (n:Nat) (h:I n s) (ht:∀v,ny t0 it v=pure ():=by intro _;rfl) (hs:∀x,wN i1 env x=pure x:=by intro _;rfl) :
  dc (az prog w) A (.compLoop (fB elt t0 i0 t1 i1 vf scope pos) 0 it acc env) R s:=by
 refine RO rfl I (λn s hI=>?_) n h;show aA _ A ((AZ (fB elt t0 i0 t1 i1 vf scope pos) 0 it acc env).onRaise (λx=>do Hq x env;RQ x)) _ _ s
 refine RS <| ae (Xs ..) <| au (pJ (au (cK (turn n s hI) (λr U dS=>?_) λ_ _ h'=>h')));cases r with
 |none=>exact aZ dS
 |some v=>
  refine au (w3 (ht v) ?_);refine au (cK dS (λ_ V ky=>?_) λ_ _ h'=>h');refine au (cK ky (λx W fH=>?_) λ_ _ h'=>h');refine au (pJ (au (w3 (hs x) ?_)));refine au (fo (cK fH (λzq gC uX=>?_) λ_ _ h'=>h'));have hm:A.mark none=A:=by cases A;simp only at hh;subst hh;rfl
  refine au (wpAny_runOwn ?_);refine ae (hm ..) <| codeAny_mono uX (λr kA sE=>?_);cases r with
  |ok f=>exact aZ ⟨rfl,sE⟩
  |error x=>exact sE.elim
theorem Xw {pos:aB}{env:da}
  (h0:dc (az prog w) A (.compLoop (fB elt t0 i0 t1 i1 U scope pos) 1 it acc env) R s)
  (h:aA (az prog w) A (gX it) (λV W=>dc (az prog w) A (.compLoop (fB elt t0 i0 t1 i1 U scope pos) 1 V acc env) R W)
   (nB (az prog w) A env λx W=>R (.error x) W) s) :
  dc (az prog w) A (.compStart (fB elt t0 i0 t1 i1 U scope pos) 1 it acc env) R s:=by
 refine Rm ?_;show aA _ _ ((compStart (fB elt t0 i0 t1 i1 U scope pos) 1 it acc env).onRaise (λx=>do Hq x env;qY theWindowsPlace)) _ _ s
 refine wpAny_notedAt ?_;unfold compStart;show aA _ _ (ask>>=_) _ _ s
 refine au (wpAny_askSetting (wpAny_ite ?_));split
 ·first
   |exact au (aZ (aZ (aw rfl h0)))
   |exact aZ (aw rfl h0)
 ·refine au (RX ?_);show aA _ _ (qY i1.pos>>=_) _ _ s
  exact au (pJ (au (cK h (λV W h'=>aZ (aw rfl h')) λ_ _ x=>x)))
theorem Xx {pos:aB}{env:da}(I:Nat->ai->Prop)
  (turn:∀n s,I n s->aA (az prog w) A (iU it) (λr U=>match r with
   |none=>R (.ok .next) U
   |some v=>aA (az prog w) A (d7 t1 env v) (λ_ gz=>
     aA (az prog w) A (forIn vf true λc r=>if r=true then do let ok <-AM c env (b5 c env);pure (AX ok) else pure (AX r)) (λok V=>
      if ok=true then aA (az prog w) A (b5 elt env) (λx gC=>
       aA (az prog w) A (call (.builtin "list.append") [acc,x]) (λ_ kA=>∃m,m<n/\I m kA) (nB (az prog w) A env λe W=>R (.error e) W) gC) (nB (az prog w) A env λe W=>R (.error e) W) V
      else ∃m,m<n/\I m V) (nB (az prog w) A env λe W=>R (.error e) W) gz) (nB (az prog w) A env λe W=>R (.error e) W) U) (nB (az prog w) A env λe W=>R (.error e) W) s)
  (n:Nat) (h:I n s) (ht:∀v,ny t1 it v=pure ():=by intro _;rfl) :
  dc (az prog w) A (.compLoop (fB elt t0 i0 t1 i1 vf scope pos) 1 it acc env) R s:=by
 refine RO rfl I (λn s hI=>?_) n h;show aA _ A ((AZ (fB elt t0 i0 t1 i1 vf scope pos) 1 it acc env).onRaise (λx=>do Hq x env;RQ x)) _ _ s
 refine RS <| ae (Xu ..) <| au (pJ (au (cK (turn n s hI) (λr U dS=>?_) λ_ _ h'=>h')));cases r with
 |none=>exact aZ dS
 |some v=>
  refine au (w3 (ht v) ?_);refine au (cK dS (λ_ gz ky=>au (cK ky (λok V fH=>?_) λ_ _ h'=>h')) λ_ _ h'=>h');cases ok with
  |false=>exact aZ ⟨rfl,fH⟩
  |true=>
   exact au (au (cK fH (λx gC uX=>au (cK uX (λ_ kA sE=>aZ (aZ ⟨rfl,sE⟩)) λ_ _ h'=>h')) λ_ _ h'=>h'))
def It2 (prog:bM) (w:aW) (A:cD) (x:af) (Q:af->ai->Prop) (E:af->ai->Prop) (s:ai):Prop:=aA (az prog w) A (gX x) Q E s
end
section
variable {prog:bM}{w:aW}{A:cD}{R:eZ->ai->Prop}{E:af->ai->Prop}{s:ai}{h₀:aq}{L:ak}{m:ag->Option af}{env:da}
end
end Internal.Mine
end
section
open PySem PySem.W PySem.Calls PyProof.Rows
open Mine
namespace Internal.Mine
/- comprehensions with two «for»,the second one's items as they are -/
section
variable {prog:bM}{w:aW}{Ar:cD}{h₀:aq}{L I A D J l2:ak}{m:ag->Option af}{env:da}{N:Led}{oI:ay}{x1:ag}{its:Array af}
inductive EA (h₀:aq) (L I A D J l2:ak) (m:ag->Option af) (N:Led) (oI:ay) (its:Array af) (ys0:List af) (s:ai) (k:Nat):ai->Prop
 |mk {j:Nat}{h':aq}{tk:Nat}{oJ oA:ay}{m₂:ag->Option af}:j<=its.size->k=its.size+1-j->h'.IsListIter J l2 j->Fr h₀ L h' m->aI h₀ L h' ((J,oJ)::(I,oI)::(A,oA)::(D,aQ (ys0++its.toList.take j) (ys0++its.toList.take j).length)::N)->LCg.NsObj oA m₂->EA h₀ L I A D J l2 m N oI its ys0 s k {s with heap:=h',toks:=tk}
theorem Xy {p1 p2:aB}{pos:aB}(hh:Ar.handled=none) (al:env.locals=A) (hk:env.scope.kind=.function) (lo:env.kindOf x1=some .local) (db:(x1 == ("__debug__":ag))=false)
  (ne:(@Ne Nat I A)/\(@Ne Nat I D)/\(@Ne Nat A D)) (nJ:(@Ne Nat J I)/\(@Ne Nat J A)/\(@Ne Nat J D)) (nl:(@Ne Nat l2 J)) (off:LCg.Off3 I A D N) (Xz:∀p∈N,@Ne Nat p.1 J) (EB:LCg.SrcAt h₀ l2 its N)
  {R:eZ->ai->Prop}(hsz:ys0.length+its.size<=cc)
  (hR:∀h' tk oA m₂,Fr h₀ L h' m->aI h₀ L h' ((I,oI)::(A,oA)::(D,aQ (ys0++its.toList) (ys0++its.toList).length)::N)->LCg.NsObj oA m₂->R (.ok .next) {s with heap:=h',toks:=tk})
  (h:EA h₀ L I A D J l2 m N oI its ys0 s (its.size+1) eH) :
  dc (az prog w) Ar (.compLoop (fB (.Name x1 p2) t0 i0 (.Name x1 p1) i1 [] scope pos) 1 (.ref J) (.ref D) env) R eH:=by
 refine Xx (EA h₀ L I A D J l2 m N oI its ys0 s) (λkk s' hJ=>?_) _ h;cases hJ with
 |@mk j h' tk oJ oA m₂ hj ek hit F NN eS=>
  have lL:=LCg.Off3.mem off;have EC:=NN (J,oJ) (.head _);have XA:=NN (I,oI) (.tail _ (.head _));have XB:=NN (A,oA) (.tail _ (.tail _ (.head _)));have ED:=NN (D,aQ (ys0++its.toList.take j) (ys0++its.toList.take j).length) (.tail _ (.tail _ (.tail _ (.head _))));have NR:aI h₀ L h' ((I,oI)::(A,oA)::(D,aQ (ys0++its.toList.take j) (ys0++its.toList.take j).length)::N):=λp V=>NN p (.tail _ V);have hl:h'.IsList l2 its:=EB.list F.keep λp V=>NR p (.tail _ (.tail _ (.tail _ V)));have W:=j6.list (prog:=prog) (w:=w) hh J l2 nl its;have but:∀{U:aq},(∀b o,b∉[J]->h'.get? b=some o->U.get? b=some o)->Fr h₀ L U m/\aI h₀ L U ((I,oI)::(A,oA)::(D,aQ (ys0++its.toList.take j) (ys0++its.toList.take j).length)::N):=λ{U} kp=>by
   refine ⟨LCg.fr_but F kp (cR EC.2.1) EC.2.2,LCg.news_but NR kp λp V=>?_⟩;rcases aT.mp V with rfl | V
   ·exact cR nJ.1
   ·rcases aT.mp V with rfl | V
    ·exact cR nJ.2.1
    ·rcases aT.mp V with rfl | V
     ·exact cR nJ.2.2
     ·exact Xz p V
  by_cases b8:j<its.size
  ·refine W.item j _ _ _ b8 ⟨hit,hl⟩ λv U kB hv XC lN=>El.aa (but lN) λF2 N2=>?_;have EE:=N2 (A,oA) (.tail _ (.head _));have ns:U.Ns env.locals m₂:=by refine ae (al ..) <| eS.ns EE.1
   refine wpAny_assign_Name (RN lo ns (λh3 EF EG=>?_) (by refine ae (hk ..) ?_;rfl))
   rw [al] at EG;refine wpAny_tests_nil <| ae (if_pos rfl ..) <| wpAny_Name (RM hk lo EF (if_pos rfl) ?_) db;rw [al] at EF;refine ar (LCg.ns_obj EF) λjQ XD ve=>?_;have zA:∀b o,b≠A->U.get? b=some o->h3.get? b=some o:=λb o hb e=>(EG.2 b hb).trans e;have zD:=zA _ _ (cR ne.2.2) (N2 (D,_) (.tail _ (.tail _ (.head _)))).1;have XE:(ys0++its.toList.take j).length<=cc:=by
    refine ae (aG ..) (ae (jg ..) ?_);exact aD (Hs (Bc _ _) _) (aD (Hs (cA b8) _) hsz)
   refine append_at (s:={s with heap:=h3,toks:=kB+1}) (its:=(ys0++its.toList.take j).toArray) (n:=(ys0++its.toList.take j).length) zD (λh5 u7 Es=>?_) (by refine ae (ee ..) <| XE)
   have kD:∀b o,b≠D->h3.get? b=some o->h5.get? b=some o:=λb o hb e=>(u7.2 b hb).trans e;have MV:h5.IsListIter J l2 (j+1):=XC.1.at λo e=>kD _ _ nJ.2.2 (zA _ _ nJ.2.1 e);refine ar (id MV) λXF XG rJ=>?_;have Mv:its.toList.take (j+1)=its.toList.take j++[v]:=by
    rw [Ht,<-aes] at *;refine ae (hv ..) ?_;rfl
   refine av (its.size+1-(j+1)) (Cy (aC ek) (aE (Cz b8)).symm (aE (xy b8))) (.mk (j:=j+1) (oJ:=XF) (oA:=jQ) b8 rfl MV ((F2.change EG EE.2.1 EE.2.2).change u7 ED.2.1 ED.2.2) (λp V=>?_) ve);rcases aT.mp V with rfl | V
   ·exact ⟨XG,EC.2⟩
   ·rcases aT.mp V with rfl | V
    ·exact ⟨kD _ _ ne.2.1 (zA _ _ ne.1 (N2 (I,oI) (.head _)).1),XA.2⟩
    ·rcases aT.mp V with rfl | V
     ·exact ⟨kD _ _ ne.2.2 XD,XB.2⟩
     ·rcases aT.mp V with rfl | V
      ·refine ⟨Es.trans (congrArg some ?_),ED.2⟩;refine ae (Mv ..) (ae (bt ..).symm ?_);exact LCg.lst_snoc _ v
      ·have z:=N2 p (.tail _ (.tail _ (.tail _ V)));exact ⟨kD _ _ (lL p V).2.2 (zA _ _ (lL p V).2.1 z.1),z.2⟩
  ·have ej:j=its.size:=aN hj (cW.mp b8);refine W.done _ _ _ (ej▸⟨hit,hl⟩) λU kB lN=>El.aa (but lN) λF2 N2=>?_;have et:its.toList.take j=its.toList:=by refine ae (ej ..) <| pM (aK _)
   rw [et] at N2;exact hR U kB oA m₂ F2 N2 eS
end
section
variable {C:Cx}{fs:bX}{env:da}{loc:List ag}{cap:List (ag×ak×af)}{N₀ K Z₀:Led}{m:ag->Option af}{σ:List Tr}{τ:List bg}
abbrev oO (fs:bX) (i1:SE) (q:Tg×Bool) (n9:List Tr) (k:Ev->Prop) (ds yd:List ah):Prop:=yo (λfV k=>den (specs fs) i1 fV (one k)) q n9 k ds yd
theorem MW {P:Fz}:∀{ws:List af}{ds:List ah},ws.length=ds.length->(∀(i:Nat) v d,ws[i]? = some v->ds[i]? = some d->Dat P v d)->aU P ws ds:=@λA B=>match A,B with
 |[],[]=>λzz U=>rfl
 |[],zz::U=>λh V=>El.zs h
 |zz::U,[]=>λh V=>sz h
 |w::ws,d::ds=>λh f=>⟨f 0 w d rfl rfl,MW (jC h) λi v d W h2=>f (i+1) v d W h2⟩
inductive vk (C:Cx) (σ:List Tr) (τ:List bg) (m:ag->Option af) (K N₀ Z₀:Led) (I A D:ak) (St:Nat->aq->Prop) (n:Nat) (ds:List ah) (V:List ah->List ah->Prop) (s:ai) (k:Nat):ai->Prop
 |mk {i:Nat}{h':aq}{tk:Nat}{N Z:Led}{ys:List af}{yd:List ah}{oI oA:ay}{m₂:ag->Option af}:i<=n->k=n+1-i->St i h'->Fr C.h₀ C.L h' m->aI C.h₀ C.L h' ((I,oI)::(A,oA)::(D,aQ ys ys.length)::N)->LCg.NsObj oA m₂->LCg.Off3 I A D N->Sp C σ τ m N K Z->(∀q∈N₀,q∈N)->(∀q∈Z₀,q∈Z)->aU (C.P.and Z) ys yd->V (ds.drop i) yd->vk C σ τ m K N₀ Z₀ I A D St n ds V s k {s with heap:=h',toks:=tk}
theorem XH (hA:Al C fs) {I A D:ak}{x1:ag}{p1 p2:aB}{pos:aB}{q:Tg×Bool}(T:mO env loc cap A) (eA:env.globals=iA) (eB:env.builtins=tD) (hT:c0 (loc++cap.map (·.1)) tg q) (eR:∀p∈q.1,p.1<loc.length) (mS:x1∈loc)
  (hE:∀C':Cx,Al C' fs->C'.env=env->C'.xs=loc++cap.map (·.1)->aX C' fs kE i1) (vm:∀it v,ny tg it v=pure ()) (EH:∀x,wN i1 env x=pure x)
  {P:Nat->af->Prop}{St:Nat->aq->Prop}(hn:ds.length=n) (W:j6 C.pg C.w C.A I fp [I] n P St)
  (mQ:∀i h,St i h->∃o,h.get? I=some o) (mJ:∀b∈fp,b=I∨(∃o,C.h₀.get? b=some o)∨∃o,(b,o)∈N₀) (ne:(@Ne Nat I A)/\(@Ne Nat I D)/\(@Ne Nat A D))
  (hP:∀i v d,P i v->ds[i]? = some d->Dat (C.P.and Z₀) v d) (hc:∀q∈cap,fJ K q.2.1 (some q.2.2)) (hd:aU (C.P.and Z₀) (cap.map (·.2.2)) cN)
  {R:eZ->ai->Prop}
  (hR:∀h' tk N Z ys yd oA m₂,Fr C.h₀ C.L h' m->aI C.h₀ C.L h' ((A,oA)::(D,aQ ys ys.length)::N)->LCg.NsObj oA m₂->LCg.Off3 I A D N->Sp C σ τ m N K Z->aU (C.P.and Z) ys yd->k (.ow (.dl yd))->R (.ok .next) {s with heap:=h',toks:=tk})
  (h:vk C σ τ m K N₀ Z₀ I A D St n ds (oO fs kE q (dK loc.length Tr.un++cN.map Tr.dat) k) s (n+1) eH) :
  dc (az C.pg C.w) C.A (.compLoop (fB (.Name x1 p2) tg i0 (.Name x1 p1) i1 [] scope pos) 0 (.ref I) (.ref D) env) R eH:=by
 subst hn;refine Xv hA.ok.hh (vk C σ τ m K N₀ Z₀ I A D St ds.length ds (oO fs kE q (dK loc.length Tr.un++cN.map Tr.dat) k) s) (λkk s' hJ=>?_) _ h (vm _) EH;cases hJ with
 |@mk i h' tk N Z ys yd oI oA m₂ hi ek st F NN eS off S hN hZ hy hV=>
  have lL:=LCg.Off3.mem off;have nI:=NN (I,oI) (.head _);have nA:=NN (A,oA) (.tail _ (.head _));have nD:=NN (D,aQ ys ys.length) (.tail _ (.tail _ (.head _)));have but:∀{U:aq},(∀b o,b∉[I]->h'.get? b=some o->U.get? b=some o)->Fr C.h₀ C.L U m/\aI C.h₀ C.L U ((A,oA)::(D,aQ ys ys.length)::N):=λ{U} kp=>by
   refine ⟨LCg.fr_but F kp (cR nI.2.1) nI.2.2,LCg.news_but (λp V=>NN p (.tail _ V)) kp λp V=>?_⟩;rcases aT.mp V with rfl | V
   ·exact cR ne.1
   ·rcases aT.mp V with rfl | V
    ·exact cR ne.2.1
    ·exact (lL p V).1
  by_cases b8:i<ds.length
  ·refine El.ea (⟨_,eC b8⟩:∃d,ds[i]? = some d) λd uZ=>?_;have uS:ds.drop i=d::ds.drop (i+1):=by
    refine ae (AS b8 ..) <| congrArg (·::_) (dJ ((eC b8).symm.trans uZ))
   rw [uS] at hV;refine W.item i _ _ _ b8 st λv fH kB En u4 kp=>El.aa (but kp) λF3 N3=>El.ea (mQ _ _ u4) λkC u5=>?_;have u6:aI C.h₀ C.L fH ((I,kC)::(A,oA)::(D,aQ ys ys.length)::N):=cz.mpr ⟨⟨u5,nI.2⟩,N3⟩;have Eo:aU (C.P.and Z) (cap.map (·.2.2)) cN:=hd.mono λzz zz q=>q.imp_right (hZ _);have hv:oB (C.P.and Z) q.2 d v fH:=.inl ((hP i v d En uZ).mono λzz zz q=>q.imp_right (hZ _));refine cK (MK (s:={s with heap:=fH,toks:=kB}) (Q:=λx i6=>aA (az C.pg C.w) C.A (gX x) (λzq gC=>dc (az C.pg C.w) C.A (.compStart (fB (.Name x1 p2) tg i0 (.Name x1 p1) i1 [] scope pos) 1 zq (.ref D) env) (λr kA=>match r with | .ok _=>∃m',m'<kk/\vk C σ τ m K N₀ Z₀ I A D St ds.length ds (oO fs kE q (dK loc.length Tr.un++cN.map Tr.dat) k) s m' kA | .error _=>False) gC) (λzz zz=>False) i6) hA T eA eB hT eR hE F3 u6 S off ne eS hc Eo hv (R:=KW (λn=>small n) yd (oO fs kE q (dK loc.length Tr.un++cN.map Tr.dat) k (ds.drop (i+1)))) hV λu y h4 sy jQ MM T4 F4 N4 Ep S4 Er qv g4=>?_) (λzz kA h5=>cK h5 (λx ae9 h6=>cK h6 (λzz zz h=>h) λzz zz h=>h.elim) λzz zz h=>h.elim) λzz zz h=>h.elim
   cases y with
   |list zs=>
    have g4:small (yd++zs).length/\oO fs kE q (dK loc.length Tr.un++cN.map Tr.dat) k (ds.drop (i+1)) (yd++zs):=g4;cases Er with
    |@list ws _ a o XI hq hl hf=>
     have XJ:aU (C.P.and (Z++T4)) ws zs:=MW hl hf;have MX:LCg.SrcAt C.h₀ a ws.toArray (N++T4):=XI.imp (λq=>(dq o (hA.ok.sub _ _ q) hq.c hq.d)) λq=>(dq o (S4.sub _ q) hq.c hq.d);have NT:aI C.h₀ C.L h4 (N++T4):=λp V=>N4 p (.tail _ (.tail _ (.tail _ V)));have zB:h4.IsList a ws.toArray:=MX.list F4.keep NT;have XK:a<h4.objs.size:=by refine ar zB λzz e zz=>?_;clear zB;exact aq.lt_size e
     refine wZ (s:={s with heap:=h4,toks:=sy}) zB ?_
     have up:∀b o,h4.get? b=some o->(h4.push {cls:=.type "list_iterator",data:=.fields #[.ref a,.int 0 0]}).get? b=some o:=λb o e=>aq.get?_push_of_some _ e;have vn:∀p∈(I,kC)::(A,jQ)::(D,aQ ys ys.length)::(N++T4),@Ne Nat p.1 h4.objs.size:=λp V=>cy (aq.lt_size (N4 p V).1);have nl:@Ne Nat a h4.objs.size:=cy XK;have hit:(h4.push {cls:=.type "list_iterator",data:=.fields #[.ref a,.int 0 0]}).IsListIter h4.objs.size a 0:=(dq _ (aq.get?_push_size _ rfl) rfl rfl);have loop:dc (az C.pg C.w) C.A (.compLoop (fB (.Name x1 p2) tg i0 (.Name x1 p1) i1 [] scope pos) 1 (.ref h4.objs.size) (.ref D) env) (λr kA=>match r with | .ok _=>∃m',m'<kk/\vk C σ τ m K N₀ Z₀ I A D St ds.length ds (oO fs kE q (dK loc.length Tr.un++cN.map Tr.dat) k) s m' kA | .error _=>False) {s with heap:=h4.push {cls:=.type "list_iterator",data:=.fields #[.ref a,.int 0 0]},toks:=sy}:=by
      refine Xy (s:=s) (ys0:=ys) (its:=ws.toArray) (N:=N++T4) (oI:=kC) (l2:=a) (I:=I) (A:=A) (m:=m) hA.ok.hh T.al T.hk (T.lo x1 mS) (T.db x1 (bE _ mS)) ne (aL (cR (vn (I,kC) (.head _))) (cR (vn (A,jQ) (.tail _ (.head _)))) (cR (vn (D,aQ ys ys.length) (.tail _ (.tail _ (.head _)))))) nl qv (λp V=>vn p (.tail _ (.tail _ (.tail _ V)))) MX (by
       refine ae (ee ..) (ae (hy.len ..) (ae (hl ..) (ae (aG ..).symm ?_)));exact g4.1) (λh' tk XM afa F' oM Ej=>?_) (.mk (j:=0) (oA:=jQ) (oJ:={cls:=.type "list_iterator",data:=.fields #[.ref a,.int 0 0]}) (bA _) rfl hit (F4.keeps up) (λp V=>?_) Ep)
      ·refine av (ds.length+1-(i+1)) (Cy (aC ek) (aE (Cz b8)).symm (aE (xy b8))) (.mk (i:=i+1) (N:=N++T4) (Z:=Z++T4) (ys:=ys++ws) (yd:=yd++zs) (oI:=kC) (oA:=XM) b8 rfl ?_ F' oM Ej qv S4 (λq h=>bE _ (hN q h)) (λq h=>bE _ (hZ q h)) (bB.append (hy.mono λzz zz q=>q.imp_right (bE _)) XJ) g4.2);refine W.frame _ _ _ u4 λb hb o e=>?_;clear mQ ne hR W h NN off lL nI but kp u6 N4 qv vn;rcases mJ b hb with rfl | ⟨o0,h0⟩ | ⟨o0,h0⟩
       ·cases u5.symm.trans e
        exact (oM (b,kC) (.head _)).1
       ·cases (F3.keep _ _ h0).symm.trans e
        exact F'.keep _ _ h0
       ·have hm:=hN _ h0;cases (N3 _ (.tail _ (.tail _ hm))).1.symm.trans e
        exact (oM _ (.tail _ (.tail _ (.tail _ (bE _ hm))))).1
      ·rw [show ys++ws.toArray.toList.take 0=ys from cL ys] at V;rcases aT.mp V with rfl | V
       ·exact aL (aq.get?_push_size _ rfl) (cR (cy F4.ns.lt)) (wY F4)
       ·exact ⟨up _ _ (N4 p V).1,(N4 p V).2⟩
     exact Xw loop ((j6.list hA.ok.hh h4.objs.size a nl ws.toArray).self 0 _ _ _ ⟨hit,zB.push _⟩ loop)
   |_=>exact (show False from g4).elim
  ·have ei:i=ds.length:=aN hi (cW.mp b8);clear hi ek b8;subst ei;rw [RT] at hV;refine W.done _ _ _ st λU kB lN=>El.aa (but lN) λF2 N2=>hR U kB N Z ys yd oA m₂ F2 N2 eS off S hy hV
end
section
variable {C:Cx}{fs:bX}{loc:List ag}{cap:List (ag×ak×af)}{N K Z:Led}{m:ag->Option af}{σ:List Tr}{τ:List bg}
theorem XN (hA:Al C fs) (T:oK C.env s2 loc (cap.map (·.1))) (u9:∀q∈cap,C.env.cells.lookup q.1=some q.2.1) {I:ak}{oI:ay}{x1:ag}{p1 p2:aB}{pos:aB}{q:Tg×Bool}(mS:x1∈loc) (hT:c0 (loc++cap.map (·.1)) tg q) (eR:∀p∈q.1,p.1<loc.length)
  (hE:∀C':Cx,Al C' fs->C'.env.scope=fM s2->C'.xs=loc++cap.map (·.1)->aX C' fs kE i1) (vm:∀it v,ny tg it v=pure ()) (EH:∀en x,wN i1 en x=pure x)
  {P:Nat->af->Prop}{St:Nat->aq->Prop}(hn:ds.length=n) (W:j6 C.pg C.w C.A I fp [I] n P St)
  (V:∀(s:ai) (Q:af->ai->Prop) (E:af->ai->Prop),St 0 s.heap->Q (.ref I) s->aA (az C.pg C.w) C.A (gX (.ref I)) Q E s)
  (mQ:∀i h,St i h->∃o,h.get? I=some o) (mJ:∀b∈fp,b=I∨(∃o,C.h₀.get? b=some o)∨∃o,(b,o)∈N)
  (hP:∀i v d,P i v->ds[i]? = some d->Dat (C.P.and Z) v d) (hc:∀q∈cap,fJ K q.2.1 (some q.2.2)) (hd:aU (C.P.and Z) (cap.map (·.2.2)) cN)
  {E:af->ai->Prop}(st:St 0 s.heap) (F:Fr C.h₀ C.L s.heap m) (NN:aI C.h₀ C.L s.heap ((I,oI)::N)) (off:∀p∈N,@Ne Nat p.1 I) (S:Sp C σ τ m N K Z)
  (h:oO fs kE q (dK loc.length .un++cN.map .dat) k ds [])
  {RR:af->ak->eZ->ai->Prop}(hQ:∀D A h' tk N Z ys yd oA m₂,Fr C.h₀ C.L h' m->aI C.h₀ C.L h' ((A,oA)::(D,aQ ys ys.length)::N)->LCg.NsObj oA m₂->(@Ne Nat A D)->(∀p∈N,(@Ne Nat p.1 A)/\@Ne Nat p.1 D)->Sp C σ τ m N K Z->aU (C.P.and Z) ys yd->k (.ow (.dl yd))->RR (.ref D) A (.ok .next) {s with heap:=h',toks:=tk}) :
  aA (az C.pg C.w) C.A (qV []) (λacc i6=>aA (az C.pg C.w) C.A (Hr s2 C.env.globals (iK C.env s2.names []) [] C.env.qual none .none (some C.env)) (λU gC=>
   dc (az C.pg C.w) C.A (.compStart (fB (.Name x1 p2) tg iter (.Name x1 p1) i1 [] s2 pos) 0 (.ref I) acc {U with scope:=tJ s2 C.env}) (RR acc U.locals) gC) E i6) E s:=by
 refine MO (RR:=RR) hA T u9 (λdS tk Q E old q=>V _ Q E (W.frame _ _ _ st λb _ o e=>old b o e) q) F NN off λdS tk A D oA m₂ env Y=>?_;refine XH (N₀:=N) (Z₀:=Z) (s:=s) hA Y.T Y.e1 Y.e2 hT eR mS (λC' a b c=>hE C' a (b▸Y.e3) c) vm (λx=>EH _ x) hn W mQ mJ Y.ne hP hc hd (k:=k) (λh' tk N' Z' ys yd jQ m₂ F' mR ve Ew S' hy hk=>?_) (.mk (i:=0) (N:=N) (Z:=Z) (ys:=[]) (yd:=[]) (oI:=oI) (oA:=oA) (bA _) rfl (W.frame _ _ _ st λb _ o e=>Y.old b o e) Y.F Y.NN Y.hn Y.off S (λ_ h=>h) (λ_ h=>h) (show aU (C.P.and Z) [] [] from rfl) h);exact hQ _ _ h' tk N' Z' ys yd jQ m₂ F' mR ve Y.ne.2.2 (λp hp=>(LCg.Off3.mem Ew p hp).2) S' hy hk
end
section
variable {C:Cx}{fs:bX}{loc:List ag}{σ:List Tr}{τ:List bg}
theorem XO (hA:Al C fs) {s2:cj}{U:List ag}{V:List Nat}(T:oK C.env s2 loc U) (lO:bB (λi x=>C.xs[i]? = some x) V U) {x1:ag}{p1 p2:aB}{tg i1 iter:Expr}{pos:aB}{q:Tg×Bool}{src kE:SE}(mS:x1∈loc) (hT:c0 (loc++U) tg q) (eR:∀p∈q.1,p.1<loc.length)
  (hE:∀C':Cx,Al C' fs->C'.env.scope=fM s2->C'.xs=loc++U->aX C' fs kE i1) (vm:∀it v,ny tg it v=pure ()) (EI:lE i1=true) (hi:lE iter=true) (hS:aX C fs src iter) {k:List Ev->Prop}
  (h:den (specs fs) src σ (one λvs=>gv σ vs λds=>ml σ V λcN=>oO fs kE q (dK loc.length .un++cN.map .dat) (λe=>k [e]) ds []))
  {K:Fs}{Q:af->ai->Prop}{s:ai}(a:At C σ τ K s.heap) (hQ:Nx C σ τ K s Q λe=>k [e]):Wp C (b5 (fB (.Name x1 p2) tg iter (.Name x1 p1) i1 [] s2 pos) C.env) Q s:=by
 have oN:∀x∈U,C.env.kindOf x=some .cell:=λx hx=>(T.fr _ (T.ca x hx).2 rfl).2;refine (?_:Wp C (RV (fB (.Name x1 p2) tg iter (.Name x1 p1) i1 [] s2 pos) s2 C.env _ (qV []) false (b5 iter C.env) none) Q s);refine RW (use:=none) rfl (yQ hi) (Eg λy hy e=>hA.ck.is (T.fr y hy e).2) T.hk T.hl (hS σ _ h τ K _ s a λv e h' tk a' g=>?_);refine ar (qd (show gv σ e _ from g)) λds e1 g=>?_;cases DO hA.ok a' e1 with
 |@mk N ZL W ws F NN S hd p=>
  refine nQ (zl hA.ck S lO oN g) λcap cN bx c2 c3 g=>?_;clear lO oN;subst bx;have hl:h'.IsList W ws.toArray:=p.list F.keep NN;have b8:W<h'.objs.size:=by refine ar hl λzz e zz=>?_;clear hl;exact aq.lt_size e
  have len:ws.toArray.size=ds.length:=by refine ae (ee ..) ?_;exact hd.len
  refine wZ (s:={s with heap:=h',toks:=tk}) hl ?_
  have up:∀b o,h'.get? b=some o->(h'.push {cls:=.type "list_iterator",data:=.fields #[.ref W,.int 0 0]}).get? b=some o:=λb o e=>aq.get?_push_of_some _ e;refine XN (RR:=λacc A=>Bb (az C.pg C.w) C.A (λzz zz=>False) none Q acc A) (s:={s with heap:=_,toks:=tk}) (I:=h'.objs.size) (oI:={cls:=.type "list_iterator",data:=.fields #[.ref W,.int 0 0]}) (St:=λi h=>h.IsListIter h'.objs.size W i/\h.IsList W ws.toArray) hA T (λq hq=>(c2 q hq).1) mS hT eR hE vm (λen x=>yQ EI x) len.symm (j6.list hA.ok.hh h'.objs.size W (cy b8) ws.toArray) (λs Q E st q=>(j6.list hA.ok.hh h'.objs.size W (cy b8) ws.toArray).self 0 s Q E st q) (λi h st=>by refine ar st.1 λo e zz=>?_;exact ⟨o,e⟩) (λb hb=>?_) (λi v d hv he=>?_) (λq hq=>(c2 q hq).2) c3 ⟨(dq _ (aq.get?_push_size _ rfl) rfl rfl),hl.push _⟩ (F.keeps up) (λp hp=>?_) (λp hp=>cy (aq.lt_size (NN p hp).1)) S g (λD A h2 se N2 Z2 ys yd oA m₂ F2 mR eS ne off S2 hy hk=>MS hQ F2 mR eS ne off S2 hy hk)
  ·rcases aT.mp hb with rfl | hb
   ·exact .inl rfl
   ·clear a' hl b8 up;cases cQ.mp hb;rcases p with ⟨o,e,_⟩ | ⟨o,e,_⟩
    ·exact .inr (.inl ⟨o,e⟩)
    ·exact .inr (.inr ⟨o,e⟩)
  ·rw [qU] at hv;exact rQ hd _ _ _ hv he
  ·rcases aT.mp hp with rfl | hp
   ·exact aL (aq.get?_push_size _ rfl) (cR (cy F.ns.lt)) (wY F)
   ·exact ⟨up _ _ (NN p hp).1,(NN p hp).2⟩
end
theorem XQ {P:Fz}(h:CarriedAll vs ds):aU P vs ds:=by
 induction h with
 |nil=>rfl
 |cons c _ U=>
  refine ⟨?_,U⟩;cases c with
  |int i t=>exact .int i t
  |bool b=>exact .bool b
  |str x t=>exact .str x t
  |none=>exact .none
section
variable {C:Cx}{fs:bX}{σ:List Tr}{τ:List bg}
theorem XR (V:Al C fs) {b:Expr}{f g:ag}{fp gp p p2:aB}{ib:SE}(hf:f=ag.ofString "list") (hg:g=ag.ofString "range") (XS:dZ C.env.scope f=true) (XT:dZ C.env.scope g=true) (hn:∀y∈[b],notStar y=true) (hS:aX C fs ib b) {k:List Ev->Prop}
  (h:den (specs fs) ib σ (one λvb=>bp vb λy=>(0<=y/\y<=2 ^ 24)/\k [.ow (.dl (dE 0 y))]))
  {K:Fs}{Q:af->ai->Prop}{s:ai}(a:At C σ τ K s.heap) (hQ:Nx C σ τ K s Q λe=>k [e]):Wp C (b5 (.Call (.Name f fp) [.Call (.Name g gp) [b] [] p2] [] p) C.env) Q s:=by
 subst hf;subst hg;refine Ey V (V.g.gl (ag.ofString "list") (.tail _ (.tail _ (.tail _ (.tail _ (.head _))))) _ rfl) XS (cm.mpr rfl) a (je ?_ (dF rfl));refine Ey V (V.g.gl (ag.ofString "range") (.tail _ (.tail _ (.tail _ (.tail _ (.tail _ (.head _)))))) _ rfl) XT hn a (je (hS σ _ h τ K _ s a λv e h6 t6 a6 g6=>j5 ⟨a6.keeps,?_⟩) (dF (hn _ (.head _))));refine aO (a6.eQ (show bp e _ from g6)) λy u U W a7=>?_;clear a6;subst U;refine RJ ?_;have hr:Hm (h6.push {cls:=.type "range",data:=.fields #[.int 0 t6,.int y u,.int 1 (t6+1)]}) h6.objs.size 0 y 1 t6 u (t6+1):=aq.get?_push_size _ rfl;cases a7 with
 |@mk N ZL F0 Ez S=>
  have F:=F0.push {cls:=.type "range",data:=.fields #[.int 0 t6,.int y u,.int 1 (t6+1)]};have NN:=sr (o:={cls:=.type "range",data:=.fields #[.int 0 t6,.int y u,.int 1 (t6+1)]}) Ez;generalize h6.push {cls:=.type "range",data:=.fields #[.int 0 t6,.int y u,.int 1 (t6+1)]}=H at hr F NN ⊢;refine j5 ⟨F.keep,?_⟩;have hy:((y.toNat:Nat):Int)=y:=dh W.1.1;refine list_rangeD (s:={s with heap:=H,toks:=t6+1+1}) (n:=y.toNat) V.ok.hh F NN hr (RE (by decide) (by decide) (RY (by decide) W.1.1) (AP W.1.2 (by decide))) ?_ (by have:=W.1.2;omega) λh' tk ys F' N' up hz hl np hc=>?_
  ·have:=RG (a:=0) (b:=y);rw [RZ] at this;exact this
  ·refine El.aa np λU ne=>?_;clear np;obtain ⟨n,e⟩:=U;have e2:(rangeInts 0 1 y.toNat).map .int=dE 0 y:=by
    unfold rangeInts dE;refine ae (qZ ..) (ae (RZ ..) ?_);refine wQ λi zz=>?_;refine congrArg ah.int ?_;exact congrArg _ (RH _)
   rw [e2] at hc;refine hQ (.ref H.objs.size) (.ow (.dl (dE 0 y))) h' tk (.mk (N:=(H.objs.size,aQ ys n)::N) F' (λp hp=>?_) (S.rY (D:=H.objs.size) (o:=aQ ys n) (t:=.dl (dE 0 y)) ne (.jo (XQ hc)))) W.2;rcases aT.mp hp with rfl | hp
   ·exact aL e (cR (cy F.ns.lt)) hz
   ·exact N' p hp
end
section
variable {C:Cx}{fs:bX}{σ:List Tr}{τ:List bg}
theorem MY {P:Fz}:∀{ns:List Int}{vs:List af},aU P vs (ns.map .int)->Hu vs ns:=@λA B=>match A,B with
 |[],[]=>λzz=>.nil
 |[],v::vs=>λh=>sz h.len
 |n::ns,[]=>λh=>El.zs h.len
 |n::ns,v::vs=>λh=>by
  refine El.aa h λU V=>?_;clear h;cases U with
  |int _ t=>exact .cons n t (MY V)
theorem XU (V:Al C fs) {r x:Expr}{nm:ag}{ap pp:aB}{ir ix:SE}(hm:nm=ag.ofString "index") (hn:notStar x=true) (hr:qm r) (hl:(ap.endLine == pp.line)=true) (hS:aX C fs ir r) (hX:aX C fs ix x) {k:List Ev->Prop}
  (h:den (specs fs) ir σ (one λva=>gv σ va λds=>den (specs fs) ix σ (one λvx=>bp vx λn=>yq ds n λj=>k [aR (.int (j:Nat))])))
  {K:Fs}{Q:af->ai->Prop}{s:ai}(a:At C σ τ K s.heap) (hQ:Nx C σ τ K s Q λe=>k [e]):Wp C (b5 (.Call (.Attribute r nm ap) [x] [] pp) C.env) Q s:=by
 subst hm;refine kr (cm.mpr hn) (aF rfl) hr hl (hS σ _ h τ K _ s a λv e h1 t1 a1 g1=>?_);refine ar (qd (show gv σ e _ from g1)) λds e1 g2=>?_;have hv:=a1;cases hv with
 |@mk N0 y5 F NN S0=>cases S0.og V.ok e1 with
 |@mk ZL ax o ws z S p hd=>
  have ho:h1.get? ax=some o:=p.1.elim (λq=>F.keep _ _ (V.ok.sub _ _ q)) λq=>(NN _ q).1;refine Rx (s:={s with heap:=h1,toks:=t1}) ⟨_,ho,p.2.c⟩ PySem.F.plainAttrs_list PySem.F.slot_list_index PySem.F.type_list_index (λb e=>by cases e;exact ⟨_,ho,p.2.e⟩) ?_
  refine tG (je (hX σ _ g2 _ K _ _ a1 λvx ex h6 t6 a6 g6=>j5 ?_) (dF hn)) (dF hn) rfl;refine aO (a6.eQ (show bp ex _ from g6)) λy u W g7 a7=>?_;clear a6;subst W;cases g7 with
  |@mk ns q1 q2 q3 q4=>
   subst q1;have fh:=DO V.ok a7 e1;cases fh with
   |@mk N2 Xb _ XW F2 U S2 hd2 p2=>
    have EB:h6.IsList ax XW.toArray:=p2.list F2.keep U;refine index_list_ints (s:={s with heap:=h6,toks:=t6}) EB (MY hd2) q2 q3 ?_
    exact hQ _ _ _ _ (.mk F2 U (S2.dR (.int _ _))) q4
end
structure Pc where
 fs:bX
 sc:cj
 xs:List ag
structure Pc.At (q:Pc) (C:Cx):Prop where
 al:Al C q.fs
 sc:C.env.scope=q.sc
 xs:C.xs=q.xs
structure Sd (q:Pc) (e:Expr) where
 ir:SE
 ok:∀C,q.At C->aX C q.fs ir e
structure Td (q:Pc) (e:Expr) where
 ir:SE
 ok:∀C,q.At C->fX C q.fs ir e
structure Ld (q:Pc) (es:List Expr) where
 ir:SE
 ok:∀C,q.At C->fK C q.fs ir es
 st:∀y∈es,notStar y=true
structure Od (q:Pc) (e:Option Expr) where
 ir:SE
 ok:∀C,q.At C->uM C q.fs ir e
noncomputable def bh {q:Pc}{e:Expr}:Sd q e:=⟨.bad,λzz zz=>U1⟩
noncomputable def qw {q:Pc}{e:Expr}:Td q e:=⟨.bad,λzz zz=>U2⟩
noncomputable def MZ (x:ag):(fs:List Fn)->Option {p:Nat×Fn // fs[p.1]? = some p.2/\p.2.nm=x}:=@λA=>match A with
 |[]=>none
 |f::r=>wd (f.nm=x) ((MZ x r).map λi=>⟨(i.1.1+1,i.1.2),i.2⟩) λh=>some ⟨(0,f),rfl,h⟩
noncomputable def vo (x:ag):(U:List Mn)->Option {p:Nat×Mn // U[p.1]? = some p.2/\p.2.nm=x}:=@λA=>match A with
 |[]=>none
 |f::r=>wd (f.nm=x) ((vo x r).map λi=>⟨(i.1.1+1,i.1.2),i.2⟩) λh=>some ⟨(0,f),rfl,h⟩
noncomputable def XX (x:ag):Option {b:Bi // x=mz b}:=wd (x=mz .len) (wd (x=mz .max) (wd (x=mz .min) none λh=>some ⟨.min,h⟩) λh=>some ⟨.max,h⟩) λh=>some ⟨.len,h⟩
noncomputable def qx (xs:List ag) (ow:Nat->Ow):(es:List Expr)->Option {q:Tg×List ag // bB (λ(q:Nat×Ow) x=>xs[q.1]? = some x) q.1 q.2/\bB (λe x=>∃p,e=Expr.Name x p) es q.2}:=@λA=>match A with
 |[]=>some ⟨([],[]),rfl,rfl⟩
 |e::r=>cZ (M:=λe=>Option {q:Tg×List ag // bB (λ(q:Nat×Ow) x=>xs[q.1]? = some x) q.1 q.2/\bB (λe x=>∃p,e=Expr.Name x p) (e::r) q.2}) e none λx p=>(cO x xs).bind λi=>(qx xs ow r).map λq=>⟨((i.1,ow i.1)::q.1.1,x::q.1.2),⟨i.2,q.2.1⟩,⟨⟨p,rfl⟩,q.2.2⟩⟩
noncomputable def EJ (xs:List ag) (ow:Nat->Ow) (t:Expr):Option {q:Tg×Bool // c0 xs t q}:=
 cZ (M:=λt=>Option {q:Tg×Bool // c0 xs t q}) t (tupK (M:=λt=>Option {q:Tg×Bool // c0 xs t q}) t none λes k p=>(qx xs ow es).map λq=>⟨(q.1.1,true),.tup q.2.1 q.2.2⟩) λx p=>(cO x xs).map λi=>⟨([(i.1,ow i.1)],false),.nm i.2⟩
noncomputable def zC (xs:List ag):(l:List ag)->Option {is:List Nat // bB (λi x=>xs[i]? = some x) is l}:=@λA=>match A with
 |[]=>some ⟨[],rfl⟩
 |x::r=>(cO x xs).bind λi=>(zC xs r).map λq=>⟨i.1::q.1,⟨i.2,q.2⟩⟩
noncomputable def ip:List (ag×gZ)->List ag:=@λA=>match A with
 |[]=>[]
 |(x,k)::r=>match k == .free with
  |true=>x::ip r
  |false=>ip r
noncomputable def XY (e:Expr):List ag:=match view e with
 |.nm x p=>[x]
 |_=>[]
noncomputable def jR (e:Expr):List ag:=match view e with
 |.nm x p=>[x]
 |.tup es k p=>es.flatMap XY
 |_=>[]
noncomputable def EK:List ag->Bool:=@λA=>match A with
 |[]=>true
 |x::r=>r.all (λy=>!decide (x=y)) && EK r
theorem M3:∀{l:List ag},EK l=true->l.Nodup:=@λA=>match A with
 |[]=>λzz=>.nil
 |x::r=>λh=>by
  refine El.aa (b0 h) λU V=>bR.mpr ⟨λm=>?_,M3 V⟩;exact of_decide_eq_false (oq (nr.mp U _ m)) rfl
noncomputable def zF (sc s2:cj) (loc U:List ag):Bool:=decide (s2.kind=.function) && (s2.names.all (λy=>decide (y.2≠.cell)) && (s2.names.all (λy=>!decide (y.2=.local) || decide (s2.names.lookup y.1=some .local)) && (loc.all (λx=>decide ((fM s2).names.lookup x=some .local)) && (U.all (λx=>decide ((fM s2).names.lookup x=some .cell) && decide ((x,gZ.free)∈s2.names)) && (s2.names.all (λy=>!decide (y.2=.free) || (decide (y.1∈U) && decide (sc.names.lookup y.1=some .cell))) && ((loc++U).all (λx=>!(x == ("__debug__":ag))) && EK loc))))))
theorem oP {α:Type}{l:List α}{f:α->Bool}{P:α->Prop}(h:l.all f=true) (g:∀x,f x=true->P x):∀x∈l,P x:=λx hx=>g x (nr.mp h x hx)
theorem EL {P:Prop} [Decidable P] (h:(!decide P || a)=true) (p:P):a=true:=by rw [decide_eq_true p] at h;exact h
theorem EM {sc s2:cj}(h:zF sc s2 loc U=true) (ek:env.scope.kind=.function) (e:env.scope=sc):oK env s2 loc U:=by
 refine El.aa (b0 h) λV h=>El.aa (b0 h) λW h=>El.aa (b0 h) λh3 h=>El.aa (b0 h) λh4 h=>El.aa (b0 h) λh5 h=>El.aa (b0 h) λh6 h=>El.aa (b0 h) λh7 h8=>{
  ek:=ek
  hk:=of_decide_eq_true V
  hc:=oP W λy h=>of_decide_eq_true h
  hl:=oP h3 λy h p=>of_decide_eq_true (EL h p)
  lo:=oP h4 λy h=>of_decide_eq_true h
  ca:=oP h5 λy h=>⟨of_decide_eq_true (b0 h).1,of_decide_eq_true (b0 h).2⟩
  fr:=oP h6 λy h p=>⟨of_decide_eq_true (b0 (EL h p)).1,by refine (?_:env.scope.names.lookup y.1=_);rw [e];exact of_decide_eq_true (b0 (EL h p)).2⟩
  db:=oP h7 λy h=>oq h
  nd:=M3 h8}
section
variable {q:Pc}(f:∀e,Sd q e) (g:∀e,Td q e) (F:∀(s:cj) (xs:List ag),(∀e,Sd ⟨q.fs,s,xs⟩ e)×(∀e,Td ⟨q.fs,s,xs⟩ e))
noncomputable def XZ (x:ag) (p:aB):Sd q (.Name x p):=match cO x q.xs with
 |some i=>⟨.var i.1,λC h=>Lw h.al (by refine ae (h.xs ..) <| i.2)⟩
 |none=>bh
noncomputable def jS:∀es,Option (Ld q es):=@λA=>match A with
 |[]=>some ⟨.nil,λzz zz=>DL,λzz h=>El.nm h⟩
 |e::r=>wh (notStar e) none λh=>(jS r).map λl=>⟨.cons (f e).ir l.ir,λC a=>DM h ((f e).ok C a) (l.ok C a),cz.mpr ⟨h,l.st⟩⟩
noncomputable def zG:∀o,Od q o:=@λA=>match A with
 |none=>⟨.nil,λzz zz=>Vc⟩
 |some e=>⟨(f e).ir,λC a=>Vd ((f e).ok C a)⟩
noncomputable def X0 (a:Expr) (os:List wH) (bs:List Expr) (p:aB):Sd q (.Compare a os bs p):=match os,bs with
 |[o],[b]=>wh (!He o b) bh λh=>⟨.cmp o (f a).ir (f b).ir,λC i=>U7 i.al.ok h ((f a).ok C i) ((f b).ok C i)⟩
 |[o,r],[b,c]=>wh (!lastMarks [o,r] [b,c]) bh λh=>⟨.pY o r (f a).ir (f b).ir (f c).ir,λC i=>U9 i.al.ok h ((f a).ok C i) ((f b).ok C i) ((f c).ok C i)⟩
 |zz,U=>bh
noncomputable def X1 (a:Expr) (os:List wH) (bs:List Expr) (p:aB):Td q (.Compare a os bs p):=match os,bs with
 |[o],[b]=>wh (!He o b) qw λh=>⟨.cmp o (f a).ir (f b).ir,λC i=>U8 i.al.ok h ((f a).ok C i) ((f b).ok C i)⟩
 |zz,U=>qw
noncomputable def X2 (v i:Expr) (p:aB):Sd q (.Subscript v i p):=wh (mw i)
 (UI (M:=λi=>Sd q (.Subscript v i p)) i bh λl u p2=>⟨.slc (f v).ir (zG f l).ir (zG f u).ir,λC h=>Ve h.al.ok ((f v).ok C h) ((zG f l).ok C h) ((zG f u).ok C h)⟩)
 λhn=>⟨.sub (f v).ir (f i).ir,λC h=>Vb h.al.ok hn ((f v).ok C h) ((f i).ok C h)⟩
noncomputable def X3 (x:ag) (fp:aB) (as:List Expr) (p:aB) (hx:x=ag.ofString "SequenceMatcher") (hg:dZ q.sc x=true):Sd q (.Call (.Name x fp) as [] p):=match as with
 |[]=>bh
 |y::r=>match jS f (y::r),vo (ag.ofString "__init__") q.fs.m with
  |some l,some i=>⟨.new i.1.1 l.ir,λC h=>VB h.al i.2 hx (h.sc▸hg) l.st (l.ok C h)⟩
  |zz,U=>bh
noncomputable def X4 (x:ag) (fp:aB) (as:List Expr) (p:aB) (hx:x=ag.ofString "list") (hg:dZ q.sc x=true):Sd q (.Call (.Name x fp) as [] p):=match as with
 |[y]=>om (M:=λy=>Sd q (.Call (.Name x fp) [y] [] p)) y bh λc bs V=>cZ (M:=λc=>Sd q (.Call (.Name x fp) [.Call c bs [] V] [] p)) c bh λU p2=>match bs with
  |[u,v]=>oj (M:=λu=>Sd q (.Call (.Name x fp) [.Call (.Name U p2) [u,v] [] V] [] p)) u bh λr m p4=>cZ (M:=λr=>Sd q (.Call (.Name x fp) [.Call (.Name U p2) [.Attribute r m p4,v] [] V] [] p)) r bh λW p3=>cZ (M:=λv=>Sd q (.Call (.Name x fp) [.Call (.Name U p2) [.Attribute (.Name W p3) m p4,v] [] V] [] p)) v bh λxn xp=>wd (U=ag.ofString "map") bh λe2=>wd (W=ag.ofString "Match") bh λe3=>wd (m=ag.ofString "_make") bh λe4=>wh (dZ q.sc U) bh λb2=>wh (dZ q.sc W) bh λb3=>match cO xn q.xs with
   |some i=>⟨.yc i.1,λC h=>VE h.al hx e2 e3 e4 (h.sc▸hg) (h.sc▸b2) (h.sc▸b3) (by refine ae (h.xs ..) <| i.2)⟩
   |none=>bh
  |[b]=>wd (U=ag.ofString "range") bh λe2=>wh (dZ q.sc U) bh λb2=>wh (notStar b) bh λhn=>⟨.C8 (f b).ir,λC h σ k g τ K Q s a hQ=>XR h.al hx e2 (h.sc▸hg) (h.sc▸b2) (cm.mpr hn) ((f b).ok C h) g a hQ⟩
  |_=>bh
 |_=>bh
noncomputable def X5 (r:Expr) (m:ag) (ap:aB) (as:List Expr) (p:aB):Sd q (.Call (.Attribute r m ap) as [] p):=match as with
 |[y]=>wd (m=ag.ofString "index") bh λU=>wh (notStar y) bh λhn=>wh (ap.endLine == p.line) bh λhl=>cZ (M:=λr=>Sd q (.Call (.Attribute r m ap) [y] [] p)) r bh λx xp=>⟨.idx (f (.Name x xp)).ir (f y).ir,λC h σ k g τ K Q s a V=>XU h.al U hn (λzz zz zz=>rfl) hl ((f (.Name x xp)).ok C h) ((f y).ok C h) g a V⟩
 |_=>bh
noncomputable def X6 (r:Expr) (m:ag) (ap:aB) (as:List Expr) (p:aB):Sd q (.Call (.Attribute r m ap) as [] p):=match as with
 |[]=>bh
 |y::ys=>wd (m=ag.ofString "get") (X5 f r m ap (y::ys) p) λU=>wh (decide ((y::ys).length<30) && (ap.endLine == p.line)) bh λhb=>cZ (M:=λr=>Sd q (.Call (.Attribute r m ap) (y::ys) [] p)) r bh λx xp=>match cO x q.xs,jS f (y::ys) with
  |some i,some l=>⟨.Dc i.1 l.ir,λC h σ k g τ K Q s a=>VM h.al (by refine ae (h.xs ..) <| i.2) U l.st (lH (b0 hb).1) (b0 hb).2 (l.ok C h) g a⟩
  |zz,V=>bh
noncomputable def X7 (x:ag) (fp:aB) (as:List Expr) (p:aB):Sd q (.Call (.Name x fp) as [] p):=match as with
 |[]=>bh
 |y::ys=>match cO x q.xs,jS f (y::ys) with
  |some i,some l=>⟨.rS i.1 l.ir,λC h σ k g τ K Q s a=>VJ h.al (by refine ae (h.xs ..) <| i.2) l.st (l.ok C h) g a⟩
  |zz,U=>bh
noncomputable def X8 (x:ag) (fp:aB) (as:List Expr) (p:aB):Sd q (.Call (.Name x fp) as [] p):=wh (dZ q.sc x) (X7 f x fp as p) λhg=>wd (x=ag.ofString "SequenceMatcher") (wd (x=ag.ofString "list")
 (match as with
 |[]=>wd (x=ag.ofString "set") bh λhx=>⟨.yf,λC h σ k g τ K Q s a=>VP h.al hx (h.sc▸hg) g a⟩
 |y::r=>match jS f (y::r) with
  |none=>bh
  |some l=>match XX x with
   |some b=>⟨.bi b.1 l.ir,λC h=>Vg h.al b.2 (h.sc▸hg) l.st (l.ok C h)⟩
   |none=>match MZ x q.fs.f with
    |some i=>⟨.fn i.1.1 l.ir,λC h=>Vh h.al i.2 (h.sc▸hg) l.st (l.ok C h)⟩
    |none=>bh)
 λhx=>X4 f x fp as p hx hg) λhx=>X3 f x fp as p hx hg
noncomputable def X9 (x:ag) (xp:aB) (m:ag) (p:aB):Sd q (.Attribute (.Name x xp) m p):=match cO x q.xs with
 |none=>bh
 |some i=>match cO m bU with
  |some j=>⟨.er i.1 j.1,λC h=>Vy h.al (by refine ae (h.xs ..) <| i.2) j.2⟩
  |none=>wd (m=ag.ofString "get") bh λU=>⟨.C9 i.1,λC h σ k g τ K Q s a=>VL h.al (by refine ae (h.xs ..) <| i.2) U g a⟩
noncomputable def Yb (r:Expr) (m:ag) (p:aB):Sd q (.Attribute r m p):=cZ (M:=λr=>Sd q (.Attribute r m p)) r (oj (M:=λr=>Sd q (.Attribute r m p)) r bh λr2 U p2=>cZ (M:=λr2=>Sd q (.Attribute (.Attribute r2 U p2) m p)) r2 bh λx xp=>wd (m=ag.ofString "__contains__") bh λV=>match cO x q.xs,cO U bU with
 |some i,some j=>⟨.has i.1 j.1,λC h σ k g τ K Q s a=>VK h.al (by refine ae (h.xs ..) <| i.2) j.2 V g a⟩
 |zz,W=>bh) λx xp=>X9 x xp m p
noncomputable def Yc (r:Expr) (m:ag) (ap:aB) (as:List Expr) (p:aB):Sd q (.Call (.Attribute r m ap) as [] p):=match vo m q.fs.m,jS f as with
 |some i,some l=>wh (decide (as.length<30) && (ap.endLine == p.line)) bh λhb=>cZ (M:=λr=>Sd q (.Call (.Attribute r m ap) as [] p)) r
  (om (M:=λr=>Sd q (.Call (.Attribute r m ap) as [] p)) r bh λc bs p2=>cZ (M:=λc=>Sd q (.Call (.Attribute (.Call c bs [] p2) m ap) as [] p)) c bh λx fp=>match bs with
   |[]=>bh
   |z::bs=>⟨.yb i.1.1 (f (.Call (.Name x fp) (z::bs) [] p2)).ir l.ir,λC h=>VD h.al i.2 (λzz zz zz=>rfl) ((f (.Call (.Name x fp) (z::bs) [] p2)).ok C h) (l.ok C h) l.st (lH (b0 hb).1) (b0 hb).2⟩)
  λx xp=>match cO x q.xs with
  |some j=>⟨.mp j.1 i.1.1 l.ir,λC h=>VA h.al (by refine ae (h.xs ..) <| j.2) i.2 (l.ok C h) l.st (lH (b0 hb).1) (b0 hb).2⟩
  |none=>bh
 |some zz,none=>bh
 |none,zz=>X6 f r m ap as p
noncomputable def Yd (el t iter:Expr) (U:Int) (s2:cj) (pos:aB):Sd q (.ListComp el [⟨t,iter,[],U⟩] s2 pos):=wd (U=0) bh λW=>wh (lE iter) bh λhi=>wh (zF q.sc s2 (jR t) (ip s2.names)) bh λhb=>match zC q.xs (ip s2.names),EJ (jR t++ip s2.names) (λzz=>.fr) t with
 |some c,some g=>wh (g.1.1.all λp=>decide (p.1<(jR t).length)) bh λhw=>om (M:=λiter=>lE iter=true->Sd q (.ListComp el [⟨t,iter,[],U⟩] s2 pos)) iter (λhi=>⟨.x6 g.1.1 g.1.2 c.1 (jR t).length (f iter).ir ((F (fM s2) (jR t++ip s2.names)).1 el).ir,λC h σ k g' τ K Q s a hQ=>by subst W;exact Xn h.al (EM hb h.al.e3 h.sc) (by refine ae (h.xs ..) <| c.2) g.2 (oP hw λy h=>of_decide_eq_true h) (λC' a b c=>((F (fM s2) (jR t++ip s2.names)).1 el).ok C' ⟨a,b,c⟩) hi ((f iter).ok C h) g' a hQ⟩) (λV as p=>cZ (M:=λV=>lE (.Call V as [] p)=true->Sd q (.ListComp el [⟨t,.Call V as [] p,[],U⟩] s2 pos)) V (λzz=>bh) λx fp=>match as with
  |_=>λzz=>bh) hi
 |zz,zy=>bh
noncomputable def Ye (el:Expr) (g:G9) (s2:cj) (pos:aB):Sd q (.ListComp el [g] s2 pos):=match g with
 |⟨t,iter,U,V⟩=>match U with
  |[]=>Yd f F el t iter V s2 pos
  |zz::W=>bh
noncomputable def Yg (el:Expr) (t0 U:Expr) (V:Int) (t1 i1:Expr) (W:Int) (s2:cj) (pos:aB):Sd q (.ListComp el [⟨t0,U,[],V⟩,⟨t1,i1,[],W⟩] s2 pos):=wd (V=0) bh λh0=>wd (W=0) bh λh1=>wh (lE U) bh λYh=>wh (lE i1) bh λEI=>
 cZ (M:=λel=>Sd q (.ListComp el [⟨t0,U,[],V⟩,⟨t1,i1,[],W⟩] s2 pos)) el bh λx1 p2=>cZ (M:=λt1=>Sd q (.ListComp (.Name x1 p2) [⟨t0,U,[],V⟩,⟨t1,i1,[],W⟩] s2 pos)) t1 bh λy1 p1=>cZ (M:=λt0=>Sd q (.ListComp (.Name x1 p2) [⟨t0,U,[],V⟩,⟨.Name y1 p1,i1,[],W⟩] s2 pos)) t0 bh λx0 p0=>wd (y1=x1) bh λhx=>
 wh (zF q.sc s2 [x0,x1] (ip s2.names)) bh λhb=>match zC q.xs (ip s2.names) with
 |some c=>⟨.ya [(0,.fr)] false c.1 2 (f U).ir ((F (fM s2) ([x0,x1]++ip s2.names)).1 i1).ir,λC h σ k g' τ K Q s a hQ=>by subst h0;subst h1;subst hx;exact XO (loc:=[x0,y1]) (q:=([(0,.fr)],false)) h.al (EM hb h.al.e3 h.sc) (by refine ae (h.xs ..) <| c.2) (.tail _ (.head _)) (.nm rfl) (cm.mpr Nat.zero_lt_two) (λC' a b c=>((F (fM s2) ([x0,y1]++ip s2.names)).1 i1).ok C' ⟨a,b,c⟩) (λzz zz=>rfl) EI Yh ((f U).ok C h) g' a hQ⟩
 |none=>bh
noncomputable def Yi (el:Expr) (W:List G9) (s2:cj) (pos:aB):Sd q (.ListComp el W s2 pos):=match W with
 |[⟨t,iter,U,V⟩]=>Ye f F el ⟨t,iter,U,V⟩ s2 pos
 |[⟨t0,i0,[],a0⟩,⟨t1,i1,[],a1⟩]=>Yg f F el t0 i0 a0 t1 i1 a1 s2 pos
 |_=>bh
noncomputable def EN (p:aB):∀es,Td q (.BoolOp .And es p):=@λA=>match A with
 |[]=>qw
 |[x]=>⟨(g x).ir,λC h=>Vk ((g x).ok C h)⟩
 |x::y::r=>⟨.an (g x).ir (EN p (y::r)).ir,λC h=>Vl ((g x).ok C h) ((EN p (y::r)).ok C h)⟩
noncomputable def EO (p:aB):∀es,Td q (.BoolOp .Or es p):=@λA=>match A with
 |[]=>qw
 |[x]=>⟨(g x).ir,λC h=>Vm ((g x).ok C h)⟩
 |x::y::r=>⟨.orr (g x).ir (EO p (y::r)).ir,λC h=>Vn ((g x).ok C h) ((EO p (y::r)).ok C h)⟩
noncomputable def Yj (e:Expr):Sd q e:=match view e with
 |.nm x p=>XZ x p
 |.cst k n p=>match h:K5 k with
  |some c=>⟨.lit c,λC zz=>U3 h⟩
  |none=>bh
 |.tup es k p=>match jS f es with
  |some l=>⟨.tup l.ir,λC h=>U4 (l.ok C h)⟩
  |none=>bh
 |.lst es p=>match jS f es with
  |some l=>⟨.lst l.ir,λC h=>Lx (l.ok C h)⟩
  |none=>bh
 |.bin a o b p=>⟨.bin o (f a).ir (f b).ir,λC h=>U5 h.al.ok ((f a).ok C h) ((f b).ok C h)⟩
 |.un o a p=>match o with
  |.USub=>⟨.neg (f a).ir,λC h=>U6 ((f a).ok C h)⟩
  |_=>bh
 |.cmp a os bs p=>X0 f a os bs p
 |.ite t a b p=>⟨.ite (g t).ir (f a).ir (f b).ir,λC h=>Va ((g t).ok C h) ((f a).ok C h) ((f b).ok C h)⟩
 |.sub v i p=>X2 f v i p
 |.call c as U p=>match U with
  |[]=>cZ (M:=λc=>Sd q (.Call c as [] p)) c (oj (M:=λc=>Sd q (.Call c as [] p)) c bh λr m ap=>Yc f r m ap as p) λx fp=>X8 f x fp as p
  |_=>bh
 |.lc el V s p=>Yi f F el V s p
 |.er r m p=>Yb r m p
 |.kc p=>⟨.kc false,λC h σ k g τ K Q s a=>LZ h.al g a⟩
 |_=>bh
noncomputable def Yk (e:Expr):Td q e:=match view e with
 |.nm x p=>⟨.tv (f (.Name x p)).ir,λC h=>yR h.al.ok (λzz=>rfl) ((f (.Name x p)).ok C h)⟩
 |.sub v i p=>⟨.tv (f (.Subscript v i p)).ir,λC h=>yR h.al.ok (λzz=>rfl) ((f (.Subscript v i p)).ok C h)⟩
 |.call c as U p=>⟨.tv (f (.Call c as U p)).ir,λC h=>yR h.al.ok (λzz=>rfl) ((f (.Call c as U p)).ok C h)⟩
 |.er r m p=>⟨.tv (f (.Attribute r m p)).ir,λC h=>yR h.al.ok (λzz=>rfl) ((f (.Attribute r m p)).ok C h)⟩
 |.cmp a os bs p=>X1 f a os bs p
 |.un o a p=>match o with
  |.Not=>⟨.nt (g a).ir,λC h=>Vj ((g a).ok C h)⟩
  |_=>qw
 |.bo o es p=>match o with
  |.And=>EN g p es
  |.Or=>EO g p es
 |_=>qw
end
noncomputable def tr:Nat->∀q:Pc,(∀e,Sd q e)×(∀e,Td q e):=@λA=>match A with
 |0=>λq=>(λzz=>bh,λzz=>qw)
 |n+1=>λq=>(Yj (tr n q).1 (tr n q).2 λs xs=>tr n ⟨q.fs,s,xs⟩,Yk (tr n q).1 (tr n q).2)
section
variable {prog:bM}{w:aW}{A:cD}{E:af->ai->Prop}{s:ai}{h₀:aq}{L D:ak}{m:ag->Option af}{rest:Led}{n:Nat}{vs:List af}{v:af}
theorem Yl {k:Nat}(hk:k<=vs.length):(vs.toArray.extract 0 k).push v++vs.toArray.extract k=(vs.take k++v::vs.drop k).toArray:=by
 apply Array.toList_inj.mp;simp;exact pM (by refine ae (hU ..) <| aK _)
theorem Ym (g:Array af->Array af):ay.mapSeq g (aQ vs n)=W.listOf (g vs.toArray) (if (g vs.toArray).size == vs.toArray.size then n else n+1):=rfl
theorem Yn {k:Int}{u:Tok}{Q:af->ai->Prop}(F:Fr h₀ L s.heap m) (N:aI h₀ L s.heap ((D,aQ vs n)::rest)) (ne:∀q∈rest,q.1≠D) (h0:0<=k) (hf:k<2 ^ 63) (hk:k<=vs.length) (hz:vs.length<2 ^ 24)
  (h:∀h' n',Fr h₀ L h' m->aI h₀ L h' ((D,aQ (vs.take k.toNat++v::vs.drop k.toNat) n')::rest)->Q .none {s with heap:=h'}):aA (az prog w) A (call (.builtin "list.insert") [.ref D,.int k u,v]) Q E s:=by
 have V:=N _ (.head _);have hsz:vs.toArray.size<=cc:=by unfold cc;simp only [ee];exact cA hz
 have hc:¬(!bY.List.listFitsIndex k)=true:=by
  unfold bY.List.listFitsIndex;simp;exact ⟨(ru (.L .z .b) (.n (.negSucc 9223372036854775807)) .b rfl h0),(pS (.t (.L .b .q) (.k .b (.n 16777216))) .b (.n 9223372036854775808) rfl hk hz)⟩
 refine call_meets aet (av _ V.1 rfl) PySem.F.entry_list_insert (PySem.F.args_list_insert_3 _ _ _) (afe D vs.toArray n k u v hc hsz) ⟨V.1,?_⟩;have e1:(if k<0 then (k+((vs.toArray.size:Nat):Int)).toNat else min k.toNat vs.toArray.size)=k.toNat:=by
  refine ae (if_neg (λgD=>(Iz (.t (.L .z .b) (.K .b .z)) rfl h0 gD)) ..) (ae (ee ..) ?_);exact (aN (ug (iB (Cs hk (dh (A3 h0))))) (ug (iB (Cs hk (dh (A3 h0)))).symm))
 have e2:(λxs:Array af=>have j:=if k<0 then (k+((xs.size:Nat):Int)).toNat else min k.toNat xs.size;(xs.extract 0 j).push v++xs.extract j) vs.toArray=(vs.take k.toNat++v::vs.drop k.toNat).toArray:=by
  refine (?_:(vs.toArray.extract 0 (if k<0 then (k+((vs.toArray.size:Nat):Int)).toNat else min k.toNat vs.toArray.size)).push v++vs.toArray.extract (if k<0 then (k+((vs.toArray.size:Nat):Int)).toNat else min k.toNat vs.toArray.size)=_);refine ae (e1 ..) <| Yl (Cs hk (dh (A3 h0)))
 generalize (λxs:Array af=>have j:=if k<0 then (k+((xs.size:Nat):Int)).toNat else min k.toNat xs.size;(xs.extract 0 j).push v++xs.extract j)=g at e2 ⊢;have U:∃n',(s.heap.update D (ay.mapSeq g)).get? D=some (aQ (vs.take k.toNat++v::vs.drop k.toNat) n'):=by
  rw [aq.get?_update_self _ V.1 rfl];exact ⟨_,congrArg some ((Ym g).trans (congrArg (λx=>W.listOf x _) e2))⟩
 refine El.ea U ?_;clear U;intro n' U;exact h _ n' (F.change (aq.SameBut.update ..) V.2.1 V.2.2) (N.setIn (own:=[]) (λzz h=>El.nm h) ne (aq.SameBut.update ..) U)
end
theorem M4 {P:Fz}(U:Dat P v d):∀{ws:List af}{ds:List ah}(n:Nat),aU P ws ds->aU P (ws.take n++v::ws.drop n) (ds.take n++d::ds.drop n):=@λA B C=>match A,B,C with
 |ws,ds,0=>λh=>⟨U,h⟩
 |[],[],n+1=>λh=>⟨U,rfl⟩
 |[],zz::V,n+1=>λh=>El.zs h.len
 |zz::V,[],n+1=>λh=>sz h.len
 |w::ws,e::ds,n+1=>λh=>⟨h.1,M4 U n h.2⟩
section
variable {C:Cx}{fs:bX}{σ:List Tr}{τ:List bg}
theorem Yo (W:bZ C fs) {xn nm:ag}{ea:Expr}(hx:C.xs[i]? = some xn) (hm:nm=ag.ofString "insert") (st:∀y∈ea::xs,notStar y=true) (hl:(ea::xs).length<30) (he:(ap.endLine == pp.line)=true) (hE:fK C fs ia (ea::xs))
  (h:yt σ i λds=>den (specs fs) ia σ λvs=>lC σ vs λc d=>(0<=c/\c<2 ^ 63/\c<=ds.length/\ds.length<2 ^ 24)/\k .nx (σ.set i (.dl (ds.take c.toNat++d::ds.drop c.toNat))))
  (a:At C σ τ φ s.heap) (ho:cw τ) (hQ:js C τ s Q k):Wp C (cJ (.Expr (.Call (.Attribute (.Name xn xp) nm ap) (ea::xs) [] pp) p) C.env) Q s:=by
 subst hm;refine wV (kr st hl (λzz zz zz=>rfl) he ?_) (sj W) rfl;cases h with
 |@mk ds h1 h2=>cases a with
  |mk F N S=>cases S.zi W.ok h1 ho with
   |@mk a0 n0 ws rest rv pN ne hz hw back=>
    refine W.ok.ld xp hx F N S.eP rv (wW (fL N pN) (.head _) aet PySem.F.type_list_insert (tG (hE σ _ h2 pp τ φ _ s (.mk F N S) λvs es h' tk l1 a1 g2=>?_) (dF (st _ (.head _))) (mG λy hy=>st y (.tail _ hy))));cases g2 with
    |@mk c d e1 e2 g3=>cases a1 with
     |mk F2 N2 S2=>
      refine gk (S2.mH W.ok l1 e1) λbF zz S3 zz r2=>?_;have d2:=r2 e2;cases S3.zi W.ok h1 ho with
      |@mk a1 n1 ws1 afb Yp Yq ne1 hz1 M5 U=>
       cases W.ok.uq rv Yp
       refine aO d2.ig λv1 vr V d1 dr=>?_;clear l1 S2 r2;clear zz d2;subst V;refine aO dr.ig λv2 DV V Yr qo=>?_;subst V;obtain rfl:=qo.mf;cases d1
       have hlen:=M5.len;exact Yn (s:={s with heap:=h',toks:=tk}) F2 (fL N2 Yq) ne1 g3.1.1 g3.1.2.1 (by have:=g3.1.2.2.1;omega) (by have:=g3.1.2.2.2;omega) λsF n' F' N'=>hQ .next .nx _ φ sF tk ⟨rfl,.mk F' N' (U (M4 Yr _ M5))⟩ g3.2
end
structure Pc.qy (q:Pc) (C:Cx):Prop where
 al:bZ C q.fs
 sc:C.env.scope=q.sc
 xs:C.xs=q.xs
theorem Pc.qy.e {q:Pc}(h:q.qy C):q.At C:=⟨h.al.toAl,h.sc,h.xs⟩
theorem Pc.qy.over {q:Pc}(h:q.qy C):q.qy (C.over X):=⟨h.al.over,h.sc,h.xs⟩
structure Xd (q:Pc) (st:cU) where
 ir:SS
 ok:∀C,q.qy C->bV C q.fs (cJ st C.env) ir
structure Bd (q:Pc) (l:List cU) where
 ir:SS
 ok:∀C,q.qy C->bV C q.fs (gM l C.env) ir
noncomputable def aP {q:Pc}{st:cU}:Xd q st:=⟨.bad,λzz zz=>Wz⟩
structure Hn where
 ow:Nat->Ow
 gh:List (Nat×Nat)
noncomputable def sG (xs:List ag) (ow:Nat->Ow) (t:Expr):Option {g:lI // gR xs t g}:=match view t with
 |.nm x p=>(cO x xs).map λi=>⟨.nm i.1 (ow i.1),.nm i.2⟩
 |.tup es k p=>(qx xs ow es).map λq=>⟨.tp q.1.1,.tp q.2.1 q.2.2⟩
 |.er r m p=>cZ (M:=λr=>Option {g:lI // gR xs (.Attribute r m p) g}) r none λx xp=>(cO x xs).bind λi=>(cO m bU).map λj=>⟨.dO i.1 j.1,.dO i.2 j.2⟩
 |.sub r m p=>cZ (M:=λr=>Option {g:lI // gR xs (.Subscript r m p) g}) r none λx xp=>cZ (M:=λm=>Option {g:lI // gR xs (.Subscript (.Name x xp) m p) g}) m none λy yp=>(cO x xs).bind λi=>(cO y xs).map λj=>⟨.qg i.1 j.1,.qg i.2 j.2⟩
 |_=>none
noncomputable def Ys {M:Expr->Type}(e:Expr) (d:M e) (f:qm e->M e):M e:=match view e,d,f with
 |.nm zz U,V,f=>f λzz zz zz=>rfl
 |.sub zz U V,W,f=>f λzz zz zz=>rfl
 |zz,d,U=>d
section
variable {q:Pc}(H:Hn) (E:∀e,Sd q e) (T:∀e,Td q e) (B:∀l,Bd q l)
noncomputable def Yt (ts:List Expr) (kk:Nat) (tp:aB) (c:Expr) (as:List Expr) (pp p:aB):Xd q (.Assign [.Tuple ts kk tp] (.Call c as [] pp) p):=oj (M:=λc=>Xd q (.Assign [.Tuple ts kk tp] (.Call c as [] pp) p)) c aP λr m ap=>cZ (M:=λr=>Xd q (.Assign [.Tuple ts kk tp] (.Call (.Attribute r m ap) as [] pp) p)) r aP λx xp=>match as with
 |[]=>wd (m=ag.ofString "pop") aP λU=>wh (ap.endLine == pp.line) aP λhl=>match cO x q.xs,qx q.xs H.ow ts with
  |some i,some n=>⟨.yB n.1.1 i.1,λC h=>WU h.al (by refine ae (h.xs ..) <| n.2.1) n.2.2 U hl (by refine ae (h.xs ..) <| i.2)⟩
  |zz,V=>aP
 |[z]=>K4 (M:=λz=>Xd q (.Assign [.Tuple ts kk tp] (.Call (.Attribute (.Name x xp) m ap) [z] [] pp) p)) z aP λc W zb=>wd (m=ag.ofString "pop") aP λU=>wh (ap.endLine == pp.line) aP λhl=>wd (c=.int 0) aP λhz=>match cO x q.xs,qx q.xs H.ow ts with
  |some i,some n=>⟨.yz n.1.1 i.1,λC h=>by subst hz;exact V1 h.al (by refine ae (h.xs ..) <| n.2.1) n.2.2 U hl (by refine ae (h.xs ..) <| i.2)⟩
  |zz,V=>aP
 |_=>aP
noncomputable def zH (ts:List Expr) (kk:Nat) (tp:aB) (v:Expr) (p:aB):Xd q (.Assign [.Tuple ts kk tp] v p):=wh (lF v) aP λhn=>match qx q.xs H.ow ts with
 |some n=>wh (DY ts v) aP λhs=>⟨.mA n.1.1 (E v).ir,λC i=>VT i.al hn hs (by refine ae (i.xs ..) <| n.2.1) n.2.2 ((E v).ok C i.e)⟩
 |none=>aP
noncomputable def Yu (ts:List Expr) (kk:Nat) (tp:aB) (vs:List Expr) (k2:Nat) (p2 p:aB):Xd q (.Assign [.Tuple ts kk tp] (.Tuple vs k2 p2) p):=match qx q.xs H.ow ts,jS E vs with
 |some n,some l=>wh (D0 ts vs n.1.2 && n.1.2.all λx=>decide (q.sc.names.lookup x=some .local)) (zH H E ts kk tp (.Tuple vs k2 p2) p) λh=>⟨.fA n.1.1 l.ir,λC i=>VV i.al (by refine ae (i.xs ..) <| n.2.1) n.2.2 (b0 h).1 (λx hx=>by refine (?_:C.env.scope.names.lookup x=_);refine ae (i.e.sc ..) <| of_decide_eq_true (nr.mp (b0 h).2 x hx)) (l.ok C i.e)⟩
 |zz,U=>zH H E ts kk tp (.Tuple vs k2 p2) p
noncomputable def Yv (ts:List Expr) (kk:Nat) (tp:aB) (v:Expr) (p:aB):Xd q (.Assign [.Tuple ts kk tp] v p):=tupK (M:=λv=>Xd q (.Assign [.Tuple ts kk tp] v p)) v (om (M:=λv=>Xd q (.Assign [.Tuple ts kk tp] v p)) v (zH H E ts kk tp v p) λc as pp=>match c.ctorIdx == 20 with
 |true=>Yt H ts kk tp c as pp p
 |false=>zH H E ts kk tp (.Call c as [] pp) p) λvs k2 p2=>Yu H E ts kk tp vs k2 p2 p
noncomputable def Yw (x:ag) (xp:aB) (v:Expr) (p:aB) (i:{i:Nat // q.xs[i]? = some x}):Xd q (.Assign [.Name x xp] v p):=om (M:=λv=>Xd q (.Assign [.Name x xp] v p)) v aP λc as pp=>oj (M:=λc=>Xd q (.Assign [.Name x xp] (.Call c as [] pp) p)) c aP λr m ap=>cZ (M:=λr=>Xd q (.Assign [.Name x xp] (.Call (.Attribute r m ap) as [] pp) p)) r aP λy yp=>match as with
 |[z,w]=>cZ (M:=λz=>Xd q (.Assign [.Name x xp] (.Call (.Attribute (.Name y yp) m ap) [z,w] [] pp) p)) z aP λzn zp=>UH (M:=λw=>Xd q (.Assign [.Name x xp] (.Call (.Attribute (.Name y yp) m ap) [.Name zn zp,w] [] pp) p)) w aP λlp=>wd (m=ag.ofString "setdefault") aP λU=>wh (ap.endLine == pp.line) aP λhl=>match cO y q.xs,cO zn q.xs with
  |some d,some e=>⟨.Dy i.1 d.1 e.1,λC a σ k g τ φ Q s V ho=>W0 a.al (by refine ae (a.xs ..) <| i.2) (by refine ae (a.xs ..) <| d.2) (by refine ae (a.xs ..) <| e.2) U hl g V ho⟩
  |zz,W=>aP
 |_=>aP
noncomputable def M6 (sc s2:cj) (x:ag) (a b:Nat):Bool:=decide (sc.names.lookup x=some .local) && (a == b && !(s2.names.any λ(n,k)=>n == x && (k == .local || k == .cell)))
theorem Yx (U:bZ C fs) {sc s2:cj}{xp pos:aB}{l:Nat}(e:C.env.scope=sc) (h:M6 sc s2 x xp.line pos.line=true):Ry (.ListComp el gs s2 pos) (some (.Name x xp)) l C.env=pure true:=by
 refine El.aa (b0 h) λV h=>El.aa (b0 h) λW h3=>?_;have k:C.env.kindOf x=some .local:=by refine (?_:C.env.scope.names.lookup x=_);rw [e];exact of_decide_eq_true V
 refine (?_:(pure (C.env.blockKind == .function && C.env.kindOf x == some .local && xp.line == pos.line && !(s2.names.any λ(n,k)=>n == x && (k == .local || k == .cell))):iS Bool)=pure true);rw [U.bk,k,W,h3];rfl
noncomputable def Yy (G:∀(s:cj) (xs:List ag) (e:Expr),Sd ⟨q.fs,s,xs⟩ e) (x:ag) (xp:aB) (o:Ow) (el t iter:Expr) (U:Int) (s2:cj) (pos p:aB) (i:{i:Nat // q.xs[i]? = some x}):Xd q (.Assign [.Name x xp] (.ListComp el [⟨t,iter,[],U⟩] s2 pos) p):=wd (U=0) aP λW=>wh (M6 q.sc s2 x xp.line pos.line) aP λhs=>wh (zF q.sc s2 (jR t) (ip s2.names)) aP λhb=>match zC q.xs (ip s2.names),EJ (jR t++ip s2.names) (λzz=>.fr) t with
 |some c,some g=>wh (g.1.1.all λp=>decide (p.1<(jR t).length)) aP λhw=>om (M:=λiter=>Xd q (.Assign [.Name x xp] (.ListComp el [⟨t,iter,[],U⟩] s2 pos) p)) iter aP λV as p5=>cZ (M:=λV=>Xd q (.Assign [.Name x xp] (.ListComp el [⟨t,.Call V as [] p5,[],U⟩] s2 pos) p)) V aP λf fp=>match as with
  |[b]=>wd (f=ag.ofString "range") aP λhf=>wh (dZ q.sc f) aP λhg=>wh (notStar b) aP λhn=>⟨.asg i.1 o (.x7 g.1.1 g.1.2 c.1 (jR t).length (E b).ir (G (fM s2) (jR t++ip s2.names) el).ir),λC a=>by subst W;exact Xq a.al (by refine ae (a.xs ..) <| i.2) (EM hb a.al.e3 a.sc) (by refine ae (a.xs ..) <| c.2) g.2 (oP hw λy h=>of_decide_eq_true h) (λC' a b c=>(G (fM s2) (jR t++ip s2.names) el).ok C' ⟨a,b,c⟩) hf (a.sc▸hg) (cm.mpr hn) ((E b).ok C a.e) (Yx a.al a.sc hs)⟩
  |_=>aP
 |zz,zy=>aP
noncomputable def Yz (G:∀(s:cj) (xs:List ag) (e:Expr),Sd ⟨q.fs,s,xs⟩ e) (x:ag) (xp:aB) (v:Expr) (p:aB) (i:{i:Nat // q.xs[i]? = some x}):Xd q (.Assign [.Name x xp] v p):=match view v with
 |.lc el W s2 pos=>match W with
  |[⟨t,iter,U,V⟩]=>match U with
   |[]=>Yy E G x xp (H.ow i.1) el t iter V s2 pos p i
   |zz::zy=>aP
  |_=>aP
 |_=>aP
noncomputable def YA (G:∀(s:cj) (xs:List ag) (e:Expr),Sd ⟨q.fs,s,xs⟩ e) (t v:Expr) (p:aB):Xd q (.Assign [t] v p):=match view t with
 |.nm x xp=>wh (lF v) (match cO x q.xs with
  |some i=>Yz H E G x xp v p i
  |none=>aP) λh=>match cO x q.xs with
  |some i=>match H.ow i.1 with
   |.n5=>K3 (M:=λv=>Xd q (.Assign [.Name x xp] v p)) v (cZ (M:=λv=>Xd q (.Assign [.Name x xp] v p)) v (Yw x xp v p i) λy yp=>match cO y q.xs with
    |some j=>⟨.Dw i.1 j.1,λC a σ k g τ φ Q s U ho=>WI a.al (by refine ae (a.xs ..) <| i.2) (by refine ae (a.xs ..) <| j.2) g U ho⟩
    |none=>aP) λp2=>⟨.asg i.1 .own (.kc true),λC a=>L5 a.al rfl (by refine ae (a.xs ..) <| i.2) λσ k g τ K Q s V=>LZ a.al.toAl g V⟩
   |o=>⟨.asg i.1 o (E v).ir,λC a=>L5 a.al h (by refine ae (a.xs ..) <| i.2) ((E v).ok C a.e)⟩
  |none=>aP
 |.tup ts kk tp=>Yv H E ts kk tp v p
 |.er r m tp=>wh (lF v) aP λh=>match sG q.xs H.ow (.Attribute r m tp) with
  |some g=>⟨.fg [g.1] (E v).ir,λC a=>WM a.al h (by refine ae (a.xs ..) <| g.2) ((E v).ok C a.e)⟩
  |none=>aP
 |.sub o i tp=>wh (lF v) aP λh=>⟨.set (E o).ir (E i).ir (E v).ir,λC a=>VY a.al h ((E v).ok C a.e) ((E o).ok C a.e) ((E i).ok C a.e)⟩
 |_=>aP
noncomputable def zI (t1 t2 v:Expr) (p:aB):Xd q (.Assign [t1,t2] v p):=match sG q.xs H.ow t1,sG q.xs H.ow t2 with
 |some g1,some g2=>⟨.fg [g1.1,g2.1] (E v).ir,λC a=>WN a.al (by refine ae (a.xs ..) <| g1.2) (by refine ae (a.xs ..) <| g2.2) ((E v).ok C a.e)⟩
 |zz,U=>aP
noncomputable def YB (r:Expr) (m:ag) (p1:aB) (y:ag) (p2:aB) (v:Expr) (p:aB):Xd q (.Assign [.Attribute r m p1,.Name y p2] v p):=cZ (M:=λr=>Xd q (.Assign [.Attribute r m p1,.Name y p2] v p)) r aP λx xp=>match cO x q.xs,cO m bU,cO y q.xs with
 |some i,some j,some n=>match H.ow n.1 with
  |.fr=>zI H E (.Attribute (.Name x xp) m p1) (.Name y p2) v p
  |.deep=>zI H E (.Attribute (.Name x xp) m p1) (.Name y p2) v p
  |.n5=>K3 (M:=λv=>Xd q (.Assign [.Attribute (.Name x xp) m p1,.Name y p2] v p)) v aP λlp=>⟨.Dx i.1 j.1 n.1,λC a σ k g τ φ Q s U ho=>WZ a.al (by refine ae (a.xs ..) <| i.2) j.2 (by refine ae (a.xs ..) <| n.2) g U ho⟩
  |o=>⟨.yA i.1 j.1 n.1 o (E v).ir,λC a=>WQ a.al (by refine ae (a.xs ..) <| i.2) j.2 (by refine ae (a.xs ..) <| n.2) ((E v).ok C a.e)⟩
 |zz,V,W=>aP
noncomputable def YC (G:∀(s:cj) (xs:List ag) (e:Expr),Sd ⟨q.fs,s,xs⟩ e) (ts:List Expr) (v:Expr) (p:aB):Xd q (.Assign ts v p):=match ts with
 |[t]=>YA H E G t v p
 |[t1,t2]=>oj (M:=λt1=>Xd q (.Assign [t1,t2] v p)) t1 (zI H E t1 t2 v p) λr m p1=>cZ (M:=λt2=>Xd q (.Assign [.Attribute r m p1,t2] v p)) t2 (zI H E (.Attribute r m p1) t2 v p) λy p2=>YB H E r m p1 y p2 v p
 |[t1,t2,t3]=>match sG q.xs H.ow t1,sG q.xs H.ow t2,sG q.xs H.ow t3 with
  |some g1,some g2,some g3=>⟨.fg [g1.1,g2.1,g3.1] (E v).ir,λC a=>WO a.al (by refine ae (a.xs ..) <| g1.2) (by refine ae (a.xs ..) <| g2.2) (by refine ae (a.xs ..) <| g3.2) ((E v).ok C a.e)⟩
  |zz,U,V=>aP
 |_=>aP
noncomputable def YD (t:Expr) (o:tB) (v:Expr) (p:aB):Xd q (.AugAssign t o v p):=match view t with
 |.nm x xp=>match cO x q.xs with
  |some i=>⟨.aug i.1 o (E v).ir,λC a=>V2 a.al (by refine ae (a.xs ..) <| i.2) ((E v).ok C a.e)⟩
  |none=>aP
 |.sub r j tp=>wh (mw j) aP λh=>⟨.kl (E r).ir (E j).ir o (E v).ir,λC a=>V5 a.al h ((E r).ok C a.e) ((E j).ok C a.e) ((E v).ok C a.e)⟩
 |_=>aP
noncomputable def EP (o:Expr) (m:ag) (ap:aB) (x:Expr) (pp p:aB):Xd q (.Expr (.Call (.Attribute o m ap) [x] [] pp) p):=wh (notStar x) aP λhn=>wh (ap.endLine == pp.line) aP λhl=>Ys (M:=λo=>Xd q (.Expr (.Call (.Attribute o m ap) [x] [] pp) p)) o aP λV=>wd (m=ag.ofString "append")
  (wd (m=ag.ofString "extend") aP λU=>⟨.ext (E o).ir (E x).ir,λC a=>V0 a.al U hn V hl ((E o).ok C a.e) ((E x).ok C a.e)⟩)
  λU=>⟨.app (E o).ir (E x).ir,λC a=>VZ a.al U hn V hl ((E o).ok C a.e) ((E x).ok C a.e)⟩
noncomputable def YE (o:Expr) (m:ag) (ap:aB) (x:Expr) (pp p:aB):Xd q (.Expr (.Call (.Attribute o m ap) [x] [] pp) p):=cZ (M:=λo=>Xd q (.Expr (.Call (.Attribute o m ap) [x] [] pp) p)) o (EP E o m ap x pp p) λy yp=>match cO y q.xs with
 |none=>EP E (.Name y yp) m ap x pp p
 |some i=>match H.ow i.1 with
  |.n5=>cZ (M:=λx=>Xd q (.Expr (.Call (.Attribute (.Name y yp) m ap) [x] [] pp) p)) x aP λzn zp=>wd (m=ag.ofString "append") aP λU=>wh (ap.endLine == pp.line) aP λhl=>match cO zn q.xs with
   |some e=>⟨.Dz i.1 e.1,λC a σ k g τ φ Q s V ho=>W2 a.al (by refine ae (a.xs ..) <| i.2) (by refine ae (a.xs ..) <| e.2) U hl g V ho⟩
   |none=>aP
  |_=>EP E (.Name y yp) m ap x pp p
noncomputable def YF (o:Expr) (m:ag) (ap:aB) (as:List Expr) (pp p:aB):Xd q (.Expr (.Call (.Attribute o m ap) as [] pp) p):=match as with
 |[]=>cZ (M:=λo=>Xd q (.Expr (.Call (.Attribute o m ap) [] [] pp) p)) o aP λx xp=>wd (m=ag.ofString "sort") aP λU=>wh (ap.endLine == pp.line) aP λhl=>match cO x q.xs with
  |some i=>⟨.qi i.1,λC a=>WV a.al U hl (by refine ae (a.xs ..) <| i.2)⟩
  |none=>aP
 |[x]=>YE H E o m ap x pp p
 |[x,y]=>cZ (M:=λo=>Xd q (.Expr (.Call (.Attribute o m ap) [x,y] [] pp) p)) o aP λz zp=>wd (m=ag.ofString "insert") aP λU=>wh (ap.endLine == pp.line) aP λhl=>match cO z q.xs,jS E [x,y] with
  |some i,some l=>⟨.ins i.1 l.ir,λC a σ k g τ φ Q s V ho W=>Yo a.al (by refine ae (a.xs ..) <| i.2) U l.st (aF rfl) hl (l.ok C a.e) g V ho W⟩
  |zz,zy=>aP
 |_=>aP
noncomputable def YG (e:Expr) (p:aB):Xd q (.Expr e p):=om (M:=λe=>Xd q (.Expr e p)) e (K4 (M:=λe=>Xd q (.Expr e p)) e aP λc n p2=>match c with
 |.str x=>⟨.nil,λC a=>WB a.al⟩
 |_=>aP) λc as pp=>oj (M:=λc=>Xd q (.Expr (.Call c as [] pp) p)) c aP λo m ap=>match vo m q.fs.m with
 |none=>YF H E o m ap as pp p
 |some g=>cZ (M:=λo=>Xd q (.Expr (.Call (.Attribute o m ap) as [] pp) p)) o aP λx xp=>wh (decide (as.length<30) && (ap.endLine == pp.line)) aP λhb=>match cO x q.xs,jS E as with
  |some i,some l=>⟨.qh i.1 g.1.1 l.ir,λC a=>WR a.al (by refine ae (a.xs ..) <| i.2) g.2 (l.ok C a.e) l.st (lH (b0 hb).1) (b0 hb).2⟩
  |zz,U=>aP
noncomputable def vp (t it:Expr) (b:List cU) (p:aB) (g:{g:Tg×Bool // c0 q.xs t g}):Xd q (.For t it b [] p):=wh (lE it) aP λh=>⟨.eu g.1.1 g.1.2 (.seq (E it).ir) (B b).ir,λC a=>uT a.al (yQ h) (Wq a.al ((E it).ok C a.e) (by refine ae (a.xs ..) <| g.2) λX=>(B b).ok _ a.over)⟩
noncomputable def YH (t:Expr) (x:ag) (fp:aB) (as:List Expr) (pp:aB) (b:List cU) (p:aB) (g:{g:Tg×Bool // c0 q.xs t g}):Xd q (.For t (.Call (.Name x fp) as [] pp) b [] p):=wd (x=ag.ofString "range")
 (wd (x=ag.ofString "enumerate") (vp E B t (.Call (.Name x fp) as [] pp) b p g) λhx=>wh (dZ q.sc x) aP λhg=>match as with
 |[z]=>wh (notStar z) aP λhz=>⟨.eu g.1.1 g.1.2 (.r6 (E z).ir) (B b).ir,λC a=>uT a.al (λzz=>rfl) (Wn a.al hx (a.sc▸hg) (cm.mpr hz) ((E z).ok C a.e) (by refine ae (a.xs ..) <| g.2) λX=>(B b).ok _ a.over)⟩
 |_=>aP)
 λhx=>wh (dZ q.sc x) aP λhg=>match as with
 |[z]=>wh (notStar z) aP λhz=>⟨.eu g.1.1 g.1.2 (.qf (.lit (.int 0)) (E z).ir) (B b).ir,λC a=>uT a.al (λzz=>rfl) (Wk a.al hx (a.sc▸hg) (cm.mpr hz) ((E z).ok C a.e) (by refine ae (a.xs ..) <| g.2) λX=>(B b).ok _ a.over)⟩
 |[y,z]=>wh (notStar y) aP λU=>wh (notStar z) aP λhz=>⟨.eu g.1.1 g.1.2 (.qf (E y).ir (E z).ir) (B b).ir,λC a=>uT a.al (λzz=>rfl) (Wl a.al hx (a.sc▸hg) (cz.mpr ⟨U,cm.mpr hz⟩) ((E y).ok C a.e) ((E z).ok C a.e) (by refine ae (a.xs ..) <| g.2) λX=>(B b).ok _ a.over)⟩
 |_=>aP
noncomputable def forM (t c:Expr) (as:List Expr) (pp:aB) (b:List cU) (p:aB) (g:{g:Tg×Bool // c0 q.xs t g}):Xd q (.For t (.Call c as [] pp) b [] p):=oj (M:=λc=>Xd q (.For t (.Call c as [] pp) b [] p)) c (vp E B t (.Call c as [] pp) b p g) λr m ap=>cZ (M:=λr=>Xd q (.For t (.Call (.Attribute r m ap) as [] pp) b [] p)) r (vp E B t (.Call (.Attribute r m ap) as [] pp) b p g) λx xp=>match vo m q.fs.m with
 |none=>vp E B t (.Call (.Attribute (.Name x xp) m ap) as [] pp) b p g
 |some f=>wh (decide (as.length<30) && (ap.endLine == pp.line)) aP λhb=>match cO x q.xs,jS E as with
  |some i,some l=>⟨.eu g.1.1 g.1.2 (.yy i.1 f.1.1 l.ir) (B b).ir,λC a=>uT a.al (λzz=>rfl) (WS a.al (by refine ae (a.xs ..) <| i.2) f.2 (l.ok C a.e) l.st (lH (b0 hb).1) (b0 hb).2 (by refine ae (a.xs ..) <| g.2) λX=>(B b).ok _ a.over)⟩
  |zz,U=>aP
noncomputable def YI (t it:Expr) (b U:List cU) (p:aB):Xd q (.For t it b U p):=match U with
 |[]=>match EJ q.xs H.ow t with
  |none=>aP
  |some g=>om (M:=λit=>Xd q (.For t it b [] p)) it (vp E B t it b p g) λc as pp=>cZ (M:=λc=>Xd q (.For t (.Call c as [] pp) b [] p)) c (forM E B t c as pp b p g) λx fp=>YH E B t x fp as pp b p g
 |_=>aP
noncomputable def YJ (G:∀(s:cj) (xs:List ag) (e:Expr),Sd ⟨q.fs,s,xs⟩ e) (st:cU):Xd q st:=match st with
 |.Assign ts v p=>YC H E G ts v p
 |.AugAssign t o v p=>YD E t o v p
 |.Expr e p=>YG H E e p
 |.If t a b p=>⟨.cS (T t).ir (B a).ir (B b).ir,λC h=>WA ((T t).ok C h.e) ((B a).ok C h) ((B b).ok C h)⟩
 |.For t it b U p=>YI H E B t it b U p
 |.While t b U p=>match U with
  |[]=>⟨.mB (T t).ir (B b).ir,λC h=>Ws ((T t).ok C h.e) ((B b).ok C h)⟩
  |_=>aP
 |.Return e p=>match e with
  |some x=>⟨.ret (E x).ir,λC h=>WH ((E x).ok C h.e)⟩
  |none=>⟨.ret (.lit .none),λC h=>WC⟩
 |.Break p=>⟨.brk,λC h=>WD⟩
 |.Continue p=>⟨.cnt,λC h=>WE⟩
 |.Pass p=>⟨.nil,λC h=>WG⟩
 |_=>aP
end
noncomputable def zJ {q:Pc}(f:∀st,Xd q st) (gh:List (Nat×Nat)):∀l,Bd q l:=@λA=>match A with
 |[]=>⟨.nil,λzz zz=>Wy⟩
 |a::r=>⟨.seq (ghost gh a.pos.line (f a).ir) (zJ f gh r).ir,λC h=>Wv (zf h.al.ok ((f a).ok C h) gh) ((zJ f gh r).ok C h)⟩
noncomputable def M7 (d:Nat) (q:Pc) (H:Hn):Nat->∀st,Xd q st:=@λA=>match A with
 |0=>λzz=>aP
 |n+1=>YJ H (tr d q).1 (tr d q).2 (zJ (M7 d q H n) H.gh) λs xs=>(tr d ⟨q.fs,s,xs⟩).1
noncomputable def qz (d n:Nat) (q:Pc) (H:Hn) (l:List cU):Bd q l:=zJ (M7 d q H n) H.gh l
noncomputable def ER (Kf:ja):Bool:=(hasDictIn Kf 242 && (plainOver Kf 242 && decide (tL Kf (.ref 242) "__setattr__"=some (some (.builtin "object.__setattr__"))))) && bU.all λnm=>R2 Kf 242 nm && (decide (tL Kf (.ref 242) nm=some none) && decide (takerIn Kf 242 nm=some none))
section
variable {P:Fz}{ns:List ag}{as:List bu}{nm:ag}{v:af}
theorem ES (h:y≠x):(af.str y t).isStr x=false:=beq_eq_false_iff_ne.mpr h
theorem M8:(af.str x t).isStr x=true:=beq_self_eq_true x
theorem cY.find:∀{es:List eY}{ns:List ag}{as:List bu}{j:Nat},cY P es ns as->ns.Nodup->ns[j]? = some nm->es[j]? = some e->es.find? (·.key.isStr nm)=some e:=@λA B C D F G H J=>match A,B,C,D,F,G,H,J with
 |[],zz,W,zx,zw,zv,zu,h=>El.ns h
 |zz::W,[],zx,zw,x,zv,zu,zt=>(show False from x).elim
 |zz::W,zx::zw,[],zv,x,zu,zt,zr=>(show False from x).elim
 |e0::es,n::ns,a::as,0,x,nd,U,V=>by
  clear H;cases U;clear J;cases V;refine El.ea x.1 λt e=>?_;rw [G8,e,M8]
 |e0::es,n::ns,a::as,j+1,x,nd,U,V=>by
  refine El.ea x.1 λt e=>El.aa (bR.mp nd) λn1 n2=>?_;rw [G8,e,ES (y:=n) (x:=nm) λq=>n1 (by refine ae (q ..) <| d6 (show ns[j]? = some nm from U))]
  exact cY.find (es:=es) (j:=j) x.2.2.2 n2 U V
theorem cY.put (W:lu P a v) (hi:nq v=true):∀{es:List eY}{ns:List ag}{as:List bu}{j:Nat},cY P es ns as->ns.Nodup->ns[j]? = some nm->j<=as.length->cY P (putL nm hs (.str nm tk) v es) ns (mD as j a):=@λA B C D F G H J=>match A,B,C,D,F,G,H,J with
 |[],[],zz,zy,x,zx,h,zw=>El.ns h
 |[],n::ns,as,j,x,zz,h,U=>by
  rw [show as=[] from x] at U ⊢;cases Hv.mp U
  clear H;cases h;exact cB ⟨tk,rfl⟩ hi W rfl
 |zz::zy,[],zx,zw,x,zv,zu,zt=>(show False from x).elim
 |zz::zy,zx::zw,[],zv,x,zu,zt,zr=>(show False from x).elim
 |e0::es,n::ns,V::as,0,x,nd,h,U=>by
  clear H;cases h;refine El.ea x.1 λt e=>?_;unfold putL;refine ae (e ..) (ae (M8 ..) (ae (if_pos rfl ..) ?_));exact cB ⟨t,rfl⟩ hi W x.2.2.2
 |e0::es,n::ns,V::as,j+1,x,nd,h,U=>by
  refine El.ea x.1 λt e=>El.aa (bR.mp nd) λn1 n2=>?_;have ih:=cY.put W hi (es:=es) (j:=j) (hs:=hs) (tk:=tk) x.2.2.2 n2 h (tw U);unfold putL;rw [e,ES (y:=n) (x:=nm) λq=>n1 (by refine ae (q ..) <| d6 (show ns[j]? = some nm from h)),if_neg nv]
  have es:mD (V::as) (j+1) a=V::mD as j a:=by
   unfold mD;by_cases c:j<as.length
   ·refine ae (if_pos c ..) (ae (if_pos (show j+1<(V::as).length from R3 c) ..) ?_);rfl
   ·refine ae (if_neg c ..) (ae (if_neg (show ¬j+1<(V::as).length from λq=>c (Be q)) ..) ?_);rfl
  refine ae (es ..) <| cB x.1 x.2.1 x.2.2.1 ih
theorem cY.none:∀{es:List eY}{ns:List ag}{as:List bu},cY P es ns as->nm∉ns->es.find? (·.key.isStr nm)=none/\es.any (·.refKey)=false:=@λA B C D F=>match A,B,C,D,F with
 |[],zz,U,V,W=>⟨rfl,rfl⟩
 |zz::U,[],V,x,W=>(show False from x).elim
 |zz::U,V::W,[],x,zv=>(show False from x).elim
 |e0::es,n::ns,a::as,x,h=>by
  refine El.ea x.1 λt e=>El.aa (cY.none (es:=es) x.2.2.2 λq=>h (.tail _ q)) λi1 i2=>⟨?_,?_⟩
  ·rw [G8,e,ES (y:=n) (x:=nm) λq=>h (by refine ae (q ..) <| .head _)];exact i1
  ·refine ae (Rq ..) (ae (i2 ..) (ae (R4 ..) ?_));unfold eY.refKey;exact ae (e ..) rfl
theorem cY.any:∀{es:List eY}{ns:List ag}{as:List bu},cY P es ns as->es.any (·.refKey)=false/\es.length=as.length/\es.length<=ns.length:=@λA B C D=>match A,B,C,D with
 |[],zz,as,x=>(aL rfl (by refine ae (show as=[] from x) ?_;rfl) (bA _))
 |zz::U,[],V,x=>(show False from x).elim
 |zz::U,V::zw,[],x=>(show False from x).elim
 |e0::es,n::ns,a::as,x=>by
  refine El.ea x.1 λt e=>cg (cY.any (es:=es) x.2.2.2) λi1 i2 W=>aL (by refine ae (Rq ..) (ae (i1 ..) (ae (R4 ..) ?_));unfold eY.refKey;exact ae (e ..) rfl) (congrArg l5 i2) (gY W)
theorem M9:bU.Nodup:=of_decide_eq_true (by decide +kernel)
theorem Na:∀es:List eY,(putL nm hs k v es).length<=es.length+1:=@λA=>match A with
 |[]=>aK _
 |e::r=>by
  unfold putL;split
  ·exact kU _
  ·exact gY (Na r)
end
theorem evalArgs_none {E:af->ai->Prop}(h:aA M A (qW []) (λvs U=>Q ⟨vs,[]⟩ U) E s):aA M A (evalArgs f true [] []) Q E s:=by
 unfold evalArgs;refine (?_:aA M A (qW []>>=_) Q E s);refine au (cK h (λvs U h'=>?_) λzz zz x=>x);refine fo <| au (aZ (au (aZ (aZ h'))))
section
variable {Kf:ja}{C:Cx}
theorem YK (X:Kf.In C.h₀) (hc:ER Kf=true):Ll C:=by
 refine El.aa (b0 hc) λh1 h2=>El.aa (b0 h1) λh3 W=>El.aa (b0 W) λW h5=>?_;have U:∀{j:Nat}{nm:ag},bU[j]? = some nm->R2 Kf 242 nm=true/\tL Kf (.ref 242) nm=some none/\takerIn Kf 242 nm=some none:=λh=>by
  have:=b0 (nr.mp h2 _ (d6 h));exact aL this.1 (lH (b0 this.2).1) (lH (b0 this.2).2)
 refine ⟨λ{m x dx es n P as j nm e Q s} I hn he hQ=>?_,λ{m x dx es n P as j nm v rest Q s} I N ne hn hj hi h=>?_⟩
 ·cases I with
  |mk F g1 g2 V=>
   refine cg (U hn) λa b c=>?_;have hl:getL nm es=some (some e.val):=by unfold getL;exact ae (V.find M9 hn he ..) rfl
   have hv:nq e.val=true:=by
    have key:∀{es:List eY}{ns:List ag}{as:List bu}{j:Nat},cY P es ns as->es[j]? = some e->nq e.val=true:=by
     intro es;induction es with
     |nil=>exact λzz h=>El.ns h
     |cons e0 es ih=>intro ns as j x h;cases ns with
      |nil=>exact (show False from x).elim
      |cons n ns=>cases as with
       |nil=>exact (show False from x).elim
       |cons a as=>cases j with
        |zero=>clear he hQ hl ih;cases h;exact x.2.1
        |succ j=>exact ih (j:=j) x.2.2.2 h
    exact key V he
   exact get_own F X ⟨g1,rfl,rfl,g2⟩ a h3 b rfl hl hv hQ
 ·cases I with
  |mk F g1 g2 V=>
   refine cg (U hn) λa b c=>cg V.any λi1 i2 i3=>?_;have hl:(getL nm es).isSome=true:=by
    unfold getL;cases es.find? (·.key.isStr nm) with
    |some e=>rfl
    |none=>dsimp only;rw [if_neg (by rw [i1];exact nv)];rfl
   exact set_dict F X N ⟨g1,rfl,rfl,g2⟩ rfl (lH h5) W c h3 hl rfl (.head ne) (aD (Na es) (aD (gY i3) (by decide))) λh' F' N'=>h h' _ _ _ F' N' λP' as a x y=>x.put y hi M9 hn (by refine ae (x.any.2.1 ..).symm (ae (i2 ..) ?_);exact hj)
noncomputable def ET (Kf:ja) (nm:ag) (f:ak):Bool:=(R2 Kf 242 nm && decide (tL Kf (.ref 242) nm=some (some (.ref f)))) && (isFn Kf (.ref f) && (Bf Kf (.ref f) && !bU.contains nm))
theorem YL {nm:ag}(X:Kf.In C.h₀) (hc:ET Kf nm f=true):Lk C nm (.ref f):=by
 refine El.aa (b0 hc) λh1 h2=>El.aa (b0 h2) λh3 h4=>El.aa (b0 h4) λW h6=>El.aa (b0 h1) λh7 h8=>⟨λm x dx es n P as pl Q s I hQ=>?_,λenv pos r first Q s kp U h=>?_⟩
 ·cases I with
  |mk F g1 g2 ha=>
   refine El.aa (ha.none (nm:=nm) λq=>by rw [List.contains_iff_mem.mpr q] at h6;exact El.ft h6) λi1 i2=>?_
   exact method_inst F X ⟨g1,rfl,rfl,g2⟩ h7 (lH h8) h3 (by unfold getL;rw [i1];dsimp only;rw [if_neg (by rw [i2];exact nv)]) hQ
 ·have h':=cK h (λvs V h=>(⟨X.keeps h.1,h.2⟩:Kf.In V.heap/\_)) λzz zz e=>e;clear h;cases r with
  |nil=>exact callWith_of rfl (keeps_K W) (evalArgs_none h')
  |cons x r=>exact callWith_K X W h' (dF (U _ (.head _))) (mG λy hy=>U y (.tail _ hy))
end
structure Wo (Kf:ja) (p:bM) (ls:List ag) (C:Cx) (D:Nat):Prop where
 X:Kf.In C.h₀
 T:∃means mg mb,Top p ls means mg mb C.h₀
 hh:C.A.handled=none
 hd:C.A.depth+D<w4
 hu:C.A.units+3*D+64<qT
abbrev mT (Kf:ja) (p:bM) (ls:List ag) (pg:bM) (w:aW) (D:Nat) (f:List af->iS af) (sp:iE):Prop:=∀C:Cx,C.pg=pg->C.w=w->Wo Kf p ls C D->yL C f sp
theorem YM:∀x∈uF,x≠"__name__":=λx hx=>of_decide_eq_true (nr.mp (show uF.all (λx=>decide (x≠"__name__"))=true by decide +kernel) x hx)
abbrev qA (Kf:ja) (p:bM) (ls:List ag) (pg:bM) (w:aW) (D:Nat) (f:af) (sp:eF):Prop:=∀C:Cx,C.pg=pg->C.w=w->Wo Kf p ls C D->DH C f sp
abbrev zK (Kf:ja) (p:bM) (ls:List ag) (pg:bM) (w:aW) (D:Nat) (g:Mn):Prop:=g.nm=ag.ofString "__init__"->∀C:Cx,C.pg=pg->C.w=w->Wo Kf p ls C D->DI C g.spec/\kn C (ag.ofString "SequenceMatcher") (.ref 242)/\qk C (.ref 242)
section
variable {Kf:ja}{p:bM}{ls:List ag}{C:Cx}{D:Nat}
theorem YN {pg:bM}{w:aW}(h:g.nm≠ag.ofString "__init__"):zK Kf p ls pg w D g:=λe=>(h e).elim
theorem Nb (W:Wo Kf p ls C D) (e:rg Kf iA x=some none) (U:Rv x=some v) (hn:x≠"__name__"):kn C x v:=λenv p m Q s g1 g2 g3 V g5 F hQ=>by
 refine pV W.T λmeans mg mb T=>aeu g3 V (loadGlobal_builtin (by refine ae (g1 ..) <| T.g.keeps F.keep) (mg_none_of W.X T.g e) (by refine ae (g2 ..) <| T.b.keeps F.keep) ((T.builtins x hn).trans U) hQ) g5
theorem EU (W:Wo Kf p ls C D) (e:rg Kf iA x=some (some v)):kn C x v:=λenv p m Q s g1 g2 g3 U V F hQ=>by
 refine pV W.T λmeans mg mb T=>aeu g3 U (loadGlobal_global (by refine ae (g1 ..) <| T.g.keeps F.keep) (mg_of W.X T.g e) hQ) V
theorem Nc (W:Wo Kf p ls C D) (hk:Bf Kf g=true):qk C g:=λenv pos x r Q s U h=>by
 refine callWith_K (first:=[]) W.X hk (cK h (λvs V h=>⟨W.X.keeps h.1,h.2⟩) λzz zz e=>e) (dF (U x (.head _))) (mG λy hy=>U y (.tail _ hy))
def zL (Kf:ja) (f:Fn):Prop:=(rg Kf iA f.nm=some (some f.val)/\Bf Kf f.val=true)∨(rg Kf iA f.nm=some none/\Rv f.nm=some f.val/\f.nm≠"__name__"/\∃id,f.val=.builtin id)
def Nd (Kf:ja) (g:Mn):Prop:=∃f,g.val=.ref f/\ET Kf g.nm f=true
noncomputable def ju (k:ah->Prop):KS:=λf σ=>match f with
 |.ret e=>wD (e.data σ) k
 |.nx=>k .none
 |_=>False
noncomputable def lP (x:ak×ak) (k:ah->List bu->Prop):KS:=λf σ=>∃as,σ[0]? = some (b6 x as)/\ju (λd=>k d as) f σ
theorem Nf {P:Fz}:∀{vs:List af}{ts:List Tr}{O:Led},bO P ts O vs->bO P (ts++dK n .un) O (vs++dK n .none):=@λA B C D=>match A,B,C,D with
 |[],[],zz,h=>by
  refine ae (show _=[] from h.1) ?_;induction n with
  |zero=>exact ⟨rfl,rfl⟩
  |succ n U=>exact bQ [] [] rfl rfl U
 |v::vs,t::ts,zz,⟨V,W,e,x,y⟩=>(bQ V W e x (Nf y))
 |[],zz::zy,zx,h=>(show False from h).elim
 |zz::zy,[],zx,h=>cn h.2
noncomputable abbrev init (ds:List ah) (n:Nat):List Tr:=ds.map .dat++dK n .un
abbrev EV (scope:cj) (ps ls':List ag):Prop:=((ps++ls').Nodup/\(∀x∈ps++ls',scope.names.lookup x=some .local∨scope.names.lookup x=some .cell)/\∀x∈ps++ls',(x == ("__debug__":ag))=false)/\scope.isCoroutine=false/\scope.isGenerator=false/\scope.kind=.function/\((cellsFrom 0 scope.names []).map (·.1)).Nodup
structure zM (Kf:ja) (f:ak) (name qual:ag) (params:Q8) (body:List cU) (scope:cj) (dV kV doc pm ew ct oc:af) (an od:Option ak) (qB:Array (Option af)) (ps ls':List ag):Prop where
 ho:Kf.lookup f=some ⟨oc,od,.func (kW name qual params body scope dV kV doc pm an ew ct),qB⟩
 vq:tM Kf ew qual=true
 ht:EV scope ps ls'
structure Bs (Kf:ja) (p:bM) (ls:List ag) (pg:bM) (w:aW) (D:Nat) (fs:bX):Prop where
 g:uF.all (λx=>decide (rg Kf iA x=some none))=true
 cl:ER Kf=true/\∀C:Cx,C.pg=pg->C.w=w->Wo Kf p ls C D->yN C
 f:∀f∈fs.f,zL Kf f/\mT Kf p ls pg w D (λvs=>call f.val vs) f.spec
 m:∀g∈fs.m,Nd Kf g/\qA Kf p ls pg w D g.val g.spec/\zK Kf p ls pg w D g
def zN:Nat->(List af->Prop)->Prop:=@λA B=>match A,B with
 |0,P=>P []
 |n+1,P=>∀x,zN n λvs=>P (x::vs)
theorem sH:∀(n:Nat) {P:List af->Prop},zN n P->∀vs:List af,vs.length=n->P vs:=@λA B C D F=>match A,B,C,D,F with
 |0,zz,h,[],U=>h
 |0,zz,U,W::zw,e=>sz e
 |zz+1,U,W,[],e=>El.zs e
 |n+1,zz,h,x::vs,e=>sH n (h x) vs (jC e)
/- a call of a function of the V that has cells: names that its comprehensions capture -/
theorem Ng:∀{l:List (ag×af)}{m:ag->Option af},x∉l.map (·.1)->Bg ko l m x=m x:=@λA B=>match A,B with
 |[],m=>λzz=>rfl
 |(q,u)::l,m=>λh=>by
  refine (?_:Bg ko l (if ko q=some .local then λy=>if y=q then some u else m y else m) x=_);refine (Ng λe=>h (.tail _ e)).trans ?_;by_cases e:ko q=some .local
  ·refine ae (if_pos e ..) <| if_neg λe:x=q=>h (by clear h;subst e;exact .head _)
  ·exact congrFun (if_neg e) x
theorem Nh:∀{l:List (ag×af)}{m:ag->Option af},x∉l.map (·.1)->Bh ko l m x=m x:=@λA B=>match A,B with
 |[],m=>λzz=>rfl
 |(q,u)::l,m=>λh=>by
  refine (?_:Bh ko l (if ko q=some .local then m else λy=>if y=q then some u else m y) x=_);refine (Nh λe=>h (.tail _ e)).trans ?_;by_cases e:ko q=some .local
  ·exact congrFun (if_pos e) x
  ·refine ae (if_neg e ..) <| if_neg λe:x=q=>h (by clear h;subst e;exact .head _)
theorem Ni {x:ag}{ps:List ag}{vs:List af}(h:x∉ps):x∉(ps.zip vs).map (·.1):=λe=>by
 refine ar (bf.mp e) λq U e=>?_;exact h (e▸(aev (show (q.1,q.2)∈ps.zip vs from U)).1)
theorem Nj (hk:ko x=some .local):∀{ps:List ag}{vs:List af}{i:Nat}{m:ag->Option af},ps.Nodup->ps[i]? = some x->vs[i]? = some v->Bg ko (ps.zip vs) m x=some v:=@λA B D F=>match A,B,D,F with
 |[],zz,W,zx=>λzw h zv=>El.ns h
 |zz::W,[],zx,zw=>λzv zu h=>El.ns h
 |q::ps,u::vs,i,m=>λn U V=>by
  refine El.aa (bR.mp n) λn1 n2=>?_;refine (?_:Bg ko (ps.zip vs) (if ko q=some .local then λy=>if y=q then some u else m y else m) x=_);cases i with
  |zero=>
   cases U;cases V
   refine (Ng (Ni n1)).trans ?_;refine ae (if_pos hk ..) ?_;exact if_pos rfl
  |succ i=>exact Nj hk n2 U V
theorem Nk (hk:¬ko x=some .local):∀{ps:List ag}{vs:List af}{i:Nat}{m:ag->Option af},ps.Nodup->ps[i]? = some x->vs[i]? = some v->Bh ko (ps.zip vs) m x=some v:=@λA B D F=>match A,B,D,F with
 |[],zz,W,zx=>λzw h zv=>El.ns h
 |zz::W,[],zx,zw=>λzv zu h=>El.ns h
 |q::ps,u::vs,i,m=>λn U V=>by
  refine El.aa (bR.mp n) λn1 n2=>?_;refine (?_:Bh ko (ps.zip vs) (if ko q=some .local then m else λy=>if y=q then some u else m y) x=_);cases i with
  |zero=>
   cases U;cases V
   refine (Nh (Ni n1)).trans ?_;refine ae (if_neg hk ..) ?_;exact if_pos rfl
  |succ i=>exact Nk hk n2 U V
theorem Nl (h:CellsAre W U cells) (e:U.lookup x=some c):∃o,(c,o)∈cells/\o.data=.cell (W x):=by
 induction h with
 |nil=>cases e
 |@cons n' c' o U cells hd _ V=>
  rw [AQ] at e;cases hb:x == n' with
  |true=>
   rw [hb] at e;clear V;cases e;cases eq_of_beq hb
   exact av o (.head _) hd
  |false=>
   rw [hb] at e;exact (V e).imp λo q=>⟨.tail _ q.1,q.2⟩
theorem Nm (h:CellsAre W U cells):cells.map (·.1)=U.map (·.2):=by
 induction h with
 |nil=>rfl
 |cons _ _ V=>exact congrArg (_::·) V
theorem EW:∀{U:List (ag×ak)},U.lookup x=some c->(x,c)∈U:=@λA=>match A with
 |[]=>λh=>El.ns h
 |(y,d)::U=>λh=>by
  rw [AQ] at h;cases hb:x == y with
  |true=>rw [hb] at h;cases h;cases eq_of_beq hb;exact .head _
  |false=>rw [hb] at h;exact .tail _ (EW h)
theorem YO {x y:ag}{c:ak}{U:List (ag×ak)}(h:U.Pairwise λx y=>x.2≠y.2) (e1:U.lookup x=some c) (e2:U.lookup y=some c):x=y:=by
 induction U with
 |nil=>exact El.ns e1
 |cons q U W=>
  refine El.aa (j7.mp h) λh1 h2=>?_;rw [AQ] at e1 e2;cases hx:x == q.1 with
  |true=>
   rw [hx] at e1;clear W;cases e1;cases V:y == q.1 with
   |true=>exact (eq_of_beq hx).trans (eq_of_beq V).symm
   |false=>rw [V] at e2;exact (h1 _ (EW e2) rfl).elim
  |false=>
   rw [hx] at e1;cases V:y == q.1 with
   |true=>rw [V] at e2;clear W;cases e2;exact (h1 _ (EW e1) rfl).elim
   |false=>rw [V] at e2;exact W h2 e1 e2
section
variable {pg:bM}{w:aW}{fs:bX}{name qual:ag}{params:Q8}{body:List cU}{scope:cj}{dV kV doc pm ew ct oc:af}{an od:Option ak}{qB:Array (Option af)}{f:ak}{ps xs ls':List ag}{H:Hn}{dd nn:Nat}{ir:SS}
noncomputable abbrev zO (scope:cj) (L:ak):List (ag×ak):=cellsFrom (L+1) scope.names []
def zP (scope:cj) (xs:List ag) (L:ak) (m:ag->Option af) (K:Led) (i:Nat) (v:af):Prop:=
 ∃x,xs[i]? = some x/\(K.map (·.1)).Nodup/\((scope.names.lookup x=some .local/\m x=some v)∨(scope.names.lookup x=some .cell/\∃c,(zO scope L).lookup x=some c/\fJ K c (some v)))
def EX (scope:cj) (L:ak) (K:Led):Prop:=(K.map (·.1)).Nodup/\∀x c,(zO scope L).lookup x=some c->∃u,fJ K c u
theorem YQ {pg:bM}{w:aW}(hk:scope.kind=.function) (sk:xs.Nodup) (zQ:(zO scope L).Pairwise λx y=>x.2≠y.2) (jT:∀x∈xs,scope.names.lookup x=some .local∨scope.names.lookup x=some .cell)
  {N K:Led}(hi:xs[i]? = some x) (ck:EX scope L K) (nd:(N.map (·.1)).Nodup) (W:∀q∈K,q∈N) (F:Fr h₀ L s.heap m) (V:aI h₀ L s.heap N)
  (h:∀h' tk m' (f:ak×ay->ak×ay),Fr h₀ L h' m'->aI h₀ L h' (N.map f)->(∀q,(f q).1=q.1)->(∀q∈N,q∉K->f q=q)->EX scope L (K.map f)->(∀j w,j≠i->zP scope xs L m K j w->zP scope xs L m' (K.map f) j w)->zP scope xs L m' (K.map f) i v->Q () {s with heap:=h',toks:=tk}) :
  aA (az pg w) A (wO (envOfC qual scope L a cd) x v) Q (λzz zz=>False) s:=by
 have other:∀{j:Nat}{y:ag},j≠i->xs[j]? = some y->y≠x:=λ{j y} hj a e=>by
  subst e;exact hj ((tK (dU.mp hi).1 sk).mp (hi.trans a.symm)).symm
 rcases jT x (d6 hi) with hl | hl
 ·refine RN hl F.ns (λh' hn hs=>?_) (by refine (?_:(scope.kind == .class || (scope.kind == .module && _))=false);refine ae (hk ..) ?_;rfl)
  refine h h' _ _ (λq=>q) (F.set hn hs) (by refine ae (Hw ..) <| λp hp=>⟨(hs.2 p.1 (V p hp).2.1).trans (V p hp).1,(V p hp).2⟩) (λzz=>rfl) (λzz zz zz=>rfl) (by refine ae (Hw ..) <| ck) (λj w hj r=>?_) ?_
  ·refine ae (Hw ..) <| ar r λy a r=>dq y a r.1 (r.2.imp (λq=>⟨q.1,?_⟩) λq=>q);exact (if_neg (other hj a)).trans q.2
  ·refine ae (Hw ..) <| dq x hi ck.1 (.inl ⟨hl,if_pos rfl⟩)
 ·refine El.ea (AW.mp (Hx scope.names (L+1) [] (.inl hl))) λc hc=>dX (ck.2 x c hc) λu o hm hd=>?_;have hg:=V _ (W _ hm);refine wpAny_storeName_cell hk hl hc (av o hg.1 hd) λh' ⟨o',U,iJ⟩ hs=>?_;have kp:∀b ob,b≠c->s.heap.get? b=some ob->h'.get? b=some ob:=λb ob hb e=>(hs.2 b hb).trans e;refine h h' s.toks m (fY c o') ⟨F.ns.at λo e=>kp _ _ hg.2.1.symm e,λb ob e=>kp b ob (λq=>by rw [q,hg.2.2] at e;exact El.ns e) (F.keep b ob e),F.above⟩ (λq hq=>?_) Ee (λq hq qr=>?_) ⟨sD ck.1,λy d e=>?_⟩ (λj w hj r=>?_) (dq x hi (sD ck.1) (.inr ⟨hl,c,hc,(.set iJ (av o hm hd))⟩))
  ·refine ar (bf.mp hq) λq' qu e=>?_;clear hq;subst e;unfold fY;by_cases e:q'.1=c
   ·refine ae (if_pos e ..) <| ⟨U,hg.2⟩
   ·refine ae (if_neg e ..) <| ⟨kp _ _ e (V q' qu).1,(V q' qu).2⟩
  ·refine if_neg λe=>qr ?_;clear qr;obtain ⟨b,ob⟩:=q;clear hc hg hs U kp;cases (show b=c from e);cases mq nd _ _ _ hq (W _ hm)
   exact hm
  ·by_cases e2:d=c
   ·clear hc hg hs U kp;subst e2;exact ⟨_,.set iJ (av o hm hd)⟩
   ·exact (ck.2 y d e).imp λu q=>q.up e2
  ·refine ar r λy a r=>dq y a (sD ck.1) (r.2.imp (λq=>q) λq=>⟨q.1,?_⟩);refine ar q.2 λd e b=>av d e (b.up λe2=>other hj a (YO zQ (e2▸e) hc))
theorem EY (tx:zM Kf f name qual params body scope dV kV doc pm ew ct oc an od qB ps ls') (B:Bs Kf p ls pg w D fs)
  (vu:(qz dd nn ⟨fs,scope,ps++ls'⟩ H body).ir=ir) {C:Cx}(e1:C.pg=pg) (e2:C.w=w) (W:Wo Kf p ls C (D+1)) {P:Fz}{R:eZ->ai->Prop}
  (kb:Keeps C.h₀ s.heap) (hP:∀a o,P a o->s.heap.get? a=some o/\a∉adr O) (nO:aI C.h₀ C.L s.heap O) (zR:(adr O).Nodup) (hd:bO P σ₀ O vs) (hl:vs.length=ps.length) (hb:Bj s (kW name qual params body scope dV kV doc pm an ew ct) ⟨as,[]⟩ (ps.zip vs)) (hx:aJ (specs fs) ir (σ₀++dK ls'.length .un) k)
  (hR:∀(U:Cx) φ fl fe aH h' tk,U.Ok->U.h₀=jF s.heap (adr O)->U.P=P->L0 U aH [] φ h' fl fe->k fe aH->R (.ok (.ret (match fl with | .ret v=>v | _=>.none))) {s with heap:=h',toks:=tk}) :
  dc (az C.pg C.w) C.A (.call (.ref f) ⟨as,[]⟩) R s:=by
 have X':Kf.In s.heap:=W.X.keeps kb;refine pV W.T λmeans mg mb T=>?_;obtain ⟨⟨sk,jT,YR⟩,EZ,E1,hk,E3⟩:=tx.ht;have Np:ps.Nodup:=(ed.mp sk).1;have st:∀b o,C.h₀.get? b=some o->(jF s.heap (adr O)).get? b=some o:=λb o e=>Hy _ (kb b o e) λq=>by
  refine ar (bf.mp q) λr hr q=>?_;have:=(nO r hr).2.2;rw [show r.1=b from q,e] at this;exact El.sn this
 subst e1 e2;refine codeAny_call_function (fd:=kW name qual params body scope dV kV doc pm an ew ct) (dk (ba _ _) W.hd) (X' _ _ tx.ho) rfl EZ E1 rfl (codeRec_of X' tx.vq) (hb _ _ _ _ ?_);refine wpAny_newFunctionEnv_cells hk (λx hx=>?_) λafc he s' x=>?_
 ·rcases jT _ (bE _ (aev (show (x.1,x.2)∈ps.zip vs from hx)).1) with h | h
  ·exact .inl h
  ·exact .inr ⟨h,Hx _ _ _ (.inl h)⟩
 subst he;refine ⟨(T.nolimit.keeps kb).keeps x.toInCall.keep,codeAny_func ?_⟩;refine dX x.done λdS tk bx zz=>?_;subst bx;have V:=x.toInCall.keep;refine ar (Cl.news (h₀:=jF s.heap (adr O)) (dm (R5 _ _)) λn c hm=>⟨x.cell n c (lookup_of_mem_nodup (cellsFrom_names scope.names 0 (s.heap.objs.size+1) [] [] rfl▸E3) hm),x.above n c hm⟩) λcells NC Y=>?_;have zQ:(zO scope s.heap.objs.size).Pairwise λx y=>x.2≠y.2:=x.apart
 let L:=s.heap.objs.size
 let env:=envOfC qual scope L f ew
 let jt:=Bg env.kindOf (ps.zip vs) λ_=>none
 let U:Cx:={pg:=C.pg,w:=C.w,A:=C.A.deeper env,h₀:=jF s.heap (adr O),L:=L,env:=env,P:=P,xs:=ps++ls',X:=[],rd:=zP scope (ps++ls') L,ck:=λzz=>EX scope L,wr:=λzz=>True}
 have W':Wo Kf p ls U D:=⟨W.X.keeps st,CO means mg mb (T.keeps st),W.hh,by
  have:=W.hd;refine (?_:C.A.depth+1+D<_);exact (IB this),by
  have:=W.hu;refine (?_:C.A.units+3+3*D+64<_);exact (Tn this)⟩
 have oQ:U.Ok:={
  hh:=W.hh
  hu:=dk (Rj (ba _ _) _) W'.hu
  sub:=λa o h=>Hy _ (hP a o h).1 (hP a o h).2
  uq:=λ{m K i v v'} ⟨x,a,n,b⟩ ⟨y,c,zz,d⟩=>by
   cases a.symm.trans c
   rcases b with b | b
   ·rcases d with d | d
    ·exact dJ (b.2.symm.trans d.2)
    ·cases b.1.symm.trans d.1
   ·rcases d with d | d
    ·cases b.1.symm.trans d.1
    ·refine ar b.2 λc1 q1 q2=>ar d.2 λc2 q3 q4=>?_;cases q1.symm.trans q3
     exact dJ (q2.uq n q4)
  ldn:=λ{i x m N K v Q s} hi F hN mP r hq=>by
   refine ar r λy a b=>?_;cases (show (ps++ls')[i]? = some x from hi).symm.trans a
   rcases b.2 with b | b
   ·exact RM hk b.1 F.ns b.2 hq
   ·refine ar b.2 λc q1 q2=>ar q2 λo q3 q4=>aeq hk b.1 q1 (av o (hN _ (mP _ q3)).1 q4) hq
  yu:=YR}
 have hA:bZ U fs:={
  ok:=oQ
  g:={
   fn:=λi f hf=>by
    refine El.aa (B.f f (d6 hf)) λab c=>⟨c U rfl rfl W',?_⟩;rcases ab with ⟨a,b⟩ | ⟨a,b,d,id,e⟩
    ·exact ⟨EU W' a,Nc W' b⟩
    ·exact ⟨Nb W' a b d,e▸LB⟩
   gl:=λx hx v hv=>Nb W' (of_decide_eq_true (nr.mp B.g x hx)) hv (YM x hx)
   mt:=λi g hi=>by
    refine cg (B.m g (d6 hi)) λbx b c=>ar bx λf e a=>?_;clear bx;exact aL (b U rfl rfl W') (e▸YL W'.X a) (λq=>c q U rfl rfl W')
   dO:=YK W'.X B.cl.1
   df:=B.cl.2 U rfl rfl W'}
  e1:=rfl
  e2:=rfl
  e3:=hk
  ck:=⟨λ{i x m K v} hx hk hr=>by
   refine ar hr λy a b=>?_;clear hr;cases (show (ps++ls')[i]? = some x from hx).symm.trans a
   rcases b.2 with c | c
   ·cases (show scope.names.lookup x=some .cell from hk).symm.trans c.1
   ·exact c.2,λ{x} hk=>Hx scope.names (L+1) [] (.inl hk)⟩
  hw:=λzz=>trivial
  s:=⟨λ{i x m N K v Q s} hi zz ck nd mP F hN h=>YQ hk sk zQ jT hi ck nd mP F hN h⟩
  bk:=by refine (?_:(if scope.kind.isAnnotationScope then ScopeKind.function else scope.kind)=_);refine ae (hk ..) ?_;rfl
  ll:=rfl}
 have E4:(cells.map (·.1)).Nodup:=by
  refine ae (Nm Y ..) <| rh.mpr zQ
 have S:Sp U (σ₀++dK ls'.length .un) [] jt (O++cells) cells []:=by
  refine .mk (Os:=O) (Ot:=[]) (vs:=vs++dK ls'.length .none) ?_ (by rw [cL];exact .refl _) (Nf (bO.mono (λzz zz h=>.inl h) _ hd)) (aL ?_ E4 (λy c e=>⟨_,Nl Y e⟩)) (λi v t h1 h2 h3=>?_) rfl λzz h=>El.nm h
  ·refine ae (bH ..) (ed.mpr (aL zR E4 λa ha b hb e=>?_));refine ar (bf.mp ha) λq hq e1=>ar (bf.mp ((Nm Y)▸hb)) λr hr e2=>absurd (x.above r.1 r.2 hr) (cW.mpr (cA (e2▸e▸e1▸aq.lt_size (nO q hq).1)))
  ·refine (?_:_=(ps++ls').length);exact ae (aG ..) (ae (aG ..) (ae (AY ..) (ae (hd.len ..).symm (ae (hl ..) rfl))))
  ·by_cases hi:i<vs.length
   ·rw [kT hi] at h1;have yZ:i<ps.length:=hl▸hi;have e1:=eC yZ;have e2:(ps++ls')[i]? = some ps[i]:=by rw [kT yZ,e1]
    refine dq (ps[i]) e2 E4 ?_;rcases jT _ (d6 e2) with h | h
    ·exact .inl ⟨h,Nj (ko:=env.kindOf) h Np e1 h1⟩
    ·refine .inr ⟨h,?_⟩;refine El.ea (AW.mp (Hx scope.names (L+1) [] (.inl h))) λc hc=>av c hc ?_;have e3:Bh env.kindOf (ps.zip vs) (λzz=>none) ps[i]=some v:=Nk (λe=>by cases h.symm.trans e) Np e1 h1
     refine ar (Nl Y hc) λo q1 q2=>av o q1 (q2.trans (congrArg Data.cell e3))
   ·have Ei:σ₀.length<=i:=hd.len▸cW.mp hi;rw [hH Ei] at h2;obtain ⟨_,e⟩:=dU.mp h2;rw [aer] at e;exact (h3 e.symm).elim
 have run:=((qz dd nn ⟨fs,scope,ps++ls'⟩ H body).ok U ⟨hA,rfl,rfl⟩) (σ₀++dK ls'.length .un) k (vu▸hx) [] (jt,cells) (λfl s'=>R (.ok (.ret (match fl with | .ret v=>v | _=>.none))) s') {s with heap:=dS,toks:=tk} (.mk (N:=O++cells) ⟨x.toInCall.ns,λb o e=>V b o (of_hideAll _ e),dm (R5 _ _)⟩ (λq hq=>(bT.mp hq).elim (λhq=>aL (V _ _ (nO q hq).1) (cy (aq.lt_size (nO q hq).1)) (hideAll_none _ (List.mem_map_of_mem hq))) (NC q)) S) (λzz h=>El.nm h) λfl fe aH gA h' tk hf kf=>hR U gA fl fe aH h' tk oQ rfl rfl hf kf
 exact cK run (λzz zz y=>y) λzz zz y=>y.elim
theorem YS (F:Fr h₀ L h m) (kp:∀b o,b≠x->b≠y->h.get? b=some o->h'.get? b=some o) (U:x≠L/\h₀.get? x=none) (V:y≠L/\h₀.get? y=none):Fr h₀ L h' m:=
 ⟨F.ns.at λo e=>kp _ _ U.1.symm V.1.symm e,λb o e=>kp b o (λq=>by rw [q,U.2] at e;exact El.ns e) (λq=>by rw [q,V.2] at e;exact El.ns e) (F.keep b o e),F.above⟩
theorem Dat.sub {P P':Fz}(x:Dat P v d) (U:∀a o,o.cls≠.ref 242->o.cls≠.type "dict"->P a o->P' a o):Dat P' v d:=by
 induction x with
 |none=>exact .none
 |bool b=>exact .bool b
 |int n t=>exact .int n t
 |str n t=>exact .str n t
 |list h q l _ V=>exact .list (U _ _ (by refine ae (q.c ..) <| (show af.type "list"≠.ref 242 by decide)) (by refine ae (q.c ..) <| (show af.type "list"≠.type "dict" by decide)) h) q l V
 |tup h l _ V=>exact .tup (U _ _ (show af.type "tuple"≠.ref 242 by decide) (show af.type "tuple"≠.type "dict" by decide) h) l V
 |mt h=>exact .mt (U _ _ (show af.ref 135≠.ref 242 by decide) (show af.ref 135≠.type "dict" by decide) h)
theorem E5 {P:Fz}:∀{vs:List af},aU P vs ds->bO P (ds.map .dat) [] vs:=λh=>yU h
theorem YT (tx:zM Kf f name qual params body scope dV kV doc pm ew ct oc an od qB ps ls') (hb:∀vs:List af,vs.length=ps.length->w5 (kW name qual params body scope dV kV doc pm an ew ct) ⟨vs,[]⟩=pure (ps.zip vs))
  (B:Bs Kf p ls pg w D fs)
  (vu:(qz dd nn ⟨fs,scope,ps++ls'⟩ H body).ir=ir) (E6:∀ds k,sp ds k->ds.length=ps.length/\aJ (specs fs) ir (init ds ls'.length) (ju k)):mT Kf p ls pg w (D+1) (λvs=>call (.ref f) vs) (false,sp):=by
 intro C e1 e2 W P jt vs ds k s Q U hP hd hs hQ;refine El.aa (E6 ds k hs) λhl hx=>?_;have lv:=hd.len.trans hl;refine jB (EY (O:=[]) tx B vu e1 e2 W U.keep (λa o h=>⟨(hP a o h).2,λh=>El.nm h⟩) (λzz h=>El.nm h) gW (E5 hd) lv (.of_eq (hb vs lv)) hx λC' φ fl fe aH h' tk oQ hh hp hf kf=>?_);have eh:C'.h₀=s.heap:=hh;have fin:∀{u:af}{d:ah}{T:Led},Fr C'.h₀ C'.L h' φ.1->aI C'.h₀ C'.L h' T->(adr T).Nodup->Dat (P.and T) u d->k d->Q u {s with heap:=h',toks:=tk}:=λ{u d T} F N nd hu hk=>by
  rw [eh] at F N;exact hQ u d T h' tk (U.keeps F.keep) (λzz zz zz=>F.keep _ _) (λp hp=>⟨(N p hp).1,(N p hp).2.2⟩) nd hu hk
 cases fe with
 |nx=>
  refine El.aa hf λV a=>?_;clear hf;subst V;cases a with
  |mk F' N' S'=>exact fin (T:=[]) F' (λzz h=>El.nm h) gW .none kf
 |ret e=>
  refine ar hf λv V a=>?_;clear hf;subst V;refine ar (fW (show wD (e.data aH) k from kf)) λd e1 kd=>?_;cases a with
  |@mk N ZL F' N' S'=>cases S'.pop oQ with
   |mk _ S2 _ g=>exact fin F' N' S2.nd (hp▸g d e1) kd
 |brk=>exact kf.elim
 |cnt=>exact kf.elim
theorem YU (tx:zM Kf f name qual params body scope dV kV doc pm ew ct oc an od qB ps ls') (hb:∀vs:List af,vs.length=ps.length->w5 (kW name qual params body scope dV kV doc pm an ew ct) ⟨vs,[]⟩=pure (ps.zip vs))
  (B:Bs Kf p ls pg w D fs)
  (W:(qz dd nn ⟨fs,scope,ps++ls'⟩ H body).ir=ir) {P:Fz}(X:Kf.In s.heap) (T:Top p ls means mg mb s.heap) (hh:A.handled=none) (hd:A.depth+(D+1)<w4) (hu:A.units+3*(D+1)+64<qT) (hP:∀a o,P a o->s.heap.get? a=some o) (hv:aU P vs ds)
  (hl:ds.length=ps.length) (hx:aJ (specs fs) ir (init ds ls'.length) (ju λd=>d=.bool b)) (hQ:∀h' tk,Keeps s.heap h'->Q (.bool b) {s with heap:=h',toks:=tk}):aA (az pg w) A (call (.ref f) vs) Q (λzz zz=>False) s:=by
 have lv:=hv.len.trans hl;refine jB (EY (C:={pg:=pg,w:=w,A:=A,h₀:=s.heap,L:=0,env:=envOf qual scope 0 f ew,P:=P,xs:=[],X:=[],rd:=λzz zz zz zz=>False,ck:=λzz zz=>True,wr:=λzz=>True}) (O:=[]) tx B W rfl rfl ⟨X,(CO means mg mb T),hh,hd,hu⟩ (λzz zz h=>h) (λa o h=>⟨hP a o h,λh=>El.nm h⟩) (λzz h=>El.nm h) gW (E5 hv) lv (.of_eq (hb vs lv)) hx λC' φ fl fe aH h' tk oQ YV hp hf V=>?_);have eh:C'.h₀=s.heap:=YV;cases fe with
 |nx=>exact nomatch (show ah.none=.bool b from V)
 |ret e=>
  refine ar hf λv U a=>?_;clear hf;subst U;refine ar (fW (show wD (e.data aH) (λd=>d=.bool b) from V)) λd e1 U=>?_;subst U;cases a with
  |@mk N ZL F' N' S'=>cases S'.pop oQ with
   |mk _ S2 _ g=>
    clear hx V S' a_1;cases g _ e1;exact hQ h' tk (eh▸F'.keep)
 |brk=>exact V.elim
 |cnt=>exact V.elim
theorem E7 (tx:zM Kf f name qual params body scope dV kV doc pm ew ct oc an od qB ps ls') (YW:∀P,aU P dfl dds) (na:Nat) (hn:na+dfl.length=ps.length) (hb:∀s:ai,Kf.In s.heap->∀vs,vs.length=na->Bj s (kW name qual params body scope dV kV doc pm an ew ct) ⟨vs,[]⟩ (ps.zip (vs++dfl)))
  (B:Bs Kf p ls pg w D fs)
  (vu:(qz dd nn ⟨fs,scope,ps++ls'⟩ H body).ir=ir) (E6:∀x as ds k,sp x as ds k->ds.length+1+dfl.length=ps.length/\aJ (specs fs) ir (b6 x as::init (ds++dds) ls'.length) (lP x k)):qA Kf p ls pg w (D+1) (.ref f) sp:=by
 intro C e1 e2 W P jt x as O vs ds k s R U hP hI nO zR hd hs hR;refine El.aa (E6 x as ds k hs) λhl hx=>?_;have lv:(af.ref x.1::vs).length+dfl.length=ps.length:=by refine ae (gL ..) (ae (hd.len ..) ?_);exact hl
 refine EY tx B vu e1 e2 W U.keep (λa o h=>(hP a o h).2) nO zR (σ₀:=b6 x as::(ds++dds).map .dat) (vs:=(.ref x.1::vs)++dfl) (bQ O [] (by exact ae (cL ..) rfl) ⟨uO,hI⟩ (E5 (bB.append hd (YW P)))) (by refine ae (aG ..) <| lv) (hb s (W.X.keeps U.keep) _ (Nat.add_right_cancel (lv.trans hn.symm))) hx λC' φ fl fe aH h' tk oQ hh hp hf kf=>?_
 refine ar kf ?_;clear kf;intro ij h0 kf;obtain ⟨zz,es,n,V,zz⟩:=hI;clear hP zR;subst V;have fin:∀{u:af}{d:ah}{N K ZL:Led},Fr C'.h₀ C'.L h' φ.1->aI C'.h₀ C'.L h' N->Sp C' aH [] φ.1 N K ZL->Dat (C'.P.and N) u d->k d ij->R (.ok (.ret u)) {s with heap:=h',toks:=tk}:=λ{u d N K ZL} F N1 S hu hk=>by
  cases S.inst h0 with
  |@mk Nq n2 rest r ha pN hz back=>
   have nd:=(pN.map (λq:ak×ay=>q.1)).nodup_iff.mp S.nd;have mS:∀q∈rest,q.1≠x.1/\q.1≠x.2:=λq hq=>by
    refine El.aa (bR.mp nd) λn1 n2=>?_;have hq:q.1∈rest.map (λq:ak×ay=>q.1):=bf.mpr (av q hq rfl);exact ⟨λe=>n1 (e▸.tail _ hq),λe=>(bR.mp n2).1 (e▸hq)⟩
   rw [hh] at F N1;have E8:∀b o,b≠x.1->b≠x.2->s.heap.get? b=some o->(jF s.heap [x.1,x.2]).get? b=some o:=λb o n1 n2 e=>Hy _ e λh=>(aT.mp h).elim n1 λh=>n2 (cQ.mp h);have sub:∀a o,C'.P.and ZL a o->P.and rest a o:=λa o q=>q.elim (λq=>.inl (hp▸q)) λq=>.inr (hz _ q);exact hR u d ij [(x.1,gV 242 x.2),(x.2,gc Nq n2)] rest h' tk (YS U (λb o n1 n2 e=>F.keep _ _ (E8 b o n1 n2 e)) (nO _ (.head _)).2 (nO _ (.tail _ (.head _))).2) (λb o zz nb e=>F.keep _ _ (E8 b o (λe=>nb (e▸.head _)) (λe=>nb (e▸.tail _ (.head _))) e)) rfl (λq hq=>(N1 q (pN.mem_iff.mpr hq)).1) (λq hq=>by
     cases e:s.heap.get? q.1 with
     |none=>rfl
     |some o=>
      have:=(N1 q (pN.mem_iff.mpr (.tail _ (.tail _ hq)))).2.2;rw [show (jF s.heap (adr [(x.1,gV 242 x.2),(x.2,gc es n)])).get? q.1=some o from E8 _ _ (mS q hq).1 (mS q hq).2 e] at this;exact El.sn this) (bR.mp (bR.mp nd).2).2 (rL rfl Nq n2 rfl (ha.mono sub)) (hu.sub λa o n1 n2 q=>q.elim (λq=>.inl (hp▸q)) λq=>by
     rcases aT.mp (pN.mem_iff.mp q) with e | q
     ·exact (n1 (by cases e;rfl)).elim
     ·rcases aT.mp q with e | q
      ·exact (n2 (by cases e;rfl)).elim
      ·exact .inr q) hk
 cases fe with
 |nx=>
  refine El.aa hf λV a=>?_;clear hf;subst V;cases a with
  |mk F' N' S'=>exact fin F' N' S' .none kf
 |ret e=>
  refine ar hf λv V a=>?_;clear hf;subst V;refine ar (fW (show wD (e.data aH) _ from kf)) λd e1 kd=>?_;cases a with
  |@mk N ZL F' N' S'=>cases S'.pop oQ with
   |mk _ S2 _ g=>exact fin F' N' S2 (g d e1) kd
 |brk=>exact kf.elim
 |cnt=>exact kf.elim
end
end
noncomputable def intD (ns:List Int):List ah:=ns.map ah.int
theorem Nr:∀ns:List Int,ah.canLayAll0 (intD ns)=true/\ah.depthAll (intD ns)<=2:=@λA=>match A with
 |[]=>by simp [intD,ah.canLayAll0,ah.depthAll]
 |b::ns=>by
  refine El.aa (Nr ns) λU V=>?_;unfold intD at *;simp only [iQ,ah.canLayAll0,ah.canLay0,ah.depthAll,ah.depth,U,Bool.and_true];refine ⟨by first | rfl | trivial,?_⟩
  exact (cp (.t (.l .c (.n 2)) (.q .b .c)) .b (.n 2) rfl V (Nat.max_eq_right (A6)))
theorem kF (ns:List Int):SeqAt.shaped (.list (intD ns))=true:=by
 refine El.aa (Nr ns) λU V=>?_;unfold SeqAt.shaped;simp only [ah.canLay0,ah.depth,U,Bool.true_and];exact decide_eq_true (dW (.l .b (.n 2)) (.S .b) (.n 64) rfl V)
theorem Nt:∀a b:List Int,ah.eqvAll (intD a) (intD b)=decide (a=b):=@λA B=>match A,B with
 |[],[]=>by simp [intD,ah.eqvAll]
 |[],zz::U=>by simp [intD,ah.eqvAll]
 |zz::U,[]=>by simp [intD,ah.eqvAll]
 |x::a,y::b=>by
  have V:=Nt a b;unfold intD at *;simp only [iQ,ah.eqvAll,V,ah.eqv];by_cases h:x=y <;> by_cases g:a=b <;> simp [h,g]
theorem E9 (a b:List Int):ah.eqv (.list (intD a)) (.list (intD b))=decide (a=b):=by
 simp only [ah.eqv];exact Nt a b
theorem vg {p:Prop}(h:Nat.ble n m=true) (q:p):n<=m/\p:=⟨aF h,q⟩
theorem cq (U:ah.eqv x y=c) (V:fw x/\fw y) (W:k c):(fw x/\fw y)/\iF (ah.eqv x y) k:=⟨V,.mk U W⟩
theorem qC (l r:List Int) (h:k (decide (l=r))):(fw (.list (intD l))/\fw (.list (intD r)))/\iF (ah.eqv (.list (intD l)) (.list (intD r))) k:=cq (E9 l r) ⟨kF _,kF _⟩ h
theorem pick_run (xs:List ah) (a:Nat):∀k,(iR k).filterMap (λi=>xs[a+i]?)=(xs.drop a).take k:=@λA=>match A with
 |0=>rfl
 |k+1=>by
  rw [Hz,aew,pick_run xs a k,Ht,R6];cases e:xs[a+k]? <;> simp [e]
theorem vv (xs:List ah) (lo hi:Option Int):jN xs lo hi=(xs.drop (lo.elim 0 (iV xs.length))).take (hi.elim xs.length (iV xs.length)-lo.elim 0 (iV xs.length)):=by
 unfold jN;refine ae (sliceBounds_plain ..) ?_;dsimp only;refine ae (sliceRange_one ..) (ae (List.filterMap_map ..) ?_);exact pick_run xs _ _
theorem qE (n i:Nat):iV n (i:Int)=min i n:=by
 unfold iV;refine ae (if_neg (kQ.mpr (pE i)) ..) (ae (Int.max_eq_right (Int.le_min.mpr ⟨pE i,pE n⟩) ..) ?_);by_cases h:i<=n
 ·refine ae (Int.min_eq_left (pD.mpr h) ..) (ae (iB h ..) ?_);rfl
 ·refine ae (Int.min_eq_right (pD.mpr (cA (dg.mp h))) ..) (ae (w6 (cA (dg.mp h)) ..) ?_);rfl
theorem Nu {ns:List Int}{i j:Nat}(U:j<=ns.length):jN (intD ns) (some (i:Int)) (some (j:Int))=intD (Pure.slc ns i j):=by
 refine ae (vv ..) ?_;unfold intD Pure.slc;refine (?_:nC (iV _ (j:Int)-iV _ (i:Int)) (kX (iV _ (i:Int)) _)=_);refine ae (qE ..) (ae (qE ..) (ae (Bk ..) (ae (w7 ..) (ae (aY ..) (ae (iB U ..) ?_)))));by_cases h:i<=ns.length
 ·exact ae (iB h ..) rfl
 ·have V:j-min i ns.length=0:=by exact (aN (J3 (dm (aex (bL (.t (.l .b .d) (.q .d .c)) .b .c rfl U (w6 (A1 (dg.mp h))).symm)))) (A6))
  have W:j-i=0:=by exact (aN (J3 (dm (aex (bL (.t (.l .b .d) (.k .d .c)) .b .c rfl U (dg.mp h))))) (A6))
  refine ae (V ..) (ae (W ..) ?_);rfl
noncomputable def gE (o:Op):ah:=.tuple [.str (ag.ofString o.1),.int o.2.1,.int o.2.2.1,.int o.2.2.2.1,.int o.2.2.2.2]
noncomputable def oR (c:cC):ah:=.tuple [.int c.1,.int c.2.1,.int c.2.2.1,.str (ag.ofString c.2.2.2.1),.list (intD c.2.2.2.2)]
noncomputable def eT (U:List cC):List ah:=U.map oR
theorem Fb {ns:List Int}(h:ns.length<2000):small (intD ns).length:=by
 unfold intD small cc;refine ae (aY ..) <| (dW (.k .b (.n 2000)) .b (.n 16777216) rfl h)
theorem bw.yes {P R:Prop}(e:c=true) (h:P):bw c P R:=by refine ae (e ..) <| h
theorem Nv (h:a=b):ah.eqv (.list (intD a)) (.list (intD b))=true:=by refine ae (E9 ..) <| decide_eq_true h
theorem Ny (h:a≠b):ah.eqv (.list (intD a)) (.list (intD b))=false:=by refine ae (E9 ..) <| decide_eq_false h
theorem YX (h:a≠[]):ah.eqv (.list (intD a)) (.list [])=false:=Ny (b:=[]) h
theorem zS (i j:Int):ah.eqv (.tuple [.int i,.int j]) (.tuple [.int i,.int j])=true:=by simp [ah.eqv,ah.eqvAll]
theorem qs {ns:List Int}{k:List ah->Prop}{i j:Nat}(hs:ns.length<2000) (U:j<=ns.length) (h:k (intD (Pure.slc ns i j))):small (intD ns).length/\iF (jN (intD ns) (some (i:Int)) (some (j:Int))) k:=⟨Fb hs,.mk (Nu U) h⟩
theorem ql {ns:List Int}(hs:ns.length<2000) (h:k ns.length):small (intD ns).length/\iF (intD ns).length k:=⟨Fb hs,.mk (aY ..) h⟩
theorem i7 (h:g="equal"∨g="replace"∨g="delete"∨g="insert"):fw (.str (ag.ofString g)):=by rcases h with rfl | rfl | rfl | rfl <;> kernel_rfl
theorem YY:ah.eqv (.str (ag.ofString "equal")) (.str (ag.ofString "equal"))=true:=by kernel_rfl
theorem Nz (h:g="replace"∨g="delete"∨g="insert"):ah.eqv (.str (ag.ofString g)) (.str (ag.ofString "equal"))=false:=by rcases h with rfl | rfl | rfl <;> kernel_rfl
noncomputable def zT:Option Bool->ah:=@λA=>match A with
 |none=>.none
 |some b=>.bool b
theorem Fc (b:Bool) (l:Option Bool):fw (.bool b)/\fw (zT l):=by
 cases l <;> exact ⟨rfl,rfl⟩
theorem Fd (h:l≠some b):ah.eqv (.bool b) (zT l)=false:=by
 cases l with
 |none=>clear h;cases b <;> rfl
 |some c=>cases b <;> cases c <;> first | rfl | exact (h rfl).elim
noncomputable abbrev NA:SS:=(.seq (.asg 13 .fr (.pY .Eq .NotEq (.slc (.var 1) (.var 9) (.var 10)) (.slc (.var 2) (.var 11) (.var 12)) (.lst .nil))) (.seq (.cS (.orr (.cmp .NotEq (.tup (.cons (.var 9) (.cons (.var 11) .nil))) (.tup (.cons (.var 5) (.cons (.var 6) .nil)))) (.orr (.cmp .NotEq (.var 13) (.cmp .Eq (.var 8) (.lit (.str (ag.ofString "equal"))))) (.cmp .Eq (.var 13) (.var 7)))) (.seq (.ret (.lst (.cons (.tup (.cons (.lit (.int (0))) (.cons (.lit (.int (0))) (.cons (.var 3) (.cons (.lit (.str (ag.ofString "fault"))) (.cons (.lst (.cons (.lit (.str (ag.ofString "fault"))) .nil)) .nil)))))) .nil))) .nil) .nil) (.seq (.cS (.nt (.tv (.var 13))) (.seq (.app (.var 4) (.tup (.cons (.var 9) (.cons (.var 10) (.cons (.var 3) (.cons (.var 8) (.cons (.slc (.var 2) (.var 11) (.var 12)) .nil))))))) .nil) .nil) (.seq (.fA [(5,.fr),(6,.fr),(7,.fr)] (.cons (.var 10) (.cons (.var 12) (.cons (.var 13) .nil)))) .nil))))
noncomputable def NB:SS:=(.seq (.mA [(4,.own),(5,.fr),(6,.fr),(7,.fr)] (.tup (.cons (.lst .nil) (.cons (.lit (.int (0))) (.cons (.lit (.int (0))) (.cons (.lit .none) .nil)))))) (.seq (.eu [(8,.fr),(9,.fr),(10,.fr),(11,.fr),(12,.fr)] true (.seq (.var 0)) NA) (.seq (.ret (.ite (.cmp .Eq (.tup (.cons (.var 5) (.cons (.var 6) .nil))) (.tup (.cons (.bi .len (.cons (.var 1) .nil)) (.cons (.bi .len (.cons (.var 2) .nil)) .nil)))) (.var 4) (.lst (.cons (.tup (.cons (.lit (.int (0))) (.cons (.lit (.int (0))) (.cons (.var 3) (.cons (.lit (.str (ag.ofString "fault"))) (.cons (.lst (.cons (.lit (.str (ag.ofString "fault"))) .nil)) .nil)))))) .nil)))) .nil)))
abbrev eI (fs:cX) (is:Tg) (tup:Bool) (b:SS):ah->List Tr->KS->Prop:=λd σ k=>iH is tup d σ λaH=>aJ fs b aH k
theorem YZ {bs ts:List Int}{sd:Nat}{cd:ah}{k:KS}(n2:bs.length<1000) (n3:ts.length<1000):∀{os:List Op}{i j:Nat}{last:Option Bool},Alt bs ts i j last os->∀{rows:List ah}{x8 x9 x10 x11 x12 x13:Tr},rows.length+os.length<1000->
  (∀V y8 y9 Y0 Y1 Y2 Y3,k .nx [.dat cd,.dat (.list (intD bs)),.dat (.list (intD ts)),.dat (.int sd),.dl (rows++eT (fT sd ts os)),.dat (.int bs.length),.dat (.int ts.length),V,y8,y9,Y0,Y1,Y2,Y3])->
  du (eI ⟨[],[]⟩ [(8,.fr),(9,.fr),(10,.fr),(11,.fr),(12,.fr)] true NA) k (os.map gE) [.dat cd,.dat (.list (intD bs)),.dat (.list (intD ts)),.dat (.int sd),.dl rows,.dat (.int i),.dat (.int j),.dat (zT last),x8,x9,x10,x11,x12,x13]:=by
 intro os i j last al;induction al with
 |@done last=>
  intro rows x8 x9 x10 x11 x12 x13 hl hk;have:=hk (.dat (zT last)) x8 x9 x10 x11 x12 x13;rw [show eT (fT sd ts [])=[] from rfl,cL] at this;exact this
 |@eq i j i2 j2 last rest e1 e2 e3 h1 h2 h3 W _ ih=>
  intro rows x8 x9 x10 x11 x12 x13 hl hk;have U:rows.length+rest.length<1000:=by rw [gL] at hl;omega
  have IH:=ih (x8:=.dat (.str (ag.ofString "equal"))) (x9:=.dat (.int i)) (x10:=.dat (.int i2)) (x11:=.dat (.int j)) (x12:=.dat (.int j2)) (x13:=.dat (.bool true)) U hk;refine qs (ns:=bs) (A5 n2) h2 ?_;refine qs (ns:=ts) (A5 n3) W ?_;refine cq (Nv e1) ⟨kF _,kF _⟩ ?_;refine aw (aF rfl) ?_;refine cq (YX e2) ⟨kF _,rfl⟩ ?_;refine aw (aF rfl) (aw (aF rfl) ?_);refine cq (zS i j) ⟨rfl,rfl⟩ ?_;refine cq YY ⟨i7 (.inl rfl),i7 (.inl rfl)⟩ ?_;refine cq (x:=.bool true) (y:=.bool true) rfl ⟨rfl,rfl⟩ ?_;refine cq (Fd e3) (Fc true last) ?_;exact aw (aF rfl) IH
 |@ch g i j i2 j2 last rest e1 e2 e3 h1 h2 h3 W _ ih=>
  intro rows x8 x9 x10 x11 x12 x13 hl hk;have U:(rows++[oR (i,i2,sd,g,Pure.slc ts j j2)]).length+rest.length<1000:=by refine ae (aG ..) ?_;rw [gL] at hl;simp;omega
  have hc:fT sd ts ((g,i,i2,j,j2)::rest)=(i,i2,sd,g,Pure.slc ts j j2)::fT sd ts rest:=by
   unfold fT;refine ae (AO ..) ?_;exact ae (if_neg (show g≠"equal" by clear hl hk U;rcases e1 with rfl | rfl | rfl <;> simp) ..) rfl
  have IH:=ih (rows:=rows++[oR (i,i2,sd,g,Pure.slc ts j j2)]) (x8:=.dat (.str (ag.ofString g))) (x9:=.dat (.int i)) (x10:=.dat (.int i2)) (x11:=.dat (.int j)) (x12:=.dat (.int j2)) (x13:=.dat (.bool false)) U (λl a b c d e f=>by
   have:=hk l a b c d e f;rw [hc] at this;refine ae (bt ..) ?_;exact this)
  refine qs (ns:=bs) (A5 n2) h2 ?_;refine qs (ns:=ts) (A5 n3) W ?_;have tg:g="equal"∨g="replace"∨g="delete"∨g="insert":=.inr e1;by_cases c:Pure.slc bs i i2=Pure.slc ts j j2
  ·have c2:Pure.slc ts j j2=[]:=HA λq=>e2 ⟨c,q⟩;refine cq (Nv c) ⟨kF _,kF _⟩ ?_;refine aw (aF rfl) ?_;refine cq (c:=true) (by refine ae (c2 ..) ?_;rfl) ⟨kF _,rfl⟩ ?_
   refine aw (aF rfl) (aw (aF rfl) ?_);refine cq (zS i j) ⟨rfl,rfl⟩ ?_;refine cq (Nz e1) ⟨i7 tg,i7 (.inl rfl)⟩ ?_;refine cq (x:=.bool false) (y:=.bool false) rfl ⟨rfl,rfl⟩ ?_;refine cq (Fd e3) (Fc false last) ?_;refine qs (ns:=ts) (A5 n3) W ?_;refine aw (aF rfl) ?_;refine aw (by simp only [iI];omega) ?_
   exact aw (aF rfl) IH
  ·refine cq (Ny c) ⟨kF _,kF _⟩ ?_;refine aw (aF rfl) (aw (aF rfl) ?_);refine cq (zS i j) ⟨rfl,rfl⟩ ?_;refine cq (Nz e1) ⟨i7 tg,i7 (.inl rfl)⟩ ?_;refine cq (x:=.bool false) (y:=.bool false) rfl ⟨rfl,rfl⟩ ?_;refine cq (Fd e3) (Fc false last) ?_;refine qs (ns:=ts) (A5 n3) W ?_;refine aw (aF rfl) ?_;refine aw (by simp only [iI];omega) ?_
   exact aw (aF rfl) IH
noncomputable def vw:iE:=(false,λds k=>∃os bs ts sd,ds=[.list (os.map gE),.list (intD bs),.list (intD ts),.int ((sd:Nat):Int)]/\(Alt bs ts 0 0 none os/\bs.length<1000/\ts.length<1000/\os.length<1000)/\k (.list (eT (fT sd ts os))))
theorem Y4 (h:vw.2 ds k):ds.length=4/\aJ ⟨[],[]⟩ NB (init ds 10) (ju k):=by
 refine iZ h ?_;clear h;intro os bs ts sd U V h;subst U;obtain ⟨h1,W,h3,h4⟩:=V;refine ⟨rfl,aw (aF rfl) (aw (aF rfl) ?_)⟩;refine YZ (last:=none) (rows:=[]) W h3 h1 (by simpa using h4) λl a b c d e f=>aw (aF rfl) <| ql (ns:=bs) (A5 W) <| ql (ns:=ts) (A5 h3) <| aw (aF rfl) <| cq (zS bs.length ts.length) ⟨rfl,rfl⟩ h
section
variable {α:Type}{a b c:α}{r:List α}{k:Nat->α->Prop}{d e:ah}{rd:List ah}{m:Nat->Prop}
theorem jv (h:k 0 a):iG (a::r) 0 k:=.mk (by unfold l6;simp) rfl ⟨by decide,by decide⟩ h
theorem lQ (h:k 1 b):iG (a::b::r) 1 k:=.mk (by unfold l6;simp;exact (I1)) rfl ⟨by decide,by decide⟩ h
theorem Y5 (h:m 0):km (.dl (d::rd)) 0 m:=.mk rfl (aL (by decide) (by decide) (by simp)) h
theorem Y6 (h:m 1):km (.dl (d::e::rd)) 1 m:=.mk rfl (aL (by decide) (by decide) (by simp;exact (I1))) h
theorem Fe {α:Type}{v:α}{K:α->Prop}(h:K v):iF v K:=.mk rfl h
theorem fC {xs:List α}{x:α}(hx:xs[n]? = some x) (hl:n<2 ^ 24) (h:k n x):iG xs (n:Int) k:=by
 have hn:=(dU.mp hx).1;refine .mk (j:=n) ?_ hx ⟨by exact (II),by exact (I2 hl)⟩ h
 have e:(if (n:Int)<0 then (n:Int)+xs.length else (n:Int))=n:=if_neg (λU=>(l8 (.K .q .z) rfl U));unfold l6;refine ae (e ..) <| (if_pos ?_).trans rfl;exact kP.mpr ⟨decide_eq_true (ui),decide_eq_true (xx hn)⟩
theorem ND {xs:List α}{x:α}(hl:xs.length<2 ^ 24) (h:k xs.length x):iG (xs++[x]) (-1) k:=by
 refine .mk (j:=xs.length) ?_ (by simp) ⟨by decide,by decide⟩ h
 have e:(if (-1:Int)<0 then (-1:Int)+(xs++[x]).length else -1)=xs.length:=(if_pos (by decide)).trans (by refine ae (aG ..) ?_;show (-1:Int)+((xs.length+1:Nat):Int)=_;exact (fP (rx .z (.a (.n (.negSucc 0)) (.o (.S .b))) .q rfl) (rx .z .q (.a (.n (.negSucc 0)) (.o (.S .b))) rfl)))
 unfold l6;refine ae (e ..) <| (if_pos ?_).trans rfl;exact kP.mpr ⟨decide_eq_true (ui),decide_eq_true (by refine ae (aG ..) ?_;show (xs.length:Int)<((xs.length+1:Nat):Int);exact (I3))⟩
end
theorem NF (a b:Int):ah.eqv (.int a) (.int b)=decide (a=b):=by unfold ah.eqv;rfl
noncomputable def d8 (l:List String):List ah:=l.map λg=>.str (ag.ofString g)
theorem iq (ns:List Int):(intD ns).length=ns.length:=aY ..
theorem zU (a b:List Int):intD a++intD b=intD (a++b):=bH.symm
theorem NG (ns:List String):(d8 ns).length=ns.length:=aY ..
theorem Y7 (a b:List String):d8 a++d8 b=d8 (a++b):=bH.symm
theorem oS {k:List ah->Prop}(a b:List Int) (U:a.length+b.length<=2 ^ 24) (h:k (intD (a++b))):small ((intD a).length+(intD b).length)/\iF (intD a++intD b) k:=
 ⟨by refine ae (iq ..) (ae (iq ..) ?_);exact U,.mk (zU a b) h⟩
theorem vy {d:ah}{k:List Ev->Prop}(U:σ[j]? = some (.dat d)) (h:k [aR d]):den fs (.var j) σ k:=by
 refine (?_:(match σ[j]? with | none=>False | some t=>_))
 refine ae (U ..) <| h
theorem NH {b:SS}{k:KS}{d:ah}(h:aJ fs b (σ.set i (.dat d)) (λf U=>match f with | .nx=>du (eI fs [(i,.fr)] false b) k ds U | .cnt=>du (eI fs [(i,.fr)] false b) k ds U | .brk=>k .nx U | .ret e=>k (.ret e) U)):du (eI fs [(i,.fr)] false b) k (d::ds) σ:=h
theorem Ff {b:SS}{k:KS}(h:aJ fs b ((σ.set i (.dat V)).set j (.dat W)) (λf U=>match f with | .nx=>du (eI fs [(i,.fr),(j,.fr)] true b) k ds U | .cnt=>du (eI fs [(i,.fr),(j,.fr)] true b) k ds U | .brk=>k .nx U | .ret e=>k (.ret e) U)):du (eI fs [(i,.fr),(j,.fr)] true b) k (.tuple [V,W]::ds) σ:=h
theorem bw.Y8 {p:Prop} [Decidable p] {P R:Prop}(h:¬p->P) (g:p->R):bw (!decide p) P R:=.by (λe=>h λq=>by rw [decide_eq_true q] at e;exact El.ft e) λe=>g (HA λq=>by rw [decide_eq_false q] at e;exact tf e)
abbrev zV (g:String):Prop:=g="replace"∨g="delete"∨g="insert"
theorem Fg (h:zV g):ah.strOk (ag.ofString g)=true:=by rcases h with rfl | rfl | rfl <;> kernel_rfl
def Lay (n:Nat) (d:ah):Prop:=d.canLay0=true/\d.depth<=n
theorem vz:∀{ds:List ah},(∀d∈ds,Lay n d)->ah.canLayAll0 ds=true/\ah.depthAll ds<=n:=@λA B=>match A,B with
 |[],zz=>⟨by unfold ah.canLayAll0;rfl,by unfold ah.depthAll;exact bA _⟩
 |d::ds,h=>by
  refine El.aa (vz λd hd=>h d (.tail _ hd)) λa b=>El.aa (h d (.head _)) λc e=>?_;unfold ah.canLayAll0 ah.depthAll;exact ⟨kP.mpr ⟨c,a⟩,Nat.max_le.mpr ⟨e,b⟩⟩
theorem Lay.int (i:Int):Lay 0 (.int i):=⟨by unfold ah.canLay0;rfl,by unfold ah.depth;exact aK _⟩
theorem Lay.str (h:ah.strOk s=true):Lay 0 (.str s):=⟨by unfold ah.canLay0;exact h,by unfold ah.depth;exact aK _⟩
theorem Lay.list (h:∀d∈ds,Lay n d):Lay (n+1) (.list ds):=⟨by unfold ah.canLay0;exact (vz h).1,by unfold ah.depth;exact gY (vz h).2⟩
theorem Lay.tup (h:∀d∈ds,Lay n d):Lay (n+1) (.tuple ds):=⟨by unfold ah.canLay0;exact (vz h).1,by unfold ah.depth;exact gY (vz h).2⟩
theorem Lay.mono {n k:Nat}{d:ah}(h:Lay n d) (e:n<=k):Lay k d:=⟨h.1,aD h.2 e⟩
theorem Lay.shaped {d:ah}(h:Lay n d) (e:n<=64):SeqAt.shaped d=true:=kP.mpr ⟨h.1,decide_eq_true (aD h.2 e)⟩
theorem Fh (h:∀g∈W,zV g):Lay 1 (.list (d8 W)):=.list λd hd=>by
 refine ar (bf.mp hd) λg hg U=>?_;clear hd;subst U;exact .str (Fg (h g hg))
theorem lay_ints (l:List Int):Lay 1 (.list (intD l)):=.list λd hd=>by
 refine ar (bf.mp hd) λg hg U=>?_;clear hd;subst U;exact .int _
noncomputable abbrev bG (ns:List Nat):List ah:=ns.map λn=>.int (n:Nat)
theorem vA {ns:List Nat}{i j:Nat}(U:j<=ns.length):jN (bG ns) (some (i:Int)) (some (j:Int))=bG ((ns.drop i).take (j-i)):=by
 have e:bG ns=intD (ns.map λn:Nat=>(n:Int)):=by unfold intD;refine ae (qZ ..) ?_;rfl
 refine ae (e ..) (ae (Nu (by rw [aY];exact U) ..) ?_)
 unfold intD Pure.slc;refine ae (w7 ..).symm (ae (Bk ..).symm (ae (qZ ..) ?_));rfl
noncomputable abbrev oT (N:Nat) (f:Nat->ah):List ah:=(iR N).map f
theorem oU {N n:Nat}(h:n<N):(oT N f)[n]? = some (f n):=by
 rw [fQ,aey h];rfl
theorem NI {E:List Tr->(Ev->Prop)->Prop}:∀(ns:List Nat) (yd:List ah),(∀n∈ns,∀k:Ev->Prop,k (aR (.list (g n)))->E (U.set 0 (.dat (.int (n:Nat)))) k)->(yd++ns.flatMap g).length<=2 ^ 20->k (.ow (.dl (yd++ns.flatMap g)))->yo E ([(0,.fr)],false) U k (bG ns) yd:=by
 intro ns;induction ns with
 |nil=>
  intro yd _ _ h;rw [HB,cL] at h;exact h
 |cons n ns W=>
  intro yd V hl h;rw [gi,<-bt] at h hl;refine V n (.head _) _ <| aw (aD (by rw [aG (as:=yd++g n)] at hl;exact aD (ba _ _) hl) (by decide)) ?_
  exact W (yd++g n) (λm hm=>V m (.tail _ hm)) hl h
noncomputable def NJ:SS:=(.seq (.ret (.ya [(0,.fr)] false [0] 2 (.var 1) (.sub (.var 2) (.var 0)))) .nil)
noncomputable def qF:iE:=(false,λds k=>∃(N:Nat) (f:Nat->List Int) (ns:List Nat),ds=[.list (oT N λn=>.list (intD (f n))),.list (bG ns)]/\((∀n∈ns,n<N)/\N<1000/\(ns.flatMap f).length<=1000)/\k (.list (intD (ns.flatMap f))))
theorem NK (ns:List Nat):ns.flatMap (λn=>intD (f n))=intD (ns.flatMap f):=by
 induction ns with
 |nil=>rfl
 |cons n ns U=>exact ae (gi ..) (ae (gi ..) (ae (U ..) (ae (zU ..) rfl)))
theorem Y9 (h:qF.2 ds k):ds.length=2/\aJ ⟨[],[]⟩ NJ (init ds 0) (ju k):=by
 refine dM h ?_;clear h;intro N f ns e U h;obtain ⟨V,W,h2⟩:=U;subst e;refine ⟨rfl,?_⟩;refine NI (g:=λn=>intD (f n)) ns [] (λn hn k hk=>?_) ?_ ?_
 ·have hl:=V n hn;exact fC (oU hl) (Jd W hl) hk
 ·refine ae (NK ..) (ae (fE ..) (ae (iq ..) ?_));exact aD h2 (by decide)
 ·refine ae (NK ..) <| h
noncomputable def Fi:iE:=(false,λds k=>∃bs:List Bool,ds=[.list (bs.map .bool)]/\k (.bool (bs.all id)))
theorem all_range {bs:List Bool}{n:Nat}(hn:n=bs.length):(iR n).all (λi=>bs.getD i false)=bs.all id:=by
 subst hn;rw [aez,nr,nr];constructor
 ·intro h b hb;obtain ⟨i,hi,e⟩:=aeA.mp hb;have:=h i (pO.mpr hi);rw [iW,eC hi,e] at this;exact this
 ·intro h i hi;have hi:=pO.mp hi;rw [iW,eC hi];exact h _ (aeB hi)
theorem Za (hh:C.A.handled=none):yL C (λvs=>call (.builtin "all") vs) Fi:=by
 intro P m vs ds k s Q F hP hd hs hQ;refine ar hs λbs U hk=>?_;clear hs;subst U;refine aO hd.ig λv vr U d1 dr=>?_;clear hd;subst U;obtain rfl:=dr.mf;refine dM d1.listI λl vs n U p dv=>?_;subst U;have hl:=kj (λa o h=>(hP a o h).2) p;have b8:l<s.heap.objs.size:=by refine ar hl λzz e zz=>?_;clear hl;exact aq.lt_size e
 have hlen:vs.toArray.size=bs.length:=by exact ae (ee ..) (ae (dv.len ..) (ae (aY ..) rfl))
 refine call_all_walk (wZ hl ⟨s.heap.objs.size,_,_,_,_,_,λi=>bs.getD i false,rfl,(j6.list (show C.A.in1.handled=none from hh) s.heap.objs.size l (cy b8) vs.toArray),⟨(dq _ (aq.get?_push_size _ rfl) rfl rfl),hl.push _⟩,?_,λh' tk keep=>?_⟩)
 ·intro i v s2 Q2 E2 V W;have V:vs.toArray[i]? = some v:=V;rw [qU] at V;have hi:i<bs.length:=by refine ae (hlen ..).symm (ae (ee ..) ?_);exact (dU.mp V).1
  have hb:(bs.map ah.bool)[i]? = some (.bool bs[i]):=by rw [fQ,eC hi];rfl
  have dd:=rQ dv _ _ _ V hb;cases dd
  have W:Q2 (bs.getD i false) s2:=W;rw [iW,eC hi] at W;exact wK W
 ·have kp:∀b o,s.heap.get? b=some o->h'.get? b=some o:=λb o e=>keep b o (by
   intro hm;rw [cQ.mp hm] at e;exact jD _ (aq.lt_size e)) (aq.get?_push_of_some _ e)
  refine ae (all_range hlen ..) ?_;exact hQ _ _ [] h' tk (F.keeps kp) (λb o zz e=>kp b o e) (λp h=>El.nm h) .nil (Dat.bool _) hk
noncomputable abbrev fnAt (i j:Nat) (qual:ag) (dV:af) (doc:af) (ew:af):G0:=kW (fnName (mem i j)) qual (xb (mem i j)) (pR (mem i j)) (kZ (mem i j)) dV .none doc (.str "cpy313.difflib" 194) none ew .none
abbrev Kept (h h':aq):Prop:=∀b o,h.get? b=some o->h'.get? b=some o
section
variable {w:aW}{A:cD}{R:eZ->ai->Prop}{s:ai}{base:aq}{mg mb:ag->Option af}{means:ExcName->Option af}{p:bM}{ls:List ag}
theorem enter {K:ja}{prog:bM}{dV kV doc pm ew ct oc:af}(U:List ak)
  (X:K.In base) (T:Top p ls means mg mb base) (kb:Kept base s.heap) (hm:∀a∈U,base.get? a=none)
  (Fj:A.depth<w4) (ho:K.lookup f=some ⟨oc,od,.func (kW name qual params body scope dV kV doc pm an ew ct),qB⟩) (vq:tM K ew qual=true)
  (Zb:Bj s (kW name qual params body scope dV kV doc pm an ew ct) args binds) (Zc:∀y∈binds,scope.names.lookup y.1=some .local)
  (h:∀L V,K.In (jF s.heap U)->Top p ls means mg mb (jF s.heap U)->Fr (jF s.heap U) L V (λy=>binds.reverse.lookup y)->Kept s.heap V->L=s.heap.objs.size->
   aA (az prog w) (A.deeper (envOf qual scope L f ew)) (gM body (envOf qual scope L f ew))
    (λfl s'=>R (.ok (.ret (match fl with | .ret v=>v | _=>.none))) s') (λzz zz=>False) {s with heap:=V,toks:=s.toks+binds.length})
  (EZ:scope.isCoroutine=false) (E1:scope.isGenerator=false) (hk:scope.kind=.function) (Zd:∀x∈scope.names,x.2≠.cell) :
  dc (az prog w) A (.call (.ref f) args) R s:=by
 have X':=X.keeps kb;refine codeAny_call_def (fd:=kW name qual params body scope dV kV doc pm an ew ct) (body:=body) (binds:=binds) Fj (X' _ _ ho) rfl (T.nolimit.keeps kb) (codeRec_of X' vq) rfl Zb Zd Zc (λV Ze W=>?_) EZ E1 hk;have st:Kept base (jF s.heap U):=λb o e=>Hy _ (kb b o e) λq=>by rw [hm b q] at e;cases e
 exact cK (h s.heap.objs.size V (X.keeps st) (T.keeps st) ⟨Ze,λb o e=>W b o (of_hideAll _ e),dm (R5 _ _)⟩ W rfl) (λzz zz y=>y) λzz zz y=>y.elim
end
section
variable {prog:bM}{w:aW}{A:cD}{E:af->ai->Prop}{s:ai}{h₀:aq}{L a:ak}{m:ag->Option af}{news:List (ak×ay)}
end
theorem Zf (P:aV):(K P).lookup 196=some ⟨.type "function",none,.func (fnAt 5 6 "SequenceMatcher.find_longest_match" (.ref 189) (fF (mem 5 6) 490) (.ref 195)),#[]⟩:=by kernel_rfl!
theorem Zg (P:aV):tM (K P) (.ref 195) "SequenceMatcher.find_longest_match"=true:=by kernel_rfl!
theorem Zh (P:aV):(K P).lookup 189=some (xf P):=by kernel_rfl!
theorem Zi {s:ai}{P:aV}(X:(K P).In s.heap) (x a b c d:af):Bj s (fnAt 5 6 "SequenceMatcher.find_longest_match" (.ref 189) (fF (mem 5 6) 490) (.ref 195)) ⟨[x,a,b,c,d],[]⟩ [(ag.ofString "self",x),(ag.ofString "alo",a),(ag.ofString "ahi",b),(ag.ofString "blo",c),(ag.ofString "bhi",d)]:=
 Bj.of_defaults rfl (X _ _ (Zh _)) rfl rfl rfl
theorem Zj (P:aV):(K P).lookup 135=some (xd P):=by kernel_rfl!
noncomputable abbrev vB:ClassData:={name:="Match",bases:=[(.type "tuple")],mro:=[(.ref 135),(.type "tuple"),(.type "object")],ns:=134,qualname:="Match",hasDict:=false,slotNames:=[],subclasses:=[],abstract:=false,collection:=none,hasDel:=false}
section
variable {P:aV}{h:aq}{M:Model}
theorem vC (X:(K P).In h):h.get? 135=some ⟨.type "type",none,.cls vB,#[(some (.ref 65)),none,(some (.str "Match" 253)),(some (.str "Match" 261)),(some .none),(some (.bool false))]⟩:=X _ _ (Zj P)
theorem NL (X:(K P).In h):bz M h (Bind.madeBy (.ref 135)) none:=by
 have ho:=vC X;have U:bz M h (mroOf (.ref 135)) vB.mro:=((bz.ld (part:=none) ho).andThen .now).andThen .now;intro A Q E s k q;unfold Bind.madeBy;refine au (U A _ E s k ?_);refine ae (tI ..) <| au (au (au (au (wpAny_loadPart (k _ _ ho) (aZ ?_)))));exact aZ (aZ (aZ q))
theorem Fm:bz M h (Bind.madeBy (.type "tuple")) (some "tuple.__new__"):=bz.of_pure (by kernel_rfl)
theorem Zk:bz M h (bY.Slots.bestBase [.type "tuple"]) (.type "tuple"):=by
 exact bz.of_pure (by kernel_rfl)
theorem NM (X:(K P).In h):bz M h (Bind.staticBase (.ref 135)) (.type "tuple"):=by
 have ho:=vC X;have U:bz M h (mroOf (.ref 135)) vB.mro:=((bz.ld (part:=none) ho).andThen .now).andThen .now;have hc:bz M h (classData 135) vB:=(bz.ld (part:=none) ho).andThen .now;intro A Q E s k q;unfold Bind.staticBase;refine au (U A _ E s k ?_);refine ae (tI ..) <| au (au (au ((NL X) A _ E s k ?_)));dsimp only [Option.isSome];refine au (hc A _ E s k (au (Zk A _ E s k (aZ ?_))));dsimp only;refine ae (tI ..) <| au (au (Fm A _ E s k ?_));dsimp only;exact aZ (aZ (aZ q))
theorem NO (X:(K P).In h):bz M h (tN (.ref 135)) true:=by
 have ho:=vC X;exact (bz.ld (part:=none) ho).andThen .now
theorem sI (X:(K P).In h):bz M h (jA (.ref 135) (.type "tuple")) true:=R7 X (by kernel_rfl!)
theorem NP (X:(K P).In h):bz M h (jb (.ref 135) "__init__") (some (.builtin "object.__init__")):=HC X (by kernel_rfl!)
theorem Zl (X:(K P).In h):bz M h (Bind.madeHere "tuple.__new__" (.ref 135)) ():=
 (NM X).andThen (Fm.andThen (bz.of_pure (by simp only [aeC,bne_self_eq_false,kY,if_false])))
end
theorem Zm:wB "tuple.__new__"=some .builtinFn:=by decide +kernel
theorem Zo:HD "tuple.__new__"=some ("tuple","__new__"):=by decide +kernel
noncomputable def Fo:Manifest.Signature:=(Manifest.signature? "tuple.__new__").getD ⟨.hand,"","",.none,[]⟩
theorem Zp:Manifest.signature? "tuple.__new__"=some Fo:=by kernel_rfl
theorem Zq (a b:af):Bind.checkArgs "tuple.__new__" Fo ⟨[a,b],[]⟩=pure ():=by kernel_rfl
noncomputable abbrev gF (U:ak) (vs:Array af):ay:={cls:=.ref 135,dict:=some U,data:=.seq vs 0}
section
variable {M:Model}{A:cD}{h:aq}{g:Array AK}{d:Drawn}{t:Nat}{os:dT}{Q:PySem.Fin->ai->Prop}{E:af->ai->Prop}
theorem Zr (U:bz M h (tN c) true) (V:bz M h (jA c (.type "tuple")) true) (W:bz M h (Bind.madeHere "tuple.__new__" c) ()) (a4:bz M h (jb c "__init__") (some (.builtin "object.__init__"))) (a5:noKeywords "tuple" a=pure ())
  (hk:aA M A (do let xs <-collect it;let ys <-pure xs.toArray;let dd <-alloc D;let r <-Bl c (.seq ys) (some dd);ret r) Q E ⟨h,g,d,t,os⟩) :
  aA M A (do
   let b1 <-tN c
   if b1.not then e1 else
   let b2 <-jA c (.type "tuple")
   if b2.not then e2 else
   Bind.madeHere "tuple.__new__" c
   let b3 <-jb c "__init__"
   if b3 == some (.builtin "object.__init__") then do
    noKeywords "tuple" a
    checkCount "tuple" 0 1 1
    let xs <-collect it;let ys <-pure xs.toArray;let dd <-alloc D;let r <-Bl c (.seq ys) (some dd);ret r
   else e3) Q E ⟨h,g,d,t,os⟩:=by
 refine au (U.at ?_);refine au (V.at ?_);refine au (W.at ?_);refine au (a4.at ?_);refine ae (a5 ..) <| hk
theorem Zs (U:bz M h (tN (.ref 135)) true) (V:bz M h (jA (.ref 135) (.type "tuple")) true) (W:bz M h (Bind.madeHere "tuple.__new__" (.ref 135)) ()) (a4:bz M h (jb (.ref 135) "__init__") (some (.builtin "object.__init__")))
  (hk:aA M A (do let xs <-collect it;let ys <-pure xs.toArray;let dd <-alloc {cls:=.type "dict",data:=.dict #[]};let r <-Bl (.ref 135) (.seq ys) (some dd);ret r) Q E ⟨h,g,d,t,os⟩) :
  aA M A (bY.«tuple.__new__» ⟨[.ref 135,it],[]⟩) Q E ⟨h,g,d,t,os⟩:=
 Zr (a:=⟨[.ref 135,it],[]⟩) U V W a4 rfl hk
theorem Zt {Q:Unit->ai->Prop}(U:bz M h (tN c) true) (V:bz M h (jA c (.type "tuple")) true) (hk:aA M A k Q E ⟨h,g,d,t,os⟩) :
  aA M A (do
   let W <-tN c
   if W.not then e1 else
   let b2 <-jA c (.type "tuple")
   if b2.not then e2 else k) Q E ⟨h,g,d,t,os⟩:=by
 refine au (U.at ?_);refine au (V.at ?_);exact hk
theorem vD {α:Type}{c:Prop} [Decidable c] {x y:iS α}{Q:α->ai->Prop}(hc:¬c) (h:aA M A y Q E s):aA M A (if c then x else y) Q E s:=by refine ae (if_neg hc ..) <| h
theorem Zu {Q:Unit->ai->Prop}(U:bz M h (tN (.ref 135)) true) (V:bz M h (jA (.ref 135) (.type "tuple")) true) (W:bz M h (Bind.staticBase (.ref 135)) (.type "tuple")) (hk:Q () ⟨h,g,d,t,os⟩) :
  aA M A (HE "tuple.__new__" ⟨[.ref 135,v],[]⟩) Q E ⟨h,g,d,t,os⟩:=by
 unfold HE;refine ae (Zm ..) (ae (Zo ..) (ae (Zp ..) ?_));refine Zt U V <| au (W.at (au (Fm.at ?_)));refine vD (by refine ae (bne_self_eq_false ..) <| nv) ?_
 refine (?_:aA M A (Bind.checkArgs "tuple.__new__" Fo ⟨[.ref 135,v],[]⟩) Q E _);refine ae (Zq ..) <| aZ hk
theorem Zv {P:aV}{its:Array af}(X:(K P).In h₀) (hk:Kept h₀ h) (hz:its.size<=cc) (U:Q (.done (.ret (.ref (h.objs.size+1)))) ⟨(h.push Bm).push (gF h.objs.size its),g,d,t,os⟩) :
  aA M A (do let dd <-alloc {cls:=.type "dict",data:=.dict #[]};let r <-Bl (.ref 135) (.seq its.toList.toArray) (some dd);ret r) Q E ⟨h,g,d,t,os⟩:=by
 rw [<-aq.size_push h Bm] at U;refine au (nd_alloc (aZ (au ?_)));unfold Bl;refine vD (cW.mpr hz) <| au (nd_alloc (aZ (au (au (wpAny_loadPart (aq.get?_push_of_some _ (aq.get?_push_of_some _ (hk _ _ (vC X)))) (aZ ?_))))));exact aZ (aZ U)
end
section
variable {P:aV}{prog:bM}{w:aW}{A:cD}{h:aq}{g:Array AK}{d:Drawn}{t:Nat}{os:dT}
theorem NQ {its:Array af}{sl:Array (Option af)}{R:eZ->ai->Prop}(X:(K P).In h) (ht:h.get? tp=some ⟨.type "tuple",od,.seq its n,sl⟩) (hz:its.size<=cc)
  (U:∀h',Kept h h'->R (.ok (.ret (.ref (h'.objs.size+1)))) ⟨(h'.push Bm).push (gF h'.objs.size its),g,d,t,os⟩) :
  dc (az prog w) A (.call (.builtin "tuple.__new__") ⟨[.ref 135,.ref tp],[]⟩) R ⟨h,g,d,t,os⟩:=by
 refine codeAny_call_builtin_code (iz.quiet_builtin _ (by decide +kernel)) (Zu (NO X) (sI X) (NM X) ?_)
 refine G7 F.entry_tuple_new (Zs (NO X) (sI X) (Zl X) (NP X) ?_);refine au (wpAny_collect_seq tp (.inr rfl) ht rfl rfl (λh' hk=>?_) hz);refine au (aZ ?_);exact Zv X hk hz (U h' hk)
theorem Zw (X:(K P).In h):bz (az prog w) h (rj (.ref 135) "__call__") (some (.builtin "type.__call__")):=looks_specialIn X (by kernel_rfl!)
theorem Zx (X:(K P).In h):bz (az prog w) h (tO (.ref 135) (.type "type")) true:=looks_instIn X (by kernel_rfl!)
theorem Zy (X:(K P).In h):bz (az prog w) h (jA (.ref 135) (.ref 135)) true:=R7 X (by kernel_rfl!)
theorem Zz (X:(K P).In h):bz (az prog w) h (jA (.ref 135) (.type "object")) true:=R7 X (by kernel_rfl!)
theorem ZA (a b c e:af):qS "object.__init__" ⟨[a,b,c,e],[]⟩:=by unfold qS;kernel_rfl
set_option tactic.hygienic true in
theorem ZC {R:eZ->ai->Prop}(X:(K P).In h)
  (hg:∀(A':cD) (Q:af->ai->Prop) (E:af->ai->Prop),(∀tk,Q (.ref 82) ⟨h,g,d,tk,os⟩)->aA (az prog w) A' (pH (.ref 135) "__new__") Q E ⟨h,g,d,t,os⟩)
  (hq:∀tk,dc (az prog w) (A.under (.builtin "type.__call__" ⟨[.ref 135,W,v2,v3],[]⟩)) (.call (.ref 82) ⟨[.ref 135,W,v2,v3],[]⟩) (λr V=>match r with
   |.ok (.ret (.ref x))=>(∃dx vs,Kept h V.heap/\V.heap.get? x=some (gF dx vs))/\R (.ok (.ret (.ref x))) V
   |.ok zz=>False
   |.error zz=>False) ⟨h,g,d,tk,os⟩) :
  dc (az prog w) A (.call (.ref 135) ⟨[W,v2,v3],[]⟩) R ⟨h,g,d,t,os⟩:=by
 have hC:=vC X;have call:=Zw (prog:=prog) (w:=w) X;have typ:=Zx (prog:=prog) (w:=w) X;have made:=NL (M:=az prog w) X;refine Rm ?_;refine (?_:aA _ _ (G6 (.ref 135) _) _ _ _);refine nd_load hC ?_;refine (?_:aA _ _ (G6.viaDunder (.ref 135) _) _ _ _);unfold G6.viaDunder;refine au (call.at ?_);dsimp only;refine ae (tc_bind ..) <| au (aZ (au (aZ ?_)));refine aZ (a:=PySem.Fin.again (.call (.builtin "type.__call__") ⟨[.ref 135,W,v2,v3],[]⟩)) (aw rfl ?_);refine codeAny_call_builtin_at (iz.quiet_builtin _ (by decide +kernel)) entry_typeCall (Bn tc_kind tc_split typ (tc_args _ _ _) ?_)
 unfold bY.«type.__call__»;have hm:bz (az prog w) h (mroOf (.ref 135)) vB.mro:=((bz.ld (part:=none) hC).andThen .now).andThen .now;refine au (hm.at ?_);refine au (made.at ?_);refine au (hg _ _ _ λtk=>?_);refine au (fo (jB ?_));refine codeAny_mono (hq tk) λr V z=>?_;rcases r with e | (_ | _ | _ | v) <;> first | exact z.elim | skip
 cases v <;> first | exact z.elim | skip
 rename_i x;refine El.aa z ?_;clear z;intro bx z;obtain ⟨dx,vs,kk,hx⟩:=bx;obtain ⟨hh,g',d',t',os'⟩:=V;dsimp only at kk hx z;have t1:bz (az prog w) hh (j4 (.ref x)) (.ref 135):=(bz.ld hx).andThen .now;have s1:=(Zy (prog:=prog) (w:=w) X).keeps kk;have i1:=(NP (M:=az prog w) X).keeps kk;have b1:bz (az prog w) hh (HF (.builtin "object.__init__") (.ref x)) (.builtin "object.__init__",[.ref x]):=bz.of_pure (oi_bind _);have t2:bz (az prog w) hh (tO (.ref x) (.type "object")) true:=t1.andThen ((Zz (prog:=prog) (w:=w) X).keeps kk);have t3:bz (az prog w) hh (tO (.ref x) (.ref 135)) true:=t1.andThen s1;refine au (t3.at ?_);refine au (fo ?_);unfold callSpecial? rj;refine au (au (t1.at (i1.at ?_)));refine fo <| au (b1.at ?_);refine au (jB ?_);refine pG oi_plain entry_oi (@Bn (az prog w) _ _ _ "object.__init__" "object" "__init__" (.ref x) [W,v2,v3] [] _ oi_kind oi_split t2 (ZA _ _ _ _) ?_);have U:=made.keeps kk;refine au (t1.at ?_);refine au (i1.at ?_);refine au (U.at ?_);refine vD (by refine ae (bne_self_eq_false ..) <| nv) (vD (by decide) (aZ ?_))
 refine aZ (vD (by decide) (aZ ?_))
 exact z
end
theorem ZD {w:aW}{prog:bM}{A:cD}{E:af->ai->Prop}{its:Array af}{Q:af->ai->Prop}{P:aV}(F:Fr h₀ L s.heap m) (N:aI h₀ L s.heap news) (X:(K P).In h₀)
  (ht:(tp,(⟨.type "tuple",none,.seq its 0,#[]⟩:ay))∈news) (hz:its.size<=cc)
  (h:∀x dx h',Fr h₀ L h' m->aI h₀ L h' ((x,gF dx its)::news)->(∀p∈news,p.1<x)->Q (.ref x) {s with heap:=h'}) :
  aA (az prog w) A (call (.builtin "tuple.__new__") [.ref 135,.ref tp] []) Q E s:=by
 obtain ⟨hh,g,d,t,os⟩:=s;refine jB (NQ (X.keeps F.keep) (N _ ht).1 hz λh' hk=>?_);dsimp only at F N hk;have V:Fr h₀ L h' m:=⟨F.ns.keeps hk,λb o e=>hk _ _ (F.keep b o e),F.above⟩;have W:aI h₀ L h' news:=λp U=>⟨hk _ _ (N p U).1,(N p U).2⟩;have N2:=(W.push V Bm).push (V.push _) (gF h'.objs.size its);rw [aq.size_push] at N2;exact h _ _ _ ((V.push _).push _) (λp U=>N2 p (by
  rcases aT.mp U with rfl | U
  ·exact .head _
  ·exact .tail _ (.tail _ U))) λp U=>pL (aq.lt_size (W p U).1)
theorem ZE (P:aV):(K P).lookup 82=some ⟨.type "function",none,.func (fnAt 3 4 "Match.__new__" .none (fF (mem 3 4) 283) (.ref 81)),#[]⟩:=by kernel_rfl!
theorem ZF (P:aV):tM (K P) (.ref 81) "Match.__new__"=true:=by kernel_rfl!
theorem ZG (c U v2 V:af):w5 (fnAt 3 4 "Match.__new__" .none (fF (mem 3 4) 283) (.ref 81)) ⟨[c,U,v2,V],[]⟩=pure [(ag.ofString "_cls",c),(ag.ofString "a",U),(ag.ofString "b",v2),(ag.ofString "size",V)]:=by kernel_rfl!
theorem ZH (c U v2 V:af):([(ag.ofString "_cls",c),(ag.ofString "a",U),(ag.ofString "b",v2),(ag.ofString "size",V)].all λx=>decide ((kZ (mem 3 4)).names.lookup x.1=some .local))=true:=by kernel_rfl!
theorem meta_tuple:j4 (.type "tuple")=pure (.type "type"):=by kernel_rfl
theorem NS (P:aV):findCls (K P) (.type "tuple") (.type "type") "__new__"=some (.val (.builtin "tuple.__new__")):=by kernel_rfl!
theorem ZI {dp un:Nat}{base:aq}{R:eZ->ai->Prop}
  (T:Top q (gN q loose) means mg mb base) (kb:Kept base s.heap) (V:dp<w4)
  (hR:∀x dx h' tk,Kept s.heap h'->s.heap.get? x=none->h'.get? x=some (gF dx #[v1,v2,v3])->R (.ok (.ret (.ref x))) {s with heap:=h',toks:=tk}) :
  (K w.params).In base->PySem.Challenge.rw_dm0054_05.prog=pw->dc (az pw w) (cD.mk none dp fr gu un) (.call (.ref 82) ⟨[.ref 135,v1,v2,v3],[]⟩) R s:=by
 k_fill
 intro W _;refine enter [] W T kb (λzz h=>El.nm h) V (ZE _) (ZF _) (.of_eq (ZG _ _ _ _)) (locs (ZH _ _ _ _)) ?_ (by kernel_rfl!) (by kernel_rfl!) (by kernel_rfl!) (by decide +kernel)
 intro L dS X' T' F' k₁ hL;have N':aI (jF s.heap []) L dS []:=aI.nil;dsimp only [jF] at X' T' F' N'
 k_steps
 with_reducible refine' method_type ?k0 ?k1 meta_tuple ?k2 (NS _) ?k3 ?_
 case k0=>k_asm
 case k1=>k_asm
 case k2=>decide +kernel
 case k3=>k_handed
 k_steps
 with_reducible refine' ZD ?k0 ?k1 ?k2 ?k3 ?k4 ?_
 case k0=>k_asm
 case k1=>k_asm
 case k2=>k_asm
 case k3=>k_mem
 case k4=>size_fits
 intro x' ZJ h' Fp U l1
 k_steps
 exact hR _ _ _ _ Fp.keep (U _ (.head _)).2.2 (U _ (.head _)).1
theorem ZK (U v2 V:af):(iz.builtin "type.__call__" ⟨[.ref 135,U,v2,V],[]⟩).weight=1:=by kernel_rfl
theorem ZM (P:aV):typeIn (K P) (.ref 135)=some (.type "type"):=by kernel_rfl!
theorem ZN (P:aV):readsIn (K P) 135 (.type "type")=true:=by kernel_rfl!
theorem ZO (P:aV):findCls (K P) (.ref 135) (.type "type") "__new__"=some (.get (.builtin "staticmethod.__get__") (.ref 136) .none (.ref 135)):=by kernel_rfl!
theorem ZP (P:aV):recIn (K P) 136 "staticmethod"=some [.ref 82]:=by kernel_rfl!
def SeqAt (h:aq) (t:ak) (items:Array af):Prop:=∃o n,h.get? t=some o/\o.data=.seq items n
theorem SeqAt.extBut (x:SeqAt h a items) (hs:aq.ExtBut b h h') (U:a≠b):SeqAt h' a items:=let ⟨o,n,ho,r⟩:=x;(iC o n (hs a o U ho) r)
theorem SeqAt.push (x:SeqAt h a items) (U:ay):SeqAt (h.push U) a items:=let ⟨o,n,ho,r⟩:=x;(iC o n (aq.get?_push_of_some _ ho) r)
section
variable {prog:bM}{w:aW}{A:cD}{E:af->ai->Prop}{s:ai}{P:aV}
theorem ZQ (U:Bo s.heap it t i) (ht:SeqAt s.heap t items) (hx:items[i]? = some x)
  (hQ:∀h',Bo h' it t (i+1)->aq.SameBut it s.heap h'->Q (some x) {s with heap:=h'}):aA (az prog w) A (iU (.ref it)) Q E s:=by
 refine ef (id U) λo ho hc hd=>dX ht λol nl V W=>?_;clear ht;unfold iU;refine au (HG (HH (name:=ag.ofString "__next__") U.typeIs Bp
  (tP Bp U.typeIs aeD ?_ (aeE _))))
 refine (?_:aA _ _ (tQ (.ref it) 0>>=_) _ _ s);refine au (tR ho hd (x:=.ref t) rfl ?_);refine (?_:aA _ _ (if (af.ref t == af.none)=true then _ else _) _ _ s);refine ae (if_neg (show ¬((af.ref t == af.none)=true) from nv) ..) ?_;refine (?_:aA _ _ (tQ (.ref it) 1>>=_) _ _ s);refine au (tR ho hd (x:=.int i 0) rfl ?_);refine (?_:aA _ _ (seqItems? (.ref t)>>=_) _ _ s);refine au (Bq V W ?_);simp only [kS,hx];refine au (wpAny_setField ho hd (by simp) (aZ (av x rfl (aZ (hQ _ ?_ (aq.SameBut.update ..))))))
 exact dq _ (aq.get?_update_self _ ho (ay.isFreed_of_fields (ay.data_mapFields hd _))) ((ay.cls_mapFields ..).trans hc) (by
  refine ae (ay.data_mapFields hd ..) ?_;simp [jE])
theorem NU (gB:t≠it):∀(n i:Nat) (s:ai) (Q:List af->ai->Prop),Bo s.heap it t i->SeqAt s.heap t items->i+n<=items.size->
  (∀h',Bo h' it t (i+n)->aq.SameBut it s.heap h'->Q ((items.toList.drop i).take n) {s with heap:=h'})->aA (az prog w) A (draw (.ref it) n) Q E s:=@λB C D F G H J K=>match B,C,D,F,G,H,J,K with
 |0,i,s,Q,hit,zz,zy,hQ=>by
  refine (?_:aA _ _ (pure []) Q E s);exact aZ (by simpa using hQ s.heap hit (aq.SameBut.refl ..))
 |n+1,i,s,Q,hit,ht,hle,hQ=>by
  have b8:i<items.size:=by lia
  refine (?_:aA _ _ (iU (.ref it)>>=_) Q E s);refine au (ZQ hit ht (x:=items[i]) (by simp [b8]) λdS V U=>?_)
  refine au (fo (NU gB n (i+1) _ _ V (ht.extBut U.extBut gB) (by lia) λky W ZR=>aZ ?_))
  have hd:items.toList.drop i=items[i]::items.toList.drop (i+1):=by simp [AS,b8]
  have:=hQ ky (by refine ae (show i+(n+1)=i+1+n by lia) <| W) (U.trans ZR)
  rw [hd,List.take_succ_cons] at this;exact this
theorem NV (X:(K P).In h):bz (az prog w) h (jb (.ref 135) "__iter__") (some (.builtin "tuple.__iter__")):=HC X (by kernel_rfl!)
theorem ZS:wB "tuple.__iter__"=some .slot:=by decide +kernel
theorem ZT:HD "tuple.__iter__"=some ("tuple","__iter__"):=by decide +kernel
theorem iterM {its:Array af}(X:(K P).In s.heap) (hy:s.heap.get? y=some (gF dy its))
  (hQ:Q (.ref s.heap.objs.size) {s with heap:=s.heap.push {cls:=.type "tuple_iterator",data:=.fields #[.ref y,.int 0 0]}}) :
  aA (az prog w) A (gX (.ref y)) Q E s:=by
 obtain ⟨h,g,d,t,os⟩:=s;dsimp only at X hy hQ;have t1:bz (az prog w) h (j4 (.ref y)) (.ref 135):=(bz.ld hy).andThen .now;have t2:bz (az prog w) h (tO (.ref y) (.type "tuple")) true:=t1.andThen (sI X);have i1:=NV (prog:=prog) (w:=w) X;have b1:HF (.builtin "tuple.__iter__") (.ref y)=pure (.builtin "tuple.__iter__",[.ref y]):=slot_tuple_iter.bind _;unfold gX rj callSpecialIfBoundUnlessNone? aeF rj;repeat lk
 refine ae (b1 ..) ?_;have fin:∀(V:af->ai->Prop) (W:af->ai->Prop),V (.ref h.objs.size) ⟨h.push {cls:=.type "tuple_iterator",data:=.fields #[.ref y,.int 0 0]},g,d,t,os⟩->aA (az prog w) A (call (.builtin "tuple.__iter__") [.ref y]) V W ⟨h,g,d,t,os⟩:=by
  intro V W hq;refine jB (pG slot_tuple_iter.plain entry_tuple_iter (Bn ZS ZT t2 (args_tuple_iter _) ?_));refine (?_:aA _ _ (do ret (<-newFields "tuple_iterator" [.ref y,jE 0])) _ _ _)
  exact au (Ba (aZ hq))
 have U:∀(V:Option af->ai->Prop) (W:af->ai->Prop),V (some (.ref h.objs.size)) ⟨h.push {cls:=.type "tuple_iterator",data:=.fields #[.ref y,.int 0 0]},g,d,t,os⟩->
   aA (az prog w) A (if (af.builtin "tuple.__iter__" == af.none)=true then (do let r <-(do rule "iter.none";raiseError "TypeError" s!"'{← typeNameOf (.ref y)}' object is not iterable":iS af);pure (some r)) else (do let r <-call (.builtin "tuple.__iter__") [.ref y];pure (some r))) V W ⟨h,g,d,t,os⟩:=by
  intro V W hq;refine ae (if_neg (by decide) ..) <| au (fin _ _ (aZ hq))
 have t3:bz (az prog w) (h.push {cls:=.type "tuple_iterator",data:=.fields #[.ref y,.int 0 0]}) (j4 (.ref h.objs.size)) (.type "tuple_iterator"):=(bz.ld (aq.get?_push_size _ rfl)).andThen .now;have t4:bz (az prog w) (h.push {cls:=.type "tuple_iterator",data:=.fields #[.ref y,.int 0 0]}) (jb (.type "tuple_iterator") "__next__") (some (.builtin "tuple_iterator.__next__")):=bz.of_pure Bp.lookup;split
 ·repeat (first | exact hQ | (with_reducible refine U _ _ ?_) | lk)
 ·refine Rp ?_;repeat (first | exact hQ | (with_reducible refine U _ _ ?_) | lk)
theorem ZU (hh:A.handled=none) (U:Bo s.heap it t i) (ht:SeqAt s.heap t items) (hx:items[i]? = none)
  (hQ:∀h',aq.ExtBut it s.heap h'->Q none {s with heap:=h'}):aA (az prog w) A (iU (.ref it)) Q E s:=by
 refine ef (id U) λo ho hc hd=>dX ht λol nl V W=>?_;clear ht;unfold iU;refine au (HG (HH (name:=ag.ofString "__next__") U.typeIs Bp
  (tP Bp U.typeIs aeD ?_ (aeE _))))
 refine (?_:aA _ _ (tQ (.ref it) 0>>=_) _ _ s);refine au (tR ho hd (x:=.ref t) rfl ?_);refine (?_:aA _ _ (if (af.ref t == af.none)=true then _ else _) _ _ s);refine ae (if_neg (show ¬((af.ref t == af.none)=true) from nv) ..) ?_;refine (?_:aA _ _ (tQ (.ref it) 1>>=_) _ _ s);refine au (tR ho hd (x:=.int i 0) rfl ?_);refine (?_:aA _ _ (seqItems? (.ref t)>>=_) _ _ s);refine au (Bq V W ?_);simp only [kS,hx];refine au (RX (au (wpAny_setField ho hd (by simp) ?_)))
 refine (?_:aA _ _ (newExc (.type "StopIteration") []>>=_) _ _ _);refine au ?_;simp only [newExc,Ru];refine au (Ba ?_ (by size_fits))
 refine au (m:=firstArgMember _ _) (w3 (a:=af.none) (by first | rfl | (simp only [firstArgMember];rfl)) ?_)
 refine Ba ?_ (by size_fits)
 refine au (wpAny_handled ?_)
 first | rw [show A.in1.handled=none from hh] | rw [hh]
 refine au (aZ (wpAny_throw ?_));refine au (wpAny_isInstance (T:="StopIteration") (b:=true) (av _ (aq.get?_push_size _ rfl) rfl) isSubtype_stop ?_);exact aZ (hQ _ (((aq.SameBut.update ..).extBut.push _).push _))
theorem ZV {its:Array af}(hh:A.handled=none) (X:(K P).In s.heap) (hy:s.heap.get? y=some (gF dy its))
  (hQ:∀h',aq.ExtBut s.heap.objs.size s.heap h'->Q its.toList {s with heap:=h'}):aA (az prog w) A (unpackItems (.ref y) its.size none) Q E s:=by
 have b8:y≠s.heap.objs.size:=cy (aq.lt_size hy);have ht:SeqAt s.heap y its:=(iC _ 0 hy rfl);have t1:bz (az prog w) s.heap (j4 (.ref y)) (.ref 135):=(bz.ld hy).andThen .now;have i1:=NV (prog:=prog) (w:=w) X;unfold unpackItems;refine au ?_;unfold notIterableAtAll rj;refine au (au (t1.here (i1.here ?_)));refine aZ ?_;simp only [kY,if_false];refine au (fo (iterM X hy ?_));refine au (fo (NU b8 its.size 0 _ _ (dq _ (aq.get?_push_size _ rfl) rfl rfl) (ht.push _) (by lia) λdS V U=>?_))
 have Ml:nC its.size (kX 0 its.toList)=its.toList:=by
  refine ae (Hl ..) <| pM (by simp)
 refine ae (Ml ..) <| ae (if_neg (by simp) ..) ?_
 have W:SeqAt dS y its:=(ht.push _).extBut U.extBut b8;refine au (fo (ZU hh V W (by simp) λky ZW=>?_))
 simp only [ad4,kY,if_false];exact aZ (hQ ky λb o hb e=>ZW b o hb (U.extBut b o hb (aq.get?_push_of_some _ e)))
end
section
variable {w:aW}{A:cD}{E:af->ai->Prop}{s:ai}{h₀:aq}{L:ak}{m:ag->Option af}{news:List (ak×ay)}{P:aV}
theorem ZX {prog:bM}{pos:aB}{its:Array af}(F:Fr h₀ L s.heap m) (N:aI h₀ L s.heap news) (X:(K P).In h₀) (hh:A.handled=none) (hy:s.heap.get? y=some (gF dy its))
  (hn:(jd U env).length=its.size) (V:(jd U env).findIdx? (·.1)=none)
  (h:∀h',Fr h₀ L h' m->aI h₀ L h' news->Kept s.heap h'->aA (az prog w) A (wM ((jd U env).map (·.2)) its.toList) Q E {s with heap:=h'}) :
  aA (az prog w) A (d7 (.Tuple U k pos) env (.ref y)) Q E s:=by
 refine ae (assign_Tuple ..) <| au (pJ ?_);unfold unpack;refine ae (hn ..) (ae (V ..) ?_);exact au (fo (ZV hh (X.keeps F.keep) hy λh' W=>h h' (F.extBut W (aK _)) (N.extBut W (aK _)) λb o e=>W b o (cy (aq.lt_size e)) e))
end
noncomputable abbrev jU (vs:Array af):ay:={cls:=.type "tuple",data:=.seq vs 0}
def AllNe (d:Nat):List (ak×ay)->Prop:=@λA=>match A with
 |[]=>True
 |p::r=>@Ne Nat p.1 d/\AllNe d r
theorem ZY:wB "tuple.__lt__"=some .slot:=by decide +kernel
theorem ZZ:HD "tuple.__lt__"=some ("tuple","__lt__"):=by decide +kernel
section
variable {prog:bM}{w:aW}{A:cD}{E:af->ai->Prop}{s:ai}{P:aV}
theorem Z0 (X:(K P).In h):bz (az prog w) h (jb (.ref 135) "__lt__") (some (.builtin "tuple.__lt__")):=HC X (by kernel_rfl!)
theorem Fq (h:Q (.bool (decide (a<b))) s):aA (az prog w) A (richCompare .Lt (.int a t) (.int b u)) Q E s:=wpAny_lt_int h
theorem Ft {a b:Int}(c:¬(!a == b)=true):a=b:=Decidable.byContradiction λh=>c (congrArg not (beq_eq_false_iff_ne.mpr h))
theorem NW {a b:Int}{r:Prop}(c:(!a == b)=true):(a<b∨a=b/\r)↔a<b:=⟨λh=>h.elim id λh=>(nomatch (congrArg not (beq_iff_eq.mpr h.1)).symm.trans c),.inl⟩
theorem NX {a b:Int}{r:Prop}(c:¬(!a == b)=true):(a<b∨a=b/\r)↔r:=⟨λh=>h.elim (λh=>(Br _ (Ft c▸h)).elim) And.right,λh=>.inr ⟨Ft c,h⟩⟩
theorem Z1 (hu:A.units<qT) (X:(K P).In s.heap) (hx:s.heap.get? x=some (gF dx #[.int W t1,.int a2 t2,.int a3 t3])) (hy:s.heap.get? y=some (gF dy #[.int b1 u1,.int b2 u2,.int b3 u3]))
  (h:∀tk,Q (decide (W<b1∨W=b1/\(a2<b2∨a2=b2/\a3<b3))) {s with toks:=tk}):aA (az prog w) A (keyLt' oneType' (.ref x) (.ref y)) Q E s:=by
 obtain ⟨hh,g,d,t,os⟩:=s;dsimp only at X hx hy h;refine ae (keyLt'_oneType ..) (ae (oneLt'_eq ..) ?_);refine au (wpAny_cRoomFor hu ?_);have Z4:bz (az prog w) hh (j4 (.ref x)) (.ref 135):=(bz.ld hx).andThen .now;have Z5:bz (az prog w) hh (tO (.ref x) (.type "tuple")) true:=Z4.andThen (sI X);have Z6:bz (az prog w) hh (j4 (.ref y)) (.ref 135):=(bz.ld hy).andThen .now;have t2y:bz (az prog w) hh (tO (.ref y) (.type "tuple")) true:=Z6.andThen (sI X);have i1:=Z0 (prog:=prog) (w:=w) X;have Z7:HF (.builtin "tuple.__lt__") (.ref x)=pure (.builtin "tuple.__lt__",[.ref x]):=aeG.bind _;have fin:∀(V:af->ai->Prop) (E':af->ai->Prop),(∀tk,V (.bool (decide (W<b1∨W=b1/\(a2<b2∨a2=b2/\a3<b3)))) ⟨hh,g,d,tk,os⟩)->aA (az prog w) A (call (.builtin "tuple.__lt__") ([.ref x]++[.ref y])) V E' ⟨hh,g,d,t,os⟩:=by
  intro V E' U;refine jB (pG aeG.plain PySem.F.entry_tuple_lt (Bn ZY ZZ Z5 (PySem.F.args_tuple_lt_2 _ _) ?_));unfold bY.«tuple.__lt__»;have st:∀{p q:Prop} [Decidable p] [Decidable q],(p↔q)->(∀tk,V (.bool (decide p)) ⟨hh,g,d,tk,os⟩)->∀tk,V (.bool (decide q)) ⟨hh,g,d,tk,os⟩:=λh f tk=>decide_eq_decide.mpr h▸f tk;repeat (first | (with_reducible refine HI ?_) | lk)
  refine R8 (λc=>?_) λc=>?_
  ·have U:=st (NW c) U;repeat (first | exact U _ | (with_reducible refine Fq ?_) | lk)
  have U:=st (NX c) U;repeat (first | (with_reducible refine HI ?_) | lk)
  refine R8 (λc=>?_) λc=>?_
  ·have U:=st (NW c) U;repeat (first | exact U _ | (with_reducible refine Fq ?_) | lk)
  have U:=st (NX c) U;repeat (first | (with_reducible refine HI ?_) | lk)
  refine R8 (λc=>?_) λc=>?_
  ·repeat (first | exact U _ | (with_reducible refine Fq ?_) | lk)
  have U:=st (q:=False) ⟨λh=>Br _ (Ft c▸h),tS⟩ U;repeat (first | exact U _ | lk)
 unfold callSpecialIfBound? aeF rj;repeat lk
 refine ae (Z7 ..) ?_;split
 ·repeat (first | exact h _ | (with_reducible refine fin _ _ λtk=>?_) | (with_reducible refine wK ?_) | lk)
 ·refine Rp ?_;repeat (first | exact h _ | (with_reducible refine fin _ _ λtk=>?_) | (with_reducible refine wK ?_) | lk)
end
end Internal.Mine
end
section
open PySem PySem.W PyProof.Rows
namespace Internal.Srt
noncomputable def run {α:Type}(lt:Nat->Nat->Bool):nE α->α:=@λA=>match A with
 |.ret a=>a
 |.ask i j k=>run lt (k (lt i j))
theorem run_bind {α β:Type}(lt:Nat->Nat->Bool) (f:α->nE β):∀t:nE α,run lt (t.bind f)=run lt (f (run lt t)):=@λA=>match A with
 |.ret a=>rfl
 |.ask i j k=>run_bind lt f (k (lt i j))
def Valid {α:Type}(n:Nat) (R:α->Prop):nE α->Prop:=@λA=>match A with
 |.ret a=>R a
 |.ask i j k=>i<n/\j<n/\∀b,Valid n R (k b)
theorem Valid.bind {α β:Type}{n:Nat}{R:α->Prop}{V:β->Prop}{f:α->nE β}:∀{t:nE α},Valid n R t->(∀a,R a->Valid n V (f a))->Valid n V (t.bind f):=@λA B C=>match A,B,C with
 |.ret a,h,U=>U a h
 |.ask i j k,h,U=>(aL h.1 h.2.1 (λb=>Valid.bind (h.2.2 b) U))
theorem NY {α:Type}{Inv:ai->Prop}{n:Nat}{R:α->Prop}{Q:α->ai->Prop}
  (U:∀i j C s,i<n->j<n->Inv s->(∀V,Inv V->C (lt i j) V)->cmp i j C s):∀(t:nE α),Valid n R t->∀s,Inv s->(∀V,Inv V->Q (run lt t) V)->t.kasWp cmp Q s:=@λA B D F G=>match A,B,D,F,G with
 |.ret a,zz,s,hs,W=>W s hs
 |.ask i j k,hv,s,hs,W=>U i j _ s hv.1 hv.2.1 hs λV Fu=>NY U (k (lt i j)) (hv.2.2 _) V Fu W
def Bd (n:Nat) (p:Array Nat):Prop:=∀q,p.getD q 0<n
theorem Bd.perm {n:Nat}(h:Bd n p) (W:U.Perm p):Bd n U:=by
 intro q;have h0:=h p.size;have hz:p.getD p.size 0=0:=by simp [rk]
 rw [hz] at h0;by_cases V:q<U.size
 ·have e:U.getD q 0=U[q]:=by simp [rk,V]
  refine ae (e ..) ?_;have hm:U[q]∈p:=W.mem_iff.mp (Array.getElem_mem V);obtain ⟨j,hj,ej⟩:=Array.mem_iff_getElem.mp hm;have:=h j;have e2:p.getD j 0=p[j]:=by simp [rk,hj]
  rw [e2,ej] at this;exact this
 ·have e:U.getD q 0=0:=by simp [rk,V]
  refine ae (e ..) <| h0
section
variable {n:Nat}
theorem Fv (hb:Bd n p):∀f k,Valid n (λ_:Nat=>True) (kas_asc p f k):=@λA B=>match A,B with
 |0,k=>trivial
 |f+1,k=>(aL (hb _) (hb _) (λb=>by cases b <;> simp only [if_true,kY,if_false] <;> first | exact trivial | exact Fv hb f (k+1)))
theorem vE (hb:Bd n p) (i j:Nat):Bd n (tT p i j):=hb.perm (mirror_perm _ _ _ _)
theorem zW:∀f (p:Array Nat) k q,Bd n p->Valid n (λr:Array Nat×Nat×Nat=>Bd n r.1) (kas_desc f p k q):=@λA B C D F=>match A,B,C,D,F with
 |0,p,k,q,hb=>hb
 |f+1,p,k,q,hb=>by
  refine aL (hb _) (hb _) (λb=>?_);cases b with
  |true=>
   simp only [if_true];split
   ·exact zW f _ _ _ (vE hb _ _)
   ·exact zW f _ _ _ hb
  |false=>
   simp only [kY,if_false];refine aL (hb _) (hb _) (λc=>?_);cases c with
   |true=>simp only [if_true];exact hb
   |false=>simp only [kY,if_false];exact zW f _ _ _ hb
theorem NZ (hb:Bd n p) (m U:Nat):Valid n (λr:Nat×Array Nat=>Bd n r.2) (R9 m U p):=
 (Fv (vE hb 0 m) _ _).bind λzz zz=>vE hb 0 m
theorem N5 (hb:Bd n p) (m U:Nat):Valid n (λr:Nat×Array Nat=>Bd n r.2) (kas_descPart m U p):=
 (zW _ _ _ _ hb).bind λr V=>by
  split
  ·exact NZ (vE V _ _) _ _
  ·exact NZ V _ _
theorem v_count (hb:Bd n p) (U:Nat):Valid n (λr:Nat×Array Nat=>Bd n r.2) (Sa U p):=
 (Fv hb _ _).bind λm zz=>by
  split
  ·exact hb
  ·split
   ·refine aL (hb _) (hb _) (λb=>?_);cases b with
    |true=>simp only [if_true];exact hb
    |false=>simp only [kY,if_false];exact N5 (vE hb _ _) _ _
   ·exact N5 hb _ _
theorem N6 (hb:Bd n p) (k:Nat):∀f l r,Valid n (λ_:Nat=>True) (Sb p k f l r):=@λA B C=>match A,B,C with
 |0,l,r=>trivial
 |f+1,l,r=>by
  show Valid n _ (if l≥r then _ else _)
  split
  ·exact trivial
  ·refine aL (hb _) (hb _) (λb=>?_);cases b <;> simp only [if_true,kY,if_false] <;> exact N6 hb k f _ _
theorem N7:∀f (p:Array Nat) k,Bd n p->Valid n (λr:Array Nat=>Bd n r) (kas_bin f p k):=@λA B C D=>match A,B,C,D with
 |0,p,k,hb=>hb
 |f+1,p,k,hb=>(N6 hb k k 0 k).bind λl zz=>N7 f _ _ (hb.perm (Se _ _ _))
theorem Z8 (hn:0<n):Bd n (Sf (iR n)):=λq=>by
 by_cases U:q<n
 ·simp [rk,U]
 ·simp [rk,U,hn]
theorem Z9 (hn:0<n):Valid n (λr:Array Nat=>Bd n r) (Bt n):=
 (v_count (Z8 hn) n).bind λr U=>by
  split
  ·exact N7 _ _ _ U
  ·exact U
end
section
variable (v:Nat->Nat)
noncomputable def G (p:Array Nat) (q:Nat):Nat:=v (p.getD q 0)
def jw (p:Array Nat):Prop:=(p.toList.map v).Nodup
def qG (p:Array Nat) (k:Nat):Prop:=∀i j,i<j->j<k->G v p i<G v p j
noncomputable def fZ (i j:Nat):Bool:=decide (v i<v j)
variable {v}
theorem jw.perm (h:jw v p) (U:V.Perm p):jw v V:=(U.toList.map v).nodup_iff.mpr h
theorem jw.ne {i j n:Nat}(h:jw v p) (hz:p.size=n) (hi:i<n) (V:j<n) (U:i≠j):G v p i≠G v p j:=λe=>U <| by
 subst hz;have g:∀{i},i<p.size->(p.toList.map v)[i]? = some (G v p i):=λhi=>by simp [G,rk,hi]
 exact (tK (by simpa using hi) h).mp (by exact ae (g hi ..) (ae (g V ..) (ae (e ..) rfl)))
theorem jw.lt {i j n:Nat}(h:jw v p) (hz:p.size=n) (hi:i<n) (V:j<n) (U:i≠j) (hn:¬G v p i<G v p j):G v p j<G v p i:=
 Nat.lt_of_le_of_ne (HJ hn) (h.ne hz V hi (cR U))
theorem vF (h:p[i]? = U[j]?):G v p i=G v U j:=by
 unfold G;have e:∀(a:Array Nat) (q:Nat),a.getD q 0=(a[q]?).getD 0:=λa q=>by simp
 exact ae (e ..) (ae (e ..) (ae (h ..) rfl))
theorem aab (hs:k<p.size) (hx:x<=k) (q:Nat):(q<x->G v (HK p k (k-x)) q=G v p q)/\G v (HK p k (k-x)) x=G v p k/\(x<=q->q<k->G v (HK p k (k-x)) (q+1)=G v p q):=by
 have e:=λq=>getElem?_bubble hs (k-x) (l7 k x) q;rw [Nat.sub_sub_self hx] at e;refine aL (λh=>vF ((e q).trans ?_)) (vF ((e x).trans (if_pos rfl))) (λU V=>vF ((e (q+1)).trans ?_))
 ·exact ae (if_neg (cy h) ..) (ae (if_neg λg=>HL h g.1 ..) rfl)
 ·refine ae (if_neg (nF (w8 U)) ..) (ae (if_pos ⟨w8 U,V⟩ ..) ?_);rfl
theorem N8 (U:j<=p.size) (k:Nat):(∀x,k+x+1=j->G v (tT p 0 j) k=G v p x)/\(j<=k->G v (tT p 0 j) k=G v p k):=by
 have e:=getElem?_mirror_all (xs:=p) (i:=0) U k;refine ⟨λx h=>vF (e.trans ?_),λh=>vF (e.trans (if_neg λg=>aeH h g.2))⟩;refine ae (if_pos ⟨bA _,by exact (fR (dk (ba _ _) (nf _)) (dm h))⟩ ..) <| ae (show 0+j-1-k=x by exact (aN (dD (.u (.q .d (.S (.a .f .c))) (.q (.a .b .f) .h) (.q (.S .h) (.a .z .d))) .b .c rfl (aC h) (aE (Jm h (aE (xC h)).symm)) (aE (xC h))) (dD (.u (.q (.S (.a .d .b)) .f) (.q .h (.a .c .d)) (.q (.a .z .f) (.S .h))) .b .c rfl h (aE (Jm h (aE (xC h)).symm)).symm (aE (xC h)).symm))) rfl
theorem Fw (h:∀q,q+1<k->G v p q<G v p (q+1)):qG v p k:=by
 intro i j U;induction j with
 |zero=>exact absurd U (wy i)
 |succ j W=>
  intro V;have s:=h j V;rcases rm (tA U) with e | e
  ·exact fb (W e (aeI V)) s
  ·clear W U V;subst e;exact s
theorem vG {α:Type}{x y:nE α}(h:G v p i<G v p j):run (fZ v) (if fZ v (p.getD i 0) (p.getD j 0)=true then x else y)=run (fZ v) x:=by
 exact congrArg _ (if_pos (decide_eq_true h))
theorem Fx {α:Type}{x y:nE α}(h:¬G v p i<G v p j):run (fZ v) (if fZ v (p.getD i 0) (p.getD j 0)=true then x else y)=run (fZ v) y:=by
 exact congrArg _ (if_neg λg=>h (of_decide_eq_true g))
theorem Fy {P:Nat->Prop}(h0:P k) (h:∀q,k+1<=q->q<m->P q):∀q,k<=q->q<m->P q:=λq U V=>by
 rcases rm U with e | e
 ·exact h q e V
 ·clear U V;subst e;exact h0
theorem vH {P:Nat->Prop}(k:Nat):∀q,k<=q->q<k->P q:=λzz U V=>absurd U (Nat.not_le_of_lt V)
theorem FA (p:Array Nat):∀f k,∃m,run (fZ v) (kas_asc p f (k+1))=m+1/\k<=m/\m<=k+f/\(∀q,k<=q->q<m->¬G v p (q+1)<G v p q)/\(m<k+f->G v p (m+1)<G v p m):=@λA B=>match A,B with
 |0,k=>(xO k rfl (aK _) (aK _) (vH k) (λh=>absurd h (jD k)))
 |f+1,k=>by
  by_cases h:G v p (k+1)<G v p k
  ·exact xO k (vG h) (aK _) (ba _ _) (vH k) (λzz=>h)
  ·refine CK (FA p f (k+1)) λm e W U h3 V=>?_;rw [G5 k 1 f] at U V;exact xO m ((Fx h).trans e) (HM W) U (Fy h h3) V
theorem N9 (p:Array Nat) {n:Nat}(hz:p.size=n) (hd:jw v p):∀f k,k+f<n->∃m,run (fZ v) (kas_desc f p (k+1) 0)=(p,m+1,0)/\k<=m/\m<=k+f/\(∀q,k<=q->q<m->G v p (q+1)<G v p q):=@λA B C=>match A,B,C with
 |0,k,zz=>(jH k rfl (aK _) (aK _) (vH k))
 |f+1,k,hn=>by
  by_cases h:G v p (k+1)<G v p k
  ·refine gk (N9 p hz hd f (k+1) (IB hn)) λm e V U W=>?_;rw [G5 k 1 f] at U;refine jH m ((vG h).trans ?_) (HM V) U (Fy h W);refine ae (if_neg (jD 0) ..) <| e
  ·exact jH k ((Fx h).trans (vG (hd.lt hz (dQ (.k (.a .b (.S .d)) .c) (.S .b) .c rfl hn) (eN (.t (.k (.a .d (.S .f)) .c) (.q (.S .b) (.S .d))) .b .c rfl hn (aE (um))) (AU k) h))) (aK _) (ba _ _) (vH k)
theorem aac {m n:Nat}(hz:p.size=n) (hd:jw v p) (W:m<n) (U:∀q,q<m->G v p (q+1)<G v p q) :
  ∃c p',run (fZ v) (R9 (m+1) n p)=(c+1,p')/\c<n/\qG v p' (c+1)/\p'.Perm p:=by
 have hp:(tT p 0 (m+1)).Perm p:=mirror_perm _ _ _ _;have iJ:=hd.perm hp;have hz':(tT p 0 (m+1)).size=n:=hp.size_eq.trans hz;refine CK (FA (v:=v) (tT p 0 (m+1)) (n-(m+1)) m) λc e c1 c2 c3 c4=>?_;have c2:c<n:=by exact (eN (.t (.l .b (.a .d .f)) (.q (.a .f (.S .d)) .c)) .b .c rfl c2 (aE (A4 W)))
 refine i4 c (tT p 0 (m+1)) ?_ c2 (Fw λq V=>?_) hp
 ·unfold R9;refine ae (run_bind ..) (ae (e ..) ?_);rfl
 ·have V:=Be V;by_cases hq:q<m
  ·obtain ⟨x,rfl⟩:∃x,m=q+1+x:=⟨m-(q+1),(Hp hq).symm⟩;refine ae ((N8 (aD W (dm hz.symm)) q).1 (x+1) (aN (cp .z (.S (.a .b (.S .c))) (.S (.a (.S .b) .c)) rfl) (cp .z (.S (.a (.S .b) .c)) (.S (.a .b (.S .c))) rfl)) ..) (ae ((N8 (aD W (dm hz.symm)) (q+1)).1 x rfl ..) ?_);exact U x (cM .z .b (.a (.S .c) .b) rfl)
  ·exact iJ.lt hz' (dk V c2) (fb V c2) (AU q) (c3 q (HJ hq) V)
theorem aad {n:Nat}(hz:p.size=n+1) (hd:jw v p):∃c p',run (fZ v) (Sa (n+1) p)=(c+1,p')/\c<n+1/\qG v p' (c+1)/\p'.Perm p:=by
 refine CK (FA (v:=v) p n 0) λm e m1 m2 m3 m4=>?_;rw [jf] at m2 m4;have U:m<n+1:=w8 m2;have hs:qG v p (m+1):=Fw λq V=>
  have V:=Be V
  hd.lt hz (dk V U) (fb V U) (AU q) (m3 q (bA q) V)
 unfold Sa;refine ae (run_bind ..) (ae (show run (fZ v) (kas_asc p (n+1-1) 1)=m+1 from e) ?_);by_cases h1:m=n
 ·clear hz e m2 m4;subst h1;refine ae (if_pos (beq_self_eq_true _) ..) <| i4 m p rfl U hs (HN _)
 ·refine ae (if_neg (λh=>h1 (jC (eq_of_beq h))) ..) ?_;by_cases W:m+1 > 1
  ·refine ae (if_pos W ..) <| i4 m p (vG (hs 0 m (Be W) (nf m))) U hs (HN _)
  ·refine ae (if_neg W ..) ?_;have hm1:m=0:=Hv.mp (tw (HJ W));clear e m1 m2 m3 U hs W;subst hm1;have hn:0<n:=Nat.pos_of_ne_zero λg=>h1 g.symm;have b8:=m4 hn;refine gk (N9 p hz hd (n-1) 1 (cM (.q (.S .b) .c) (.a .u .b) (.S .c) rfl (aE (ur hn)))) λk e2 k1 k2 k3=>?_;unfold kas_descPart;refine ae (run_bind ..) (ae (show n+1-(0+1+1)=n-1 from rfl) (ae (e2 ..) ?_));exact aac hz hd (dQ (.t (.l .b (.a .u .d)) (.q (.S .d) .c)) .b (.S .c) rfl k2 (aE (ur hn))) (λq q2=>Fy (P:=λq=>G v p (q+1)<G v p q) b8 k3 q (bA q) q2)
theorem FC {k n:Nat}(hz:p.size=n) (hd:jw v p) (hk:k<n) (hs:qG v p k):∀f l r,l<=r->r<=k->r<=l+f->(∀q,q<l->G v p q<G v p k)->(∀q,r<=q->q<k->G v p k<G v p q)->
  ∃x,run (fZ v) (Sb p k f l r)=x/\x<=k/\(∀q,q<x->G v p q<G v p k)/\(∀q,x<=q->q<k->G v p k<G v p q):=@λA B C D F H J K=>match A,B,C,D,F,H,J,K with
 |0,l,r,h1,h2,h3,a1,a2=>(jH l rfl (aD h1 h2) a1 (λq V W=>a2 q (aD h3 V) W))
 |f+1,l,r,h1,h2,h3,a1,a2=>by
  show ∃x,run (fZ v) (if l≥r then _ else _)=x/\_
  by_cases U:l≥r
  ·rw [if_pos U];exact jH l rfl (aD h1 h2) a1 (λq V W=>a2 q (aD U V) W)
  ·rw [if_neg U];obtain ⟨x,hx,x1,x2,x3⟩:∃x,(l+r) / 2=x/\l<=x/\x<r/\r<=x+(f+1)/\x<=l+f:=(xO _ rfl (eM (.c3 _ _ _) .z 2 (.t (.k .b .d) (.k (.a .b .d) (.a (.r .c 2) (.n 2)))) .b .c rfl (dg.mp U) (Lin.dv _ _ (by decide))) (ji (.c3 _ _ _) .z 2 (.t (.k .d .c) (.l (.r .b 2) (.a .d .c))) .b .c rfl (dg.mp U) (aeJ _ _)) (eM (.c4 _ _ _ _) .z 2 (.t (.l .b (.a .f (.S .d))) (.k (.a .f .b) (.a (.r .c 2) (.n 2)))) .b (.a .c (.S .d)) rfl h3 (Lin.dv _ _ (by decide))) (eM (.c4 _ _ _ _) .z 2 (.t (.l .f (.a .c (.S .d))) (.l (.r .b 2) (.a .c .f))) .b (.a .c .d) rfl h3 (aeJ _ _)))
   have xk:x<k:=fR x2 h2;refine ae (hx ..) ?_;refine (?_:∃y,run (fZ v) (if fZ v (p.getD k 0) (p.getD x 0)=true then _ else _)=y/\_);by_cases h:G v p k<G v p x
   ·refine ae (vG h ..) <| FC hz hd hk hs f l x x1 (cA xk) x3.2 a1 λq V W=>?_;clear hx x1 x2 x3 xk;rcases rm V with e | e
    ·exact fb h (hs _ q e W)
    ·clear V W;subst e;exact h
   ·refine ae (Fx h ..) ?_;have h':G v p x<G v p k:=hd.lt hz hk (fb xk hk) (nF xk) h;refine FC hz hd hk hs f (x+1) r x2 h2 (xD x3.1) (λq V=>?_) a2;clear hx x1 x2 x3 h;rcases rm (tA V) with e | e
    ·exact fb (hs q _ e xk) h'
    ·subst e;exact h'
theorem Oa {n:Nat}:∀f (p:Array Nat) k,p.size=n->k+f=n->jw v p->qG v p k->∃V,run (fZ v) (kas_bin f p k)=V/\qG v V n/\V.Perm p:=@λA B C D F G H=>match A,B,C,D,F,G,H with
 |0,p,k,hz,hk,hd,hs=>(dq p rfl (by refine ae (hk ..).symm <| hs) (HN _))
 |f+1,p,k,hz,hk,hd,hs=>by
  have W:k<n:=by exact (Jg hk)
  refine gk (FC hz hd W hs k 0 k (bA _) (aK _) (Sg _ _) (λq h=>absurd h (wy q)) (vH k)) λx e x1 x2 x3=>?_;have hb:=λq=>aab (v:=v) (p:=p) (Nat.lt_of_lt_of_eq W hz.symm) x1 q;refine ef (Oa (n:=n) f (HK p k (k-x)) (k+1) (by refine ae (bubble_size ..) <| hz) (aN (Jh hk) (Ji (aC hk))) (hd.perm (Se _ _ _)) (Fw λq U=>by
   have U:=Be U;clear e;rcases HO q x with h | h | h
   ·refine ae ((hb q).1 h ..) ?_;rcases rm (Nat.succ_le_of_lt h) with g | g
    ·refine ae ((hb (q+1)).1 g ..) <| hs _ _ (nf q) (fR g x1)
    ·refine ae (show q+1=x from g) (ae ((hb x).2.1 ..) ?_);exact x2 q h
   ·subst h;refine ae ((hb q).2.1 ..) (ae ((hb q).2.2 (aK q) U ..) ?_);exact x3 q (aK q) U
   ·cases q with
    |zero=>exact absurd h (wy x)
    |succ q=>
     have h:=tA h;refine ae ((hb q).2.2 h (aeI U) ..) (ae ((hb (q+1)).2.2 (tF h) U ..) ?_);exact hs _ _ (nf q) U)) λV e' s' pm=>?_
  refine dq V ?_ s' (pm.trans (Se _ _ _));refine (?_:run (fZ v) ((Sb p k k 0 k).bind _)=V);refine ae (run_bind ..) (ae (e ..) ?_);exact e'
theorem aae {n:Nat}(hn:1<=n) (U:∀i j,i<n->j<n->i≠j->v i≠v j):∃p,run (fZ v) (Bt n)=p/\p.toList.Perm (iR n)/\(∀i j,i<j->j<n->v (p.getD i 0)<v (p.getD j 0)):=by
 cases n with
 |zero=>exact absurd hn (aeK 0)
 |succ n=>
 have hd:jw v (Sf (iR (n+1))):=rh.mpr (aff (λ{i j} hi hj h=>U i j (pO.mp hi) (pO.mp hj) (cy h)) List.pairwise_lt_range);have V:(Sf (iR (n+1))).size=n+1:=pK;refine nQ (aad V hd) λc p' e c1 hs hp=>?_;have hl:∀{q:Array Nat},q.Perm p'->q.toList.Perm (iR (n+1)):=λh=>(h.trans hp).toList;unfold Bt;refine ae (run_bind ..) (ae (e ..) ?_);by_cases hc:c+1<n+1
 ·refine ae (if_pos hc ..) ?_;have W:max (c+1) 1=c+1:=aeL (gY (bA c));dsimp only;refine ae (W ..) <| ef (Oa (n+1-(c+1)) p' (c+1) (hp.size_eq.trans V) (Hp c1) (hd.perm hp) hs) λp2 e2 s2 pm=>dq p2 e2 (hl pm) s2
 ·refine ae (if_neg hc ..) ?_;have:c=n:=aN (tA c1) (tw (HJ hc));clear hn U hd V e c1 hp hc;subst this;exact dq p' rfl (hl (HN _)) hs
end
end Internal.Srt
end
section
open PySem PySem.W PySem.Calls PyProof.Rows
open Mine
namespace Internal.Mine
theorem Ob {E:af->ai->Prop}{P:PySem.Fin->ai->Prop}(ho:s.heap.get? a=some (fc "list" vs.toArray n)) (h2:vs.length<2)
  (h:P (.done (.ret .none)) {s with heap:=Sh s.heap a vs vs.toArray}):aA (az prog w) A (bY.«list.sort» ⟨[.ref a],[]⟩) P E s:=by
 refine ae (list_sort_plain ..) ?_;have ha:a<s.heap.objs.size:=aq.lt_size ho;refine au (listItems_at ho rfl ?_);refine au (listUpdate_at ho rfl ?_);obtain ⟨e1,V⟩:∃e1,(s.heap.update a (ay.mapSeq λzz=>#[])).get? a=some (fc "list" #[] e1):=⟨_,Si ho (λzz=>#[])⟩;refine au (seqEpoch_at V rfl ?_);refine au (wpAny_newTuple ?_ (by unfold cc;simp;omega))
 refine au (wpAny_newList ?_);refine fo ?_;have W:(((s.heap.update a (ay.mapSeq λzz=>#[])).push (fc "tuple" vs.toArray 0)).push (fc "list" #[] 0)).get? a=some (fc "list" #[] e1):=by
  rw [aq.get?_push_ne _ _ _ (by refine ae (size_push' ..) (ae (aq.size_update ..) ?_);exact cy (pL ha)),aq.get?_push_ne _ _ _ (by refine ae (aq.size_update ..) <| cy ha)]
  exact V
 refine (?_:aA (az prog w) A _ P E {s with heap:=((s.heap.update a (ay.mapSeq λzz=>#[])).push (fc "tuple" vs.toArray 0)).push (fc "list" #[] 0)})
 dsimp only;have hsz:vs.toArray.size<2:=by simpa using h2
 refine ae (if_pos hsz ..) (ae (if_pos hsz ..) ?_);refine au (aZ ?_);refine ae (StateT.run_pure ..) <| au (aZ ?_);dsimp only;refine au (seqEpoch_at W rfl ?_);have aaf:(vs.toArray.zip vs.toArray).map (·.2)=vs.toArray:=by
  refine ae (List.zip_toArray ..) (ae (List.map_toArray ..) ?_)
  congr 1
  exact List.map_snd_zip (aK _)
 have U:(arrOf (SortSt.mk' general' (vs.toArray.zip vs.toArray) #[] 7 none)).map (·.2)=vs.toArray:=aaf;refine au (listUpdate_at W rfl ?_ (hsz2:=by refine ae (U ..) (ae (Sj ..) ?_);simp;lia))
 simp only [bne_self_eq_false,kY,if_false];refine aZ <| ae (show (λx:Array af=>(arrOf (SortSt.mk' general' (vs.toArray.zip vs.toArray) #[] 7 none)).map (·.2))=λzz=>vs.toArray from funext λzz=>U) <| h
section
variable {α:Type}{D:α->ah}{R:α->α->Prop}{rs ts:List α}{vs:List af}{P:Fz}
theorem aag (as:∀{a b:α},R a b->¬R b a) (W:rs.Perm ts) (hs:ts.Pairwise R):∃v:Nat->Nat,∀i j a b,rs[i]? = some a->rs[j]? = some b->i≠j->v i≠v j/\(v i<v j->R a b):=by
 have ex:∀i:Nat,∃j:Nat,∀a,rs[i]? = some a->ts[j]? = some a:=λi=>by
  cases h:rs[i]? with
  |none=>exact ⟨0,λzz e=>El.ns e⟩
  |some a=>
   refine El.ea (List.mem_iff_getElem?.mp (W.mem_iff.mp (d6 h))) λj e=>⟨j,λzz q=>dJ q▸e⟩
 refine El.ea (Classical.skolem.mp ex) λv U=>?_;have nd:rs.Nodup:=W.nodup_iff.mpr (afg (S:=λa b=>a≠b) (λ{a b} h e=>as h (by subst e;exact h)) hs)
 refine ⟨v,λi j a b hi V n=>⟨λe=>n ?_,λh=>?_⟩⟩
 ·refine (tK (dU.mp hi).1 nd).mp (hi.trans (.trans ?_ V.symm));exact (U i a hi).symm.trans ((congrArg (ts[·]?) e).trans (U j b V))
 ·obtain ⟨l1,e1⟩:=dU.mp (U i a hi);obtain ⟨l2,e2⟩:=dU.mp (U j b V);have:=aeM.mp hs _ _ l1 l2 h;rw [e1,e2] at this;exact this
theorem Oc {z:α}(d:aU P vs (rs.map D)):∀l:List Nat,(∀i∈l,i<rs.length)->aU P (l.map λi=>vs.getD i .none) ((l.map λi=>rs.getD i z).map D):=@λA B=>match A,B with
 |[],zz=>rfl
 |i::l,hl=>by
  have h:=eC (hl i (.head _));refine ar (d.get (i:=i) (b:=D (rs[i]'(hl i (.head _)))) (by rw [fQ,h];rfl)) λv U V=>?_
  refine ⟨?_,Oc d l λj W=>hl j (.tail _ W)⟩;refine (?_:Dat P (vs.getD i .none) (D (rs.getD i z)));rw [iW,iW,U,h];exact V
theorem Oe {z:α}{Inv:ai->Prop}(as:∀{a b:α},R a b->¬R b a) (hd:aU P vs (rs.map D)) (h1:1<=vs.length) (hp:rs.Perm ts) (hs:ts.Pairwise R)
  (aah:∀i j a b (c:Bool) C s,rs[i]? = some a->rs[j]? = some b->Inv s->(c=true->R a b)->(c=false->i=j∨R b a)->(∀U,Inv U->C c U)->cmp i j C s) (hi:Inv s)
  (hQ:∀p U,Inv U->aU P (p.toList.map λi=>vs.getD i .none) (ts.map D)->Q p U):(Bt vs.length).kasWp cmp Q s:=by
 have hl:vs.length=rs.length:=hd.len.trans (aY ..);refine El.ea (aag as hp hs) λv hv=>?_;have V:∀i,i<vs.length->∃a,rs[i]? = some a:=λi h=>⟨_,eC (hl▸h)⟩;refine ef (Srt.aae (v:=v) h1 λi j hi W n=>(V i hi).elim λa ha=>(V j W).elim λb hb=>(hv i j a b ha hb n).1) λp ep pp ps=>Srt.NY (lt:=Srt.fZ v) (Inv:=Inv) (n:=vs.length) (λi j C U hi W hI hC=>?_) (Bt vs.length) (Srt.Z9 h1) _ hi λU hI=>?_
 ·refine El.ea (V i hi) λa ha=>El.ea (V j W) λb hb=>aah i j a b (decide (v i<v j)) C U ha hb hI (λh=>?_) (λh=>?_) hC
  ·have h:=of_decide_eq_true h;exact (hv i j a b ha hb λe=>jD _ (e▸h)).2 h
  ·by_cases e:i=j
   ·exact .inl e
   ·have:=hv i j a b ha hb e;exact .inr ((hv j i b a hb ha λq=>e q.symm).2 ((kR this.1).elim (λq=>absurd q (of_decide_eq_false h)) id))
 ·refine ae (ep ..) ?_;rw [hl] at pp ps;refine hQ p U hI ?_;have hm:=Oc (z:=z) hd p.toList λi hi=>pO.mp (pp.mem_iff.mp hi);have aai:(p.toList.map (λi=>rs.getD i z)).Perm ts:=by
   have:=pp.map (λi=>rs.getD i z);rw [show (iR rs.length).map (λi=>rs.getD i z)=rs from List.ext_getElem (by simp) λi h1 h2=>by simp [h2]] at this
   exact this.trans hp
  have hz:p.toList.length=rs.length:=pp.length_eq.trans pK;have:p.toList.map (λi=>rs.getD i z)=ts:=by
   refine List.Perm.eq_of_pairwise (le:=R) (λa b zz zz h1 h2=>absurd h2 (as h1)) ?_ hs aai;rw [rh,aeM];intro i j hi W zX;have e:∀k (hk:k<p.toList.length),p.getD k 0=p.toList[k]/\p.toList[k]<rs.length:=λk hk=>⟨by simp [rk,(show k<p.size from hk)],pO.mp (pp.mem_iff.mp (aeB hk))⟩
   have lt:=ps i j zX (hz▸W);rw [(e i hi).1,(e j W).1] at lt;have g:∀{k:Nat},k<rs.length->rs[k]? = some (rs.getD k z):=λh=>by rw [iW,eC h];rfl
   exact (hv _ _ _ _ (g (e i hi).2) (g (e j W).2) λq=>absurd lt (by refine ae (q ..) <| jD _)).2 lt
  exact this▸hm
theorem Of (U:rs.Perm ts) (h:rs.length<2):rs=ts:=by
 cases rs with
 |nil=>exact U.symm.eq_nil.symm
 |cons c r=>
  cases r with
  |nil=>exact (List.perm_singleton.mp U.symm).symm
  |cons d r=>exact absurd h (aeH (Sg 2 _))
end
theorem Og {h₀ H:aq}{L D:ak}{vs:List af}(F:Fr h₀ L H m) (N:aI h₀ L H news) (ho:H.get? D=some (fc "list" vs.toArray n)) (hD:D≠L) (U:h₀.get? D=none) (V:∀p∈news,p.1≠D) :
  Fr h₀ L (Sh H D vs vs.toArray) m/\∃e2,aI h₀ L (Sh H D vs vs.toArray) ((D,W.listOf vs.toArray e2)::news):=by
 have s1:=aq.SameBut.update H D (ay.mapSeq λzz=>(#[]:Array af));have F1:=((kas_fr F s1 hD U).push (fc "tuple" vs.toArray 0)).push (fc "list" #[] 0);have N1:=(kas_news N s1 V).grown λb x e=>aq.get?_push_of_some (fc "list" #[] 0) (aq.get?_push_of_some (fc "tuple" vs.toArray 0) e);have s2:=aq.SameBut.update (((H.update D (ay.mapSeq λzz=>(#[]:Array af))).push (fc "tuple" vs.toArray 0)).push (fc "list" #[] 0)) D (ay.mapSeq λzz=>vs.toArray);have ho3:=aq.get?_push_of_some (fc "list" #[] 0) (aq.get?_push_of_some (fc "tuple" vs.toArray 0) (Si ho λzz=>#[]));exact ⟨kas_fr F1 s2 hD U,_,(cz.mpr ⟨(aL (Si ho3 λzz=>vs.toArray) hD U),kas_news N1 s2 V⟩)⟩
noncomputable def lR (h₀ h:aq) (L:ak):Led:=(iR h.objs.size).filterMap λa=>(h.get? a).bind λo=>if a≠L/\h₀.get? a=none then some (a,o) else none
section
variable {h₀ h h':aq}{L a b:ak}{o:ay}{m:ag->Option af}
theorem Oh (e:h.get? a=some o) (n1:a≠L) (n2:h₀.get? a=none):(a,o)∈lR h₀ h L:=
 Hj.mpr (av a (pO.mpr (aq.lt_size e)) (by refine ae (e ..) <| if_pos ⟨n1,n2⟩))
theorem FD:aI h₀ L h (lR h₀ h L):=λp U=>by
 refine ar (Hj.mp U) λa zz e=>?_;cases e1:h.get? a with
 |none=>rw [e1] at e;exact El.ns e
 |some o=>
  rw [e1] at e;by_cases c:a≠L/\h₀.get? a=none
  ·have e:(if a≠L/\h₀.get? a=none then some (a,o) else none)=some p:=e;rw [if_pos c] at e;clear U;cases e;exact ⟨e1,c⟩
  ·have e:(if a≠L/\h₀.get? a=none then some (a,o) else none)=some p:=e;rw [if_neg c] at e;exact El.ns e
theorem FE (F:Fr h₀ L h m) (U:Fr h₀ L h' m) (N:aI h₀ L h' (lR h₀ h L)):∀b o,b≠L->h.get? b=some o->h'.get? b=some o:=λb o n e=>by
 cases c:h₀.get? b with
 |none=>exact (N _ (Oh e n c)).1
 |some V=>exact (U.keep _ _ c).trans ((F.keep _ _ c).symm.trans e)
theorem FF (n1:a≠L) (n2:h₀.get? a=none) (hl:∀p∈lR h₀ h L,p.1≠a):h.get? a=none:=by
 cases e:h.get? a with
 |none=>rfl
 |some o=>exact (hl _ (Oh e n1 n2) rfl).elim
end
section
variable {Kf:ja}{p:bM}{ls:List ag}{C:Cx}{D:Nat}{pg:bM}{w:aW}{f:ak}{sp:eF}
theorem aaj (hm:makesIn Kf 242=true) (hi:tL Kf (.ref 242) "__init__"=some (some (.ref f))) (hf:isFn Kf (.ref f)=true) (hM:qA Kf p ls pg w D (.ref f) sp) (e1:C.pg=pg) (e2:C.w=w) (W:Wo Kf p ls C (D+1+1)):DI C sp:=by
 intro P m vs ds k s Q F hP hd hs hQ;refine call_cls (news:=lR C.h₀ s.heap C.L) F W.X FD hm hi hf λx dx h1 F1 N1 b8 V=>?_;have N0:aI C.h₀ C.L h1 (lR C.h₀ s.heap C.L):=λq U=>N1 q (.tail _ (.tail _ U));have kp:=FE F F1 N0;have nx:=(N1 _ (.head _)).2;have nd:=(N1 _ (.tail _ (.head _))).2;have gd:s.heap.get? dx=none:=FF nd.1 nd.2 λp hp=>cy (b8 p hp);have gx:s.heap.get? x=none:=FF nx.1 nx.2 λp hp=>cy (fb (b8 p hp) V)
 let C':Cx:={C with A:=C.A.under (.builtin "type.__call__" ⟨.ref 242::vs,[]⟩)}
 have W':Wo Kf p ls C' D:=⟨W.X,W.T,W.hh,by
  have:=W.hd;refine (?_:C.A.depth+1+D<_);exact (dQ (.k (.a .b (.S (.S .c))) .d) (.a (.S .b) .c) .d rfl this),by
  have:=W.hu
  first | (refine (?_:C.A.units+1+3*D+64<_);omega) | (refine (?_:C.A.units+4+3*D+64<_);omega)⟩
 have ne:∀{a:ak}{o:ay},s.heap.get? a=some o->a∉[x,dx]:=λe h=>by
  clear N1 V nx;rcases aT.mp h with q | h
  ·rw [q,gx] at e;exact El.ns e
  ·rw [cQ.mp h,gd] at e;exact El.ns e
 refine hM C' e1 e2 W' P m (x,dx) [] [(x,gV 242 dx),(dx,gc [] 0)] vs ds _ _ _ F1 (λa o q=>(aL (hP a o q).1 (kp a o (hP a o q).1 (hP a o q).2) (ne (hP a o q).2))) (rL rfl [] 0 rfl rfl) (λq U=>N1 q ((bE (lR C.h₀ s.heap C.L) U))) (bR.mpr ⟨λh=>nF V (cQ.mp h),bR.mpr ⟨(λh=>El.nm h),gW⟩⟩) hd (hs (x,dx)) λu d ij O' T h' tk F' kq eO hO hT nT hI hu hk=>El.aa hk ?_;clear hk;intro bx hk;subst bx;cases hu
 have hT':∀q∈T,s.heap.get? q.1=none:=λq U=>by
  cases e:s.heap.get? q.1 with
  |none=>rfl
  |some o=>
   by_cases c:q.1=C.L
   ·refine ma F1.ns λoL a1 a2 hL a3=>?_;have:=hT q U;rw [c] at this;exact El.sn (hL.symm.trans this)
   ·exact El.sn ((kp _ _ c e).symm.trans (hT q U))
 refine ⟨rfl,hQ (x,dx) ij O' T h' tk F' (λb o n e=>kq b o n (ne e) (kp b o n e)) (λq U=>⟨hO q U,?_⟩) ?_ hI hk⟩
 ·rcases bT.mp U with U | U
  ·have:q.1∈adr O':=bf.mpr (av q U rfl);rw [eO] at this;rcases aT.mp this with e | h
   ·refine ae (e ..) <| gx
   ·refine ae (cQ.mp h ..) <| gd
  ·exact hT' q U
 ·refine (?_:(pI _ _).Nodup);refine ae (bH ..) <| ed.mpr (aL ?_ nT (λa ha b hb e=>?_))
  ·refine (?_:(adr O').Nodup);refine ae (eO ..) <| bR.mpr ⟨λh=>nF V (cQ.mp h),bR.mpr ⟨(λh=>El.nm h),gW⟩⟩
  ·subst e;refine ar (bf.mp hb) λq U eq=>?_;have g1:h1.get? a=none:=eq▸hT q U;have ha:a∈adr O':=ha;rw [eO] at ha;clear hb eq;rcases aT.mp ha with e | h
   ·rw [e,(N1 _ (.head _)).1] at g1;exact El.sn g1
   ·rw [cQ.mp h,(N1 _ (.tail _ (.head _))).1] at g1;exact El.sn g1
theorem aak (U:makesIn Kf 242=true) (hi:tL Kf (.ref 242) "__init__"=some (some (.ref f))) (V:isFn Kf (.ref f)=true) (hM:qA Kf p ls pg w D (.ref f) g.spec) (h1:rg Kf iA (ag.ofString "SequenceMatcher")=some (some (.ref 242))) (h2:Bf Kf (.ref 242)=true):zK Kf p ls pg w (D+1+1) g:=
 λzz C e1 e2 W=>(aL (aaj U hi V hM e1 e2 W) (EU W h1) (Nc W h2))
end
noncomputable def kH:List ah->List ah->Option Bool:=@λA B=>match A,B with
 |[],zz=>none
 |a::xs,ys=>match ys with
  |[]=>none
  |b::ys=>match a with
   |.int x=>(match b with
    |.int y=>if x=y then kH xs ys else some (decide (x<y))
    |_=>none)
   |_=>none
noncomputable def Oi:ah->List ah:=@λA=>match A with
 |.tuple xs=>xs
 |_=>[]
noncomputable abbrev vI (a b:ah):Option Bool:=kH (Oi a) (Oi b)
inductive sJ:ah->Prop
 |mk {n:Int}{xs:List ah}:(∀x∈ah.int n::xs,fw x)->sJ (.tuple (.int n::xs))
noncomputable def zY:iE:=(true,λds k=>∃rs ts,ds=[.list rs]/\(rs.Perm ts/\ts.Pairwise (λa b=>vI a b=some true)/\rs.length<64/\∀r∈rs,sJ r)/\k (.list ts))
theorem Oj (h:kH xs ys=some c):∃x y U V,xs=.int x::U/\ys=.int y::V/\((x=y/\kH U V=some c)∨(x≠y/\c=decide (x<y))):=by
 cases xs with
 |nil=>exact El.ns h
 |cons a xs=>cases ys with
  |nil=>exact El.ns h
  |cons b ys=>cases a with
   |int x=>cases b with
    |int y=>
     refine nU x y xs ys rfl rfl ?_;have h:(if x=y then kH xs ys else some (decide (x<y)))=some c:=h;by_cases e:x=y
     ·rw [if_pos e] at h;exact .inl ⟨e,h⟩
     ·rw [if_neg e] at h;exact .inr ⟨e,(dJ h).symm⟩
    |_=>exact El.ns h
   |_=>exact El.ns h
theorem zZ:∀{xs ys:List ah}{c:Bool},kH xs ys=some c->kH ys xs=some (!c):=@λA B C D=>match A,B,C,D with
 |[],zz,V,h=>El.ns h
 |a::xs,ys,c,h=>by
  refine iZ (Oj h) λx y W yr e1 U g=>?_;clear h;subst U;cases e1
  rcases g with ⟨rfl,g⟩ | ⟨n,rfl⟩
  ·exact (if_pos rfl).trans (zZ g)
  ·exact (if_neg λe=>n e.symm).trans (congrArg some (by rw [<-decide_not,decide_eq_decide];omega))
section
variable {prog:bM}{w:aW}{A:cD}{E:af->ai->Prop}{s:ai}{Q:Bool->ai->Prop}{P:Fz}{fin:Bool}
theorem Ol:∀{xs ys:List ah}{vs us:List af}{i:Nat}{c:Bool},aU P vs xs->aU P us ys->kH xs ys=some c->Q c s->KatLex prog w A true fin Q (vs.zip us) i s:=@λB C D F G H J K L M=>match B,C,D,F,G,H,J,K,L,M with
 |[],zz,zy,zx,zw,zv,zu,zt,h,zr=>El.ns h
 |a::xs,ys,vs,us,i,c,V,W,h,hq=>by
  refine iZ (Oj h) λx y xr yr e1 U g=>?_;clear h;subst U;cases e1
  cases vs with
  |nil=>exact cn V
  |cons v vs=>cases us with
   |nil=>exact cn W
   |cons u us=>
    refine El.ea V.1.jJ λt U=>?_;subst U;refine El.ea W.1.jJ λt' U=>?_;subst U;refine kat_cons (HI ?_);rcases g with ⟨rfl,g⟩ | ⟨n,rfl⟩
    ·refine ae (beq_self_eq_true ..) <| kat_yes (Ol V.2 W.2 g hq)
    ·refine ae (beq_eq_false_iff_ne.mpr n ..) <| kat_no ?_;cases i with
     |zero=>exact oneLt_int hq
     |succ i=>exact kat_one _ _ (PyProof.Rows.lt_int hq)
theorem Om (W:∀a o,P a o->s.heap.get? a=some o) (hu:A.units+64<qT):∀{xs:List ah}{vs:List af}{i:Nat},aU P vs xs->(∀x∈xs,fw x)->Q fin s->KatLex prog w A true fin Q (vs.zip vs) i s:=@λB C D F G H=>match B,C,D,F,G,H with
 |[],[],zz,zy,zx,V=>kat_nil V
 |[],zz::zy,zx,d,zw,zv=>(show False from d).elim
 |x::xs,vs,i,d,hx,V=>by
  cases vs with
  |nil=>exact cn d
  |cons v vs=>
   have sx:=hx x (.head _);have U:=SeqAt.canLay_of_shaped sx;refine El.ea (d.1.reads W (ah.hasDict_of_canLay _ U)) λas r=>kat_cons (SeqAt.eqBoolOverData _ _ _ _ _ _ _ _ _ _ _ _ r r U U (SeqAt.room_of_shaped sx hu) ?_);refine ae (SeqAt.eqv_refl _ U ..) <| kat_yes (Om W hu d.2 (λy hy=>hx y (.tail _ hy)) V)
end
theorem Oo {P:Fz}(W:∀a o,P a o->h.get? a=some o):∀{vs:List af}{rs:List ah},aU P vs rs->(∀r∈rs,sJ r)->∃fs,KatTups h vs fs/\(∀v∈fs,∃x t,v=.int x t)/\fs.length=vs.length:=@λA B C D=>match A,B,C,D with
 |[],zz,zy,zx=>(dq [] .nil (λzz h=>El.nm h) rfl)
 |zz::zy,[],d,zx=>(show False from d).elim
 |v::vs,r::rs,d,hr=>by
  refine ef (Oo W d.2 λr h=>hr r (.tail _ h)) λfs f1 f2 f3=>?_;have d1:=d.1;clear d;cases hr r (.head _) with
  |mk _=>
   refine aO d1.tupI λa ws U p V=>?_;subst U;cases ws with
   |nil=>exact cn V
   |cons u ws=>
    refine El.ea V.1.jJ λt U=>?_;clear V;subst U;exact dq (_::fs) (.cons (W _ _ p) rfl rfl rfl f1) (cz.mpr ⟨(Kb _ _ rfl),f2⟩) (congrArg l5 f3)
section
variable {prog:bM}{w:aW}{A:cD}{E:af->ai->Prop}{s:ai}{h₀:aq}{L:ak}{m:ag->Option af}{news:List (ak×ay)}
theorem aal {l:ak}{vs:List af}{Q:af->ai->Prop}(F:Fr h₀ L s.heap m) (N:aI h₀ L s.heap news) (hl:s.heap.IsList l vs.toArray) (h2:vs.length<2)
  (h:∀D h' n',Fr h₀ L h' m->aI h₀ L h' ((D,W.listOf vs.toArray n')::news)->(∀q∈news,q.1<D)->Q (.ref D) {s with heap:=h'}) :
  aA (az prog w) A (call (.builtin "sorted") [.ref l]) Q E s:=by
 refine Calls.call_function_entry kind_sorted plain_sorted entry_sorted (args_sorted1 _) ?_;unfold bY.«sorted»;refine au (m:=checkCount "sorted" 1 1 _) (aZ ?_);refine au (collect_list hl ?_ (by refine ae (Sj ..) ?_;omega))
 refine au (wpAny_newList ?_ (by refine ae (Sj ..) ?_;omega))
 have hsz:((s.heap.push (fc "list" #[] 0)).update s.heap.objs.size (ay.mapSeq (·++vs.toArray))).objs.size=s.heap.objs.size+1:=by
  exact ae (aq.size_update ..) (ae (size_push' ..) rfl)
 have V:(((s.heap.push (fc "list" #[] 0)).update s.heap.objs.size (ay.mapSeq (·++vs.toArray))).push (fc "list" vs.toArray 0)).get? (s.heap.objs.size+1)=some (fc "list" vs.toArray 0):=by
  refine ae (hsz ..).symm <| aq.get?_push_size _ rfl
 have keep:∀b o,s.heap.get? b=some o->(((s.heap.push (fc "list" #[] 0)).update s.heap.objs.size (ay.mapSeq (·++vs.toArray))).push (fc "list" vs.toArray 0)).get? b=some o:=λb o q=>by
  have U:b<s.heap.objs.size:=aq.lt_size q;rw [aq.get?_push_ne _ _ _ (by refine ae (hsz ..) <| cy (pL U)),aq.get?_update_ne _ _ _ _ (cy U),aq.get?_push_ne _ _ _ (cy U)]
  exact q
 have hL:L<s.heap.objs.size:=F.ns.lt;have U:∀q∈news,q.1<s.heap.objs.size+1:=λq hq=>pL (aq.lt_size (N q hq).1);obtain ⟨F2,e2,N2⟩:=Og (F.kept keep) (N.grown keep) V (nF (pL hL)) (aq.get?_none_of_le (aD F.above (tF (cA hL)))) λp hp=>cy (U p hp);refine (?_:aA _ _ _ _ _ {s with heap:=((s.heap.push (fc "list" #[] 0)).update s.heap.objs.size (ay.mapSeq (·++vs.toArray))).push (fc "list" vs.toArray 0)})
 refine ae (hsz ..) <| au (fo (tP slot_list_sort (av _ V rfl) entry_list_sort (Ob V h2 ?_) (args_list_sort _)));exact av _ rfl (aZ (av _ rfl (h _ _ e2 F2 N2 U)))
end
theorem aam (hu:C.A.units+1+1+64<qT):yL C (λvs=>call (.builtin "sorted") vs) zY:=by
 have hu':C.A.in1.in1.units+64<qT:=hu;intro P m vs ds k s Q F hP hd hs hQ;refine aO hs λrs ts U cu hk=>?_;clear hs;subst U;obtain ⟨hp,hso,FG,hr⟩:=cu;refine aO hd.ig λv vr U d1 dr=>?_;subst U;obtain rfl:=dr.mf;refine dM d1.listI λl vs n U p dv=>?_;subst U;have hl:=kj (λa o h=>(hP a o h).2) p;have lv:=dv.len;have nw:∀{D:ak}{h':aq}{vJ:List af}{n':Nat}{tk:Nat},Fr C.h₀ C.L h' m->aI C.h₀ C.L h' ((D,W.listOf vJ.toArray n')::lR C.h₀ s.heap C.L)->(∀q∈lR C.h₀ s.heap C.L,q.1<D)->aU P vJ ts->Q (.ref D) {s with heap:=h',toks:=tk}:=λ{D h' vJ n' tk} F' N' V hd=>
  hQ (.ref D) _ [(D,aQ vJ n')] h' tk F' (FE F F' λq hq=>N' q (.tail _ hq)) (cm.mpr ⟨(N' _ (.head _)).1,FF (N' _ (.head _)).2.1 (N' _ (.head _)).2.2 λq hq=>cy (V q hq)⟩) (bR.mpr ⟨(λh=>El.nm h),gW⟩) ⟨D,n',vJ,ts,[],rfl,rfl,rfl,hd.mono λzz zz=>.inl⟩ hk
 by_cases h2:2<=vs.length
 ·refine kat_sorted F FD hl h2 (lv▸FG) λD e1 h' F' N' V=>?_;have N0:aI C.h₀ C.L h' (lR C.h₀ s.heap C.L):=λq hq=>N' q (.tail _ hq);have sL:∀a o,P a o->h'.get? a=some o:=λa o q=>FE F F' N0 a o (hP a o q).1 (hP a o q).2;refine ef (Oo sL dv hr) λfs f1 f2 f3=>kat_kind (T:=.type "int") f1 (f3▸fR (by decide) h2) (λv hv=>?_) (by decide) ?_
  ·refine uu (f2 v hv) λx t U=>?_;clear hv;subst U;exact bz.now
  refine (?_:nE.kasWp _ _ _ _);have at':∀{i:Nat}{a:ah},rs[i]? = some a->∃b ws xs,vs.getD i .none=.ref b/\P b (lr ws)/\aU P ws xs/\a=.tuple xs/\∀x∈xs,fw x:=λ{i a} hi=>by
   refine ar (dv.get hi) λu e1 d1=>?_;cases hr _ (d6 hi) with
   |mk hx=>
    refine aO d1.tupI λb ws U p dw=>?_;clear d1;subst U;exact CP b ws _ (by rw [iW,e1];rfl) p dw rfl hx
  refine Oe (z:=ah.none) (D:=id) (R:=λa b=>vI a b=some true) (Inv:=λs'=>∃tk,s'={s with heap:=h',toks:=tk}) (λh1 h2=>nomatch h2.symm.trans (zZ h1)) (rs:=rs) (by refine ae (Rw ..) <| dv) (aD (by decide) h2) hp hso ?_ ⟨s.toks,rfl⟩ λp s' hI hd=>?_
  ·rintro i j a b c K s' hi hj ⟨tk,rfl⟩ h1 h2 hC
   refine (?_:aA _ _ (keyLt' _ (vs.getD i af.none) (vs.getD j af.none)) K _ _);refine xM (at' hi) λx ws xs g1 g2 g3 U g5=>?_;subst U;refine xM (at' hj) λy us ys k1 k2 k3 U k5=>?_;subst U;have FH:=hC {s with heap:=h',toks:=tk} ⟨tk,rfl⟩
   by_cases zX:i=j
   ·clear k1 h2;subst zX;clear hC h2;cases c with
    |true=>cases hi.symm.trans hj;exact nomatch (h1 rfl).symm.trans (zZ (h1 rfl))
    |false=>
     refine ae (g1 ..) <| kat_lt (sL _ _ g2) rfl (sL _ _ g2) rfl (Om sL hu' g3 g5 ?_);refine ae (decide_eq_false (jD _) ..) <| FH
   ·refine ae (g1 ..) (ae (k1 ..) ?_);refine kat_lt (sL _ _ g2) rfl (sL _ _ k2) rfl (Ol g3 k3 (c:=c) ?_ FH);clear hC FH;cases c with
    |true=>exact h1 rfl
    |false=>exact (h2 rfl).elim (λe=>(zX e).elim) zZ
  ·refine El.ea hI λtk U=>?_;clear hI;subst U;rw [Rw] at hd;exact KasFin.intro F' N' (UpdF.head λq hq=>cy (V q hq)) λsF c FI FJ=>nw FI FJ V hd
 ·have h1:=w9 h2;refine aal F FD hl h1 λD h' n' F' N' V=>nw (tk:=s.toks) F' N' V (Of hp (lv▸h1)▸dv)
end Internal.Mine
end
section
namespace Internal.Pure
noncomputable def places (b:Nat->Int) (n:Nat) (c:Int):List Int:=((iR n).filter λj=>b j == c).map λ(j:Nat)=>(j:Int)
theorem aan (b:Nat->Int) (n:Nat) (c:Int):places b (n+1) c=places b n c++(if b n=c then [(n:Int)] else []):=by
 unfold places;refine ae (Hz ..) (ae (List.filter_append ..) (ae (bH ..) ?_))
 congr 1
 by_cases h:b n=c
 ·simp [h]
 ·simp [h]
theorem places_len (b:Nat->Int) (n:Nat) (c:Int):(places b n c).length<=n:=by
 unfold places;refine ae (aY ..) ?_;exact aD (List.length_filter_le _ _) (by simp)
noncomputable def E (a b:Nat->Int) (S:Int->Bool) (alo blo bhi:Nat):Nat->Int->Int:=@λA B=>match A,B with
 |0,zz=>0
 |m+1,j=>if (blo:Int)<=j/\j<(bhi:Int)/\a (alo+m)=b j.toNat/\S (b j.toNat)=false then E a b S alo blo bhi m (j-1)+1 else 0
section
variable {a b:Nat->Int}{S:Int->Bool}{alo blo bhi:Nat}
theorem FK:∀(m:Nat) (j:Int),0<=E a b S alo blo bhi m j:=@λA B=>match A,B with
 |0,j=>qR 0
 |m+1,j=>by
  show 0<=(if _ then _ else _:Int);split
  ·have:=FK m (j-1);lia
  ·exact (qR _)
def Inv (a b:Nat->Int) (S:Int->Bool) (alo blo bhi:Nat) (V:Nat->Int->Prop) (t:Int×Int×Int):Prop:=
 0<=t.2.2/\(∀m j,V m j->E a b S alo blo bhi m j<=t.2.2)/\(t.2.2=0->t=((alo:Int),(blo:Int),0))/\
 (0<t.2.2->∃m j,V m j/\E a b S alo blo bhi m j=t.2.2/\t.1=(alo:Int)+m-t.2.2/\t.2.1=j-t.2.2+1/\∀m' j',V m' j'->E a b S alo blo bhi m' j'=t.2.2->m<m'∨(m=m'/\j<=j'))
theorem Inv.zero (h:Inv a b S alo blo bhi V t) (hV:∀m j,V m j->V' m j) (hz:∀m j,V' m j->V m j∨E a b S alo blo bhi m j=0):Inv a b S alo blo bhi V' t:=by
 refine l9 h λh0 h1 h2 h3=>?_;clear h;refine cB h0 (λm j U=>?_) h2 (λW=>?_)
 ·rcases hz m j U with h | h
  ·exact h1 m j h
  ·exact (RY (wt h) h0)
 ·refine rK (h3 W) λm j e1 e2 e3 e4 e5=>uw m j (hV m j e1) e2 e3 e4 (λm' j' U he=>?_);rcases hz m' j' U with h | h
  ·exact e5 m' j' h he
  ·exact (.inl (ji (.c2 _ _) (.c2 _ _) 0 (.u (.K .z .b) (.Q .b .c) (.Q .c .z)) .b .c rfl W (aC he) h))
theorem Inv.step (h:Inv a b S alo blo bhi V t) (W:0<E a b S alo blo bhi m0 j0) (hV:∀m j,V' m j↔V m j∨(m=m0/\j=j0)∨(V' m j/\E a b S alo blo bhi m j=0)) (U:∀m j,V m j->m<m0∨(m=m0/\j<j0)) :
  Inv a b S alo blo bhi V' (if t.2.2<E a b S alo blo bhi m0 j0 then ((alo:Int)+m0-E a b S alo blo bhi m0 j0,j0-E a b S alo blo bhi m0 j0+1,E a b S alo blo bhi m0 j0) else t):=by
 refine l9 h λh0 h1 h2 h3=>?_;clear h;have n0:V' m0 j0:=(hV _ _).mpr (.inr (.inl ⟨rfl,rfl⟩));have nV:∀m j,V m j->V' m j:=λm j h=>(hV m j).mpr (.inl h);by_cases hc:t.2.2<E a b S alo blo bhi m0 j0
 ·refine ae (if_pos hc ..) <| cB (by dsimp only;lia) (λm j hv=>?_) (λe=>by dsimp only at e;lia) (λzz=>(uw m0 j0 n0 rfl rfl rfl (λm' j' hv he=>?_)))
  ·dsimp only;clear U n0;rcases (hV m j).mp hv with h | ⟨rfl,rfl⟩ | ⟨_,h⟩
   ·have:=h1 m j h;lia
   ·exact (qR _)
   ·exact (tC (AP (wt h) W))
  ·dsimp only at he;clear U n0 zz;rcases (hV m' j').mp hv with h | ⟨rfl,rfl⟩ | ⟨_,h⟩
   ·have:=h1 m' j' h;exact (.inl (ji (.c2 _ _) (.c3 _ _ _) 0 (.u (.K .b .c) (.Q .c .d) (.L .d .b)) .b .c rfl hc (aC he) this))
   ·exact .inr ⟨rfl,qR _⟩
   ·exact (.inl (ji (.c2 _ _) (.c2 _ _) 0 (.u (.K .z .b) (.Q .b .c) (.Q .c .z)) .b .c rfl W (aC he) h))
 ·refine ae (if_neg hc ..) <| cB h0 (λm j hv=>?_) h2 (λhp=>?_)
  ·clear W U n0;rcases (hV m j).mp hv with h | ⟨rfl,rfl⟩ | ⟨_,h⟩
   ·exact h1 m j h
   ·exact (kQ.mp hc)
   ·exact (RY (wt h) h0)
  ·refine rK (h3 hp) λm j e1 e2 e3 e4 e5=>uw m j (nV m j e1) e2 e3 e4 (λm' j' hv he=>?_);clear W n0 hc;rcases (hV m' j').mp hv with h | ⟨rfl,rfl⟩ | ⟨_,h⟩
   ·exact e5 m' j' h he
   ·rcases U m j e1 with h | ⟨rfl,h⟩
    ·exact .inl h
    ·exact .inr ⟨rfl,by exact (tC h)⟩
   ·exact (.inl (ji (.c2 _ _) (.c2 _ _) 0 (.u (.K .z .b) (.Q .b .c) (.Q .c .z)) .b .c rfl hp (aC he) h))
theorem aao (hs:S (a (alo+n))=false):∀(cnt j0:Nat) (st:(Int->Int)×(Int×Int×Int)),bhi<=j0+cnt->
  (∀x:Int,st.1 x=if x<(j0:Int) then E a b S alo blo bhi (n+1) x else 0)->
  Inv a b S alo blo bhi (λm j=>1<=m/\(m<=n∨(m=n+1/\j<(j0:Int)))) st.2->
  (∀x,(inner (E a b S alo blo bhi n) blo bhi ((alo+n:Nat):Int) (((gO j0 cnt).filter λj=>b j == a (alo+n)).map λ(j:Nat)=>(j:Int)) st).1 x=E a b S alo blo bhi (n+1) x)/\
  Inv a b S alo blo bhi (λm zz=>1<=m/\m<=n+1) (inner (E a b S alo blo bhi n) blo bhi ((alo+n:Nat):Int) (((gO j0 cnt).filter λj=>b j == a (alo+n)).map λ(j:Nat)=>(j:Int)) st).2:=by
 intro cnt;have over:∀(j0:Nat) (st:(Int->Int)×(Int×Int×Int)),bhi<=j0->(∀x:Int,st.1 x=if x<(j0:Int) then E a b S alo blo bhi (n+1) x else 0)->
   Inv a b S alo blo bhi (λm j=>1<=m/\(m<=n∨(m=n+1/\j<(j0:Int)))) st.2->(∀x,st.1 x=E a b S alo blo bhi (n+1) x)/\Inv a b S alo blo bhi (λm zz=>1<=m/\m<=n+1) st.2:=by
  intro j0 st hb h1 h2;have hz:∀x:Int,¬x<(j0:Int)->E a b S alo blo bhi (n+1) x=0:=λx hx=>if_neg (λgD=>(Tj (.u (.l .b .c) (.L .t .b) (.K .b .q)) rfl hb (kQ.mp hx) gD.2.1));refine ⟨λx=>?_,h2.zero (λm j h=>⟨h.1,by (clear hb;omega)⟩) λm j h=>?_⟩
  ·refine ae (h1 x ..) ?_;split
   ·rfl
   ·rename_i hx;exact ae (hz x hx ..) rfl
  ·by_cases hm:m<=n
   ·exact .inl ⟨h.1,.inl hm⟩
   ·by_cases hj:j<(j0:Int)
    ·exact .inl ⟨h.1,.inr ⟨by exact (aN (CH h.2) (A4 (dg.mp hm))),hj⟩⟩
    ·have:m=n+1:=by exact (aN (CH h.2) (A4 (dg.mp hm)))
     clear h hm;subst this;exact .inr (hz j hj)
 induction cnt with
 |zero=>
  intro j0 st hb h1 h2;simp only [List.range'_zero,List.filter_nil,List.map_nil];exact over j0 st (by omega) h1 h2
 |succ cnt ih=>
  intro j0 st hb h1 h2;by_cases z0:bhi<=j0
  ·-- all places are behind
   have key:inner (E a b S alo blo bhi n) blo bhi ((alo+n:Nat):Int) (((gO j0 (cnt+1)).filter λj=>b j == a (alo+n)).map λ(j:Nat)=>(j:Int)) st=st∨∃l,((gO j0 (cnt+1)).filter λj=>b j == a (alo+n)).map (λ(j:Nat)=>(j:Int))=l/\∀x∈l,(j0:Int)<=x:=by
    right
    refine av _ rfl (λx hx=>?_);refine ar (bf.mp hx) λj hj bx=>?_;clear hx;subst bx;have:=(List.mem_filter.mp hj).1;rw [List.mem_range'_1] at this;exact (IQ this.1)
   have aap:inner (E a b S alo blo bhi n) blo bhi ((alo+n:Nat):Int) (((gO j0 (cnt+1)).filter λj=>b j == a (alo+n)).map λ(j:Nat)=>(j:Int)) st=st:=by
    clear h1 h2;rcases key with h | ⟨l,e,hl⟩
    ·exact h
    ·refine ae (e ..) ?_;clear e;have go:∀l:List Int,(∀x∈l,(j0:Int)<=x)->inner (E a b S alo blo bhi n) blo bhi ((alo+n:Nat):Int) l st=st:=by
      intro l;induction l with
      |nil=>intro _;rfl
      |cons x r ihr=>
       intro hl;by_cases hx:x<(blo:Int)
       ·refine ae (CS hx ..) <| ihr λy hy=>hl y (.tail _ hy)
       ·have:=hl x (.head _);exact ae (Kl hx (iY (.t (.l .b .c) (.L .t .b)) .q .b rfl z0 this) ..) rfl
     exact go l hl
   refine ae (aap ..) <| over j0 st z0 h1 h2
  ·rw [List.range'_succ,List.filter_cons];by_cases hm:(b j0 == a (alo+n))=true
   ·refine ae (if_pos hm ..) (ae (iQ ..) ?_);have FL:b j0=a (alo+n):=by simpa using hm
    by_cases jT:(j0:Int)<(blo:Int)
    ·refine ae (CS jT ..) ?_;have hz:E a b S alo blo bhi (n+1) (j0:Int)=0:=if_neg (by (clear FL hb;exact (λgD=>(ka (.t (.K .q .t) (.L .t .q)) rfl jT gD.1))))
     refine ih (j0+1) st (xD hb) (λx=>?_) (h2.zero (λm j h=>⟨h.1,by lia⟩) λm j h=>?_)
     ·refine ae (h1 x ..) ?_;by_cases hx:x<(j0:Int)
      ·exact ae (if_pos hx ..) (ae (if_pos (xJ hx) ..) rfl)
      ·refine ae (if_neg hx ..) ?_;by_cases V:x<((j0+1:Nat):Int)
       ·refine ae (if_pos V ..) ?_;have:x=(j0:Int):=by exact (fP (CI V) (rG (kQ.mp hx)))
        exact ae (this ..) (ae (hz ..) rfl)
       ·exact ae (if_neg V ..) rfl
     ·by_cases W:m<=n
      ·exact .inl ⟨h.1,.inl W⟩
      ·by_cases hj:j<(j0:Int)
       ·exact .inl ⟨h.1,.inr ⟨by lia,hj⟩⟩
       ·have e1:m=n+1:=by lia
        have e2:j=(j0:Int):=by lia
        clear h W hj;subst e1 e2;exact .inr hz
    ·have hE:E a b S alo blo bhi (n+1) (j0:Int)=E a b S alo blo bhi n ((j0:Int)-1)+1:=by
      exact if_pos (cB (kQ.mp jT) (xx (dg.mp z0)) (by rw [kS];exact FL.symm) (by rw [kS,FL];exact hs))
     have FN:0<E a b S alo blo bhi (n+1) (j0:Int):=by have:=FK (a:=a) (b:=b) (S:=S) (alo:=alo) (blo:=blo) (bhi:=bhi) n ((j0:Int)-1);exact (SY (.t (.Q (.S .c) .b) (.L .z .c)) .z .b rfl (aC hE) this)
     have Oq:=h2.step (V':=λm j=>1<=m/\(m<=n∨(m=n+1/\j<((j0+1:Nat):Int)))) (m0:=n+1) (j0:=(j0:Int)) FN (λm j=>by
      constructor
      ·rintro ⟨g1,g2⟩
       by_cases W:m<=n
       ·exact .inl ⟨g1,.inl W⟩
       ·by_cases hj:j<(j0:Int)
        ·exact .inl ⟨g1,.inr ⟨by exact (Or.elim g2 (λU=>(aN (J8 U) (A4 (dg.mp W)))) λU=>(aN (uk U.1) (A4 (dg.mp W)))),hj⟩⟩
        ·exact .inr (.inl ⟨by exact (Or.elim g2 (λU=>(aN (J8 U) (A4 (dg.mp W)))) λU=>(aN (uk U.1) (A4 (dg.mp W)))),by exact (Or.elim g2 (λU=>(fP (Cm (.c3 _ _ _) (.c1 _) 0 (.t (.k .c .d) (.l .d .c)) .b .q rfl (dg.mp W) U) (rG (kQ.mp hj)))) λU=>(fP (CI U.2) (rG (kQ.mp hj))))⟩)
      ·rintro (⟨g1,g2⟩ | ⟨rfl,rfl⟩ | ⟨g,_⟩)
       ·exact ⟨g1,by exact (Or.elim g2 (λU=>(.inl (Lin.A0 U))) λU=>(.inr ⟨(aN (uk U.1) (CA (aC U.1))),(xJ U.2)⟩))⟩
       ·exact ⟨by exact (um),.inr ⟨rfl,by exact (I3)⟩⟩
       ·exact g) (λm j ⟨g1,g2⟩=>by exact (Or.elim g2 (λU=>(.inl (cM (.l .b .c) .b (.S .c) rfl U))) λU=>(.inr ⟨(aN (uk U.1) (CA (aC U.1))),(pS (.K .b .q) .b .q rfl U.2)⟩)))
     refine ae (CR jT (λgD=>(ka (.t (.k .b .c) (.L .t .q)) rfl (dg.mp z0) gD)) ..) ?_;rw [hE] at Oq;have aaq:∀x:Int,(if x=(j0:Int) then E a b S alo blo bhi n ((j0:Int)-1)+1 else st.1 x)=if x<((j0+1:Nat):Int) then E a b S alo blo bhi (n+1) x else 0:=by
      intro x;by_cases hx:x=(j0:Int)
      ·exact ae (if_pos hx ..) (ae (if_pos (pS (.Q .b .q) .b (.o (.S .b)) rfl hx) ..) (ae (hx ..) (ae (hE ..) rfl)))
      ·refine ae (if_neg hx ..) (ae (h1 x ..) ?_);by_cases V:x<(j0:Int)
       ·exact ae (if_pos V ..) (ae (if_pos (xJ V) ..) rfl)
       ·exact ae (if_neg V ..) (ae (if_neg (λgD=>(Or.elim (HP hx) (λFO=>(Cr (.t (.L .q .b) (.K .b .q)) rfl (kQ.mp V) FO)) λFO=>(Cr (.t (.K .b (.o (.S .b))) (.K .q .b)) rfl gD FO))) ..) rfl)
     have e1:((alo+n:Nat):Int)-(E a b S alo blo bhi n ((j0:Int)-1)+1)+1=(alo:Int)+((n+1:Nat):Int)-(E a b S alo blo bhi n ((j0:Int)-1)+1):=by exact (fP (iY .z (.S (.s (.o (.a .b .c)) (.S .b))) (.s (.a .q (.o (.S .c))) (.S .b)) rfl) (iY .z (.s (.a .q (.o (.S .c))) (.S .b)) (.S (.s (.o (.a .b .c)) (.S .b))) rfl))
     refine ae (e1 ..) <| ih (j0+1) _ (xD hb) aaq Oq
   ·refine ae (if_neg hm ..) ?_;have hz:E a b S alo blo bhi (n+1) (j0:Int)=0:=by
     refine if_neg ?_
     rintro ⟨_,_,h,_⟩
     rw [kS] at h;exact hm (by simpa using h.symm)
    refine ih (j0+1) st (xD hb) (λx=>?_) (h2.zero (λm j h=>⟨h.1,by lia⟩) λm j h=>?_)
    ·refine ae (h1 x ..) ?_;by_cases hx:x<(j0:Int)
     ·exact ae (if_pos hx ..) (ae (if_pos (xJ hx) ..) rfl)
     ·refine ae (if_neg hx ..) ?_;by_cases V:x<((j0+1:Nat):Int)
      ·refine ae (if_pos V ..) ?_;have:x=(j0:Int):=by exact (fP (CI V) (rG (kQ.mp hx)))
       exact ae (this ..) (ae (hz ..) rfl)
      ·exact ae (if_neg V ..) rfl
    ·by_cases W:m<=n
     ·exact .inl ⟨h.1,.inl W⟩
     ·by_cases hj:j<(j0:Int)
      ·exact .inl ⟨h.1,.inr ⟨by lia,hj⟩⟩
      ·have e1:m=n+1:=by lia
       have e2:j=(j0:Int):=by lia
       clear h W hj;subst e1 e2;exact .inr hz
theorem Ox (V:∀c,idx c=if S c=true then [] else places b nb c) (W:bhi<=nb):∀n:Nat,
  (∀x,(outer a idx blo bhi alo n (λzz=>0,((alo:Int),(blo:Int),(0:Int)))).1 x=E a b S alo blo bhi n x)/\
  Inv a b S alo blo bhi (λm zz=>1<=m/\m<=n) (outer a idx blo bhi alo n (λzz=>0,((alo:Int),(blo:Int),(0:Int)))).2:=@λA=>match A with
 |0=>by
  refine ⟨λx=>rfl,?_⟩;exact cB (qR _) (λm j h=>by exact (Cm (.c1 _) (.c2 _ _) 0 (.t (.l .u .b) (.l .b .z)) .b .c rfl h.1 h.2)) (λzz=>rfl) (λh=>(tS (Th (.K .z .z) rfl h)))
 |n+1=>by
  refine El.aa (Ox V W n) λh1 h2=>ae (CQ ..) ?_;generalize outer a idx blo bhi alo n (λzz=>0,((alo:Int),(blo:Int),(0:Int)))=st at h1 h2;have e:st.1=E a b S alo blo bhi n:=funext h1;refine ae (e ..) (ae (V ..) ?_);by_cases hs:S (a (alo+n))=true
  ·refine ae (if_pos hs ..) ?_;have hz:∀x,E a b S alo blo bhi (n+1) x=0:=λx=>by
    refine if_neg ?_
    rintro ⟨_,_,g1,g2⟩
    rw [<-g1,hs] at g2;cases g2
   refine ⟨λx=>(hz x).symm,h2.zero (λm j h=>⟨h.1,by exact (aD h.2 (kU _))⟩) λm j h=>?_⟩
   by_cases U:m<=n
   ·exact .inl ⟨h.1,U⟩
   ·have:m=n+1:=by exact (aN (CH h.2) (A4 (dg.mp U)))
    clear h U;subst this;exact .inr (hz j)
  ·refine ae (if_neg hs ..) ?_;unfold places;refine ae (Bu ..) <| aao (by simpa using hs) nb 0 _ (aD W (Sg _ _)) (λx=>by
    by_cases hx:x<((0:Nat):Int)
    ·rw [if_pos hx];exact (if_neg (λgD=>(Cr (.t (.K .b (.o .z)) (.L .q .b)) rfl hx gD.1))).symm
    ·rw [if_neg hx]) (h2.zero (λm j h=>⟨h.1,.inl h.2⟩) λm j h=>by
    by_cases U:m<=n
    ·exact .inl ⟨h.1,U⟩
    ·right
     have:m=n+1:=by lia
     subst this;exact if_neg (by lia))
def Run (a b:Nat->Int) (S:Int->Bool) (i j k:Nat):Prop:=∀t<k,a (i+t)=b (j+t)/\S (b (j+t))=false
theorem FP:∀(m:Nat) (j:Int) (k:Nat),((k:Int)+1<=E a b S alo blo bhi m j↔(k+1<=m/\(blo:Int)+k<=j/\j<(bhi:Int)/\∀t≤k,∀x y:Nat,x+t+1=alo+m->(y:Int)+t=j->a x=b y/\S (b y)=false)):=@λA B C=>match A,B,C with
 |0,j,k=>⟨λh=>by have h':(k:Int)+1<=0:=h;omega,λh=>absurd h.1 (aeK k)⟩
 |m+1,j,k=>by
  show (k:Int)+1<=(if _ then _ else _:Int)↔_
  split
  ·rename_i h;refine l9 h λW V h3 h4=>?_;clear h;have z:∀x y:Nat,x+0+1=alo+(m+1)->(y:Int)+(0:Nat)=j->a x=b y/\S (b y)=false:=λx y e1 e2=>by
    have e1:x=alo+m:=jC e1;have e2:j.toNat=y:=by refine ae (e2 ..).symm ?_;rfl
    subst e1 e2;exact ⟨h3,h4⟩
   cases k with
   |zero=>
    have:=FK (a:=a) (b:=b) (S:=S) (alo:=alo) (blo:=blo) (bhi:=bhi) m (j-1);refine ⟨λzz=>(cB (gY (bA m)) (by refine ae (Int.natCast_zero ..) (ae (nc ..) ?_);exact W) V (λt ht=>?_)),λzz=>Int.add_le_add_right this 1⟩
    cases Hv.mp ht
    exact z
   |succ k=>
    have ih:=FP m (j-1) k;have up:(((k+1:Nat):Int)+1<=E a b S alo blo bhi m (j-1)+1)↔((k:Int)+1<=E a b S alo blo bhi m (j-1)):=Int.add_le_add_iff_right 1;rw [up,ih];constructor
    ·rintro ⟨g1,g2,g3,U⟩
     refine cB (gY g1) (iY (.L (.a .q .t) (.P .b)) (.a .q (.o (.S .c))) .b rfl g2) V (λt ht=>?_);cases t with
     |zero=>exact z
     |succ t=>exact λx y e1 e2=>U t (tw ht) x y (aN (bJ (.q (.S (.a .b (.S .c))) (.a .d (.S .f))) (.S (.a .b .c)) (.a .d .f) rfl e1) (bJ (.q (.a .b (.S .c)) (.S (.a .d (.S .f)))) (.a .b .c) (.S (.a .d .f)) rfl (aC e1))) (fP (iY (.Q (.a .q (.o (.S .c))) .b) (.a .q .t) (.P .b) rfl e2) (iY (.Q .b (.a .q (.o (.S .c)))) (.P .b) (.a .q .t) rfl (aC e2)))
    ·rintro ⟨g1,g2,g3,U⟩
     exact cB (tw g1) (iY (.L (.a .q (.o (.S .c))) .b) (.a .q .t) (.P .b) rfl g2) (pS (.K .b .q) (.P .b) .q rfl V) (λt ht x y e1 e2=>U (t+1) (gY ht) x y (aN (bJ (.q (.S (.a .b .c)) (.a .d .f)) (.S (.a .b (.S .c))) (.a .d (.S .f)) rfl e1) (bJ (.q (.a .b .c) (.S (.a .d .f))) (.a .b (.S .c)) (.S (.a .d (.S .f))) rfl (aC e1))) (fP (iY (.Q (.a .q .t) (.P .b)) (.a .q (.o (.S .c))) .b rfl e2) (iY (.Q (.P .b) (.a .q .t)) .b (.a .q (.o (.S .c))) rfl (aC e2))))
  ·rename_i h;constructor
   ·intro h';omega
   ·rintro ⟨g1,g2,g3,U⟩
    refine absurd ?_ h;have hj:((j.toNat:Nat):Int)=j:=dh (iY (.L (.a .q .t) .b) .z .b rfl g2);have:=U 0 (bA k) (alo+m) j.toNat rfl (by refine ae (hj ..) <| nc j)
    exact cB (iY (.L (.a .q .t) .b) .q .b rfl g2) g3 this.1 this.2
end
def Good (a b:Nat->Int) (S:Int->Bool) (alo ahi blo bhi i j k:Nat):Prop:=0<k/\alo<=i/\i+k<=ahi/\blo<=j/\j+k<=bhi/\Run a b S i j k
def z4 (a b:Nat->Int) (S:Int->Bool) (alo ahi blo bhi i j k:Nat):Prop:=Good a b S alo ahi blo bhi i j k/\∀i' j' k',Good a b S alo ahi blo bhi i' j' k'->k'<k∨(k'=k/\(i<i'∨(i=i'/\j<=j')))
theorem aar {a b:Nat->Int}{S:Int->Bool}{alo ahi blo bhi:Nat}(W:∀c,idx c=if S c=true then [] else places b nb c) (hnb:bhi<=nb) (ha:alo<=ahi) :
  ((outer a idx blo bhi alo (ahi-alo) (λzz=>0,((alo:Int),(blo:Int),(0:Int)))).2=((alo:Int),(blo:Int),(0:Int))/\∀i j k,¬Good a b S alo ahi blo bhi i j k)∨
  ∃i j k:Nat,(outer a idx blo bhi alo (ahi-alo) (λzz=>0,((alo:Int),(blo:Int),(0:Int)))).2=((i:Int),(j:Int),(k:Int))/\z4 a b S alo ahi blo bhi i j k:=by
 refine CJ (Ox (a:=a) (b:=b) (S:=S) (alo:=alo) (blo:=blo) (bhi:=bhi) W hnb (ahi-alo)) λzz h0 h1 h2 h3=>?_;generalize (outer a idx blo bhi alo (ahi-alo) (λzz=>0,((alo:Int),(blo:Int),(0:Int)))).2=t at h0 h1 h2 h3;have conv:∀i j k n,Good a b S alo ahi blo bhi i j (k+1)->alo+n=i+(k+1)->(k:Int)+1<=E a b S alo blo bhi n ((j:Int)+k)/\1<=n/\n<=ahi-alo:=by
  rintro i j k n ⟨g1,g2,g3,g4,g5,g6⟩ hn
  have c1:k+1<=n:=by exact (bJ (.t (.l .d .f) (.q (.a .f (.S .b)) (.a .d .c))) (.S .b) .c rfl g2 (aC hn))
  refine aL ((FP _ _ k).mpr (cB c1 (uc (.l .b .d) (.a .q .t) (.a .x .t) rfl g4) (Iu (.l (.a .b (.S .c)) .d) (.a .q .t) .x rfl g5) (λt ht x y e1 e2=>?_))) (aD (gY (bA k)) c1) (fq (.u (.l (.a .d (.S .f)) .h) (.q (.a .i .b) (.a .d (.S .f))) (.q .h (.a .c .i))) .b .c rfl g3 hn (aE (bJ (.t (.l .b .d) (.l (.a .d (.S .f)) .c)) .b .c rfl g2 g3)).symm);refine El.ea (⟨k-t,(aE ht).symm⟩:∃r,k=r+t) λr U=>?_;clear g1 g3 g5 c1 ht;subst U;have:=g6 r (w8 (ba r t));refine ae (show x=i+r by exact (aN (fq (.t (.q (.S (.a .b .f)) (.a .h .i)) (.q (.a .h .i) (.a .c (.S (.a .d .f))))) .b (.a .c .d) rfl e1 hn) (fq (.t (.q (.a .f .h) (.S (.a .d .i))) (.q (.a .b (.S (.a .c .i))) (.a .f .h))) (.a .b .c) .d rfl (aC e1) (aC hn)))) (ae (show y=j+r by exact (aN (bJ (.Q (.a .q .y) (.a .t (.o (.a .d .f)))) .b (.a .c .d) rfl e2) (bJ (.Q (.a .q (.o (.a .c .f))) (.a .x .y)) (.a .b .c) .d rfl (aC e2)))) ?_)
  exact this
 have ex:∀i k,alo<=i->∃n,alo+n=i+(k+1):=λi k h=>⟨i+(k+1)-alo,Hp (aD h (ba i _))⟩;by_cases hz:t.2.2=0
 ·left
  refine ⟨h2 hz,λi j k hg=>?_⟩;cases k with
  |zero=>exact absurd hg.1 (jD 0)
  |succ k=>
   refine El.ea (ex i k hg.2.1) λn hn=>El.aa (conv i j k n hg hn) λg v=>?_;have:=h1 n ((j:Int)+k) v;exact (Ti (.u (.Q .b .z) (.L (.S .q) .c) (.L .c .b)) rfl hz g this)
 ·right
  refine rK (h3 (Or.elim (HP hz) (λV=>(Co .z (.c1 _) 0 (.t (.L .z .b) (.K .b .z)) .z .b rfl h0 V)) λV=>(Ir (.K .z .b) .z .b rfl V))) λm j U e1 e2 e3 e4=>?_;obtain ⟨v1,v2⟩:=U;clear h2 h3;obtain ⟨ti,tj,tk⟩:=t;dsimp only at h0 h1 hz e1 e2 e3 e4;refine El.ea (⟨(tk-1).toNat,by lia⟩:∃k:Nat,tk=(k:Int)+1) λk U=>?_
  subst U;refine l9 ((FP (a:=a) (b:=b) (S:=S) (alo:=alo) (blo:=blo) (bhi:=bhi) m j k).mp (wt e1.symm)) λg1 g2 g3 g4=>El.ea (⟨m-(k+1),(aE g1).symm⟩:∃q,m=q+(k+1)) λq U=>?_;subst U;refine El.ea (⟨(j-k).toNat,by exact (fP (iY (.Q (.s .b .t) .q) .b (.a .q .t) rfl (dh (J9 g2)).symm) (iY (.Q .q (.s .b .t)) (.a .q .t) .b rfl (dh (J9 g2))))⟩:∃y:Nat,j=(y:Int)+k) λy U=>?_
  subst U;refine iD (alo+q) y (k+1) ?_ (xN (wu k) (ba alo q) (dD (.t (.l (.a .c (.S .d)) .h) (.q (.a .h .b) .f)) (.a (.a .b .c) (.S .d)) .f rfl v2 (aE (Lin.A0 ha))) (Ka g2) (bL (.K (.a .q .t) .x) (.a .b (.S .c)) .d rfl g3) (λt ht=>?_)) (λi' j' k' hg=>?_)
  ·refine ae (e2 ..) (ae (e3 ..) ?_);refine ae (show (alo:Int)+((q+(k+1):Nat):Int)-((k:Int)+1)=((alo+q:Nat):Int) by exact (fP (uc .z (.s (.a .q (.o (.a .c (.S .d)))) (.S .x)) (.o (.a .b .c)) rfl) (uc .z (.o (.a .b .c)) (.s (.a .q (.o (.a .c (.S .d)))) (.S .x)) rfl))) (ae (show (y:Int)+k-((k:Int)+1)+1=y by exact (fP (nN .z (.S (.s (.a .q .t) (.S .t))) .q rfl) (nN .z .q (.S (.s (.a .q .t) (.S .t))) rfl))) ?_)
   rfl
  ·refine El.ea (⟨k-t,(aE (tA ht)).symm⟩:∃r,k=r+t) λr U=>?_;subst U;exact g4 r (ba r t) (alo+q+t) (y+t) (aN (bJ .z (.S (.a (.a (.a .b .c) .d) .f)) (.a .b (.a .c (.S (.a .f .d)))) rfl) (bJ .z (.a .b (.a .c (.S (.a .d .f)))) (.S (.a (.a (.a .b .c) .f) .d)) rfl)) (fP (uc .z (.a (.o (.a .b .c)) .x) (.a .q (.o (.a .d .c))) rfl) (uc .z (.a .q (.o (.a .c .d))) (.a (.o (.a .b .d)) .t) rfl))
  ·cases k' with
   |zero=>exact absurd hg.1 (jD 0)
   |succ k'=>
    refine El.ea (ex i' k' hg.2.1) λn hn=>El.aa (conv i' j' k' n hg hn) λg v=>?_;have hle:=h1 n ((j':Int)+k') v;by_cases b8:k'+1<k+1
    ·exact .inl b8
    ·have hkk:k'=k:=by exact (aN (xm (.t (.L (.S .q) .b) (.L .b (.S .t))) .b .c rfl g hle) (cp (.l (.S .b) (.S .c)) .b .c rfl (cW.mp b8)))
     subst hkk;refine .inr ⟨rfl,?_⟩;rcases e4 n ((j':Int)+k') v (fP hle g) with h | ⟨h,h'⟩
     ·left;lia
     ·right;exact ⟨by exact (aN (dD (.t (.q (.a .b .f) (.a .d (.S .h))) (.q (.a .c (.S .h)) .f)) (.a .b .c) .d rfl hn h) (dD (.t (.q (.a .b (.S .f)) (.a .c .h)) (.q .h (.a .d (.S .f)))) .b (.a .c .d) rfl (aC hn) (aC h))),by exact (Ka h')⟩
noncomputable abbrev nj:Int->Bool:=λzz=>false
theorem FQ (h0:0<k) (U:alo<=i) (V:i+k<=ahi) (W:blo<=j) (h4:j+k<=bhi) (h5:Run a b S i j k):Good a b S alo ahi blo bhi i j k:=(xN h0 U V W h4 h5)
theorem Oy (V:bhi<=nb) (ha:alo<=ahi) :
  (jj a b (places b nb) nj alo ahi blo bhi=(alo,blo,0)/\∀i j k,¬Good a b nj alo ahi blo bhi i j k)∨∃i j k,jj a b (places b nb) nj alo ahi blo bhi=(i,j,k)/\z4 a b nj alo ahi blo bhi i j k:=by
 have W:∀i j k:Nat,(outer a (places b nb) blo bhi alo (ahi-alo) (λzz=>0,((alo:Int),(blo:Int),(0:Int)))).2=((i:Int),(j:Int),(k:Int))->
   ¬(alo<i/\blo<j/\a (i-1)=b (j-1))->¬(i+k<ahi/\j+k<bhi/\a (i+k)=b (j+k))->jj a b (places b nb) nj alo ahi blo bhi=(i,j,k):=by
  intro i j k e h1 h2;unfold jj;refine ae (e ..) ?_;dsimp only;refine ae (kS ..) (ae (kS ..) (ae (kS ..) ?_));have e1:ff a b (λc=>!nj c) alo blo i j k=(i,j,k):=xR λ⟨g1,g2,_,g4⟩=>h1 (aL g1 g2 g4);refine ae (e1 ..) ?_;dsimp only;have e2:fu a b (λc=>!nj c) ahi bhi i j (ahi-(i+k)) k=k:=xS (λ⟨g1,g2,_,g4⟩=>h2 (aL g1 g2 g4)) _;refine ae (e2 ..) ?_;have e3:ff a b nj alo blo i j k=(i,j,k):=xR λ⟨_,_,g3,_⟩=>aeN g3;refine ae (e3 ..) ?_;dsimp only;have e4:fu a b nj ahi bhi i j (ahi-(i+k)) k=k:=xS (λ⟨_,_,g3,_⟩=>aeN g3) _;exact ae (e4 ..) rfl
 rcases aar (a:=a) (b:=b) (S:=nj) (idx:=places b nb) (nb:=nb) (alo:=alo) (ahi:=ahi) (blo:=blo) (bhi:=bhi) (λc=>rfl) V ha with ⟨e,h⟩ | ⟨i,j,k,e,hg,hb⟩
 ·left
  refine ⟨W alo blo 0 e (λgD=>(l8 (.k .b .b) rfl gD.1)) λ⟨g1,g2,g3⟩=>h alo blo 1 ?_,h⟩;exact FQ (S8 .z .z .u rfl) (aK _) (dk (ba _ _) g1) (aK _) (dk (ba _ _) g2) λt ht=>by
   have:t=0:=by exact (aN (I0 ht) (A6))
   clear ht;subst this;exact ⟨g3,rfl⟩
 ·right
  refine iD i j k (W i j k e (λ⟨g1,g2,g3⟩=>?_) (λ⟨g1,g2,g3⟩=>?_)) hg hb
  ·refine k9 hg λq0 q1 q2 q3 q4 q5=>?_;clear hg;have:=hb (i-1) (j-1) (k+1) (FQ (w8 (bA _)) (CF g1 (aE (A2 g1)).symm) (JJ q2 (aE (A2 g1))) (CF g2 (aE (A2 g2)).symm) (JJ q4 (aE (A2 g2))) λt ht=>by
    by_cases h0:t=0
    ·clear ht;subst h0;exact ⟨g3,rfl⟩
    ·have:=q5 (t-1) (by (clear V;omega))
     have e1:i+(t-1)=i-1+t:=by lia
     have e2:j+(t-1)=j-1+t:=by exact (aN (bJ (.t (.q (.S .c) .f) (.q .b (.S .d))) (.a .b .c) (.a .d .f) rfl (aE (JK e1 (aE (A2 g1)))) (aE (A2 g2)).symm) (bJ (.t (.q .c (.S .f)) (.q (.S .b) .d)) (.a .b .c) (.a .d .f) rfl (aE (JK e1 (aE (A2 g1)))).symm (aE (A2 g2))))
     rwa [e1,e2] at this)
   exact (Or.elim this (λU=>(JL U)) λU=>(JM U.1))
  ·refine k9 hg λq0 q1 q2 q3 q4 q5=>?_;clear hg;have:=hb i j (k+1) (FQ (w8 (bA _)) (by omega) (A8 g1) (by omega) (A8 g2) λt ht=>by
    by_cases h0:t=k
    ·clear e hb g1 g2 q0 q2 q4 q5 ht;subst h0;exact ⟨g3,rfl⟩
    ·exact q5 t (Or.elim (kR h0) (λU=>(uh U)) λU=>(ji (.c2 _ _) .z 0 (.t (.k .b (.S .c)) (.k .c .b)) .b .c rfl ht U)))
   exact (Or.elim this (λU=>(JL U)) λU=>(JM U.1))
theorem aas (W:bhi<=nb) (ha:alo<=ahi) (h:z4 a b nj alo ahi blo bhi i j k):jj a b (places b nb) nj alo ahi blo bhi=(i,j,k):=by
 refine El.aa h λh1 h2=>?_;clear h;rcases Oy (a:=a) (b:=b) W ha (alo:=alo) (ahi:=ahi) (blo:=blo) (bhi:=bhi) with ⟨e,hn⟩ | ⟨i',j',k',e,hg,hb⟩
 ·exact absurd h1 (hn i j k)
 ·refine ae (e ..) ?_;have q1:=h2 i' j' k' hg;have q2:=hb i j k h1;have e1:k'=k:=by exact (Or.elim q1 (λU=>(Or.elim q2 (λV=>(aN (A1 U) (A1 V))) λV=>(aN (A1 U) (ug V.1)))) λU=>(aN (ug U.1) (ug (aC U.1))))
  have e2:i'=i:=by lia
  have e3:j'=j:=by lia
  exact ae (e2 ..) (ae (e3 ..) (ae (e1 ..) rfl))
theorem aat (U:bhi<=nb) (V:alo<=ahi) (h:∀i j k,¬Good a b nj alo ahi blo bhi i j k):jj a b (places b nb) nj alo ahi blo bhi=(alo,blo,0):=by
 rcases Oy (a:=a) (b:=b) U V (alo:=alo) (ahi:=ahi) (blo:=blo) (bhi:=bhi) with ⟨e,hn⟩ | ⟨W,j',k',e,hg,hb⟩
 ·exact e
 ·exact absurd hg (h _ _ _)
class inductive i8 (a b:Nat->Int):Nat->Nat->Nat->Nat->List bc->Prop
 |none {alo ahi blo bhi:Nat}:(∀i j k,¬Good a b nj alo ahi blo bhi i j k)->i8 a b alo ahi blo bhi []
 |some {alo ahi blo bhi i j k:Nat}{L R:List bc}:z4 a b nj alo ahi blo bhi i j k->i8 a b alo i blo j L->i8 a b (i+k) ahi (j+k) bhi R->i8 a b alo ahi blo bhi (L++(i,j,k)::R)
theorem i8.ro (h:i8 a b alo ahi blo bhi L):alo<=ahi->blo<=bhi->bhi<=nb->dY (jj a b (places b nb) nj) (alo,ahi,blo,bhi)=L:=by
 induction h with
 |none hn=>
  intro h1 h2 h3;exact Kp (by exact ae (aat h3 h1 hn ..) rfl)
 |@some alo ahi blo bhi i j k L R hb hL hR W vK=>
  intro h1 h2 h3;have e:=aas h3 h1 hb;refine El.aa hb λU zz=>?_;clear hb;refine k9 U λq0 q1 q2 q3 q4 q5=>?_;clear U;refine ae (uz (Kr _ _ _ _) h1 h2 e (nF q0) ..) ?_
  congr 1
  ·split
   ·exact W (by omega) (by omega) (aD (aD (ba _ _) q4) h3)
   ·rename_i hc;clear hR W vK e q5;cases hL with
    |none _=>rfl
    |some V _ _=>refine El.aa V λU zz=>?_;clear V;refine k9 U λg0 g1 g2 g3 g4 g5=>?_;clear U;(clear q3 q1 h3;lia)
  ·congr 1
   split
   ·exact vK (by omega) (by omega) (by omega)
   ·rename_i hc;clear hL W vK e q5;cases hR with
    |none _=>rfl
    |some V _ _=>refine El.aa V λU zz=>?_;clear V;refine k9 U λg0 g1 g2 g3 g4 g5=>?_;clear U;(clear q4 q2 h3;lia)
def Apart:List bc->Prop:=@λA=>match A with
 |[]=>True
 |[zz]=>True
 |x::y::r=>¬(x.1+x.2.2=y.1/\x.2.1+x.2.2=y.2.1)/\Apart (y::r)
theorem OA:∀(r:List bc) (x:bc) (acc:List bc),(∀y∈x::r,0<y.2.2)->Apart (x::r)->
  (if (r.foldl gq (x,acc)).1.2.2=0 then (r.foldl gq (x,acc)).2 else (r.foldl gq (x,acc)).2++[(r.foldl gq (x,acc)).1])=acc++x::r:=@λA B C D F=>match A,B,C,D,F with
 |[],x,acc,U,zz=>by
  have:=U x (.head _);exact ae (List.foldl_nil ..) (ae (if_neg (by dsimp only;exact (nF this)) ..) rfl)
 |y::r,x,acc,U,V=>by
  have hx:=U x (.head _);have hs:gq (x,acc) y=(y,acc++[x]):=by
   unfold gq;exact ae (if_neg V.1 ..) (ae (if_neg (by dsimp only;exact (nF hx)) ..) rfl)
  refine ae (AI ..) (ae (hs ..) (ae (OA r y (acc++[x]) (λz hz=>U z (.tail _ hz)) V.2 ..) ?_));simp
theorem OB (la lb:Nat) (U:∀y∈L,0<y.2.2) (V:Apart L):joined L la lb=L++[(la,lb,0)]:=by
 unfold joined pW;cases L with
 |nil=>rfl
 |cons x r=>
  have hs:gq ((0,0,0),[]) x=(x,[]):=by
   unfold gq;split
   ·rename_i h;clear U V;obtain ⟨i,j,k⟩:=x;dsimp only at h ⊢;have e1:i=0:=by exact (aN (dW (.q .b .z) .b .z rfl (aC h.1)) (A6))
    have e2:j=0:=by exact (aN (aD (aD (dm h.2.symm) (dm h.1)) (dm e1)) (bA _))
    exact ae (e1 ..) (ae (e2 ..) (ae (jf ..) rfl))
   ·rfl
  refine ae (AI ..) (ae (hs ..) (ae (OA r x [] U V ..) ?_));rfl
noncomputable def oV:Nat->Nat->List bc->List Op:=@λA B C=>match A,B,C with
 |zz,U,[]=>[]
 |p,q,b::r=>fv p q b.1 b.2.1++(fG b++oV (b.1+b.2.2) (b.2.1+b.2.2) r)
theorem OC (bl:List bc):(jI bl).2=oV 0 0 bl:=by
 have:∀(bl:List bc) (p q:Nat) (os:List Op),(bl.foldl me ((p,q),os)).2=os++oV p q bl:=by
  intro bl;induction bl with
  |nil=>intro p q os;exact (cL os).symm
  |cons b r U=>
   intro p q os;refine ae (AI ..) ?_;refine (?_:(r.foldl me ((b.1+b.2.2,b.2.1+b.2.2),_)).2=_);rw [U,bt,bt];rfl
 have:=this bl 0 0 []
 rwa [fE] at this
section
variable {as bs:List Int}
def vL (as bs:List Int) (p i q j:Nat):Prop:=slc as p i=slc bs q j->slc bs q j=[]
class inductive jV (as bs:List Int) (e f:Nat):Nat->Nat->List bc->Prop
 |nil {p q:Nat}:p<=e->q<=f->vL as bs p e q f->jV as bs e f p q []
 |cons {p q i j k:Nat}{r:List bc}:p<=i->q<=j->vL as bs p i q j->0<k->slc as i (i+k)=slc bs j (j+k)->i+k<=e->j+k<=f->jV as bs e f (i+k) (j+k) r->jV as bs e f p q ((i,j,k)::r)
theorem jV.append {i j k e f p q:Nat}{L R:List bc}(h:jV as bs i j p q L) (hk:0<k) (W:slc as i (i+k)=slc bs j (j+k)) (U:i+k<=e) (V:j+k<=f) (hR:jV as bs e f (i+k) (j+k) R):jV as bs e f p q (L++(i,j,k)::R):=by
 induction h with
 |nil a b c=>exact .cons a b c hk W U V hR
 |cons a b c d x y z _ ih=>exact .cons a b c d x (aD y (aD (ba _ _) U)) (aD z (aD (ba _ _) V)) ih
theorem z5 (h:a+t<b) (hb:b<=l.length):(slc l a b)[t]? = some (l.getD (a+t) 0):=by
 unfold slc;rw [Sk,if_pos (by exact (eN (.t (.k (.a .d .b) .f) (.q .f (.a .c .d))) .b .c rfl h (aE (IY h)).symm)),R6,iW,eC (by exact (fR h hb))]
 rfl
theorem vM (hb:b<=l.length):(slc l a b).length=b-a:=by
 unfold slc;exact ae (jg ..) (ae (hU ..) (iB (Nat.sub_le_sub_right hb a)))
theorem aau (h:∀t<k,as.getD (i+t) 0=bs.getD (j+t) 0) (U:i+k<=as.length) (V:j+k<=bs.length):slc as i (i+k)=slc bs j (j+k):=by
 apply aeO;intro t;by_cases ht:t<k
 ·exact ae (z5 (IZ ht) U ..) (ae (z5 (IZ ht) V ..) (ae (h t ht ..) rfl))
 ·rw [Rt (by refine ae (vM U ..) ?_;omega),Rt (by refine ae (vM V ..) ?_;omega)]
theorem i8.pY (h:i8 (λi=>as.getD i 0) (λi=>bs.getD i 0) alo ahi blo bhi L):alo<=ahi->blo<=bhi->ahi<=as.length->bhi<=bs.length->jV as bs ahi bhi alo blo L:=by
 induction h with
 |@none alo ahi blo bhi hn=>
  intro W h2 U V;refine .nil W h2 λe=>HA λgB=>?_;have l1:=vM (a:=alo) U;have l2:=vM (a:=blo) V;have lp:=pP.mpr gB;have el:=congrArg Bv e;have e0:=congrArg (λl=>l[0]?) e;replace e0:(slc as alo ahi)[0]? = (slc bs blo bhi)[0]?:=e0;rw [z5 (by exact (nP (.y (.q .d .f) (.k .z .h) (.q .h .d) (.q (.a .f .b) .c)) (.a .b .z) .c rfl l1 lp (aC el) (aE (Lin.A0 W)))) U,z5 (by exact (eN (.u (.q .d .f) (.k .z .d) (.q (.a .f .b) .c)) (.a .b .z) .c rfl l2 lp (aE (Lin.A0 h2)))) V] at e0
  refine hn alo blo 1 (xN Nat.one_pos (aK _) (dD (.y (.q .d .f) (.k .z .h) (.q .h .d) (.q (.a .f .b) .c)) (.S .b) .c rfl l1 lp (aC el) (aE (Lin.A0 W))) (aK _) (bJ (.u (.q .d .f) (.k .z .d) (.q (.a .f .b) .c)) (.S .b) .c rfl l2 lp (aE (Lin.A0 h2))) (λt ht=>?_));have:t=0:=by exact (aN (I0 ht) (A6))
  clear ht;subst this;exact ⟨dJ e0,rfl⟩
 |@some alo ahi blo bhi i j k L R hb hL hR ihL vK=>
  intro W h2 U V;refine k9 hb.1 λg1 g2 g3 g4 g5 g6=>(ihL g2 g4 (aD (aD (ba _ _) g3) U) (aD (aD (ba _ _) g5) V)).append g1 (aau (λt ht=>(g6 t ht).1) (aD g3 U) (aD g5 V)) g3 g5 (vK g3 g5 U V)
theorem Alt.tag {p q i j:Nat}(U:p<=i) (V:q<=j) (hi:i<=as.length) (W:j<=bs.length) (hn:vL as bs p i q j) (hl:last≠some false) (h0:p=i->q=j->Alt as bs i j last rest) (h1:Alt as bs i j (some false) rest):Alt as bs p q last (fv p q i j++rest):=by
 have hc:¬(slc as p i=slc bs q j/\slc bs q j≠[]):=λh=>h.2 (hn h.1);unfold fv;split
 ·exact .ch (.inl rfl) hc hl U hi V W h1
 ·split
  ·exact .ch (.inr (.inl rfl)) hc hl U hi V W h1
  ·split
   ·exact .ch (.inr (.inr rfl)) hc hl U hi V W h1
   ·have e1:p=i:=by lia
    have e2:q=j:=by lia
    clear U V hi W hn h1 hc;subst e1 e2;exact h0 rfl rfl
theorem jV.alt {p q:Nat}(h:jV as bs as.length bs.length p q L):∀last,last≠some false->Apart L->(last=some true->∀b∈L.head?,¬(p=b.1/\q=b.2.1))->Alt as bs p q last (oV p q (L++[(as.length,bs.length,0)])):=by
 induction h with
 |@nil p q V W h3=>
  intro last hl _ _;refine (?_:Alt as bs p q last (fv p q as.length bs.length++(fG (as.length,bs.length,0)++[])));refine Alt.tag V W (aK _) (aK _) h3 hl (λzz zz=>?_) ?_
  ·exact .done
  ·exact .done
 |@cons p q i j k r V W h3 h4 h5 h6 h7 hr ih=>
  intro last hl ha hh;refine (?_:Alt as bs p q last (fv p q i j++(fG (i,j,k)++oV (i+k) (j+k) (r++[(as.length,bs.length,0)]))));have hi:i<=as.length:=aD (ba _ _) h6;have hj:j<=bs.length:=aD (ba _ _) h7;have e0:fG (i,j,k)=[("equal",i,i+k,j,j+k)]:=if_neg (nF h4);have gB:slc bs j (j+k)≠[]:=λe=>by have:=vM (a:=j) h7;rw [e] at this;simp at this;omega
  have step:∀U,U≠some true->Alt as bs i j U (fG (i,j,k)++oV (i+k) (j+k) (r++[(as.length,bs.length,0)])):=λU FR=>by
   refine ae (e0 ..) <| .eq h5 gB FR (ba _ _) h6 (ba _ _) h7 (ih (some true) (by decide) ?_ ?_)
   ·clear hr ih hh;cases r with
    |nil=>trivial
    |cons y r=>exact ha.2
   ·intro _ b hb;clear hr ih hh;cases r with
    |nil=>exact El.ns hb
    |cons y r=>cases hb;exact ha.1
  refine Alt.tag V W hi hj h3 hl (λe1 e2=>step last λe=>?_) (step _ (by decide))
  exact hh e _ rfl ⟨e1,e2⟩
theorem i8.alt (h:i8 (λi=>as.getD i 0) (λi=>bs.getD i 0) 0 as.length 0 bs.length L) (U:Apart L) (V:∀y∈L,0<y.2.2):Alt as bs 0 0 wx (jI (joined L as.length bs.length)).2:=by
 refine ae (OB _ _ V U ..) (ae (OC ..) ?_);exact (h.pY (bA _) (bA _) (aK _) (aK _)).alt wx (by decide) U (λe=>El.ns e)
end
abbrev gG (g h:bc):Prop:=g.1+g.2.2<=h.1/\g.2.1+g.2.2<=h.2.1
abbrev oW (g h:bc):Prop:=h.2.2<g.2.2∨(h.2.2=g.2.2/\g.1<h.1)
structure oX (A B:Nat->Int) (na nb:Nat) (G:bc->Prop):Prop where
 pos:∀g,G g->0<g.2.2/\g.1+g.2.2<=na/\g.2.1+g.2.2<=nb
 run:∀g,G g->∀t,t<g.2.2->A (g.1+t)=B (g.2.1+t)
 FT:∀i j,i<na->j<nb->A i=B j->∃g,G g/\∃t,t<g.2.2/\i=g.1+t/\j=g.2.1+t
 FU:∀g h,G g->G h->g=h∨((g.1+g.2.2<=h.1∨h.1+h.2.2<=g.1)/\(g.2.1+g.2.2<=h.2.1∨h.2.1+h.2.2<=g.2.1))
 max:∀g h,G g->G h->¬(g.1+g.2.2=h.1/\g.2.1+g.2.2=h.2.1)
structure vN (G:bc->Prop) (L:List bc):Prop where
 mem:∀g∈L,G g
 qi:L.Pairwise gG
 sN:∀g,G g->g∉L->∃t∈L,oW t g/\¬gG t g/\¬gG g t
theorem OD {x g:bc}(h:g.2.2<=x.2.2) (hx:gG x g) (px:0<x.2.2):oW x g:=(rm h).imp id λe=>⟨e,fR (wz px) hx.1⟩
theorem aav {x g:bc}(h:oW x g):g.2.2<=x.2.2:=h.elim cA λe=>dm e.1
section
variable {t g:bc}{alo ahi blo bhi i j k:Nat}
theorem OE (U:t.1+t.2.2<=alo/\t.2.1+t.2.2<=blo) (V:0<k) (W:alo<=i) (q3:blo<=j) (k2:i+k<=g.1+g.2.2) (k3:j+g.1=i+g.2.1) (h5:t.1+t.2.2<=g.1∨g.1+g.2.2<=t.1) (h6:t.2.1+t.2.2<=g.2.1∨g.2.1+g.2.2<=t.2.1) (b2:¬gG t g):False:=
 b2 ⟨h5.resolve_right λe=>ka (.t (.l (.a .b .c) .b) (.k .z .c)) rfl (aD k2 (aD e (aD (ba _ _) (aD U.1 W)))) V,h6.resolve_right λe=>IA (.y (.l (.a .b .c) .d) (.l (.a .f .h) (.a .i .c)) (.q (.a .d .i) (.a .f .b)) (.k .z .h)) rfl (aD e (aD (ba _ _) (aD U.2 q3))) k2 k3 V⟩
theorem OF (U:ahi<=t.1/\bhi<=t.2.1) (V:0<k) (W:i+k<=ahi) (q4:j+k<=bhi) (k1:g.1<=i) (k3:j+g.1=i+g.2.1) (h5:t.1+t.2.2<=g.1∨g.1+g.2.2<=t.1) (h6:t.2.1+t.2.2<=g.2.1∨g.2.1+g.2.2<=t.2.1) (b3:¬gG g t):False:=
 b3 ⟨h5.resolve_left λe=>ka (.t (.l (.a .b .c) .b) (.k .z .c)) rfl (aD W (aD U.1 (aD (ba _ _) (aD e k1)))) V,h6.resolve_left λe=>uf (.y (.l (.a .b .c) .d) (.q (.a .f .d) (.a .b .h)) (.l .h .f) (.k .z .c)) rfl (aD q4 (aD U.2 (aD (ba _ _) e))) k3.symm k1 V⟩
theorem FV (k1:g.1<=i) (k2:i+k<=g.1+g.2.2):k<=g.2.2:=Nat.le_of_add_le_add_left (aD k2 (Rj k1 _))
theorem aaw (k1:g.1<=i) (k2:i+k<=g.1+g.2.2) (h:oW t g):k<t.2.2∨k=t.2.2/\(t.1<i∨t.1=i/\t.2.1<=j):=h.elim (λh=>.inl (dk (FV k1 k2) h)) λh=>(rm (FV k1 k2)).imp (λe=>h.1▸e) λe=>⟨e.trans h.1,.inl (fR h.2 k1)⟩
theorem aax (k1:g.1<=i) (k2:i+k<=g.1+g.2.2) (k3:j+g.1=i+g.2.1):k<g.2.2∨k=g.2.2/\(g.1<i∨g.1=i/\g.2.1<=j):=(rm (FV k1 k2)).imp id λe=>⟨e,.inr ⟨aN k1 (Nat.le_of_add_le_add_right (e▸k2)),bJ (.t (.q (.a .d .b) (.a .c .f)) (.l .f .d)) .b .c rfl k3.symm k1⟩⟩
end
theorem aay:∀{L:List bc},L≠[]->L.Pairwise gG->(∀g∈L,0<g.2.2)->∃V m W,L=V++m::W/\∀g∈L,g=m∨oW m g:=by
 intro L;induction L with
 |nil=>intro h;exact (h rfl).elim
 |cons x r ih=>
  intro _ hs hp;refine El.aa (j7.mp hs) λh1 h2=>?_;cases r with
  |nil=>exact ⟨[],x,[],rfl,λg hg=>.inl (cQ.mp hg)⟩
  |cons y r=>
   refine ma (ih (aeP _ _) h2 λg hg=>hp g (.tail _ hg)) λV m W e hm=>?_;have mm:m∈y::r:=e▸bj _ (.head _);have hx:=h1 m mm;have px:=hp x (.head _);by_cases h:m.2.2<=x.2.2
   ·refine ⟨[],x,y::r,rfl,λg hg=>?_⟩;rcases aT.mp hg with e | hg
    ·exact .inl e
    ·have U:=h1 g hg
     right
     rcases hm g hg with e | hb
     ·subst e;exact OD h U px
     ·exact OD (aD (aav hb) h) U px
   ·refine ⟨x::V,m,W,congrArg (x::·) e,λg hg=>?_⟩;rcases aT.mp hg with e | hg
    ·right;subst e;exact (.inl (uh (dg.mp h)))
    ·exact hm g hg
section
variable {A B:Nat->Int}{na nb:Nat}{G:bc->Prop}{L:List bc}
theorem oX.in1 (W:oX A B na nb G):∀{l:Nat},0<l->i+l<=na->j+l<=nb->Run A B nj i j l->∃g,G g/\g.1<=i/\i+l<=g.1+g.2.2/\j+g.1=i+g.2.1:=by
 intro l;induction l with
 |zero=>intro h;exact (jD _ h).elim
 |succ l ih=>
  intro _ h1 h2 hr;obtain ⟨g',V,t,ht,e1,e2⟩:=W.FT (i+l) (j+l) (IC h1) (IC h2) (hr l (nf _)).1;by_cases h0:l=0
  ·clear ih a h1 h2 hr;subst h0;exact jH g' V (bL (.q (.a .b .d) (.a .c .z)) .b .c rfl (aC e1)) (bJ (.t (.k .f .d) (.q (.a .b .z) (.a .c .f))) (.S .b) (.a .c .d) rfl ht e1) (aN (dD (.t (.q (.a .c .h) (.a .d .z)) (.q (.a .b .z) (.a .f .h))) (.a .b .c) (.a .d .f) rfl (aC e1) e2) (dD (.t (.q (.a .b .z) (.a .f .h)) (.q (.a .c .h) (.a .d .z))) (.a .b .c) (.a .d .f) rfl e1 (aC e2)))
  ·refine gk (ih (Or.elim (kR h0) (λU=>(ji (.c1 _) .z 0 (.k .b .z) .z .b rfl U)) λU=>(cF (.k .z .b) .z .b rfl U)) (ID h1) (ID h2) λt ht=>hr t (pL ht)) λg hg k1 k2 k3=>?_;by_cases h:i+l<g.1+g.2.2
   ·exact jH g hg k1 (bJ (.k (.a .b .c) (.a .d .f)) (.a .b (.S .c)) (.a .d .f) rfl h) k3
   ·have hm:=W.max g g' hg V;rcases W.FU g g' hg V with e | ⟨h5,h6⟩
    ·clear V;subst e;exact (tS (uf (.u (.l (.a .b .c) (.a .d .f)) (.k .h .c) (.q (.a .d .f) (.a .b .h))) rfl (cW.mp h) ht e1))
    ·refine (h5.elim (λq=>(hm ⟨aN q (aD (ba _ _) (e1▸k2)),aN ?_ ?_⟩).elim) λq=>(uf (.u (.l (.a .b .c) .d) (.q (.a .d .f) (.a .b .h)) (.k .h .c)) rfl (aD q k1) e1 ht).elim)
     ·exact Iy (.y (.q (.a .f .b) (.a .h .i)) (.l (.a .i .c) .j) (.q (.a .j .k) (.a .f .l)) (.q (.a .h .l) (.a .d .k))) (.a .b .c) .d rfl k3.symm q e1.symm e2
     ·exact Cq (.u (.q (.a .h .i) (.a .j .c)) (.l (.a .j .k) (.a .i .d)) (.q (.a .b .f) (.a .h .k))) .b (.a .c .d) rfl k3 k2 e2.symm
theorem aaz (hG:oX A B na nb G) (hL:vN G L):∀(n:Nat) (L1 M L2:List bc) (alo ahi blo bhi:Nat),M.length<=n->L=L1++(M++L2)->ahi<=na->bhi<=nb->(∀g∈L1,g.1+g.2.2<=alo/\g.2.1+g.2.2<=blo)->(∀g∈L2,ahi<=g.1/\bhi<=g.2.1)->(∀g∈M,(alo<=g.1/\g.1+g.2.2<=ahi)/\blo<=g.2.1/\g.2.1+g.2.2<=bhi)->i8 A B alo ahi blo bhi M:=by
 intro n;induction n with
 |zero=>
  intro L1 M L2 alo ahi blo bhi hn e h1 h2 a1 a2 a3;cases M with
  |cons=>exact sz (Hv.mp hn)
  |nil=>
   refine .none λi j k ⟨W,q1,q2,q3,q4,q5⟩=>gk (hG.in1 W (aD q2 h1) (aD q4 h2) q5) λg hg k1 k2 k3=>?_;by_cases hm:g∈L
   ·rw [e] at hm;rcases bT.mp hm with hm | hm
    ·have fi:=a1 g hm;exact (IE W q1 k2 fi.1)
    ·have fh:=a2 g hm;exact (IF W q2 k1 fh.1)
   ·refine gk (hL.sN g hg hm) λt ht b1 b2 b3=>?_;have ap:=hG.FU t g (hL.mem t ht) hg;rw [e] at ht;rcases ap with e | ⟨h5,h6⟩
    ·subst e;exact hm (e▸ht)
    ·rcases bT.mp ht with ht | ht
     ·exact OE (a1 t ht) W q1 q3 k2 k3 h5 h6 b2
     ·exact OF (a2 t ht) W q2 q4 k1 k3 h5 h6 b3
 |succ n ih=>
  intro L1 M L2 alo ahi blo bhi hn e h1 h2 a1 a2 a3;by_cases hM:M=[]
  ·exact ih L1 M L2 alo ahi blo bhi (by subst hM;exact bA _) e h1 h2 a1 a2 a3
  ·have sM:M.Pairwise gG:=by
    have:=hL.qi;rw [e] at this;exact (nH.mp (nH.mp this).2.1).1
   refine ma (aay hM sM λg hg=>(hG.pos g (hL.mem g (e▸bj _ (bE _ hg)))).1) λLa m Lb e2 hm=>?_;have mm:m∈M:=e2▸bj _ (.head _);have mL:m∈L:=e▸bj _ (bE _ mm);have gm:=hL.mem m mL;have pm:=hG.pos m gm;have am:=a3 m mm;obtain ⟨mx,my,mc⟩:=m;rw [e2] at sM;refine cg (nH.mp sM) λsA sB sX=>El.aa (j7.mp sB) λOG sB2=>?_;have lM:M.length=La.length+(Lb.length+1):=by rw [e2,aG];rfl
   rw [e2];refine .some ⟨⟨pm.1,am.1.1,am.1.2,am.2.1,am.2.2,λt ht=>⟨hG.run _ gm t ht,rfl⟩⟩,λi j l ⟨W,q1,q2,q3,q4,q5⟩=>?_⟩ ?_ ?_
   ·refine gk (hG.in1 W (aD q2 h1) (aD q4 h2) q5) λg hg k1 k2 k3=>?_;have key:∃t∈M,t=g∨oW t g:=by
     by_cases oF:g∈L
     ·rw [e] at oF;rcases bT.mp oF with hq | hq
      ·have mU:=a1 g hq;exact (tS (IE W q1 k2 mU.1))
      ·rcases bT.mp hq with hq | hq
       ·exact ⟨g,hq,.inl rfl⟩
       ·have mV:=a2 g hq;exact (tS (IF W q2 k1 mV.1))
     ·refine gk (hL.sN g hg oF) λt ht b1 b2 b3=>?_;have ap:=hG.FU t g (hL.mem t ht) hg;rw [e] at ht;rcases ap with e5 | ⟨h5,h6⟩
      ·subst e5;exact (oF (e▸ht)).elim
      ·rcases bT.mp ht with ht | ht
       ·exact (OE (a1 t ht) W q1 q3 k2 k3 h5 h6 b2).elim
       ·rcases bT.mp ht with ht | ht
        ·exact ⟨t,ht,.inr b1⟩
        ·exact (OF (a2 t ht) W q2 q4 k1 k3 h5 h6 b3).elim
    refine ar key λt ht hb=>?_;clear key;have h7:=hm t ht;have h8:(g=(mx,my,mc))∨oW (mx,my,mc) g:=by
     rcases hb with e5 | hb
     ·subst e5;exact h7
     ·rcases h7 with e6 | h7
      ·subst e6;exact .inr hb
      ·right;dsimp only [oW] at *;exact (Or.elim hb (λV=>(Or.elim h7 (λU=>(.inl (dQ (.t (.k .b .d) (.k .d .c)) .b .c rfl V U))) λU=>(.inl (dQ (.t (.k .b .d) (.q .d .c)) .b .c rfl V U.1)))) λV=>(Or.elim h7 (λU=>(.inl (dQ (.t (.q .b .d) (.k .d .c)) .b .c rfl V.1 U))) λU=>(.inr ⟨(aN (bL (.t (.q .b .d) (.q .d .c)) .b .c rfl V.1 U.1) (bL (.t (.q .d .c) (.q .b .d)) .b .c rfl (aC V.1) (aC U.1))),(dQ (.t (.k .d .c) (.k .b .d)) .b .c rfl V.2 U.2)⟩)))
    rcases h8 with e5 | h8
    ·subst e5;exact aax k1 k2 k3
    ·exact aaw k1 k2 h8
   ·refine ih L1 La ((mx,my,mc)::(Lb++L2)) alo mx blo my (bJ (.t (.l .d (.S .c)) (.q (.a .b (.S .f)) .d)) .b .c rfl hn (aC lM)) ?_ (by dsimp only at *;exact (IG pm.1 pm.2.1)) (by dsimp only at *;exact (IG pm.1 pm.2.2)) a1 (λg hg=>?_) λg hg=>?_
    ·rw [e,e2,bt];rfl
    ·rcases aT.mp hg with e5 | hg
     ·subst e5;exact ⟨aK _,aK _⟩
     ·rcases bT.mp hg with hg | hg
      ·have OH:=OG g hg;dsimp only [gG] at *;exact ⟨(aD (ba _ _) OH.1),(aD (ba _ _) OH.2)⟩
      ·have OI:=a2 g hg;dsimp only [gG] at *;exact ⟨(aD (aD (ba _ _) am.1.2) OI.1),(aD (aD (ba _ _) am.2.2) OI.2)⟩
    ·have h9:=sX g hg _ (.head _);have kz:=a3 g (e2▸bE _ hg);dsimp only [gG] at *;exact ⟨⟨kz.1.1,h9.1⟩,⟨kz.2.1,h9.2⟩⟩
   ·refine ih (L1++(La++[(mx,my,mc)])) Lb L2 (mx+mc) ahi (my+mc) bhi (bJ (.t (.l .d (.S .c)) (.q (.a .f (.S .b)) .d)) .b .c rfl hn (aC lM)) ?_ h1 h2 (λg hg=>?_) a2 λg hg=>?_
    ·rw [e,e2];simp
    ·rcases bT.mp hg with hg | hg
     ·have OJ:=a1 g hg;dsimp only [gG] at *;exact ⟨(aD (aD OJ.1 am.1.1) (ba _ _)),(aD (aD OJ.2 am.2.1) (ba _ _))⟩
     ·rcases bT.mp hg with hg | hg
      ·have OK:=sX g hg _ (.head _);dsimp only [gG] at *;exact ⟨(aD OK.1 (ba _ _)),(aD OK.2 (ba _ _))⟩
      ·rw [cQ.mp hg];exact ⟨aK _,aK _⟩
    ·have h9:=OG g hg;have kz:=a3 g (e2▸bj _ (.tail _ hg));dsimp only [gG] at *;exact ⟨⟨h9.1,kz.1.2⟩,⟨h9.2,kz.2.2⟩⟩
theorem OL (U:oX A B na nb G) (V:vN G L):i8 A B 0 na 0 nb L:=
 aaz U V L.length [] L [] 0 na 0 nb (aK _) (by refine ae (cL ..) ?_;rfl) (aK _) (aK _) (λzz h=>El.nm h) (λzz h=>El.nm h) λg hg=>by
  have:=U.pos g (V.mem g hg);exact aL ⟨(bA _),this.2.1⟩ (bA _) this.2.2
theorem aaA (U:oX A B na nb G):∀{L:List bc},(∀g∈L,G g)->Apart L:=by
 intro L;induction L with
 |nil=>exact λ_=>trivial
 |cons x r V=>intro h;cases r with
  |nil=>trivial
  |cons y r=>exact ⟨U.max x y (h x (.head _)) (h y (.tail _ (.head _))),V λg hg=>h g (.tail _ hg)⟩
end
noncomputable abbrev Hk:=List Int×List Int×List Int
section
variable (E:List Int×List Int)
noncomputable def hb:List Hk->List Int:=@λA=>match A with
 |[]=>E.1
 |h::H=>h.1++(h.2.2++hb H)
noncomputable def ht:List Hk->List Int:=@λA=>match A with
 |[]=>E.2
 |h::H=>h.2.1++(h.2.2++ht H)
noncomputable def dA:Nat->Nat->List Hk->List bc:=@λA B C=>match A,B,C with
 |x,y,[]=>[]
 |x,y,h::H=>(x+h.1.length,y+h.2.1.length,h.2.2.length)::dA (x+h.1.length+h.2.2.length) (y+h.2.1.length+h.2.2.length) H
noncomputable def de (a b:Nat):String:=if 0<a/\0<b then "replace" else if 0<a then "delete" else "insert"
noncomputable def cG (s x:Nat) (o n:List Int):List cC:=if o=[]/\n=[] then [] else [(x,x+o.length,s,de o.length n.length,n)]
noncomputable def jx (s:Nat):Nat->List Hk->List cC:=@λA B=>match A,B with
 |x,[]=>cG s x E.1 E.2
 |x,h::H=>cG s x h.1 h.2.1++jx s (x+h.1.length+h.2.2.length) H
end
theorem OM:slc (pre++(w++r)) pre.length (pre.length+w.length)=w:=by
 unfold slc;exact ae (jZ ..) (ae (List.drop_left ..) (ae (List.take_left ..) rfl))
theorem ON {s x:Nat}:fT s (pre++(n++r)) (fv x pre.length (x+o.length) (pre.length+n.length))=cG s x o n:=by
 have one:∀g:String,g≠"equal"->fT s (pre++(n++r)) [(g,x,x+o.length,pre.length,pre.length+n.length)]=[(x,x+o.length,s,g,n)]:=λg hg=>by
  unfold fT;refine ae (AO ..) (ae (if_neg hg ..) (ae (OM ..) ?_));rfl
 unfold fv cG de;have lo:o=[]↔o.length=0:=AV.symm;have ln:n=[]↔n.length=0:=AV.symm;by_cases U:0<o.length
 ·have W:¬(o=[]/\n=[]):=λh=>by have fi:=lo.mp h.1;exact (JN U fi)
  refine ae (if_neg W ..) ?_;by_cases V:0<n.length
  ·refine ae (if_pos ⟨wz U,wz V⟩ ..) (ae (if_pos ⟨U,V⟩ ..) ?_);exact one _ (by decide)
  ·refine ae (if_neg (λh=>V (rI h.2)) ..) (ae (if_pos (wz U) ..) (ae (if_neg (λh:0<o.length/\0<n.length=>V h.2) ..) (ae (if_pos U ..) ?_)));exact one _ (by decide)
 ·by_cases V:0<n.length
  ·refine ae (if_neg (λh=>U (rI h.1)) ..) (ae (if_neg (λh=>U (rI h)) ..) (ae (if_pos (wz V) ..) (ae (if_neg (λh:o=[]/\n=[]=>by have fh:=ln.mp h.2;exact (JN V fh)) ..) (ae (if_neg (λh:0<o.length/\0<n.length=>U h.1) ..) (ae (if_neg U ..) ?_)))))
   exact one _ (by decide)
  ·refine ae (if_neg (λh=>U (rI h.1)) ..) (ae (if_neg (λh=>U (rI h)) ..) (ae (if_neg (λh=>V (rI h)) ..) (ae (if_pos ⟨lo.mpr (aN (cW.mp U) (bA _)),ln.mpr (aN (cW.mp V) (bA _))⟩ ..) ?_)));rfl
theorem z6 {s:Nat}:fT s T (a++b)=fT s T a++fT s T b:=aew
theorem OO {s:Nat}:fT s T (fG b)=[]:=by
 unfold fG;split <;> rfl
section
variable {E:List Int×List Int}{s:Nat}
theorem aaB:∀(H:List Hk) (pre:List Int) (x:Nat),fT s (pre++ht E H) (oV x pre.length (dA x pre.length H++[(x+(hb E H).length,pre.length+(ht E H).length,0)]))=jx E s x H:=by
 intro H;induction H with
 |nil=>
  intro pre x;show fT s (pre++E.2) (fv x pre.length (x+E.1.length) (pre.length+E.2.length)++(fG _++[]))=_
  refine ae (z6 ..) (ae (z6 ..) (ae (OO ..) ?_));have:=ON (s:=s) (x:=x) (pre:=pre) (o:=E.1) (n:=E.2) (r:=[]);rw [cL] at this;refine ae (this ..) <| cL (cG s x E.1 E.2)
 |cons h H U=>
  intro pre x;have U:=U (pre++(h.2.1++h.2.2)) (x+h.1.length+h.2.2.length);have e1:(pre++(h.2.1++h.2.2)).length=pre.length+h.2.1.length+h.2.2.length:=by
   exact ae (aG ..) (ae (aG ..) (ae (pF ..) rfl))
  have e2:pre++(h.2.1++h.2.2)++ht E H=pre++(h.2.1++(h.2.2++ht E H)):=by simp
  have e3:x+(hb E (h::H)).length=x+h.1.length+h.2.2.length+(hb E H).length:=by
   show x+(h.1++(h.2.2++hb E H)).length=_
   refine ae (aG ..) (ae (aG ..) ?_);exact (aN (JO) (JP))
  have V:pre.length+(ht E (h::H)).length=pre.length+h.2.1.length+h.2.2.length+(ht E H).length:=by
   show pre.length+(h.2.1++(h.2.2++ht E H)).length=_
   refine ae (aG ..) (ae (aG ..) ?_);exact (aN (JO) (JP))
  rw [e1,e2] at U;show fT s (pre++(h.2.1++(h.2.2++ht E H))) (fv x pre.length (x+h.1.length) (pre.length+h.2.1.length)++(fG _++oV _ _ (dA _ _ H++[_])))=cG s x h.1 h.2.1++jx E s _ H
  refine ae (z6 ..) (ae (z6 ..) (ae (OO ..) (ae (ON ..) (ae (e3 ..) (ae (V ..) (ae (U ..) ?_))))));rfl
theorem aaC {H:List Hk}(hB:i8 (λi=>bs.getD i 0) (λi=>ts.getD i 0) 0 bs.length 0 ts.length (dA 0 0 H)) (V:Apart (dA 0 0 H)) (U:∀h∈H,h.2.2≠[]) (e1:bs=hb E H) (e2:ts=ht E H) :
  joined (dA 0 0 H) bs.length ts.length=dA 0 0 H++[(bs.length,ts.length,0)]/\Alt bs ts 0 0 wx (jI (joined (dA 0 0 H) bs.length ts.length)).2/\fT s ts (jI (joined (dA 0 0 H) bs.length ts.length)).2=jx E s 0 H:=by
 have pos:∀(H:List Hk) (x y:Nat),(∀h∈H,h.2.2≠[])->∀b∈dA x y H,0<b.2.2:=by
  intro H;induction H with
  |nil=>intro x y _ b hb;exact El.nm hb
  |cons h H ih=>
   intro x y U b hb;rcases aT.mp hb with e | hb
   ·clear hb;subst e;exact pP.mpr (U h (.head _))
   ·exact ih _ _ (λh q=>U h (.tail _ q)) b hb
 have W:=OB bs.length ts.length (pos H 0 0 U) V;refine aL W (hB.alt V (pos H 0 0 U)) <| ae (W ..) (ae (OC ..) ?_);have:=aaB (E:=E) (s:=s) H [] 0;rw [<-e1] at this;simp only [fE,jf,tU,<-e2] at this;exact this
end
theorem z7 {α:Type}{R:α->α->Prop}{a b:α}:∀{L:List α},L.Pairwise R->a∈L->b∈L->a=b∨R a b∨R b a:=by
 intro L;induction L with
 |nil=>intro _ h;exact El.nm h
 |cons x L ih=>
  intro h ha hb;refine El.aa (j7.mp h) λV h2=>?_;clear h;rcases aT.mp ha with e | W
  ·rcases aT.mp hb with e2 | U
   ·exact .inl (e.trans e2.symm)
   ·exact .inr (.inl (e▸V b U))
  ·rcases aT.mp hb with e2 | U
   ·exact .inr (.inr (e2▸V a W))
   ·exact ih h2 W U
theorem OP {l:List Int}(h:l.Nodup) {i j:Nat}{z:Int}(hi:l[i]? = some z) (U:l[j]? = some z):i=j:=
 (tK (dU.mp hi).1 h).mp (hi.trans U.symm)
theorem getD_some {l:List Int}{i:Nat}(h:i<l.length):l[i]? = some (l.getD i 0):=by
 rw [iW,eC h];rfl
section
variable {E:List Int×List Int}
theorem OQ:∀(H:List Hk) (x y:Nat),∀g∈dA x y H,∃a b,g.1=x+a/\g.2.1=y+b/\a+g.2.2<=(hb E H).length/\b+g.2.2<=(ht E H).length/\∀t,t<g.2.2->(hb E H)[a+t]? = (ht E H)[b+t]?:=by
 intro H;induction H with
 |nil=>intro x y g h;exact El.nm h
 |cons k H V=>
  intro x y g h;have U:(hb E (k::H)).length=k.1.length+(k.2.2.length+(hb E H).length):=by
   show (k.1++(k.2.2++hb E H)).length=_
   exact ae (aG ..) (ae (aG ..) rfl)
  have l2:(ht E (k::H)).length=k.2.1.length+(k.2.2.length+(ht E H).length):=by
   show (k.2.1++(k.2.2++ht E H)).length=_
   exact ae (aG ..) (ae (aG ..) rfl)
  rcases aT.mp h with e | h
  ·clear h;subst e;refine uw k.1.length k.2.1.length rfl rfl (by dsimp only;exact (JV (aC U))) (by dsimp only;exact (JV (aC l2))) (λt ht=>?_)
   show (k.1++(k.2.2++hb E H))[k.1.length+t]? = (k.2.1++(k.2.2++Pure.ht E H))[k.2.1.length+t]?
   rw [hH (ba _ _),hH (ba _ _),jZ,jZ,kT ht,kT ht]
  ·refine rK (V _ _ g h) λa b e1 e2 e3 W e5=>uw (k.1.length+(k.2.2.length+a)) (k.2.1.length+(k.2.2.length+b)) (aN (JW e1) (JX (aC e1))) (aN (JW e2) (JX (aC e2))) (JY (aC U) e3) (JY (aC l2) W) (λt ht=>?_);have:=e5 t ht;show (k.1++(k.2.2++hb E H))[k.1.length+(k.2.2.length+a)+t]? = (k.2.1++(k.2.2++Pure.ht E H))[k.2.1.length+(k.2.2.length+b)+t]?
   rw [hH (by exact (xG)),hH (by exact (JZ (aE (xG)).symm)),hH (by exact (xG)),hH (by exact (JZ (aE (xG)).symm))]
   refine ae (show k.1.length+(k.2.2.length+a)+t-k.1.length-k.2.2.length=a+t by (clear e2;omega)) (ae (show k.2.1.length+(k.2.2.length+b)+t-k.2.1.length-k.2.2.length=b+t by (clear e1;omega)) ?_)
   exact this
theorem aaD:∀(H:List Hk) (x y:Nat) {i:Nat},(hb E H)[i]? = some z->(z∈E.1∨∃h∈H,z∈h.1)∨∃g∈dA x y H,∃t,t<g.2.2/\x+i=g.1+t/\∃j,y+j=g.2.1+t/\(ht E H)[j]? = some z:=by
 intro H;induction H with
 |nil=>intro x y i h;exact .inl (.inl (d6 h))
 |cons k H W=>
  intro x y i h;have h:(k.1++(k.2.2++hb E H))[i]? = some z:=h;by_cases U:i<k.1.length
  ·rw [kT U] at h;exact .inl (.inr (av k (.head _) (d6 h)))
  ·rw [hH (cW.mp U)] at h;by_cases V:i-k.1.length<k.2.2.length
   ·rw [kT V] at h;refine .inr (Kk _ (.head _) (i-k.1.length) V (by dsimp only;exact (aN (bJ (.q .c (.a .f .d)) (.a .b .c) (.a (.a .b .d) .f) rfl (aE (Lin.A0 (cW.mp U))).symm) (bJ (.q (.a .d .c) .f) (.a (.a .b .c) .d) (.a .b .f) rfl (aE (Lin.A0 (cW.mp U)))))) (k.2.1.length+(i-k.1.length)) (by dsimp only;exact (aN (bL .z (.a .b (.a .c .d)) (.a (.a .b .c) .d) rfl) (bL .z (.a (.a .b .c) .d) (.a .b (.a .c .d)) rfl))) ?_)
    show (k.2.1++(k.2.2++ht E H))[_]? = _
    rw [hH (by exact (rD)),jZ,kT V]
    exact h
   ·rw [hH (by exact (Lin.A0 (cW.mp V)))] at h
    rcases W (x+k.1.length+k.2.2.length) (y+k.2.1.length+k.2.2.length) h with h | ⟨g,hg,t,ht,e1,j,e2,e3⟩
    ·exact .inl (h.imp_right λ⟨h,hh,q⟩=>(av h (.tail _ hh) q))
    ·refine .inr (Kk g (.tail _ hg) t ht (aN (Cq (.u (.q (.a (.a (.a .b .h) .i) .j) (.a .d .f)) (.q .c (.a .k .h)) (.q .k (.a .j .i))) (.a .b .c) (.a .d .f) rfl e1 (aE (Lin.A0 (cW.mp U))).symm (aE (Lin.A0 (cW.mp V))).symm) (Cq (.u (.q (.a .b .c) (.a (.a (.a .d .h) .i) .j)) (.q (.a .k .h) .f) (.q (.a .j .i) .k)) (.a .b .c) (.a .d .f) rfl (aC e1) (aE (Lin.A0 (cW.mp U))) (aE (Lin.A0 (cW.mp V))))) (k.2.1.length+(k.2.2.length+j)) (aN (fq (.q (.a (.a (.a .b .c) .d) .f) (.a .h .i)) (.a .b (.a .c (.a .d .f))) (.a .h .i) rfl e2) (fq (.q (.a .b .c) (.a (.a (.a .d .f) .h) .i)) (.a .b .c) (.a .d (.a .f (.a .h .i))) rfl (aC e2))) ?_);show (k.2.1++(k.2.2++Pure.ht E H))[_]? = _
     rw [hH (by exact (bL .z .b (.a .b (.a .c .d)) rfl)),jZ,hH (by exact (ba _ _)),jZ]
     exact e3
theorem OR:∀(H:List Hk) (x y:Nat),∀g∈dA x y H,x+(H.headD ([],[],[])).1.length<=g.1/\y+(H.headD ([],[],[])).2.1.length<=g.2.1:=by
 intro H;induction H with
 |nil=>intro x y g h;exact El.nm h
 |cons k H U=>
  intro x y g h;rcases aT.mp h with e | h
  ·clear h;subst e;exact ⟨aK _,aK _⟩
  ·have:=U _ _ g h;show x+k.1.length<=_/\y+k.2.1.length<=_
   exact ⟨(J0 this.1),(J0 this.2)⟩
abbrev Bfa (g h:bc):Prop:=gG g h/\¬(g.1+g.2.2=h.1/\g.2.1+g.2.2=h.2.1)
theorem aaE:∀(H:List Hk) (x y:Nat),(dA x y H).Pairwise gG:=by
 intro H;induction H with
 |nil=>intro x y;exact .nil
 |cons k H V=>
  intro x y;refine j7.mpr ⟨λg hg=>?_,V _ _⟩;have U:=OR H _ _ g hg;exact ⟨by dsimp only;exact (xH U.1),by dsimp only;exact (xH U.2)⟩
theorem aaF:∀(H:List Hk) (x y:Nat),(∀h∈H.tail,¬(h.1=[]/\h.2.1=[]))->(dA x y H).Pairwise Bfa:=by
 intro H;induction H with
 |nil=>intro x y _;exact .nil
 |cons k H V=>
  intro x y hg;refine j7.mpr ⟨λg U=>?_,V _ _ λh hh=>hg h (List.mem_of_mem_tail hh)⟩;have:=OR H _ _ g U;refine ⟨⟨by dsimp only;exact (xH this.1),by dsimp only;exact (xH this.2)⟩,λe=>?_⟩
  clear V;cases H with
  |nil=>exact El.nm U
  |cons k2 H=>
   have W:=hg k2 (.head _);have h3:¬(k2.1.length=0/\k2.2.1.length=0):=λq=>W ⟨AV.mp q.1,AV.mp q.2⟩;have h4:x+k.1.length+k.2.2.length+k2.1.length<=g.1/\y+k.2.1.length+k.2.2.length+k2.2.1.length<=g.2.1:=this;dsimp only at e;lia
theorem FW:∀(H:List Hk) (x y:Nat),(∀h∈H,h.2.2≠[])->∀b∈dA x y H,0<b.2.2:=by
 intro H;induction H with
 |nil=>intro x y _ b hb;exact El.nm hb
 |cons h H V=>
  intro x y U b hb;rcases aT.mp hb with e | hb
  ·clear hb;subst e;exact pP.mpr (U h (.head _))
  ·exact V _ _ (λh q=>U h (.tail _ q)) b hb
theorem aaG {H:List Hk}(n1:(hb E H).Nodup) (n2:(ht E H).Nodup) (W:∀h∈H,h.2.2≠[]) (hg:∀h∈H.tail,¬(h.1=[]/\h.2.1=[])) (ho:∀z,z∈E.1∨(∃h∈H,z∈h.1)->z∉ht E H) :
  oX (λi=>(hb E H).getD i 0) (λi=>(ht E H).getD i 0) (hb E H).length (ht E H).length (·∈dA 0 0 H)/\vN (·∈dA 0 0 H) (dA 0 0 H):=by
 have pw:=aaF H 0 0 hg;refine ⟨⟨λg h=>?_,λg h t ht=>?_,λi j hi hj e=>?_,λg h V U=>?_,λg h V U e=>?_⟩,λg h=>h,aaE H 0 0,λg V U=>(U V).elim⟩
 ·refine rK (OQ (E:=E) H 0 0 g h) λa b e1 e2 e3 e4 e5=>aL (FW H 0 0 W g h) (J1 e1 e3) (J1 e2 e4)
 ·refine rK (OQ (E:=E) H 0 0 g h) λa b e1 e2 e3 e4 e5=>?_;have:=e5 t ht;rw [getD_some (by exact (J2 ht e3)),getD_some (by exact (J2 ht e4))] at this
  refine ae (e1 ..) (ae (e2 ..) (ae (jf ..) (ae (jf ..) ?_)));exact dJ this
 ·have q1:=getD_some hi;have q2:=getD_some hj;have e:(hb E H).getD i 0=(ht E H).getD j 0:=e;rcases aaD H 0 0 q1 with h | ⟨g,hg,t,ht,e1,j',e2,e3⟩
  ·exact (ho _ h (e▸d6 q2)).elim
  ·have:=OP n2 e3 (e▸q2);exact Kj g hg t ht (aN (bL (.q (.a .z .b) (.a .c .d)) .b (.a .c .d) rfl e1) (bL (.q (.a .b .c) (.a .z .d)) (.a .b .c) .d rfl (aC e1))) (aN (bJ (.t (.q (.a .z .f) (.a .c .d)) (.q .b .f)) .b (.a .c .d) rfl e2 (aC this)) (bJ (.t (.q (.a .b .c) (.a .z .f)) (.q .f .d)) (.a .b .c) .d rfl (aC e2) this))
 ·rcases z7 pw V U with e | h | h
  ·exact .inl e
  ·exact .inr ⟨.inl h.1.1,.inl h.1.2⟩
  ·exact .inr ⟨.inr h.1.1,.inr h.1.2⟩
 ·have p1:=FW H 0 0 W g V;have p2:=FW H 0 0 W h U;rcases z7 pw V U with e2 | h | h
  ·clear U;subst e2;exact (ka (.t (.k .z .b) (.q (.a .c .b) .c)) rfl p1 e.1)
  ·exact h.2 e
  ·have:=h.1;dsimp only [gG] at this;exact (ue (.y (.q (.a .b .c) .d) (.k .z .c) (.k .z .f) (.l (.a .d .f) .b)) rfl e.1 p1 p2 h.1.1)
end
structure Pe where
 a:List Int
 o:List Int
 n:List Int
 b:List Int
 x:List Int
noncomputable def Pe.t (p:Pe):List Int:=p.a++(p.o++p.b)
noncomputable def Pe.d (p:Pe):List Int:=p.a++(p.n++p.b)
noncomputable def Pe.m (p:Pe):List String:=if p.o=[]/\p.n=[] then [] else [de p.o.length p.n.length]
noncomputable abbrev ft (ps:List Pe):List Int:=ps.flatMap Pe.t
noncomputable abbrev fd (ps:List Pe):List Int:=ps.flatMap Pe.d
def dC (p:Pe):Prop:=p.a≠[]/\p.b≠[]
noncomputable def eU:List Int->List Int->List Int->List Pe->List Hk:=@λA B C D=>match A,B,C,D with
 |o,n,s,[]=>[(o,n,s)]
 |o,n,s,p::ps=>if p.o=[]/\p.n=[] then eU o n (s++p.t) ps else (o,n,s++p.a)::eU p.o p.n p.b ps
noncomputable def cH:Nat->List Pe->List cC:=@λA B=>match A,B with
 |x,[]=>[]
 |x,p::ps=>cG 1 (x+p.a.length) p.o p.n++cH (x+p.t.length) ps
noncomputable abbrev E0:List Int×List Int:=([],[])
theorem aaH:∀(ps:List Pe) (o n s:List Int),hb E0 (eU o n s ps)=o++(s++ft ps):=by
 intro ps;induction ps with
 |nil=>intro o n s;rfl
 |cons p ps U=>
  intro o n s;unfold eU ft;refine ae (gi ..) ?_;split
  ·refine ae (U ..) ?_;simp [ft]
  ·show o++((s++p.a)++hb E0 (eU p.o p.n p.b ps))=_
   refine ae (U ..) (ae (show p.t=p.a++(p.o++p.b) from rfl) ?_);simp [ft]
theorem aaI:∀(ps:List Pe) (o n s:List Int),ht E0 (eU o n s ps)=n++(s++fd ps):=by
 intro ps;induction ps with
 |nil=>intro o n s;rfl
 |cons p ps U=>
  intro o n s;unfold eU fd;refine ae (gi ..) ?_;split
  ·rename_i h;refine ae (U ..) (ae (show p.t=p.a++(p.o++p.b) from rfl) (ae (show p.d=p.a++(p.n++p.b) from rfl) (ae (h.1 ..) (ae (h.2 ..) ?_))));simp [fd]
  ·show n++((s++p.a)++ht E0 (eU p.o p.n p.b ps))=_
   refine ae (U ..) (ae (show p.d=p.a++(p.n++p.b) from rfl) ?_);simp [fd]
theorem aaJ:∀(ps:List Pe) (o n s:List Int) (x:Nat),jx E0 1 x (eU o n s ps)=cG 1 x o n++cH (x+o.length+s.length) ps:=by
 intro ps;induction ps with
 |nil=>intro o n s x;rfl
 |cons p ps U=>
  intro o n s x;unfold eU;split
  ·rename_i h;refine ae (U ..) ?_;show _=cG 1 x o n++(cG 1 (x+o.length+s.length+p.a.length) p.o p.n++cH (x+o.length+s.length+p.t.length) ps)
   exact ae (show cG 1 (x+o.length+s.length+p.a.length) p.o p.n=[] from if_pos h) (ae (aG ..) (ae (fE ..) (ae (pF ..).symm rfl)))
  ·show cG 1 x o n++jx E0 1 (x+o.length+(s++p.a).length) (eU p.o p.n p.b ps)=cG 1 x o n++(cG 1 (x+o.length+s.length+p.a.length) p.o p.n++cH (x+o.length+s.length+p.t.length) ps)
   refine ae (U ..) ?_;unfold Pe.t;refine ae (aG ..) (ae (aG ..) (ae (aG ..) ?_));simp only [pF]
theorem aaK:∀(ps:List Pe) (o n s:List Int),(∀p∈ps,dC p)->(s≠[]∨ps≠[])->∀h∈eU o n s ps,h.2.2≠[]:=by
 intro ps;induction ps with
 |nil=>
  intro o n s _ hs h hh;refine ae (cQ.mp hh ..) <| hs.resolve_right λe=>e rfl
 |cons p ps W=>
  intro o n s U hs h hh;have ok:=U p (.head _);unfold eU at hh;split at hh
  ·exact W _ _ _ (λq V=>U q (.tail _ V)) (.inl λe=>by unfold Pe.t at e;exact ok.1 (tV.mp (tV.mp e).2).1) h hh
  ·rcases aT.mp hh with e | hh
   ·refine ae (e ..) <| λe=>ok.1 (tV.mp e).2
   ·exact W _ _ _ (λq V=>U q (.tail _ V)) (.inl ok.2) h hh
theorem aaL:∀(ps:List Pe) (o n s:List Int),(¬(o=[]/\n=[])->∀h∈eU o n s ps,¬(h.1=[]/\h.2.1=[]))/\∀h∈(eU o n s ps).tail,¬(h.1=[]/\h.2.1=[]):=by
 intro ps;induction ps with
 |nil=>
  intro o n s;exact ⟨λq h hh=>by refine ae (cQ.mp hh ..) <| q,λh hh=>El.nm hh⟩
 |cons p ps U=>
  intro o n s;unfold eU;split
  ·exact U _ _ _
  ·rename_i V;refine ⟨λq h hh=>?_,(U p.o p.n p.b).1 V⟩;rcases aT.mp hh with e | hh
   ·refine ae (e ..) <| q
   ·exact (U p.o p.n p.b).1 V h hh
theorem aaM:∀(ps:List Pe) (o n s:List Int) {z:Int},(∃h∈eU o n s ps,z∈h.1)->z∈o∨∃p∈ps,z∈p.o:=by
 intro ps;induction ps with
 |nil=>
  intro o n s z ⟨h,hh,hz⟩;rw [cQ.mp hh] at hz;exact .inl hz
 |cons p ps U=>
  intro o n s z ⟨h,hh,hz⟩;unfold eU at hh;split at hh
  ·exact (U _ _ _ (av h hh hz)).imp_right λ⟨p,V,q⟩=>(av p (.tail _ V) q)
  ·rcases aT.mp hh with e | hh
   ·rw [e] at hz;exact .inl hz
   ·rcases U _ _ _ (av h hh hz) with h | ⟨q,W,h⟩
    ·exact .inr (av p (.head _) h)
    ·exact .inr (av q (.tail _ W) h)
theorem aaN:∀(ps:List Pe) (o n s:List Int),(eU o n s ps).length<=ps.length+1:=by
 intro ps;induction ps with
 |nil=>intro o n s;exact aK _
 |cons p ps U=>
  intro o n s;unfold eU;split
  ·exact tF (U _ _ _)
  ·exact gY (U _ _ _)
theorem aaO:∀(H:List Hk) (x y:Nat),(dA x y H).length=H.length:=by
 intro H;induction H with
 |nil=>intro x y;rfl
 |cons h H U=>intro x y;exact congrArg l5 (U _ _)
structure kI (bs ts:List Int) (L:List bc) (s:Nat) (R:List cC):Prop where
 blocks:i8 (λi=>bs.getD i 0) (λi=>ts.getD i 0) 0 bs.length 0 ts.length L
 len:L.length<63
 pw:L.Pairwise λa b=>a.1<b.1
 join:joined L bs.length ts.length=L++[(bs.length,ts.length,0)]
 alt:Alt bs ts 0 0 wx (jI (joined L bs.length ts.length)).2
 chg:fT s ts (jI (joined L bs.length ts.length)).2=R
theorem OS {E:List Int×List Int}{H:List Hk}{G:bc->Prop}(V:oX (λi=>(hb E H).getD i 0) (λi=>(ht E H).getD i 0) (hb E H).length (ht E H).length G) (U:vN G (dA 0 0 H)) (hp:∀h∈H,h.2.2≠[]) (hl:H.length<63):kI (hb E H) (ht E H) (dA 0 0 H) s (jx E s 0 H):=by
 have W:=OL V U;refine cg (aaC (E:=E) (s:=s) W (aaA V U.mem) hp rfl rfl) λa b c=>⟨W,by refine ae (aaO ..) <| hl,U.qi.imp_of_mem λ{g h} hg _ r=>?_,a,b,c⟩
 have:=(V.pos g (U.mem g hg)).1;dsimp only [gG] at r;exact (dQ (.t (.l (.a .b .d) .c) (.k .z .d)) .b .c rfl r.1 this)
theorem aaP (h0:ps≠[]) (W:∀p∈ps,dC p) (n1:(ft ps).Nodup) (n2:(fd ps).Nodup) (ho:∀p∈ps,∀z∈p.o,z∉fd ps) (hl:ps.length<62):kI (ft ps) (fd ps) (dA 0 0 (eU [] [] [] ps)) 1 (cH 0 ps):=by
 have e1:=aaH ps [] [] [];have e2:=aaI ps [] [] [];have e3:=aaJ ps [] [] [] 0;simp only [fE] at e1 e2;have U:=aaK ps [] [] [] W (.inr h0);have:=aaG (E:=E0) (H:=eU [] [] [] ps) (e1▸n1) (e2▸n2) U (aaL ps [] [] []).2 λz hz=>by
  refine ae (e2 ..) ?_;rcases hz with h | h
  ·exact El.nm h
  ·rcases aaM ps [] [] [] h with h | ⟨p,V,h⟩
   ·exact El.nm h
   ·exact ho p V z h
 have S:=OS (s:=1) this.1 this.2 U (dk (aaN ps [] [] []) (cF (.k .b (.n 62)) (.S .b) (.n 63) rfl hl));rw [e1,e2,e3] at S;exact S
section
variable {α:Type}{f:α->Nat}{z:α}{bl total:List α}
end
noncomputable def kJ (c:cC):Nat:=(c.1*2048+c.2.1)*2+c.2.2.1
theorem lex_lt {a b r s B:Nat}(U:r<B) (h:a<b):a*B+r<b*B+s:=fR (Sl U _) (aD (dm (Nat.succ_mul a B).symm) (aD (Nat.mul_le_mul_right B h) (ba _ _)))
theorem OT {a b r s B:Nat}(U:r<B) (hs:s<B):(a<b∨a=b/\r<s)↔a*B+r<b*B+s:=⟨λh=>h.elim (lex_lt U) λe=>e.1▸Sl e.2 _,λh=>(HO a b).imp id λq=>q.elim (λe=>by subst e;exact ⟨rfl,Nat.lt_of_add_lt_add_left h⟩) λq=>(HL h (lex_lt hs q)).elim⟩
theorem OU (c:cC):kJ c=c.1*4096+(c.2.1*2+c.2.2.1):=by
 unfold kJ;rw [Nat.add_mul,Nat.mul_assoc,pF]
theorem aaQ (hc:c.2.1<2048/\c.2.2.1<2) (hd:d.2.1<2048/\d.2.2.1<2) :
  (((c.1:Nat):Int)<(d.1:Nat)∨((c.1:Nat):Int)=(d.1:Nat)/\(((c.2.1:Nat):Int)<(d.2.1:Nat)∨((c.2.1:Nat):Int)=(d.2.1:Nat)/\((c.2.2.1:Nat):Int)<(d.2.2.1:Nat)))↔kJ c<kJ d:=by
 rw [OU,OU];exact (or_congr cV (and_congr aeQ (or_congr cV (and_congr aeQ cV)))).trans ((or_congr Iff.rfl (and_congr Iff.rfl (OT hc.2 hd.2))).trans (OT (cM (.c 2 (.k .b (.n 2048)) (.k .c (.n 2))) (.a (.r .b 2) .c) (.n 4096) rfl hc.1 hc.2) (cM (.c 2 (.k .b (.n 2048)) (.k .c (.n 2))) (.a (.r .b 2) .c) (.n 4096) rfl hd.1 hd.2)))
structure bD where
 w0:List String
 w1:List String
 y0:List Int
 y1:List Int
 r0:Nat
 r1:Nat
 hi:Nat
noncomputable def bD.way (bs:List Int) (r:Nat) (c:cC):List Int:=slc bs r c.1++(if c.2.2.2.1="delete" then [] else c.2.2.2.2)
noncomputable def bD.sO (c:cC):Nat:=if c.2.2.2.1="insert" then c.1 else c.2.1
noncomputable def bD.step (bs:List Int) (st:bD) (c:cC):bD:=
 if c.2.2.1=0 then {st with w0:=st.w0++[c.2.2.2.1],y0:=st.y0++bD.way bs st.r0 c,r0:=bD.sO c,hi:=max st.hi c.2.1}
 else {st with w1:=st.w1++[c.2.2.2.1],y1:=st.y1++bD.way bs st.r1 c,r1:=bD.sO c,hi:=max st.hi c.2.1}
noncomputable def bD.run (bs:List Int):bD->List cC->bD×List cC:=@λA B=>match A,B with
 |st,[]=>(st,[])
 |st,c::U=>if c.1<=st.hi then bD.run bs (st.step bs c) U else (st,c::U)
theorem bD.OV:∀(U:List cC) (st:bD),st.hi<=n->(∀c∈U,c.2.1<=n)->(bD.run bs st U).1.hi<=n:=@λA B C D=>match A,B,C,D with
 |[],st,h,zz=>h
 |c::U,st,h,hc=>by
  show (if _ then _ else _:bD×List cC).1.hi<=n
  split
  ·refine bD.OV U _ ?_ λc V=>hc c (.tail _ V);unfold bD.step;split <;> exact Nat.max_le.mpr ⟨h,hc c (.head _)⟩
  ·exact h
def iL (bs:List Int) (c:cC):Prop:=(c.2.2.1=0∨c.2.2.1=1)/\(c.2.2.2.1="replace"∨c.2.2.2.1="delete"∨c.2.2.2.1="insert")/\c.1<=bs.length/\c.2.1<=bs.length/\c.2.2.2.2.length<1000
inductive Ent where
 |it (n:Int)
 |cf (o l r:List Int)
noncomputable abbrev its (l:List Int):List Ent:=l.map .it
noncomputable def kK (o l r:List Int):List Ent:=if l=r∨r=o then its l else if l=o then its r else [.cf o l r]
noncomputable abbrev gH:=List Int×List String×List String
class inductive iM (bs:List Int):Nat->List cC->Nat->List gH->List Ent->Prop
 |done {d:Nat}:iM bs 0 [] d [] (its (bs.drop d))
 |step {n d:Nat}{c:cC}{cs jW:List cC}{st:bD}{T:List gH}{M:List Ent}:bD.run bs ⟨[],[],[],[],c.1,c.1,c.2.1⟩ (c::cs)=(st,jW)->iM bs n jW st.hi T M->iM bs (n+1) (c::cs) d ((slc bs c.1 st.hi,st.w0,st.w1)::T) (its (slc bs d c.1)++(kK (slc bs c.1 st.hi) (st.y0++slc bs st.r0 st.hi) (st.y1++slc bs st.r1 st.hi)++M))
noncomputable abbrev Zn:=List Pe×List Int×List Pe
section
variable (E:List Pe×List Int)
noncomputable def zr:Nat->List Zn->List cC:=@λA B=>match A,B with
 |x,[]=>cG 0 x (ft E.1) E.2++cH x E.1
 |x,z::Z=>cG 0 x (ft z.1) z.2.1++(cH x z.1++(cH (x+(ft z.1).length) z.2.2++zr (x+(ft z.1).length+(ft z.2.2).length) Z))
noncomputable def gt (ps:List Pe) (c:List Int):List gH:=if ft ps=[]/\c=[] then [] else [(ft ps,[de (ft ps).length c.length],ps.flatMap Pe.m)]
noncomputable def gm (ps:List Pe) (c:List Int):List Ent:=if fd ps=ft ps then its c else [.cf (ft ps) c (fd ps)]
noncomputable def kt (U:List Pe):List gH:=U.flatMap λp=>if p.o=[]/\p.n=[] then [] else [(p.o,[],p.m)]
noncomputable def zt:List Zn->List gH:=@λA=>match A with
 |[]=>gt E.1 E.2
 |z::Z=>gt z.1 z.2.1++(kt z.2.2++zt Z)
noncomputable def zm:List Zn->List Ent:=@λA=>match A with
 |[]=>gm E.1 E.2
 |z::Z=>gm z.1 z.2.1++(its (fd z.2.2)++zm Z)
noncomputable def zb:List Zn->List Int:=@λA=>match A with
 |[]=>ft E.1
 |z::Z=>ft z.1++(ft z.2.2++zb Z)
end
def f9 (bs:List Int) (x:Nat) (l:List Int):Prop:=∃pre r,bs=pre++(l++r)/\pre.length=x
section
variable {bs l k:List Int}{x d:Nat}
theorem f9.cut (h:f9 bs x l):slc bs x (x+l.length)=l:=by
 refine dX h λpre r e U=>?_;clear h;subst U;subst e;exact OM
theorem f9.split (h:f9 bs x (l++k)):f9 bs x l/\f9 bs (x+l.length) k:=by
 refine dX h λpre r e U=>?_;clear h;subst U;exact rL (iC pre (k++r) (by rw [e,bt]) rfl) (pre++l) r (by rw [e];simp) aG
theorem aaR (U:i<=j) (V:j<=m):slc bs i m=slc bs i j++slc bs j m:=by
 unfold slc;have e1:m-i=(j-i)+(m-j):=by exact (aN (I8 (aE (rE U V)) (aE (Lin.A0 U)).symm (aE (Lin.A0 V)).symm) (I9 (aE (rE U V)).symm (aE (Lin.A0 U)) (aE (Lin.A0 V))))
 have e2:kX j bs=kX (j-i) (kX i bs):=by refine ae (Sm ..) ?_;congr 1;exact (aN (rz (aE (Lin.A0 U)).symm) (ry (aE (Lin.A0 U))))
 exact ae (e1 ..) (ae (e2 ..) (ae (Sn ..) rfl))
theorem sP:slc bs x x=[]:=by unfold slc;exact ae (xa ..) (ae (So ..) rfl)
theorem f9.ext (h:f9 bs x l) (hd:d<=x):slc bs d (x+l.length)=slc bs d x++l:=by
 exact ae (aaR hd (ba _ _) ..) (ae (h.cut ..) rfl)
end
theorem sQ (h:¬(o=[]/\n=[])):(de o.length n.length="replace"/\o≠[]/\n≠[])∨(de o.length n.length="delete"/\o≠[]/\n=[])∨(de o.length n.length="insert"/\o=[]/\n≠[]):=by
 unfold de;by_cases V:o=[]
 ·by_cases U:n=[]
  ·exact (h ⟨V,U⟩).elim
  ·clear h;subst V;exact .inr (.inr (aL rfl rfl U))
 ·have p1:=pP.mpr V;by_cases U:n=[]
  ·clear h;subst U;exact .inr (.inl (aL ((if_neg λq=>jD 0 q.2).trans (if_pos p1)) V rfl))
  ·exact .inl (aL (if_pos ⟨p1,pP.mpr U⟩) V U)
theorem FX {bs:List Int}{r x s:Nat}(h:¬(o=[]/\n=[])):bD.way bs r (x,x+o.length,s,de o.length n.length,n)=slc bs r x++n/\bD.sO (x,x+o.length,s,de o.length n.length,n)=x+o.length:=by
 unfold bD.way bD.sO;dsimp only;rcases sQ h with ⟨e,U,V⟩ | ⟨e,U,V⟩ | ⟨e,U,V⟩
 ·refine ae (e ..) <| ⟨rfl,rfl⟩
 ·refine ae (e ..) (ae (V ..) ?_);exact ⟨rfl,rfl⟩
 ·refine ae (e ..) (ae (U ..) ?_);exact ⟨rfl,rfl⟩
theorem OW {bs:List Int}{st:bD}{R:List cC}(h:∀c∈R,st.hi<c.1):bD.run bs st R=(st,R):=by
 cases R with
 |nil=>rfl
 |cons c R=>exact if_neg (dg.mpr (h c (.head _)))
theorem FY {bs:List Int}{st:bD}{R:List cC}(h:c.1<=st.hi):bD.run bs st (c::R)=bD.run bs (st.step bs c) R:=if_pos h
theorem FZ {s x:Nat}(h:¬(o=[]/\n=[])):cG s x o n=[(x,x+o.length,s,de o.length n.length,n)]:=if_neg h
theorem F5 {s x:Nat}(h:o=[]/\n=[]):cG s x o n=[]:=if_pos h
theorem sR (p:Pe):p.t.length=p.a.length+(p.o.length+p.b.length):=by unfold Pe.t;exact ae (aG ..) (ae (aG ..) rfl)
theorem sS (h:dC p):0<p.a.length/\0<p.b.length:=⟨pP.mpr h.1,pP.mpr h.2⟩
theorem gS (p:Pe) (ps:List Pe):ft (p::ps)=p.t++ft ps:=gi
theorem mW (p:Pe) (ps:List Pe):fd (p::ps)=p.d++fd ps:=gi
theorem vO (U:∀p∈ps,dC p) (h:ft ps=[]):ps=[]:=by
 cases ps with
 |nil=>rfl
 |cons p ps=>
  rw [gS] at h;exact ((U p (.head _)).1 (tV.mp (show p.a++(p.o++p.b)=[] from (tV.mp h).1)).1).elim
theorem aaS {bs:List Int}:∀(ps:List Pe) (x:Nat) (w1:List String) (y1:List Int) (r1:Nat) (R:List cC),(∀p∈ps,dC p)->f9 bs x (ft ps)->x+(ft ps).length<=hi->r1<=x->∃y r,bD.run bs ⟨w0,w1,y0,y1,r0,r1,hi⟩ (cH x ps++R)=bD.run bs ⟨w0,w1++ps.flatMap Pe.m,y0,y,r0,r,hi⟩ R/\r<=x+(ft ps).length/\y++slc bs r (x+(ft ps).length)=(y1++slc bs r1 x)++fd ps:=by
 intro ps;induction ps with
 |nil=>
  intro x w1 y1 r1 R _ _ _ U;refine bQ y1 r1 ?_ U ?_
  ·refine ae (HB ..) (ae (cL ..) ?_);rfl
  ·show y1++slc bs r1 x=(y1++slc bs r1 x)++[]
   exact ae (cL ..) rfl
 |cons p ps ih=>
  intro x w1 y1 r1 R hp ha hh U;have ok:=sS (hp p (.head _));have lt:=sR p;rw [gS] at ha hh;refine El.aa ha.split λV W=>?_;rw [aG] at hh;have F6:f9 bs x (p.a++(p.o++p.b)):=V;refine El.aa F6.split λaa F7=>El.aa F7.split λao ab=>ae (gS ..) (ae (aG ..) (ae (mW ..) (ae (gi ..) (ae (pF ..).symm ?_))));show ∃y r,bD.run bs ⟨w0,w1,y0,y1,r0,r1,hi⟩ ((cG 1 (x+p.a.length) p.o p.n++cH (x+p.t.length) ps)++R)=_/\_
  by_cases e:p.o=[]/\p.n=[]
  ·refine ae (F5 e ..) (ae (fE ..) ?_);refine aO (ih (x+p.t.length) w1 y1 r1 R (λq hq=>hp q (.tail _ hq)) W (JQ hh) (bL (.l .b .c) .b (.a .c .d) rfl U)) λy r e1 e2 e3=>bQ y r ?_ e2 ?_
   ·refine ae (show p.m=[] from if_pos e) (ae (fE ..) ?_);exact e1
   ·refine ae (e3 ..) (ae (V.ext U ..) (ae (show p.d=p.t from by unfold Pe.d Pe.t;rw [e.1,e.2]) ?_))
    simp
  ·refine ae (FZ e ..) <| El.aa (FX (bs:=bs) (r:=r1) (x:=x+p.a.length) (s:=1) e) λg1 g2=>?_;have st:bD.step bs ⟨w0,w1,y0,y1,r0,r1,hi⟩ (x+p.a.length,x+p.a.length+p.o.length,1,de p.o.length p.n.length,p.n)=⟨w0,w1++p.m,y0,y1++(slc bs r1 (x+p.a.length)++p.n),r0,x+p.a.length+p.o.length,hi⟩:=by
    unfold bD.step;refine ae (if_neg (by exact Sr) ..) (ae (g1 ..) (ae (g2 ..) (ae (show p.m=[de p.o.length p.n.length] from if_neg e) ?_)))
    dsimp only;exact ae (aeL (pU (.u (.l (.a .b (.a .h .i)) .f) (.k .z .j) (.q (.a .c (.a .d .j)) .h)) (.a (.a .b .c) .d) .f rfl hh ok.2 (aC lt)) ..) rfl
   refine aO (ih (x+p.t.length) (w1++p.m) (y1++(slc bs r1 (x+p.a.length)++p.n)) (x+p.a.length+p.o.length) R (λq hq=>hp q (.tail _ hq)) W (JQ hh) (JR ok.2 (aC lt))) λy r e1 e2 e3=>bQ y r ?_ e2 ?_
   ·show bD.run bs _ (_::(cH (x+p.t.length) ps++R))=_
    exact ae (FY (by dsimp only;exact (pU (.u (.l (.a .b (.a .f .h)) .d) (.k .z .i) (.q (.a .c (.a .j .i)) .f)) (.a .b .c) .d rfl hh ok.2 (aC lt))) ..) (ae (st ..) (ae (e1 ..) (ae (bt ..) rfl)))
   ·refine ae (e3 ..) (ae (aa.ext U ..) (ae (show x+p.t.length=x+p.a.length+p.o.length+p.b.length by exact (aN (JS lt) (JT (aC lt)))) (ae (ab.cut ..) ?_)))
    unfold Pe.d;simp
theorem vP (h:c∈cG s x o n):c=(x,x+o.length,s,de o.length n.length,n)/\¬(o=[]/\n=[]):=by
 unfold cG at h;split at h
 ·exact El.nm h
 ·exact ⟨cQ.mp h,‹_›⟩
theorem mX:∀(ps:List Pe) (x:Nat),(∀p∈ps,dC p)->∀c∈cH x ps,x<c.1/\c.1<=c.2.1/\c.2.1<x+(ft ps).length/\c.2.2.1=1/\(c.2.2.2.1="replace"∨c.2.2.2.1="delete"∨c.2.2.2.1="insert")/\c.2.2.2.2.length<=(fd ps).length:=by
 intro ps;induction ps with
 |nil=>intro x _ c h;exact El.nm h
 |cons p ps W=>
  intro x V c h;have ok:=sS (V p (.head _));have lt:=sR p;have ld:p.d.length=p.a.length+(p.n.length+p.b.length):=by unfold Pe.d;rw [aG,aG]
  rw [gS,aG,mW,aG];rcases bT.mp h with h | h
  ·refine El.aa (vP h) λe U=>?_;have ht:=sQ U;subst e;refine ⟨by dsimp only;exact (Jq ok.1),by dsimp only;exact (ba _ _),by dsimp only;exact (ud (.t (.k .z .i) (.q (.a .c (.a .d .i)) .f)) (.a (.a .b .c) .d) (.a .b (.a .f .h)) rfl ok.2 (aC lt)),rfl,?_,by dsimp only;exact (dD (.u (.k .z .f) (.k .z .h) (.q (.a .f (.a .b .h)) .c)) .b (.a .c .d) rfl ok.1 ok.2 (aC ld))⟩
   rcases ht with ht | ht | ht
   ·exact .inl ht.1
   ·exact .inr (.inl ht.1)
   ·exact .inr (.inr ht.1)
  ·refine k9 (W _ (λq hq=>V q (.tail _ hq)) c h) λa1 a2 a3 a4 a5 a6=>⟨by exact (JB a1),a2,by exact (eN (.k .b (.a (.a .c .d) .f)) .b (.a .c (.a .d .f)) rfl a3),a4,a5,by exact (CG a6)⟩
theorem F8:∀(ps:List Pe) (x:Nat),(∀p∈ps,dC p)->(cH x ps).Pairwise λa b=>a.1<b.1:=by
 intro ps;induction ps with
 |nil=>intro x _;exact .nil
 |cons p ps W=>
  intro x U;have ok:=sS (U p (.head _));have lt:=sR p;refine nH.mpr (aL ?_ (W _ λq V=>U q (.tail _ V)) (λc hc e he=>?_))
  ·unfold cG;split
   ·exact .nil
   ·exact HQ _ _
  ·have:=mX ps _ (λq V=>U q (.tail _ V)) e he;refine ae ((vP hc).1 ..) ?_;dsimp only;exact (ud (.u (.k .z .f) (.q (.a .c (.a .h .f)) .i) (.k (.a .b .i) .d)) (.a .b .c) .d rfl ok.2 (aC lt) this.1)
section
variable {bs:List Int}{E:List Pe×List Int}
theorem aaT {R:List cC}:∀(U:List Pe) (x:Nat),(∀p∈U,dC p)->f9 bs x (ft U)->(∀c∈R,x+(ft U).length<=c.1)->(∀d,d<=x+(ft U).length->∃n,iM bs n R d T (its (slc bs d (x+(ft U).length))++M))->
  ∀d,d<=x->∃n,iM bs n (cH x U++R) d (kt U++T) (its (slc bs d x)++(its (fd U)++M)):=by
 intro U;induction U with
 |nil=>intro x _ _ _ h d hd;exact h d hd
 |cons p U ih=>
  intro x hp ha hR h d hd;have ok:=sS (hp p (.head _));have lt:=sR p;rw [gS] at ha;refine El.aa ha.split λV ha2=>?_;have F6:f9 bs x (p.a++(p.o++p.b)):=V;refine El.aa F6.split λaa F7=>El.aa F7.split λao ab=>?_;rw [gS,aG,<-pF] at hR h;have ih:=ih (x+p.t.length) (λq hq=>hp q (.tail _ hq)) ha2 hR h;have hks:=mX U (x+p.t.length) λq hq=>hp q (.tail _ hq);show ∃n,iM bs n ((cG 1 (x+p.a.length) p.o p.n++cH (x+p.t.length) U)++R) d _ _
  refine ae (mW ..) ?_;have ekt:kt (p::U)=(if p.o=[]/\p.n=[] then [] else [(p.o,[],p.m)])++kt U:=gi;refine ae (ekt ..) ?_;by_cases e:p.o=[]/\p.n=[]
  ·refine ae (F5 e ..) (ae (fE ..) (ae (if_pos e ..) (ae (fE ..) (ae (show p.d=p.t from by unfold Pe.d Pe.t;rw [e.1,e.2]) ?_))))
   refine El.ea (ih d (aD hd (ba _ _))) λn hn=>⟨n,?_⟩;rw [V.ext hd] at hn
   simpa using hn
  ·refine ae (FZ e ..) (ae (if_neg e ..) ?_);refine El.ea (ih (x+p.a.length+p.o.length) (JR ok.2 (aC lt))) λn hn=>?_;have W:bD.run bs ⟨[],[],[],[],x+p.a.length,x+p.a.length,x+p.a.length+p.o.length⟩ ((x+p.a.length,x+p.a.length+p.o.length,1,de p.o.length p.n.length,p.n)::(cH (x+p.t.length) U++R))=(⟨[],p.m,[],p.n,x+p.a.length,x+p.a.length+p.o.length,x+p.a.length+p.o.length⟩,cH (x+p.t.length) U++R):=by
    refine ae (FY (by dsimp only;exact (ba _ _)) ..) ?_
    refine El.aa (FX (bs:=bs) (r:=x+p.a.length) (x:=x+p.a.length) (s:=1) e) λg1 g2=>?_;have st:bD.step bs ⟨[],[],[],[],x+p.a.length,x+p.a.length,x+p.a.length+p.o.length⟩ (x+p.a.length,x+p.a.length+p.o.length,1,de p.o.length p.n.length,p.n)=⟨[],p.m,[],p.n,x+p.a.length,x+p.a.length+p.o.length,x+p.a.length+p.o.length⟩:=by
     unfold bD.step;refine ae (if_neg (by exact Sr) ..) (ae (g1 ..) (ae (g2 ..) (ae (show p.m=[de p.o.length p.n.length] from if_neg e) (ae (sP ..) ?_))))
     dsimp only;refine ae (Nat.max_self ..) ?_;rfl
    refine ae (st ..) <| OW λc hc=>?_;rcases bT.mp hc with hc | hc
    ·have:=(hks c hc).1;dsimp only;exact (ud (.u (.k .z .h) (.q (.a .c (.a .d .h)) .i) (.k (.a .b .i) .f)) (.a (.a .b .c) .d) .f rfl ok.2 (aC lt) this)
    ·have:=hR c hc;dsimp only;exact (Ta (.u (.k .z .h) (.q (.a .c (.a .d .h)) .i) (.l (.a (.a .b .i) .j) .f)) (.a (.a .b .c) .d) .f rfl ok.2 (aC lt) this)
   have step:=iM.step (d:=d) W hn;dsimp only at step;rw [show slc bs (x+p.a.length) (x+p.a.length+p.o.length)=p.o from ao.cut,sP,cL,fE,aa.ext hd] at step;have e1:kK p.o p.o p.n=its p.n:=by
    unfold kK;split
    ·rename_i h;rcases h with h | h
     ·exact ae (h ..) rfl
     ·exact ae (h ..).symm rfl
    ·exact if_pos rfl
   have e3:x+p.t.length=x+p.a.length+p.o.length+p.b.length:=by exact (aN (JS lt) (JT (aC lt)))
   rw [e1,e3,ab.cut] at step;refine ⟨n+1,?_⟩;have e2:its p.d=its p.a++(its p.n++its p.b):=by unfold Pe.d;simp
   refine ae (e3 ..) ?_
   simpa [e2,its,Pe.d] using step
theorem OX {R:List cC}(W:∀p∈ps,dC p) (ha:f9 bs x (ft ps)) (hz:fd ps≠ft ps->c≠fd ps/\c≠ft ps) (hR:∀q∈R,x+(ft ps).length<q.1) (h:∀d,d<=x+(ft ps).length->∃n,iM bs n R d T (its (slc bs d (x+(ft ps).length))++M)) :
  ∀d,d<=x->∃n,iM bs n (cG 0 x (ft ps) c++(cH x ps++R)) d (gt ps c++T) (its (slc bs d x)++(gm ps c++M)):=by
 intro d hd;unfold gt gm;by_cases e:ft ps=[]/\c=[]
 ·have:=vO W e.1;clear W ha hz hR;subst this;obtain ⟨rfl⟩:=e.2;refine ae (F5 e ..) (ae (if_pos e ..) (ae (if_pos (show fd []=ft [] from rfl) ..) ?_));exact h d hd
 ·refine ae (FZ e ..) (ae (if_neg e ..) ?_);refine El.ea (h (x+(ft ps).length) (aK _)) λn hn=>El.aa (FX (bs:=bs) (r:=x) (x:=x) (s:=0) e) λg1 g2=>?_;have st:bD.step bs ⟨[],[],[],[],x,x,x+(ft ps).length⟩ (x,x+(ft ps).length,0,de (ft ps).length c.length,c)=⟨[de (ft ps).length c.length],[],c,[],x+(ft ps).length,x,x+(ft ps).length⟩:=by
   unfold bD.step;refine ae (if_pos rfl ..) (ae (g1 ..) (ae (g2 ..) (ae (sP ..) ?_)));dsimp only;refine ae (Nat.max_self ..) ?_;rfl
  refine aO (aaS (bs:=bs) (w0:=[de (ft ps).length c.length]) (y0:=c) (r0:=x+(ft ps).length) ps x [] [] x R W ha (aK _) (aK _)) λy r e1 e2 e3=>?_;have U:bD.run bs ⟨[],[],[],[],x,x,x+(ft ps).length⟩ ((x,x+(ft ps).length,0,de (ft ps).length c.length,c)::(cH x ps++R))=(⟨[de (ft ps).length c.length],ps.flatMap Pe.m,c,y,x+(ft ps).length,r,x+(ft ps).length⟩,R):=by
   refine ae (FY (by dsimp only;exact (ba _ _)) ..) (ae (st ..) (ae (e1 ..) (ae (fE ..) ?_)))
   exact OW hR
  have step:=iM.step (d:=d) U hn;dsimp only at step;rw [ha.cut,sP,cL,e3,sP] at step;refine ⟨n+1,?_⟩;have e4:kK (ft ps) c ([]++[]++fd ps)=if fd ps=ft ps then its c else [.cf (ft ps) c (fd ps)]:=by
   unfold kK;simp only [fE];by_cases V:fd ps=ft ps
   ·exact ae (if_pos (.inr V) ..) (ae (if_pos V ..) rfl)
   ·have:=hz V;exact ae (if_neg (by rintro (h | h);exact this.1 h;exact V h) ..) (ae (if_neg this.2 ..) (ae (if_neg V ..) rfl))
  rw [e4] at step
  simpa using step
theorem z8:∀(Z:List Zn) (x:Nat),(∀p∈E.1,dC p)->(∀z∈Z,(∀p∈z.1,dC p)/\∀p∈z.2.2,dC p)->∀c∈zr E x Z,x<=c.1/\c.1<=c.2.1/\c.2.1<=x+(zb E Z).length/\(c.2.2.1=0∨c.2.2.1=1)/\(c.2.2.2.1="replace"∨c.2.2.2.1="delete"∨c.2.2.2.1="insert"):=by
 have gp:∀{x:Nat}{o n:List Int},∀c∈cG 0 x o n,x<=c.1/\c.1<=c.2.1/\c.2.1<=x+o.length/\(c.2.2.1=0∨c.2.2.1=1)/\(c.2.2.2.1="replace"∨c.2.2.2.1="delete"∨c.2.2.2.1="insert"):=by
  intro x o n c h;refine El.aa (vP h) λe gB=>?_;have ht:=sQ gB;clear h;subst e;refine nR (aK _) (ba _ _) (aK _) (.inl rfl) ?_;rcases ht with ht | ht | ht
  ·exact .inl ht.1
  ·exact .inr (.inl ht.1)
  ·exact .inr (.inr ht.1)
 intro Z;induction Z with
 |nil=>
  intro x hE _ c h;rcases bT.mp h with h | h
  ·exact gp c h
  ·refine k9 (mX E.1 x hE c h) λU V W a4 a5 zz=>nR (cA U) V (cA W) (.inr a4) a5
 |cons z Z ih=>
  intro x hE hz c h;refine El.aa (hz z (.head _)) λh1 h2=>?_;have el:(zb E (z::Z)).length=(ft z.1).length+((ft z.2.2).length+(zb E Z).length):=by
   show (ft z.1++(ft z.2.2++zb E Z)).length=_
   exact ae (aG ..) (ae (aG ..) rfl)
  rcases bT.mp h with h | h
  ·refine l9 (gp c h) λU V W a4=>cB U V (fq (.t (.q (.a .f (.a .h .i)) .d) (.l .b (.a .c .f))) .b (.a .c .d) rfl (aC el) W) a4
  ·rcases bT.mp h with h | h
   ·refine k9 (mX z.1 x h1 c h) λU V W a4 a5 zz=>nR (cA U) V (fq (.t (.q (.a .f (.a .h .i)) .d) (.k .b (.a .c .f))) .b (.a .c .d) rfl (aC el) W) (.inr a4) a5
   ·rcases bT.mp h with h | h
    ·refine k9 (mX z.2.2 _ h2 c h) λU V W a4 a5 zz=>nR (IY U) V (fq (.t (.q (.a .f (.a .h .i)) .d) (.k .b (.a (.a .c .f) .h))) .b (.a .c .d) rfl (aC el) W) (.inr a4) a5
    ·refine l9 (ih _ hE (λq hq=>hz q (.tail _ hq)) c h) λU V W a4=>cB (bJ (.l (.a (.a .b .d) .f) .c) .b .c rfl U) V (fq (.t (.q (.a .f (.a .h .i)) .d) (.l .b (.a (.a (.a .c .f) .h) .i))) .b (.a .c .d) rfl (aC el) W) a4
def oY (ps:List Pe) (c:List Int):Prop:=fd ps≠ft ps->c≠fd ps/\c≠ft ps
theorem aaU (hE:∀p∈E.1,dC p) (zE:oY E.1 E.2):∀(Z:List Zn) (x:Nat),(∀z∈Z,(∀p∈z.1,dC p)/\∀p∈z.2.2,dC p)->(∀z∈Z,oY z.1 z.2.1/\z.2.2≠[])->f9 bs x (zb E Z)->x+(zb E Z).length=bs.length->∀d,d<=x->∃n,iM bs n (zr E x Z) d (zt E Z) (its (slc bs d x)++zm E Z):=by
 intro Z;induction Z with
 |nil=>
  intro x _ _ W hl d hd;have:=OX (bs:=bs) (T:=[]) (M:=[]) (R:=[]) (c:=E.2) hE W zE (λzz h=>El.nm h) (λd hd=>⟨0,by
   have:=@iM.done bs d;rw [show slc bs d (x+(ft E.1).length)=bs.drop d by
    unfold slc;refine ae (show x+(ft E.1).length=bs.length from hl) <| pM (by refine ae (hU ..) <| aK _),cL]
   exact this⟩) d hd
  simpa [zr,zt,zm] using this
 |cons z Z ih=>
  intro x hz hk W hl d hd;refine El.aa (hz z (.head _)) λh1 h2=>El.aa (hk z (.head _)) λk1 k2=>?_;have V:∀q∈Z,(∀p∈q.1,dC p)/\∀p∈q.2.2,dC p:=λq U=>hz q (.tail _ U);have W:f9 bs x (ft z.1++(ft z.2.2++zb E Z)):=W;refine El.aa W.split λa1 a2=>El.aa a2.split λa3 a4=>?_;have el:(zb E (z::Z)).length=(ft z.1).length+((ft z.2.2).length+(zb E Z).length):=by
   show (ft z.1++(ft z.2.2++zb E Z)).length=_
   exact ae (aG ..) (ae (aG ..) rfl)
  have FN:0<(ft z.2.2).length:=pP.mpr λe=>k2 (vO h2 e);refine OX (c:=z.2.1) h1 a1 k1 (λq U=>?_) (aaT z.2.2 (x+(ft z.1).length) h2 a3 (λc hc=>(z8 Z _ hE V c hc).1) (ih _ V (λq U=>hk q (.tail _ U)) a4 (aN (fq (.t (.q (.a .b .i) .h) (.q (.a .c (.a .d .f)) .i)) (.a (.a (.a .b .c) .d) .f) .h rfl hl (aC el)) (fq (.t (.q .b (.a .c .i)) (.q .i (.a .d (.a .f .h)))) .b (.a (.a (.a .c .d) .f) .h) rfl (aC hl) el)))) d hd;rcases bT.mp U with U | U
  ·exact (mX _ _ h2 q U).1
  ·have:=(z8 Z _ hE V q U).1;exact (eN (.t (.k .z .f) (.l (.a (.a .b .c) .f) .d)) (.a .b .c) .d rfl FN this)
end
noncomputable abbrev hz (Z:List Zn):List Hk:=Z.map λz=>(ft z.1,z.2.1,ft z.2.2)
noncomputable abbrev eh (E:List Pe×List Int):List Int×List Int:=(ft E.1,E.2)
section
variable {E:List Pe×List Int}
noncomputable def zp (E:List Pe×List Int):List Zn->List Pe:=@λA=>match A with
 |[]=>E.1
 |z::Z=>z.1++(z.2.2++zp E Z)
theorem oZ (A B:List Pe):ft (A++B)=ft A++ft B:=lY
theorem OY (A B:List Pe):fd (A++B)=fd A++fd B:=lY
theorem OZ:∀Z:List Zn,ft (zp E Z)=zb E Z:=by
 intro Z;induction Z with
 |nil=>rfl
 |cons z Z U=>
  show ft (z.1++(z.2.2++zp E Z))=ft z.1++(ft z.2.2++zb E Z)
  exact ae (oZ ..) (ae (oZ ..) (ae (U ..) rfl))
theorem O0:∀Z:List Zn,hb (eh E) (hz Z)=zb E Z:=by
 intro Z;induction Z with
 |nil=>rfl
 |cons z Z U=>
  show ft z.1++(ft z.2.2++hb (eh E) (hz Z))=_
  refine ae (U ..) ?_;rfl
theorem O4:∀(A B:List Pe) (x:Nat),cH x (A++B)=cH x A++cH (x+(ft A).length) B:=by
 intro A;induction A with
 |nil=>intro B x;rfl
 |cons p A U=>
  intro B x;show cG 1 _ _ _++cH (x+p.t.length) (A++B)=(cG 1 _ _ _++cH (x+p.t.length) A)++cH (x+(ft (p::A)).length) B
  rw [U,gS,aG,bt,pF]
theorem aaV:∀(Z:List Zn) (x:Nat),(zr E x Z).Perm (jx (eh E) 0 x (hz Z)++cH x (zp E Z)):=by
 intro Z;induction Z with
 |nil=>intro x;exact .refl _
 |cons z Z U=>
  intro x;show (cG 0 x (ft z.1) z.2.1++(cH x z.1++(cH (x+(ft z.1).length) z.2.2++zr E (x+(ft z.1).length+(ft z.2.2).length) Z))).Perm ((cG 0 x (ft z.1) z.2.1++jx (eh E) 0 (x+(ft z.1).length+(ft z.2.2).length) (hz Z))++cH x (z.1++(z.2.2++zp E Z)))
  refine ae (O4 ..) (ae (O4 ..) (ae (bt ..) ?_));refine ra _ ?_;have:=U (x+(ft z.1).length+(ft z.2.2).length);refine (ra _ (ra _ this)).trans <| ae (bt ..).symm (ae (bt (cH x z.1) (cH _ z.2.2) ..).symm ?_);exact cE _ _ _
theorem aaW:∀(Z:List Zn) (x:Nat),(∀p∈E.1,dC p)->(∀z∈Z,(∀p∈z.1,dC p)/\∀p∈z.2.2,dC p)->(∀z∈Z,z.2.2≠[])->(zr E x Z).Pairwise λa b=>a.1<b.1:=by
 have gp:∀{x:Nat}{o n:List Int},(cG 0 x o n).Pairwise λa b=>a.1<b.1:=by
  intro x o n;unfold cG;split
  ·exact .nil
  ·exact HQ _ _
 intro Z;induction Z with
 |nil=>
  intro x W _ _;refine nH.mpr (aL gp (F8 _ _ W) (λa V b hb=>?_));refine ae ((vP V).1 ..) <| (mX _ _ W b hb).1
 |cons z Z ih=>
  intro x W hp hk;refine El.aa (hp z (.head _)) λh1 h2=>?_;have U:0<(ft z.2.2).length:=pP.mpr λe=>hk z (.head _) (vO h2 e);have O5:∀q∈Z,(∀p∈q.1,dC p)/\∀p∈q.2.2,dC p:=λq hq=>hp q (.tail _ hq);have b1:∀c∈cH x z.1,x<c.1/\c.1<x+(ft z.1).length:=λc hc=>by
   refine l9 (mX _ _ h1 c hc) λa1 a2 a3 zz=>⟨(uh a1),(eN (.t (.l .b .f) (.k .f (.a .c .d))) .b (.a .c .d) rfl a2 a3)⟩
  have b2:∀c∈cH (x+(ft z.1).length) z.2.2,x+(ft z.1).length<c.1/\c.1<x+(ft z.1).length+(ft z.2.2).length:=λc hc=>by
   refine l9 (mX _ _ h2 c hc) λa1 a2 a3 zz=>⟨(dQ (.k (.a .b .c) .d) (.a .b .c) .d rfl a1),(nP (.t (.l .b .h) (.k .h (.a (.a .c .d) .f))) .b (.a (.a .c .d) .f) rfl a2 a3)⟩
  have b3:∀c∈zr E (x+(ft z.1).length+(ft z.2.2).length) Z,x+(ft z.1).length+(ft z.2.2).length<=c.1:=λc hc=>(z8 Z _ W O5 c hc).1;refine nH.mpr (aL gp (nH.mpr (aL (F8 _ _ h1) (nH.mpr (aL (F8 _ _ h2) (ih _ W O5 λq hq=>hk q (.tail _ hq)) (λa V b hb=>?_))) (λa V b hb=>?_))) (λa V b hb=>?_))
  ·have fi:=b2 a V;have fh:=b3 b hb;exact (nP (.t (.k .b (.a (.a .d .f) .h)) (.l (.a (.a .d .f) .h) .c)) .b .c rfl fi.2 fh)
  ·have kL:=b1 a V;rcases bT.mp hb with hb | hb
   ·have mY:=b2 b hb;exact (eN (.t (.k .b (.a .d .f)) (.k (.a .d .f) .c)) .b .c rfl kL.2 mY.1)
   ·have mU:=b3 b hb;exact (nP (.u (.k .z .d) (.k .b (.a .f .h)) (.l (.a (.a .f .h) .d) .c)) .b .c rfl U kL.2 mU)
  ·refine ae ((vP V).1 ..) ?_;dsimp only;rcases bT.mp hb with hb | hb
   ·exact (b1 b hb).1
   ·rcases bT.mp hb with hb | hb
    ·have mV:=b2 b hb;exact (JB mV.1)
    ·have F9:=b3 b hb;exact (eN (.t (.k .z .d) (.l (.a (.a .b .f) .d) .c)) .b .c rfl U F9)
end
structure z9 (bs o1 o2:List Int) (T:List gH) (M:List Ent) (L1 L2:List bc) (R R0 R1:List cC) (n:Nat):Prop where
 one:kI bs o1 L1 0 R0
 other:kI bs o2 L2 1 R1
 perm:R.Perm (R0++R1)
 sort:R.Pairwise λa b=>kJ a<kJ b
 iI:R.length<64
 ok:∀c∈R,iL bs c
 mrg:iM bs n R 0 T M
 nb:bs.length<200
 n1:o1.length<200
 n2:o2.length<200
theorem aaX (h:c.1<d.1) (hc:c.2.1<2048) (U:c.2.2.1<2):kJ c<kJ d:=by
 unfold kJ;lia
theorem aaY:∀(ps:List Pe) (x:Nat),(cH x ps).length<=ps.length:=by
 intro ps;induction ps with
 |nil=>intro x;exact aK _
 |cons p ps W=>
  intro x;have U:(cG 1 (x+p.a.length) p.o p.n).length<=1:=by unfold cG;split;exact bA _;exact aK _
  have V:=W (x+p.t.length);show (cG 1 _ _ _++cH _ ps).length<=ps.length+1
  refine ae (aG ..) <| (bL (.t (.l .b .u) (.l .c .d)) (.a .b .c) (.S .d) rfl U V)
theorem aaZ {E:List Int×List Int}:∀(H:List Hk) (x:Nat),(jx E s x H).length<=H.length+1:=by
 have g:∀{x:Nat}{o n:List Int},(cG s x o n).length<=1:=by intro x o n;unfold cG;split;exact bA _;exact aK _
 intro H;induction H with
 |nil=>intro x;exact g
 |cons h H W=>
  intro x;have U:=W (x+h.1.length+h.2.2.length);show (cG s x h.1 h.2.1++jx E s _ H).length<=H.length+1+1
  refine ae (aG ..) ?_;have V:=g (x:=x) (o:=h.1) (n:=h.2.1);exact (bL (.t (.l .c (.S .d)) (.l .b .u)) (.a .b .c) (.S (.S .d)) rfl U V)
theorem O6 {os:List Op}(h:c∈fT s T os):c.2.2.2.2.length<=T.length:=by
 refine ar (Hj.mp h) λo zz ho=>?_;split at ho
 ·exact El.ns ho
 ·clear h;cases ho;unfold slc;exact aD (List.length_take_le' _ _) (by refine ae (hU ..) <| l7 _ _)
theorem aa0 {E:List Pe×List Int}{Z:List Zn}(W:∀p∈E.1,dC p) (zE:oY E.1 E.2) (V:∀z∈Z,(∀p∈z.1,dC p)/\∀p∈z.2.2,dC p) (hk:∀z∈Z,oY z.1 z.2.1/\z.2.2≠[])
  (S0:kI (zb E Z) (ht (eh E) (hz Z)) L1 0 (jx (eh E) 0 0 (hz Z))) (S1:kI (ft (zp E Z)) (fd (zp E Z)) L2 1 (cH 0 (zp E Z))) (nz:Z.length<=30) (np:(zp E Z).length<=30) (nb:(zb E Z).length<200) (n1:(ht (eh E) (hz Z)).length<200) (n2:(fd (zp E Z)).length<200) :
  ∃R R0 R1 n,z9 (zb E Z) (ht (eh E) (hz Z)) (fd (zp E Z)) (zt E Z) (zm E Z) L1 L2 R R0 R1 n:=by
 refine El.ea (aaU (bs:=zb E Z) W zE Z 0 V hk (iC [] [] (by simp) rfl) (jf _) 0 (aK _)) λn hn=>?_
 rw [sP] at hn;rw [OZ] at S1;have hp:=aaV (E:=E) Z 0;have bd:=z8 (E:=E) Z 0 W V;refine ⟨_,_,_,n,S0,S1,hp,?_,?_,λc hc=>?_,hn,nb,n1,n2⟩
 ·refine (aaW Z 0 W V λz h=>(hk z h).2).imp_of_mem λ{a b} ha hb h=>aaX h ?_ ?_
  ·have fi:=(bd a ha).2.2.1;exact (cM (.t (.k .c (.n 200)) (.l .b (.a .z .c))) .b (.n 2048) rfl nb fi)
  ·have fh:=(bd a ha).2.2.2.1;exact (Or.elim fh (λU=>(cF (.q .b .z) .b (.n 2) rfl U)) λU=>(cF (.q .b .u) .b (.n 2) rfl U))
 ·refine ae (hp.length_eq ..) (ae (aG ..) ?_);have h1:=aaZ (E:=eh E) (s:=0) (hz Z) 0;have h2:=aaY (zp E Z) 0;rw [aY] at h1;exact (eN (.y (.l .d (.n 30)) (.l .f (.n 30)) (.l .b (.S .d)) (.l .c .f)) (.a .b .c) (.n 64) rfl nz np h1 h2)
 ·refine CJ (bd c hc) λa1 a2 a3 a4 a5=>nR a4 a5 (bL (.t (.l .b .d) (.l .d (.a .z .c))) .b .c rfl a2 a3) (cp (.l .b (.a .z .c)) .b .c rfl a3) ?_;rcases bT.mp (hp.mem_iff.mp hc) with h | h
  ·rw [<-S0.chg] at h;have kL:=O6 h;exact (JC n1 kL)
  ·rw [<-S1.chg] at h;have mY:=O6 h;exact (JC n2 mY)
structure iN (P:Nat->Pe) (N:Nat):Prop where
 ok:∀n,n<N->dC (P n)
 nd:∀n,n<N->(P n).t.Nodup
 nn:∀n,n<N->(P n).n.Nodup
 dj:∀m n z,m<N->n<N->z∈(P m).t->z∈(P n).t->m=n
 fr:∀m n z,m<N->n<N->z∈(P m).n->z∉(P n).t
 df:∀m n z,m<N->n<N->z∈(P m).n->z∈(P n).n->m=n
section
variable {P:Nat->Pe}{N:Nat}
theorem O7 {f:Pe->List Int}(W:∀n,n<N->(f (P n)).Nodup) (h2:∀m n z,m<N->n<N->z∈f (P m)->z∈f (P n)->m=n):∀{ns:List Nat},(∀n∈ns,n<N)->ns.Nodup->((ns.map P).flatMap f).Nodup:=by
 intro ns;induction ns with
 |nil=>intro _ _;exact gW
 |cons n ns ih=>
  intro hl hn;refine El.aa (bR.mp hn) λq1 q2=>ae (iQ ..) (ae (gi ..) ?_);refine ed.mpr (aL (W n (hl n (.head _))) (ih (λm U=>hl m (.tail _ U)) q2) (λa ha b hb e=>?_));refine ar (rn.mp hb) λp V hb=>ar (bf.mp V) λm U e2=>?_;clear V;subst e2;have:=h2 n m b (hl n (.head _)) (hl m (.tail _ U)) (e▸ha) hb;exact q1 (this▸U)
theorem Aa {p:Pe}{z:Int}(h:z∈p.d):(z∈p.a∨z∈p.b)∨z∈p.n:=by
 rcases bT.mp h with h | h
 ·exact .inl (.inl h)
 ·rcases bT.mp h with h | h
  ·exact .inr h
  ·exact .inl (.inr h)
theorem o5 {p:Pe}{z:Int}(h:z∈p.a∨z∈p.b):z∈p.t:=by
 rcases h with h | h
 ·exact bE _ h
 ·exact bj _ (bj _ h)
theorem Ga {p:Pe}{z:Int}(h:z∈p.o):z∈p.t:=bj _ (bE _ h)
theorem aa1 {p:Pe}{z:Int}(h:z∈p.n):z∈p.d:=bj _ (bE _ h)
variable (F:iN P N)
include F
theorem iN.ab (h:n<N):((P n).a.Nodup/\(P n).b.Nodup/\∀a∈(P n).a,∀b∈(P n).b,a≠b)/\∀z∈(P n).o,z∉(P n).a/\z∉(P n).b:=by
 have:=F.nd n h;unfold Pe.t at this;refine cg (ed.mp this) λV W U=>cg (ed.mp W) λh4 h5 h6=>⟨(aL V h5 (λa ha b hb=>U a ha b (bj _ hb))),λz hz=>⟨λq=>U z q z (bE _ hz) rfl,λq=>h6 z hz z q rfl⟩⟩
theorem iN.ft {ns:List Nat}(hl:∀n∈ns,n<N) (hn:ns.Nodup):(Pure.ft (ns.map P)).Nodup:=O7 F.nd F.dj hl hn
theorem iN.dd (W:m<N) (hn:n<N) (V:z∈(P m).d) (U:z∈(P n).d):m=n:=by
 rcases Aa V with V | V
 ·rcases Aa U with U | U
  ·exact F.dj m n z W hn (o5 V) (o5 U)
  ·exact (F.fr n m z hn W U (o5 V)).elim
 ·rcases Aa U with U | U
  ·exact (F.fr m n z W hn V (o5 U)).elim
  ·exact F.df m n z W hn V U
theorem iN.fd {ns:List Nat}(hl:∀n∈ns,n<N) (hn:ns.Nodup):(Pure.fd (ns.map P)).Nodup:=by
 refine O7 (f:=Pe.d) (λn h=>?_) (λm n z W hn=>F.dd W hn) hl hn;refine El.aa (F.ab h) λV zz=>?_;obtain ⟨h1,h2,h3⟩:=V;refine ed.mpr (aL h1 (ed.mpr (aL (F.nn n h) h2 (λa U b hb e=>?_))) (λa U b hb e=>?_))
 ·exact F.fr n n a h h U (e▸o5 (.inr hb))
 ·rcases bT.mp hb with hb | hb
  ·exact F.fr n n b h h hb (e▸o5 (.inl U))
  ·exact h3 a U b hb e
theorem iN.o {ns:List Nat}(hl:∀n∈ns,n<N):∀p∈ns.map P,∀z∈p.o,z∉Pure.fd (ns.map P):=by
 intro p V z hz h;refine ar (bf.mp V) λm U e=>?_;clear V;subst e;refine ar (rn.mp h) λq W h=>ar (bf.mp W) λn hn e=>?_;clear W;subst e;rcases Aa h with h | h
 ·have:=F.dj m n z (hl m U) (hl n hn) (Ga hz) (o5 h);subst this;refine El.aa (F.ab (hl m U)) λzz h2=>h.elim (h2 z hz).1 (h2 z hz).2
 ·exact F.fr n m z (hl n hn) (hl m U) h (Ga hz)
theorem iN.mem {ns:List Nat}(hl:∀n∈ns,n<N) (V:m<N) (h:z∈Pure.ft (ns.map P)) (hz:z∈(P m).t):m∈ns:=by
 refine ar (rn.mp h) λq U h=>ar (bf.mp U) λn hn e=>?_;clear U;subst e;exact F.dj m n z V (hl n hn) hz h▸hn
theorem iN.Gb {ns:List Nat}(hl:∀n∈ns,n<N):∀p∈ns.map P,dC p:=by
 intro p U;refine ar (bf.mp U) λm V e=>e▸F.ok m (hl m V)
theorem iN.zok {A B:List Nat}(W:∀n∈A,n<N) (hB:∀n∈B,n<N) (h:Pure.ft (A.map P)=Pure.ft (B.map P)->Pure.ft (B.map P)=[]):oY (A.map P) (Pure.ft (B.map P)):=by
 intro U;refine ⟨λe=>U ?_,λe=>U ?_⟩
 ·have V:∀p∈A.map P,p.d=p.t:=by
   intro p hp;refine ar (bf.mp hp) λm hm e2=>?_;subst e2;have sub:∀z∈(P m).d,z∈Pure.ft (B.map P):=λz hz=>e▸rn.mpr (av _ hp hz);have hn:(P m).n=[]:=by
    cases e3:(P m).n with
    |nil=>rfl
    |cons z r=>
     have hz:z∈(P m).n:=e3▸.head _;refine ar (rn.mp (sub z (aa1 hz))) λq hq h=>ar (bf.mp hq) λn hn e4=>?_;clear hq;subst e4;exact (F.fr m n z (W m hm) (hB n hn) hz h).elim
   have ho:(P m).o=[]:=by
    cases e3:(P m).o with
    |nil=>rfl
    |cons z r=>
     have hz:z∈(P m).o:=e3▸.head _;refine uu (List.exists_cons_of_ne_nil (F.ok m (W m hm)).1) λy s e5=>?_;have hy:y∈(P m).a:=e5▸.head _;have hmB:=F.mem hB (W m hm) (sub y (bE _ hy)) (o5 (.inl hy));have:z∈Pure.ft (B.map P):=rn.mpr (av _ (bf.mpr (av m hmB rfl)) (Ga hz));exact (F.o W _ hp z hz (e▸this)).elim
   unfold Pe.d Pe.t;exact ae (hn ..) (ae (ho ..) rfl)
  clear e U h;generalize A.map P=ps at V;induction ps with
  |nil=>rfl
  |cons p ps ih=>
   exact ae (mW ..) (ae (gS ..) (ae (V p (.head _) ..) (ae (ih λq hq=>V q (.tail _ hq) ..) rfl)))
 ·have e2:=h e.symm;have e3:=vO (F.Gb W) (e.symm.trans e2);refine ae (e3 ..) ?_;rfl
end
structure Rn where
 p:Nat
 q:Nat
 c:Nat
 z:Nat
noncomputable def o6 (q l p:Nat) (R:List Rn):List Rn:=match R with
 |[]=>[⟨p,q,1,l⟩]
 |r::R=>if q=r.q+r.c then ⟨r.p,r.q,r.c+1,r.z+l⟩::R else ⟨p,q,1,l⟩::r::R
noncomputable def runs (κ w:Nat->Nat):Nat->List Rn:=@λA=>match A with
 |0=>[]
 |p+1=>o6 (κ p) (w p) p (runs κ w p)
noncomputable def bq (w:Nat->Nat):Nat->Nat:=@λA=>match A with
 |0=>0
 |p+1=>bq w p+w p
structure Gd (κ w:Nat->Nat) (r:Rn):Prop where
 c:0<r.c
 k:∀t,t<r.c->κ (r.p+t)=r.q+t
 z:bq w r.p+r.z=bq w (r.p+r.c)
class inductive RI (κ w:Nat->Nat):Nat->List Rn->Prop
 |nil:RI κ w 0 []
 |cons {r:Rn}{R:List Rn}:Gd κ w r->(∀r'∈R.head?,r'.q+r'.c≠r.q)->RI κ w r.p R->RI κ w (r.p+r.c) (r::R)
section
variable {κ w:Nat->Nat}
theorem vQ:∀p,RI κ w p (runs κ w p):=by
 intro p;induction p with
 |zero=>exact .nil
 |succ p V=>
  show RI κ w (p+1) (o6 (κ p) (w p) p (runs κ w p))
  generalize runs κ w p=R at V;have new:Gd κ w ⟨p,κ p,1,w p⟩:=⟨Nat.one_pos,λt ht=>by
   have:t=0:=Nat.lt_one_iff.mp ht;clear ht;subst this;rfl,rfl⟩
  cases V with
  |nil=>exact .cons new (λzz h=>El.ns h) .nil
  |@cons r R ok hh W=>
   unfold o6;dsimp only;by_cases e:κ (r.p+r.c)=r.q+r.c
   ·refine ae (if_pos e ..) <| .cons (r:=⟨r.p,r.q,r.c+1,r.z+w (r.p+r.c)⟩) ⟨wu _,λt ht=>?_,?_⟩ hh W
    ·by_cases h:t<r.c
     ·exact ok.k t h
     ·have:t=r.c:=by dsimp only at ht;exact (aN (tA ht) (cW.mp h))
      clear ht h;subst this;exact e
    ·show bq w r.p+(r.z+w (r.p+r.c))=bq w (r.p+r.c)+w (r.p+r.c)
     have U:=ok.z;exact (aN (bJ (.q (.a .b .c) .f) (.a .b (.a .c .d)) (.a .f .d) rfl U) (bJ (.q .b (.a .d .f)) (.a .b .c) (.a .d (.a .f .c)) rfl (aC U)))
   ·refine ae (if_neg e ..) <| .cons new (λr' h=>by cases h;exact λh=>e h.symm) (.cons ok hh W)
theorem RI.lo {R:List Rn}(h:RI κ w p R):∀r∈R,Gd κ w r/\r.p+r.c<=p:=by
 induction h with
 |nil=>intro r h;exact El.nm h
 |cons ok _ _ V=>
  intro r U;clear a a_1;rcases aT.mp U with e | U
  ·exact ⟨e▸ok,e▸aK _⟩
  ·have:=V r U;exact ⟨this.1,aD this.2 (ba _ _)⟩
theorem RI.FT {R:List Rn}(h:RI κ w p R):∀i,i<p->∃r∈R,r.p<=i/\i<r.p+r.c:=by
 induction h with
 |nil=>intro i h;exact (wy _ h).elim
 |@cons r R _ _ _ U=>
  intro i hi;by_cases h:i<r.p
  ·refine ar (U i h) λs hs q=>av s (.tail _ hs) q
  ·exact dq r (.head _) (cW.mp h) hi
theorem RI.pw {R:List Rn}(h:RI κ w p R):R.Pairwise λa b=>b.p+b.c<=a.p:=by
 induction h with
 |nil=>exact .nil
 |cons _ _ h U=>exact j7.mpr ⟨λb hb=>(h.lo b hb).2,U⟩
theorem RI.hd {R:List Rn}(h:RI κ w p R):∀a∈R,a.p+a.c=p->R.head? = some a:=by
 cases h with
 |nil=>intro a h;exact El.nm h
 |@cons r R ok hh h=>
  intro a U e;clear hh;rcases aT.mp U with ea | V
  ·refine ae (ea ..) ?_;rfl
  ·have W:=(h.lo a V).2;have fh:=ok.c;lia
theorem RI.max {R:List Rn}(h:RI κ w p R):∀a∈R,∀b∈R,a.p+a.c=b.p->a.q+a.c≠b.q:=by
 induction h with
 |nil=>intro a h;exact El.nm h
 |@cons r R ok hh h ih=>
  intro a U b hb e;rcases aT.mp U with ea | W
  ·have pc:=ok.c;clear ok hh U;rcases aT.mp hb with eb | V
   ·subst ea;subst eb;exact (tS (ka (.t (.q (.a .b .c) .b) (.k .z .c)) rfl e pc))
   ·have:=h.lo b V;have:=this.1.c;subst ea;exact (tS (ue (.u (.q (.a .b .c) .d) (.k .z .c) (.l (.a .d .f) .b)) rfl e pc this.2))
  ·clear ok U;rcases aT.mp hb with eb | V
   ·subst eb;exact hh a (h.hd a W e)
   ·exact ih a W b V e
theorem gI {p q:Nat}(h:p<=q):bq w p<=bq w q:=by
 induction h with
 |refl=>exact aK _
 |step _ U=>exact aD U (ba _ _)
end
noncomputable def ez (r s:Rn):Bool:=decide (r.p<s.p) == decide (r.q<s.q)
noncomputable def mZ:List Rn->List Rn->List Rn:=@λA B=>match A,B with
 |S,[]=>S
 |S,r::T=>mZ (if S.all (ez r)=true then S++[r] else S) T
noncomputable def iu (r:Rn):Nat:=(1000-r.z)*100+r.p
structure GI (pre S:List Rn):Prop where
 sub:∀s∈S,s∈pre
 ez:S.Pairwise λa b=>ez b a=true
 sN:∀r∈pre,r∈S∨∃t∈S,iu t<iu r/\Pure.ez r t=false
theorem aa2:∀(T pre S:List Rn),(pre++T).Pairwise (λa b=>iu a<iu b)->GI pre S->GI (pre++T) (mZ S T):=by
 intro T;induction T with
 |nil=>intro pre S _ h;refine ae (cL ..) <| h
 |cons r T V=>
  intro pre S hs h;have e:pre++r::T=(pre++[r])++T:=by simp
  have U:∀s∈S,iu s<iu r:=λs W=>(nH.mp hs).2.2 s (h.sub s W) r (.head _);rw [e] at hs ⊢;refine V (pre++[r]) _ hs ?_;by_cases c:S.all (Pure.ez r)=true
  ·refine ae (if_pos c ..) <| ⟨λs hs=>?_,nH.mpr (aL h.ez (HQ _ _) (λa ha b hb=>?_)),λx hx=>?_⟩
   ·rcases bT.mp hs with hs | hs
    ·exact bE _ (h.sub s hs)
    ·exact bj _ hs
   ·refine ae (cQ.mp hb ..) <| nr.mp c a ha
   ·rcases bT.mp hx with hx | hx
    ·rcases h.sN x hx with g | ⟨t,ht,g⟩
     ·exact .inl (bE _ g)
     ·exact .inr (av t (bE _ ht) g)
    ·exact .inl (bj _ hx)
  ·refine ae (if_neg c ..) <| ⟨λs hs=>bE _ (h.sub s hs),h.ez,λx hx=>?_⟩;rcases bT.mp hx with hx | hx
   ·exact h.sN x hx
   ·right
    refine ae (cQ.mp hx ..) ?_;have c:S.all (Pure.ez r)=false:=aeR.mpr c;refine ar (List.all_eq_false.mp c) λt ht g=>dq t ht (U t ht) (aeR.mpr g)
theorem O8 {α:Type}(f:α->Nat):∀L:List α,L.Pairwise (λa b=>f a≠f b)->∃T,L.Perm T/\T.Pairwise λa b=>f a<f b:=by
 have ins:∀(x:α) (T:List α),T.Pairwise (λa b=>f a<f b)->(∀y∈T,f x≠f y)->∃U,(x::T).Perm U/\U.Pairwise λa b=>f a<f b:=by
  intro x T;induction T with
  |nil=>intro _ _;exact av [x] (.refl _) (HQ _ _)
  |cons y T ih=>
   intro hs hx;refine El.aa (j7.mp hs) λh1 h2=>?_;by_cases h:f x<f y
   ·refine av (x::y::T) (.refl _) (j7.mpr ⟨λz hz=>?_,hs⟩);clear hs hx;rcases aT.mp hz with e | hz
    ·refine ae (e ..) <| h
    ·exact fb h (h1 z hz)
   ·refine ar (ih h2 λz hz=>hx z (.tail _ hz)) λU W hu=>av (y::U) ((List.Perm.swap y x T).trans (W.cons y)) (j7.mpr ⟨λz hz=>?_,hu⟩);clear ih;rcases aT.mp (W.mem_iff.mpr hz) with e | hz
    ·refine ae (e ..) ?_;have fi:=hx y (.head _);exact (Or.elim (kR fi) (λV=>(ji (.c2 _ _) .z 0 (.t (.l .b .c) (.k .c .b)) .b .c rfl (cW.mp h) V)) λV=>(uh V))
    ·exact h1 z hz
 intro L;induction L with
 |nil=>intro _;exact av [] (.refl _) .nil
 |cons x L ih=>
  intro h;refine El.aa (j7.mp h) λh1 h2=>ar (ih h2) λT W hs=>ar (ins x T hs λy hy=>h1 y (W.mem_iff.mpr hy)) λU hq hu=>av U ((W.cons x).trans hq) hu
noncomputable abbrev dG (l:List Nat) (i:Nat):Nat:=l.getD i 0
noncomputable def wl (P:Nat->Pe) (l:List Nat) (p:Nat):Nat:=(P (dG l p)).t.length
noncomputable def sl (l:List Nat) (p u:Nat):List Nat:=(l.drop p).take (u-p)
noncomputable abbrev bN (P:Nat->Pe) (l:List Nat):List Int:=ft (l.map P)
theorem gJ {l:List Nat}(h:i<l.length):l[i]? = some (dG l i):=by
 show _=some (l.getD i 0)
 rw [iW,eC h];rfl
theorem f9.getD {bs l:List Int}(h:f9 bs x l) (ht:t<l.length):bs.getD (x+t) 0=l.getD t 0:=by
 refine dX h λpre r e U=>?_;clear h;subst U;rw [e,iW,iW,hH (ba _ _),jZ,kT ht]
section
variable {P:Nat->Pe}{l:List Nat}
theorem Ge:∀p,p<=l.length->(bN P (l.take p)).length=bq (wl P l) p:=by
 intro p;induction p with
 |zero=>intro _;rfl
 |succ p U=>
  intro h;have:l.take (p+1)=l.take p++[dG l p]:=by
   refine ae (Ht ..) (ae (gJ h ..) ?_);rfl
  show (ft ((l.take (p+1)).map P)).length=bq (wl P l) p+wl P l p
  refine ae (this ..) (ae (bH ..) (ae (oZ ..) (ae (aG ..) ?_)));have:=U (HM h);show (bN P (l.take p)).length+(ft [P (dG l p)]).length=_
  refine ae (this ..) ?_;show _+(ft [P (dG l p)]).length=_+(P (dG l p)).t.length
  exact ae (show ft [P (dG l p)]=(P (dG l p)).t from by unfold ft;simp) rfl
theorem aa3 (h:p<=u) (hu:u<=l.length):l=l.take p++(sl l p u++l.drop u):=by
 unfold sl;have:l.drop u=(l.drop p).drop (u-p):=by refine ae (Sm ..) ?_;congr 1;exact (aN (rz (aE (Lin.A0 h)).symm) (ry (aE (Lin.A0 h))))
 exact ae (this ..) (ae (HR ..) (ae (HR ..) rfl))
theorem kM (h:p<=u) (hu:u<=l.length):f9 (bN P l) (bq (wl P l) p) (bN P (sl l p u))/\bq (wl P l) p+(bN P (sl l p u)).length=bq (wl P l) u:=by
 have e:=aa3 h hu;have t1:=Ge (P:=P) (l:=l) p (aD h hu);refine ⟨(iC (bN P (l.take p)) (bN P (l.drop u)) ?_ t1),?_⟩
 ·show ft (l.map P)=_
  conv=>lhs;rw [e]
  exact ae (bH ..) (ae (bH ..) (ae (oZ ..) (ae (oZ ..) rfl)))
 ·have e2:l.take u=l.take p++sl l p u:=by
   unfold sl;have:u=p+(u-p):=by exact (aN (rz (aE (Lin.A0 h)).symm) (ry (aE (Lin.A0 h))))
   conv=>lhs;rw [this]
   exact ae (Sn ..) rfl
  refine ae (Ge u hu ..).symm (ae (e2 ..) ?_);show _=(ft ((l.take p++sl l p u).map P)).length
  exact ae (bH ..) (ae (oZ ..) (ae (aG ..) (ae (t1 ..).symm rfl)))
theorem aa4 (h:p<l.length):sl l p (p+1)=[dG l p]:=by
 unfold sl;rw [jZ,List.take_one,List.head?_drop,gJ h];rfl
theorem O9 (h:t<u-p):(sl l p u)[t]? = l[p+t]?:=by
 unfold sl;rw [Sk,if_pos h,R6]
theorem Pb (h:p<l.length):f9 (bN P l) (bq (wl P l) p) (P (dG l p)).t:=by
 have:=(kM (P:=P) (kU p) h).1;rw [aa4 h] at this;have e:bN P [dG l p]=(P (dG l p)).t:=by show ft [P (dG l p)]=_;unfold ft;simp
 rw [e] at this;exact this
theorem o7:bq (wl P l) l.length=(bN P l).length:=by
 exact ae (Ge _ (aK _) ..).symm (ae (HS ..) rfl)
theorem Pd:∀p,i<bq w p->∃q,q<p/\∃t,t<w q/\i=bq w q+t:=by
 intro p;induction p with
 |zero=>intro h;exact (wy _ h).elim
 |succ p V=>
  intro h;by_cases U:i<bq w p
  ·refine ar (V U) λq W x=>av q (pL W) x
  ·have h:i<bq w p+w p:=h;exact ⟨p,nf _,i-bq w p,(xE h (aE (Lin.A0 (cW.mp U)))),(aN (rz (aE (Lin.A0 (cW.mp U))).symm) (ry (aE (Lin.A0 (cW.mp U)))))⟩
theorem sT {p q:Nat}(h:p<q) (hw:0<w p):bq w p<bq w q:=by
 have:bq w (p+1)<=bq w q:=gI h;have e:bq w (p+1)=bq w p+w p:=rfl;exact (eN (.u (.k .z .d) (.l .f .c) (.q (.a .b .d) .f)) .b .c rfl hw this (aC e))
end
structure dP (A B:List Nat) (N:Nat):Prop where
 na:A.Nodup
 nb:B.Nodup
 pm:A.Perm B
 lt:∀n∈A,n<N
noncomputable abbrev eV (A B:List Nat) (p:Nat):Nat:=B.idxOf (dG A p)
noncomputable abbrev fN (P:Nat->Pe) (A B:List Nat):List Rn:=runs (eV A B) (wl P A) A.length
noncomputable abbrev bk (P:Nat->Pe) (A B:List Nat) (r:Rn):bc:=(bq (wl P A) r.p,bq (wl P B) r.q,r.z)
section
variable {P:Nat->Pe}{A B:List Nat}{N:Nat}
theorem dP.ln (T:dP A B N):B.length=A.length:=T.pm.length_eq.symm
theorem dP.lb (T:dP A B N):∀n∈B,n<N:=λn h=>T.lt n (T.pm.mem_iff.mpr h)
theorem dP.kp (T:dP A B N) (h:p<A.length):eV A B p<A.length/\dG B (eV A B p)=dG A p:=by
 have V:dG A p∈B:=T.pm.mem_iff.mp (d6 (gJ h));have U:eV A B p<B.length:=List.idxOf_lt_length_iff.mpr V;refine ⟨T.ln▸U,?_⟩;have:=List.getElem_idxOf U;have e:=gJ U;rw [eC U,this] at e;exact (dJ e).symm
theorem dP.kq (T:dP A B N) {p q:Nat}(V:p<A.length) (W:q<A.length) (e:dG A p=dG B q):eV A B p=q:=by
 refine El.aa (T.kp V) λU h2=>?_;have a:=gJ (l:=B) (T.ln▸U);have b:=gJ (l:=B) (T.ln▸W);rw [h2,e] at a;exact (tK (T.ln▸U) T.nb).mp (a.trans b.symm)
theorem dP.ki (T:dP A B N) {p q:Nat}(U:p<A.length) (V:q<A.length) (e:eV A B p=eV A B q):p=q:=by
 have W:=(T.kp U).2;rw [e,(T.kp V).2] at W;have a:=gJ U;have b:=gJ V;rw [W] at b;exact (tK U T.na).mp (a.trans b.symm)
structure RF (P:Nat->Pe) (A B:List Nat) (r:Rn):Prop where
 c:0<r.c
 pl:r.p+r.c<=A.length
 ql:r.q+r.c<=A.length
 k:∀s,s<r.c->eV A B (r.p+s)=r.q+s
 s:∀s,s<=r.c->sl A r.p (r.p+s)=sl B r.q (r.q+s)
 x:bq (wl P A) r.p+r.z=bq (wl P A) (r.p+r.c)
 y:bq (wl P B) r.q+r.z=bq (wl P B) (r.q+r.c)
 z:r.z=(bN P (sl A r.p (r.p+r.c))).length
theorem dP.rf (T:dP A B N) (h:r∈fN P A B):RF P A B r:=by
 refine El.aa ((vQ A.length).lo r h) λok pl=>?_;have pc:=ok.c;have ql:r.q+r.c<=A.length:=by
  have:=(T.kp (p:=r.p+(r.c-1)) (eN (.t (.l (.a .b .f) .d) (.q (.S .c) .f)) (.a .b .c) .d rfl pl (aE (ur pc)))).1;rw [ok.k _ (by exact (cM (.q (.S .b) .c) .b .c rfl (aE (ur pc))))] at this
  exact (bJ (.t (.k (.a .b .f) .d) (.q .c (.S .f))) (.a .b .c) .d rfl this (aE (ur pc)).symm)
 have hs:∀s,s<=r.c->sl A r.p (r.p+s)=sl B r.q (r.q+s):=by
  intro s hs;apply aeO;intro t;by_cases ht:t<s
  ·refine ae (O9 (by exact (Jo ht (aE (rD)).symm)) ..) (ae (O9 (by exact (Jo ht (aE (rD)).symm)) ..) ?_)
   have:=(T.kp (p:=r.p+t) (CE pl hs ht)).2;rw [ok.k t (fR ht hs)] at this;exact ae (gJ (CE pl hs ht) ..) (ae (gJ (by rw [T.ln];exact (CE ql hs ht)) ..) (ae (this ..) rfl))
  ·have e:∀(l:List Nat) (p:Nat),(sl l p (p+s))[t]? = none:=λl p=>by
    unfold sl;rw [Sk,if_neg (by exact (λV=>(ue (.u (.l .b .c) (.k .c .d) (.q (.a .d .f) (.a .f .b))) rfl (cW.mp ht) V (aE (rD)))))]
   exact ae (e ..) (ae (e ..) rfl)
 have U:=(kM (P:=P) (l:=A) (ba r.p r.c) pl).2;have W:=(kM (P:=P) (l:=B) (ba r.q r.c) (by refine ae (T.ln ..) <| ql)).2
 have z:=ok.z;rw [<-hs r.c (aK _)] at W;exact ⟨pc,pl,ql,ok.k,hs,z,by exact (aN (fq (.u (.q .f (.a .h .i)) (.q (.a .b .i) .d) (.q (.a .h .c) .f)) (.a .b .c) .d rfl (aC U) W z) (fq (.u (.q (.a .f .h) .i) (.q .b (.a .c .h)) (.q .i (.a .f .d))) .b (.a .c .d) rfl U (aC W) (aC z))),by exact (aN (bJ (.t (.q .d (.a .f .c)) (.q (.a .f .b) .d)) .b .c rfl (aC U) z) (bJ (.t (.q (.a .d .b) .f) (.q .f (.a .d .c))) .b .c rfl U (aC z)))⟩
variable (F:iN P N) (T:dP A B N)
include F T
theorem dP.wa (h:p<A.length):0<wl P A p:=by
 have U:=sS (F.ok _ (T.lt _ (d6 (gJ h))));have V:=sR (P (dG A p));unfold wl;exact (Jp U.1 U.2 (aC V))
theorem dP.wb (h:p<A.length):0<wl P B p:=by
 have U:=sS (F.ok _ (T.lb _ (d6 (gJ (l:=B) (T.ln▸h)))));have V:=sR (P (dG B p));unfold wl;exact (Jp U.1 U.2 (aC V))
theorem dP.xi {p q:Nat}(W:p<=A.length) (hq:q<=A.length) (e:bq (wl P A) p=bq (wl P A) q):p=q:=by
 rcases HO p q with h | h | h
 ·have U:=sT h (T.wa F (fR h hq));exact (aN (A1 h) (eM (.c4 _ _ _ _) .z 0 (.t (.q .d .f) (.k .f .d)) .b .c rfl (aC e) U))
 ·exact h
 ·have V:=sT h (T.wa F (fR h W));exact (aN (eM (.c4 _ _ _ _) .z 0 (.t (.q .d .f) (.k .f .d)) .b .c rfl e V) (A1 h))
theorem dP.yi {p q:Nat}(W:p<=A.length) (hq:q<=A.length) (e:bq (wl P B) p=bq (wl P B) q):p=q:=by
 rcases HO p q with h | h | h
 ·have U:=sT h (T.wb F (fR h hq));exact (aN (A1 h) (eM (.c4 _ _ _ _) .z 0 (.t (.q .d .f) (.k .f .d)) .b .c rfl (aC e) U))
 ·exact h
 ·have V:=sT h (T.wb F (fR h W));exact (aN (eM (.c4 _ _ _ _) .z 0 (.t (.q .d .f) (.k .f .d)) .b .c rfl e V) (A1 h))
theorem dP.zp (R:RF P A B r):0<r.z:=by
 have W:=R.c;have h2:=R.pl;have U:=sT (w:=wl P A) (p:=r.p) (q:=r.p+r.c) (Jq W) (T.wa F (Jb W h2));have V:=R.x;exact (dQ (.t (.k .c .d) (.q .d (.a .c .b))) .z .b rfl U (aC V))
omit F in
theorem dP.ap (hr:r∈fN P A B) (hs:s∈fN P A B):r=s∨((r.p+r.c<=s.p∨s.p+s.c<=r.p)/\(r.q+r.c<=s.q∨s.q+s.c<=r.q)):=by
 have R:=T.rf hr;have S:=T.rf hs;have h1:=R.pl;have h2:=S.pl;have h3:=R.c;have h4:=S.c;have W:(r.p+r.c<=s.p∨s.p+s.c<=r.p)->(r.q+r.c<=s.q∨s.q+s.c<=r.q):=by
  intro h;have no:∀a b,a<r.c->b<s.c->r.q+a≠s.q+b:=by
   intro a b ha hb e;have:=T.ki (p:=r.p+a) (q:=s.p+b) (Jr h1 ha) (Jr h2 hb) (by refine ae (R.k a ha ..) (ae (S.k b hb ..) ?_);exact e)
   exact (Or.elim h (λU=>(Js ha (aC this) U)) λU=>(Js hb this U))
  by_cases V:r.q<=s.q
  ·by_cases h5:r.q+r.c<=s.q
   ·exact .inl h5
   ·exact (no (s.q-r.q) 0 (xE (dg.mp h5) (aE (Lin.A0 V))) h4 (aN (Jt (aE (Lin.A0 V))) (Ju (aE (Lin.A0 V)).symm))).elim
  ·by_cases h5:s.q+s.c<=r.q
   ·exact .inr h5
   ·exact (no 0 (r.q-s.q) h3 (xE (dg.mp h5) (aE (A1 (dg.mp V)))) (aN (Ju (aE (A1 (dg.mp V))).symm) (Jt (aE (A1 (dg.mp V)))))).elim
 clear R S h1 h2 h3 h4;rcases z7 (vQ A.length).pw hr hs with e | h | h
 ·exact .inl e
 ·exact .inr ⟨.inr h,W (.inr h)⟩
 ·exact .inr ⟨.inl h,W (.inl h)⟩
theorem aa5:oX (λi=>(bN P A).getD i 0) (λi=>(bN P B).getD i 0) (bN P A).length (bN P B).length (λg=>∃r∈fN P A B,g=bk P A B r):=by
 refine ⟨λg ⟨r,U,e⟩=>?_,λg ⟨r,U,e⟩ t ht=>?_,λi j hi hj e=>?_,λg h ⟨r,U,e⟩ ⟨s,hs,e2⟩=>?_,λg h ⟨r,U,e⟩ ⟨s,hs,e2⟩=>?_⟩
 ·subst e;have R:=T.rf U;refine aL (T.zp F R) ?_ ?_
  ·have:=gI (w:=wl P A) R.pl;rw [o7] at this;have fi:=R.x;dsimp only [bk];exact (Jv this fi)
  ·have:=gI (w:=wl P B) R.ql;rw [<-T.ln,o7] at this;have fh:=R.y;dsimp only [bk];exact (Jv this fh)
 ·subst e;have R:=T.rf U;have z:=R.z;have a1:=(kM (P:=P) (l:=A) (ba r.p r.c) R.pl).1;have V:=(kM (P:=P) (l:=B) (ba r.q r.c) (by refine ae (T.ln ..) <| R.ql)).1
  rw [<-R.s r.c (aK _)] at V;have ht:t<r.z:=ht;exact (a1.getD (Jw z ht)).trans (V.getD (Jw z ht)).symm
 ·have hi:i<(bN P A).length:=hi;have hj:j<(bN P B).length:=hj;rw [<-o7] at hi hj;refine Kd (Pd _ hi) λp hp t ht ei=>Kd (Pd _ hj) λq hq u hu ej=>?_;have e:(bN P A).getD i 0=(bN P B).getD j 0:=e;rw [ei,ej,(Pb hp).getD ht,(Pb hq).getD hu] at e;have m1:=getD_some (l:=(P (dG A p)).t) ht;have m2:=getD_some (l:=(P (dG B q)).t) hu;have lA:=T.lt _ (d6 (gJ hp));have lB:=T.lb _ (d6 (gJ hq));have en:=F.dj _ _ _ lA lB (d6 m1) (e▸d6 m2);rw [<-en] at m2 e;rw [<-e] at m2;have Pf:=OP (F.nd _ lA) m1 m2;have ek:=T.kq hp (T.ln▸hq) en;refine ef ((vQ (κ:=eV A B) (w:=wl P A) A.length).FT p hp) λr U k1 k2=>?_;have R:=T.rf U;have ks:=R.k (p-r.p) (xE k2 (aE (Lin.A0 k1)));have ep:r.p+(p-r.p)=p:=by exact (aN (ry (aE (Lin.A0 k1))) (rz (aE (Lin.A0 k1)).symm))
  rw [ep,ek] at ks;have W:=R.pl;have a1:=(kM (P:=P) (l:=A) (ba r.p (p-r.p)) (bJ (.t (.k .f .d) (.q (.a .b .c) .f)) (.a .b .c) .d rfl hp ep)).2;have V:=(kM (P:=P) (l:=B) (ba r.q (p-r.p)) (by refine ae (T.ln ..) ?_;have kL:=R.ql;exact (fq (.u (.k .f (.a .h .i)) (.q (.a .h .c) .f) (.l (.a .b .i) .d)) (.a .b .c) .d rfl k2 ep kL))).2
  rw [<-R.s (p-r.p) (bJ (.t (.k .d (.a .f .c)) (.q (.a .f .b) .d)) .b .c rfl k2 ep),<-ks] at V;rw [ep] at a1 V;have x1:bq (wl P A) (p+1)<=bq (wl P A) (r.p+r.c):=gI (by exact k2)
  have x2:bq (wl P A) (p+1)=bq (wl P A) p+wl P A p:=rfl;have x3:=R.x;refine Kj (bk P A B r) (av r U rfl) ((bN P (sl A r.p p)).length+t) ?_ ?_ ?_
  ·dsimp only [bk];exact (Tb (.c 1 (.k .c .f) (.c 1 (.q (.a .h .b) .i) (.c 1 (.l .j .k) (.c 1 (.q (.a .i .f) .j) (.c 1 (.q .k (.a .h .d)) .z))))) (.a .b .c) .d rfl ht a1 x1 (aC x2) (aC x3))
  ·dsimp only [bk];exact (aN (dD (.t (.q .b (.a .h .f)) (.q .h (.a .c .d))) .b (.a .c (.a .d .f)) rfl ei (aC a1)) (dD (.t (.q (.a .h .d) .f) (.q (.a .b .c) .h)) (.a .b (.a .c .d)) .f rfl (aC ei) a1))
  ·dsimp only [bk];exact (aN (fq (.u (.q .b (.a .h .i)) (.q .i .f) (.q .h (.a .c .d))) .b (.a .c (.a .d .f)) rfl ej (aC Pf) (aC V)) (fq (.u (.q (.a .h .i) .f) (.q .d .i) (.q (.a .b .c) .h)) (.a .b (.a .c .d)) .f rfl (aC ej) Pf V))
 ·subst e;subst e2;have R:=T.rf U;have S:=T.rf hs;have x1:=R.x;have x2:=S.x;have y1:=R.y;have y2:=S.y;clear R S;rcases T.ap U hs with e | ⟨W,h2⟩
  ·exact .inl (e▸rfl)
  ·refine .inr ⟨?_,?_⟩
   ·rcases W with h | h
    ·have mY:=gI (w:=wl P A) h;left;dsimp only [bk];exact (aD (dm x1) mY)
    ·have mU:=gI (w:=wl P A) h;right;dsimp only [bk];exact (aD (dm x2) mU)
   ·rcases h2 with h | h
    ·have mV:=gI (w:=wl P B) h;left;dsimp only [bk];exact (aD (dm y1) mV)
    ·have F9:=gI (w:=wl P B) h;right;dsimp only [bk];exact (aD (dm y2) F9)
 ·subst e;subst e2;have R:=T.rf U;have S:=T.rf hs;intro ⟨W,h2⟩;have W:bq (wl P A) r.p+r.z=bq (wl P A) s.p:=W;have h2:bq (wl P B) r.q+r.z=bq (wl P B) s.q:=h2;rw [R.x] at W;rw [R.y] at h2;have l1:=S.pl;have l2:=S.ql;have e1:=T.xi F R.pl (uo l1) W;have e2:=T.yi F R.ql (uo l2) h2;exact (vQ A.length).max r U s hs e1 e2
end
theorem aa6 (h:l.Perm k):(ft l).length=(ft k).length:=by
 induction h with
 |nil=>rfl
 |cons x _ U=>rw [gS,gS,aG,aG,U]
 |swap x y l=>rw [gS,gS,gS,gS,aG,aG,aG,aG];exact (aN (I7) (I7))
 |trans _ _ a b=>exact a.trans b
structure Ab (P:Nat->Pe) (A B:List Nat) (cT S:List Rn):Prop where
 pt:(fN P A B).Perm cT
 ps:cT.Pairwise λa b=>iu a<iu b
 qt:(mZ [] cT).Perm S
 qs:S.Pairwise λa b=>a.p<b.p
section
variable {P:Nat->Pe}{A B:List Nat}{N:Nat}{cT S:List Rn}
noncomputable abbrev pc (P:Nat->Pe) (l:List Nat) (p u:Nat):List Pe:=(sl l p u).map P
noncomputable def cP (P:Nat->Pe) (A B:List Nat):Nat->Nat->List Rn->List Zn:=@λa b c=>match a,b,c with
 |p,q,[]=>[]
 |p,q,s::S=>(pc P A p s.p,ft (pc P B q s.q),pc P A s.p (s.p+s.c))::cP P A B (s.p+s.c) (s.q+s.c) S
noncomputable def dH (P:Nat->Pe) (A B:List Nat):Nat->Nat->List Rn->List Pe×List Int:=@λa b c=>match a,b,c with
 |p,q,[]=>(pc P A p A.length,ft (pc P B q B.length))
 |p,q,s::S=>dH P A B (s.p+s.c) (s.q+s.c) S
class inductive jy (P:Nat->Pe) (A B:List Nat):Nat->Nat->List Rn->Prop
 |nil {p q:Nat}:p<=A.length->q<=A.length->jy P A B p q []
 |cons {p q:Nat}{s:Rn}{S:List Rn}:p<=s.p->q<=s.q->RF P A B s->jy P A B (s.p+s.c) (s.q+s.c) S->jy P A B p q (s::S)
theorem jy.le {p q:Nat}{S:List Rn}(h:jy P A B p q S):p<=A.length/\q<=A.length:=by
 cases h with
 |nil a b=>exact ⟨a,b⟩
 |cons a b R _=>have:=R.pl;have:=R.ql;exact ⟨(by omega),(bJ (.t (.l .b .d) (.l (.a .d .f) .c)) .b .c rfl b this)⟩
theorem Gf:∀{S:List Rn}{p q:Nat},p<=A.length->q<=A.length->(∀s∈S,RF P A B s/\p<=s.p/\q<=s.q)->(S.Pairwise λa b=>a.p+a.c<=b.p/\a.q+a.c<=b.q)->jy P A B p q S:=by
 intro S;induction S with
 |nil=>intro p q U V _ _;exact .nil U V
 |cons s S W=>
  intro p q U V h hs;refine cg (h s (.head _)) λR a b=>El.aa (j7.mp hs) λk1 k2=>.cons a b R (W R.pl R.ql (λx hx=>⟨(h x (.tail _ hx)).1,k1 x hx⟩) k2)
variable (F:iN P N) (T:dP A B N)
theorem Ac (U:p<=u) (V:u<=v):sl l p v=sl l p u++sl l u v:=by
 unfold sl;have e1:v-p=(u-p)+(v-u):=by exact (aN (I8 (aE (rE U V)) (aE (Lin.A0 U)).symm (aE (Lin.A0 V)).symm) (I9 (aE (rE U V)).symm (aE (Lin.A0 U)) (aE (Lin.A0 V))))
 have e2:kX u l=kX (u-p) (kX p l):=by refine ae (Sm ..) ?_;congr 1;exact (aN (rz (aE (Lin.A0 U)).symm) (ry (aE (Lin.A0 U))))
 exact ae (e1 ..) (ae (e2 ..) (ae (Sn ..) rfl))
theorem vR:sl l 0 l.length=l:=by unfold sl;exact ae (Nat.sub_zero ..) (ae (Hl ..) (ae (HS ..) rfl))
theorem sU (h:n∈sl l p u):n∈l:=List.mem_of_mem_drop (List.mem_of_mem_take h)
theorem Pg (hl:B.length=A.length):∀{S:List Rn}{p q:Nat},jy P A B p q S->zp (dH P A B p q S) (cP P A B p q S)=pc P A p A.length/\ht (eh (dH P A B p q S)) (hz (cP P A B p q S))=ft (pc P B q B.length)/\dA (bq (wl P A) p) (bq (wl P B) q) (hz (cP P A B p q S))=S.map (bk P A B):=by
 intro S;induction S with
 |nil=>intro p q _;exact aL rfl rfl rfl
 |cons s S V=>
  intro p q h;cases h with
  |cons a b R h=>
   refine cg (V h) λe1 e2 e3=>El.aa h.le λU l2=>?_;have z:=R.z;refine aL ?_ ?_ ?_
   ·show pc P A p s.p++(pc P A s.p (s.p+s.c)++zp (dH P A B (s.p+s.c) (s.q+s.c) S) (cP P A B (s.p+s.c) (s.q+s.c) S))=_
    exact ae (e1 ..) (ae (bH ..).symm (ae (Ac (ba _ _) U ..).symm (ae (bH ..).symm (ae (Ac a (uo U) ..).symm rfl))))
   ·show ft (pc P B q s.q)++(ft (pc P A s.p (s.p+s.c))++ht (eh (dH P A B (s.p+s.c) (s.q+s.c) S)) (hz (cP P A B (s.p+s.c) (s.q+s.c) S)))=_
    refine ae (e2 ..) ?_;unfold pc;exact ae (R.s s.c (aK _) ..) (ae (oZ ..).symm (ae (bH ..).symm (ae (Ac (ba _ _) (aD l2 (dm hl.symm)) ..).symm (ae (oZ ..).symm (ae (bH ..).symm (ae (Ac b (Ja (aC hl) l2) ..).symm rfl))))))
   ·have W:=(kM (P:=P) (l:=A) a (by have:=R.pl;exact (uo U))).2
    have a2:=(kM (P:=P) (l:=B) b (by have:=R.ql;exact (Ja (aC hl) l2))).2
    show (bq (wl P A) p+(bN P (sl A p s.p)).length,bq (wl P B) q+(bN P (sl B q s.q)).length,(bN P (sl A s.p (s.p+s.c))).length)::dA (bq (wl P A) p+(bN P (sl A p s.p)).length+(bN P (sl A s.p (s.p+s.c))).length) (bq (wl P B) q+(bN P (sl B q s.q)).length+(bN P (sl A s.p (s.p+s.c))).length) (hz (cP P A B (s.p+s.c) (s.q+s.c) S))=bk P A B s::S.map (bk P A B)
    exact ae (W ..) (ae (a2 ..) (ae (z ..).symm (ae (R.x ..) (ae (R.y ..) (ae (e3 ..) rfl)))))
theorem Ph (hl:B.length=A.length):∀{S:List Rn}{p q:Nat},jy P A B p q S->(∀z∈cP P A B p q S,z.2.2≠[])/\(cP P A B p q S).length=S.length:=by
 intro S;induction S with
 |nil=>intro p q _;exact ⟨λz h=>El.nm h,rfl⟩
 |cons s S U=>
  intro p q h;cases h with
  |cons a b R h=>
   refine El.aa (U h) λe1 e2=>⟨λz hz=>?_,congrArg l5 e2⟩;rcases aT.mp hz with e | hz
   ·clear hz;subst e;intro e;have:=congrArg Bv e;rw [aY] at this;unfold sl at this;rw [jg,hU] at this;have:=R.c;have:=R.pl;simp at *
    (clear e2 b a hl;lia)
   ·exact e1 z hz
include F T
theorem aa7:∀{S:List Rn}{p q:Nat},(∀x∈(dH P A B p q S).1,dC x)/\∀z∈cP P A B p q S,(∀x∈z.1,dC x)/\∀x∈z.2.2,dC x:=by
 have ok:∀p u,∀x∈pc P A p u,dC x:=λp u=>F.Gb λn h=>T.lt n (sU h);intro S;induction S with
 |nil=>intro p q;exact ⟨ok _ _,λz h=>El.nm h⟩
 |cons s S U=>
  intro p q;refine ⟨(U (p:=s.p+s.c) (q:=s.q+s.c)).1,λz hz=>?_⟩;rcases aT.mp hz with e | hz
  ·clear hz;subst e;exact ⟨ok _ _,ok _ _⟩
  ·exact (U (p:=s.p+s.c) (q:=s.q+s.c)).2 z hz
theorem aa8 (hl:B.length=A.length):∀{S:List Rn}{p q:Nat},jy P A B p q S->jV (bN P A) (bN P B) (bN P A).length (bN P B).length (bq (wl P A) p) (bq (wl P B) q) (S.map (bk P A B))->oY (dH P A B p q S).1 (dH P A B p q S).2/\∀z∈cP P A B p q S,oY z.1 z.2.1:=by
 have go:∀{p u q v:Nat},p<=u->u<=A.length->q<=v->v<=A.length->vL (bN P A) (bN P B) (bq (wl P A) p) (bq (wl P A) u) (bq (wl P B) q) (bq (wl P B) v)->oY (pc P A p u) (ft (pc P B q v)):=by
  intro p u q v U V W h4 h;refine F.zok (λn h=>T.lt n (sU h)) (λn h=>T.lb n (sU h)) <| El.aa (kM (P:=P) U V) λa1 a2=>El.aa (kM (P:=P) W (by exact (aD h4 (dm hl.symm)):v<=B.length)) λb1 b2=>?_
  unfold vL at h;rw [<-a2,<-b2,a1.cut,b1.cut] at h;exact h
 intro S;induction S with
 |nil=>
  intro p q h hc;refine El.aa h.le λl1 l2=>?_;clear F T;cases hc with
  |nil _ _ h=>
   refine ⟨?_,λz h=>El.nm h⟩;rw [<-o7,<-o7] at h;exact go l1 (aK _) (hl▸l2) (dm hl) h
 |cons s S ih=>
  intro p q h hc;cases h with
  |cons a b R h=>
   clear F T;cases hc with
   |cons k1 k2 k3 k4 k5 k6 k7 hc=>
    have hc:jV (bN P A) (bN P B) (bN P A).length (bN P B).length (bq (wl P A) s.p+s.z) (bq (wl P B) s.q+s.z) (S.map (bk P A B)):=hc;rw [R.x,R.y] at hc;refine El.aa (ih h hc) λe1 e2=>⟨e1,λz hz=>?_⟩;rcases aT.mp hz with e | hz
    ·clear hz;subst e;have:=R.pl;have:=R.ql;exact go a (by lia) b (uo this) k3
    ·exact e2 z hz
variable (Y:Ab P A B cT S) (nA:A.length<100) (nX:(bN P A).length<1000)
include Y
omit F in
theorem Ad:(∀s∈S,s∈fN P A B)/\(S.Pairwise λa b=>a.p+a.c<=b.p/\a.q+a.c<=b.q)/\∀r∈fN P A B,r∈S∨∃t∈S,iu t<iu r/\ez r t=false:=by
 have G:=aa2 cT [] [] Y.ps ⟨λs h=>El.nm h,.nil,λs h=>El.nm h⟩;rw [fE] at G;have sub:∀s∈S,s∈fN P A B:=λs hs=>Y.pt.mem_iff.mpr (G.sub s (Y.qt.mem_iff.mpr hs));refine aL sub (Y.qs.imp_of_mem λ{a b} ha hb h=>?_) (λr hr=>?_)
 ·have A':=T.rf (sub a ha);have B':=T.rf (sub b hb);have c1:=A'.c;have c2:=B'.c;have e:ez a b=true∨ez b a=true:=by
   clear A' B' c1 c2;rcases z7 G.ez (Y.qt.mem_iff.mpr ha) (Y.qt.mem_iff.mpr hb) with e | e | e
   ·subst e;exact (jD _ h).elim
   ·exact .inr e
   ·exact .inl e
  clear A' B';rcases T.ap (sub a ha) (sub b hb) with e2 | ⟨h1,h2⟩
  ·subst e2;exact (jD _ h).elim
  ·have hq:a.q<b.q:=by
    unfold ez at e;rcases e with e | e
    ·rw [decide_eq_true h] at e;exact of_decide_eq_true (eq_of_beq e).symm
    ·rw [decide_eq_false (by exact (λgD=>(CB h gD)):¬b.p<a.p)] at e
     have:=of_decide_eq_false (eq_of_beq e).symm;exact (Or.elim h1 (λPj=>(Or.elim h2 (λV=>(Jb c1 V)) λV=>(ji (.c3 _ _ _) .z 0 (.u (.k .z .d) (.l .b .c) (.l (.a .c .d) .b)) .b .c rfl c2 (cW.mp this) V))) λPj=>(ji (.c5 _ _ _ _ _) .z 0 (.u (.k .d .f) (.k .z .h) (.l (.a .f .h) .d)) .b .c rfl h c2 Pj))
   exact ⟨(Or.elim e (λW=>(Or.elim h1 (λU=>(uj U)) λU=>(eM (.c4 _ _ _ _) .z 0 (.u (.k .b .d) (.k .z .f) (.l (.a .d .f) .b)) (.a .b .c) .d rfl h c2 U))) λW=>(Or.elim h1 (λU=>(uj U)) λU=>(eM (.c4 _ _ _ _) .z 0 (.u (.k .b .d) (.k .z .f) (.l (.a .d .f) .b)) (.a .b .c) .d rfl h c2 U))),(Or.elim e (λW=>(Or.elim h2 (λU=>(uj U)) λU=>(eM (.c4 _ _ _ _) .z 0 (.u (.k .z .f) (.k .b .d) (.l (.a .d .f) .b)) (.a .b .c) .d rfl c2 hq U))) λW=>(Or.elim h2 (λU=>(uj U)) λU=>(eM (.c4 _ _ _ _) .z 0 (.u (.k .z .f) (.k .b .d) (.l (.a .d .f) .b)) (.a .b .c) .d rfl c2 hq U)))⟩
 ·rcases G.sN r (Y.pt.mem_iff.mp hr) with h | ⟨t,ht,h1,h2⟩
  ·exact .inl (Y.qt.mem_iff.mp h)
  ·exact .inr (dq t (Y.qt.mem_iff.mp ht) h1 h2)
include nA nX
theorem aa9:vN (λg=>∃r∈fN P A B,g=bk P A B r) (S.map (bk P A B)):=by
 refine cg (Ad T Y) λsub pw gr=>⟨λg hg=>?_,?_,λg ⟨r,hr,e⟩ hn=>?_⟩
 ·refine ar (bf.mp hg) λs hs e=>av s (sub s hs) e.symm
 ·rw [rh];refine pw.imp_of_mem λ{a b} ha hb h=>?_;have R:=T.rf (sub a ha);have x:=R.x;have y:=R.y;have:=gI (w:=wl P A) h.1;have:=gI (w:=wl P B) h.2;exact ⟨by dsimp only [bk];lia,by dsimp only [bk];exact (aD (dm y) this)⟩
 ·subst e;have R:=T.rf hr;rcases gr r hr with h | ⟨t,ht,W,V⟩
  ·exact (hn (bf.mpr (av r h rfl))).elim
  ·have T':=T.rf (sub t ht);refine jH (bk P A B t) (bf.mpr (av t ht rfl)) ?_ (λq=>?_) (λq=>?_)
   ·have p1:=R.pl;have p2:=T'.pl;have c1:=R.c;have c2:=T'.c;have z1:=R.x;have z2:=T'.x;have m1:=gI (w:=wl P A) p1;have m2:=gI (w:=wl P A) p2;rw [o7] at m1 m2;unfold iu at W;show r.z<t.z∨(r.z=t.z/\bq (wl P A) t.p<bq (wl P A) r.p)
    by_cases e:r.z<t.z
    ·exact .inl e
    ·have:t.p<r.p:=by exact (ud (.c 1 (.k (.a (.r .d 100) .b) (.a (.r .f 100) .c)) (.c 100 (.l .h .i) (.c 100 (.q (.n 1000) (.a .d .h)) (.c 100 (.q (.a .f .i) (.n 1000)) .z)))) .b .c rfl W (cW.mp e) (aE (CC nX z2 m2)).symm (aE (CC nX z1 m1)))
     have:=sT this (T.wa F (fR (fR this (ba _ _)) p1));exact (.inr ⟨(aN (eM (.c8 _ _ _ _ _ _ _ _) .z 100 (.c 1 (.k .d (.n 100)) (.c 1 (.k (.a (.r .f 100) .h) (.a (.r .i 100) .j)) (.c 1 (.l (.a .j .k) .d) (.c 1 (.k .z .k) (.c 100 (.q (.n 1000) (.a .f .c)) (.c 100 (.q (.a .i .b) (.n 1000)) .z)))))) .b .c rfl nA W p1 c1 (aE (CC nX z2 m2)).symm (aE (dD (.y (.k .c (.n 1000)) (.q (.a .d .b) .f) (.l .f .c) (.k .h .d)) .b (.n 1000) rfl nX z1 m1 this))) (Lin.A0 (cW.mp e))),(uh this)⟩)
   ·have q1:bq (wl P A) t.p+t.z<=bq (wl P A) r.p:=q.1;have q2:bq (wl P B) t.q+t.z<=bq (wl P B) r.q:=q.2;have zp:=T.zp F T';have g1:t.p<r.p:=by
     apply w9;intro h;have:=gI (w:=wl P A) h;exact (xB q1 zp this)
    have g2:t.q<r.q:=by
     apply w9;intro h;have:=gI (w:=wl P B) h;exact (xB q2 zp this)
    unfold ez at V;rw [decide_eq_false (by exact (λU=>(CB g1 U)):¬r.p<t.p),decide_eq_false (by exact (λU=>(CB g2 U)):¬r.q<t.q)] at V
    exact tf V
   ·have q1:bq (wl P A) r.p+r.z<=bq (wl P A) t.p:=q.1;have q2:bq (wl P B) r.q+r.z<=bq (wl P B) t.q:=q.2;have zp:=T.zp F R;have g1:r.p<t.p:=by
     apply w9;intro h;have:=gI (w:=wl P A) h;exact (xB q1 zp this)
    have g2:r.q<t.q:=by
     apply w9;intro h;have:=gI (w:=wl P B) h;exact (xB q2 zp this)
    unfold ez at V;rw [decide_eq_true g1,decide_eq_true g2] at V;exact tf V
theorem aba (h0:A≠[]) (nl:A.length<=30) (nb:(bN P A).length<200) (nd:(fd (A.map P)).length<200):∃L1 L2 R W R1 n,z9 (bN P A) (bN P B) (fd (A.map P)) (zt (dH P A B 0 0 S) (cP P A B 0 0 S)) (zm (dH P A B 0 0 S) (cP P A B 0 0 S)) L1 L2 R W R1 n:=by
 refine cg (Ad T Y) λsub pw gr=>?_;have hG:=aa5 F T;have hL:=aa9 F T Y nA nX;have hc:jy P A B 0 0 S:=Gf (bA _) (bA _) (λs hs=>(aL (T.rf (sub s hs)) (bA _) (bA _))) pw;refine cg (Pg T.ln hc) λe1 e2 e3=>El.aa (Ph T.ln hc) λk1 k2=>El.aa (aa7 F T (S:=S) (p:=0) (q:=0)) λf1 f2=>?_;have hB:=OL hG hL;have E3:=hB.pY (bA _) (bA _) (aK _) (aK _);refine El.aa (aa8 F T T.ln hc E3) λo1 o2=>?_;have eA:zb (dH P A B 0 0 S) (cP P A B 0 0 S)=bN P A:=by
  refine ae (OZ ..).symm (ae (e1 ..) ?_);unfold pc;exact ae (vR ..) rfl
 have eB:ht (eh (dH P A B 0 0 S)) (hz (cP P A B 0 0 S))=bN P B:=by
  refine ae (e2 ..) ?_;unfold pc;exact ae (vR ..) rfl
 have V:zp (dH P A B 0 0 S) (cP P A B 0 0 S)=A.map P:=by
  refine ae (e1 ..) ?_;unfold pc;exact ae (vR ..) rfl
 have eL:hb (eh (dH P A B 0 0 S)) (hz (cP P A B 0 0 S))=bN P A:=by exact ae (O0 ..) (ae (eA ..) rfl)
 have e3:dA 0 0 (hz (cP P A B 0 0 S))=S.map (bk P A B):=e3;have nS:S.length<=A.length:=by
  have:∀(S:List Rn) (p:Nat),p<=A.length->(∀s∈S,p<=s.p/\0<s.c/\s.p+s.c<=A.length)->(S.Pairwise λa b=>a.p+a.c<=b.p/\a.q+a.c<=b.q)->p+S.length<=A.length:=by
   intro S;induction S with
   |nil=>intro p hp _ _;exact hp
   |cons s S ih=>
    intro p hp h hs;refine El.aa (j7.mp hs) λg1 g2=>cg (h s (.head _)) λa b c=>?_;have:=ih (s.p+s.c) c (λx hx=>⟨(g1 x hx).1,(h x (.tail _ hx)).2⟩) g2;show p+(S.length+1)<=_
    exact (dD (.u (.l .b .f) (.k .z .h) (.l (.a (.a .f .h) .c) .d)) (.a .b (.S .c)) .d rfl a b this)
  have:=this S 0 (bA _) (λs hs=>(aL (bA _) (T.rf (sub s hs)).c (T.rf (sub s hs)).pl)) pw;exact (cp (.l (.a .z .b) .c) .b .c rfl this)
 have S0:kI (hb (eh (dH P A B 0 0 S)) (hz (cP P A B 0 0 S))) (ht (eh (dH P A B 0 0 S)) (hz (cP P A B 0 0 S))) (dA 0 0 (hz (cP P A B 0 0 S))) 0 (jx (eh (dH P A B 0 0 S)) 0 0 (hz (cP P A B 0 0 S))):=by
  refine OS (G:=λg=>∃r∈fN P A B,g=bk P A B r) ?_ ?_ ?_ ?_
  ·refine ae (eL ..) (ae (eB ..) ?_);exact hG
  ·refine ae (e3 ..) <| hL
  ·intro h hh;refine ar (bf.mp hh) λz U e=>?_;clear hh;subst e;exact λe=>k1 z U (vO (f2 z U).2 e)
  ·refine ae (aY ..) (ae (k2 ..) ?_);exact (cM (.t (.l .c (.n 30)) (.l .b .c)) .b (.n 63) rfl nl nS)
 rw [O0] at S0;have S1:kI (ft (zp (dH P A B 0 0 S) (cP P A B 0 0 S))) (fd (zp (dH P A B 0 0 S) (cP P A B 0 0 S))) (dA 0 0 (eU [] [] [] (zp (dH P A B 0 0 S) (cP P A B 0 0 S)))) 1 (cH 0 (zp (dH P A B 0 0 S) (cP P A B 0 0 S))):=by
  refine ae (V ..) <| aaP (λe=>h0 (List.map_eq_nil_iff.mp e)) (F.Gb T.lt) (F.ft T.lt T.na) (F.fd T.lt T.na) (F.o T.lt) (by refine ae (aY ..) <| (cF (.l .b (.n 30)) .b (.n 62) rfl nl))
 have:=aa0 f1 o1 f2 (λz U=>⟨o2 z U,k1 z U⟩) S0 S1 (by refine ae (k2 ..) <| (aD nS nl)) (by refine ae (V ..) (ae (aY ..) ?_);exact nl) (by refine ae (eA ..) <| nb) (by refine ae (eB ..) (ae (aa6 (T.pm.map P) ..).symm ?_);exact nb) (by refine ae (V ..) <| nd)
 rw [eA,eB,V] at this;obtain ⟨R,W,R1,n,h⟩:=id this;clear this;exact ⟨_,_,R,W,R1,n,h⟩
end
end Internal.Pure
end
section
open PySem PySem.W PySem.Calls PyProof.Rows
open Mine
namespace Internal.Mine
noncomputable abbrev iw:SE:=.sub (.var 3) (.neg (.lit (.int (1))))
noncomputable abbrev m5:SE:=.bi .len (.cons (.sub (.var 2) (.sub (.var 0) (.var 4))) .nil)
noncomputable abbrev Gg:SS:=(.seq (.asg 5 .fr (.idx (.var 1) (.sub (.var 0) (.var 4)))) (.seq (.cS (.an (.cmp .NotEq (.var 3) (.lst .nil)) (.cmp .Eq (.var 5) (.bin .Add (.sub iw (.lit (.int (1)))) (.sub iw (.lit (.int (2))))))) (.seq (.kl iw (.lit (.int (2))) .Add (.lit (.int (1)))) (.seq (.kl iw (.lit (.int (3))) .Add m5) .nil)) (.seq (.app (.var 3) (.lst (.cons (.var 4) (.cons (.var 5) (.cons (.lit (.int (1))) (.cons m5 .nil)))))) .nil)) .nil))
noncomputable abbrev abb:SE:=.x6 [(0,.fr),(1,.fr),(2,.fr),(3,.fr)] true [] 4 (.var 3) (.tup (.cons (.neg (.var 3)) (.cons (.var 0) (.cons (.var 1) (.cons (.var 2) .nil)))))
noncomputable abbrev abc:SE:=.x6 [(0,.fr),(1,.fr),(2,.fr)] true [4,5] 3 (.var 6) (.cmp .Eq (.cmp .Lt (.var 3) (.var 0)) (.cmp .Lt (.var 4) (.var 1)))
noncomputable abbrev Gh:SS:=(.seq (.cS (.tv (.fn 1 (.cons abc .nil))) (.seq (.app (.var 6) (.tup (.cons (.var 4) (.cons (.var 5) (.cons (.var 8) .nil))))) .nil) .nil) .nil)
noncomputable def Pk:SS:=(.seq (.asg 3 .deep (.lst .nil)) (.seq (.eu [(4,.fr)] false (.qf (.lit (.int (0))) (.bi .len (.cons (.var 0) .nil))) Gg) (.seq (.seq (.fz 3) (.asg 6 .own (.lst .nil))) (.seq (.eu [(7,.fr),(4,.fr),(5,.fr),(8,.fr)] true (.seq (.fn 0 (.cons abb .nil))) Gh) (.seq (.seq (.fz 6) (.ret (.fn 0 (.cons (.var 6) .nil)))) .nil)))))
noncomputable abbrev lU (r:Rn):Tr:=.dl [.int r.p,.int r.q,.int r.c,.int r.z]
noncomputable abbrev qH (r:Rn):ah:=.list [.int r.p,.int r.q,.int r.c,.int r.z]
noncomputable abbrev qI (r:Rn):ah:=.tuple [.int (-(r.z:Int)),.int r.p,.int r.q,.int r.c]
noncomputable abbrev i9 (r:Rn):ah:=.tuple [.int r.p,.int r.q,.int r.c]
theorem Pl:∀R:List Rn,nZ (R.map lU)=some (R.map qH):=by
 intro R;induction R with
 |nil=>rfl
 |cons r R U=>
  show rO (lU r).data (nZ (R.map lU))=_
  refine ae (U ..) ?_;rfl
theorem abd (R:List Rn):Lay 2 (.list (R.map qH)):=.list λd hd=>by
 refine ar (bf.mp hd) λr U e=>?_;clear hd;subst e;exact lay_ints [r.p,r.q,r.c,r.z]
theorem abe (R:List Rn):ah.eqv (.list (R.map qH)) (.list [])=R.isEmpty:=by cases R <;> rfl
theorem abf (ns:List Int) (n:Nat) (h:∀x∈ns,x.natAbs<2 ^ n) (hl:ns.length*(n+2)<=2 ^ 20):ah.layable0 (.list (ns.map .int))=true:=by
 have V:=lay_ints ns;have w:∀ns:List Int,(∀x∈ns,x.natAbs<2 ^ n)->ah.weightAll (ns.map .int)<=ns.length*(n+2):=by
  intro ns;induction ns with
  |nil=>intro _;exact bA _
  |cons x ns W=>
   intro h;have U:=W λy hy=>h y (.tail _ hy);have hx:ah.weight (.int x)<=n+1:=by
    unfold ah.weight;split
    ·exact bA _
    ·rename_i e;have:x.natAbs≠0:=λq=>e (by simp;lia)
     have:=(Nat.log2_lt this).mpr (h x (.head _));exact (xy this)
   show ah.weight (.int x)+1+ah.weightAll (ns.map .int)<=(ns.length+1)*(n+2)
   refine ae (Nat.succ_mul ..) <| (bJ (.t (.l .c .d) (.l .b (.S .f))) (.a (.S .b) .c) (.a .d (.a .f (.n 2))) rfl U hx)
 unfold ah.layable0;exact kP.mpr ⟨kP.mpr ⟨V.1,decide_eq_true (aD V.2 (by decide))⟩,decide_eq_true (aD (w ns h) hl)⟩
theorem abg {ns:List Nat}(hn:n∈ns) (hl:ns.length<1000) (hb:∀x∈ns,x<1000) (h:k (ns.idxOf n)):yq (bG ns) (n:Int) k:=by
 have e:∀ns:List Nat,(ns.map λn:Nat=>(n:Int)).idxOf (n:Int)=ns.idxOf n:=by
  intro ns;induction ns with
  |nil=>rfl
  |cons x ns ih=>
   refine ae (iQ ..) (ae (aeS ..) (ae (aeS ..) (ae (ih ..) ?_)));by_cases c:x=n
   ·clear hn h ih;subst c;simp
   ·have:((x:Int) == (n:Int))=false:=by simp;exact (λV=>(Or.elim (kR c) (λU=>(Jc (aC V) U)) λU=>(Jc V U)))
    exact ae (this ..) (ae (show (x == n)=false from by simp;exact c) rfl)
 refine .mk (ns:=ns.map λn:Nat=>(n:Int)) (by refine ae (qZ ..) ?_;rfl) (abf _ 10 (λx hx=>?_) (by refine ae (aY ..) <| (dW (.c 12 (.k .b (.n 1000)) .z) (.r .b 12) (.n 1048576) rfl hl))) (bf.mpr (av n hn rfl)) (by refine ae (e ..) <| h)
 refine ar (bf.mp hx) λy hy W=>?_;clear hx;subst W;have fi:=hb y hy
 (clear hl;omega)
theorem Pm (e:o=some d) (h:k d):wD o k:=by subst e;exact h
theorem Pn {ds:List ah}(e:qa σ a=some (.fz ds)) (h:iG ds n λzz d=>k (aR d)):lz σ a (aR (.int n)) k:=by
 refine (?_:match qa σ a with | none=>False | some q=>_)
 refine ae (e ..) <| h
section
variable {fs:cX}{t0 t1 t2:Tr}{L tl:List Tr}{ds:List ah}
theorem Po:qa (t0::t1::t2::.ol (L++[.dl ds])::tl) (.bo 3 [L.length])=some (.fz ds):=by
 show ((L++[Tr.dl ds])[L.length]?).bind _=_
 rw [hH (aK _),xa];rfl
theorem Pp (hl:L.length<2 ^ 24) (hd:ds[j]? = some d) (U:j<2 ^ 24) (h:k [aR d]):den fs (.sub iw (.lit (.int (j:Nat)))) (t0::t1::t2::.ol (L++[.dl ds])::tl) k:=by
 refine ND hl ?_;show lz (t0::t1::t2::.ol (L++[.dl ds])::tl) (.bo 3 [L.length]) (aR (.int (j:Nat))) λe=>k [e]
 exact Pn Po (fC hd U h)
theorem abh (hl:L.length<2 ^ 24) (U:ds[1]? = some (.int a)) (V:ds[2]? = some (.int b)) (h:k [aR (.bool (decide (x=a+b)))]):den fs (.cmp .Eq (.var 5) (.bin .Add (.sub iw (.lit (.int (1)))) (.sub iw (.lit (.int (2)))))) (t0::t1::t2::.ol (L++[.dl ds])::t4::.dat (.int x)::tl) k:=by
 show den fs (.sub iw (.lit (.int (1:Nat)))) (t0::t1::t2::.ol (L++[.dl ds])::t4::.dat (.int x)::tl) (one λva=>den fs (.sub iw (.lit (.int (2:Nat)))) (t0::t1::t2::.ol (L++[.dl ds])::t4::.dat (.int x)::tl) (one λvb=>rT (t0::t1::t2::.ol (L++[.dl ds])::t4::.dat (.int x)::tl) .Add va vb λe=>rU (t0::t1::t2::.ol (L++[.dl ds])::t4::.dat (.int x)::tl) .Eq (aR (.int x)) e λc=>k [aR (.bool c)]))
 refine Pp hl U (by decide) ?_
 show den fs (.sub iw (.lit (.int (2:Nat)))) (t0::t1::t2::.ol (L++[.dl ds])::t4::.dat (.int x)::tl) (one λvb=>rT (t0::t1::t2::.ol (L++[.dl ds])::t4::.dat (.int x)::tl) .Add (aR (.int a)) vb λe=>rU (t0::t1::t2::.ol (L++[.dl ds])::t4::.dat (.int x)::tl) .Eq (aR (.int x)) e λc=>k [aR (.bool c)])
 refine Pp hl V (by decide) <| cq (NF _ _) ⟨rfl,rfl⟩ h
theorem Pq {K:KS}(hl:L.length<2 ^ 24) (hd:ds[j]? = some (.int x)) (V:j<2 ^ 24) (W:∀k:List Ev->Prop,k [aR (.int y)]->den fs e (t0::t1::t2::.ol (L++[.dl ds])::tl) k) (h:K .nx (t0::t1::t2::.ol (L++[.dl (ds.set j (.int (x+y)))])::tl)) :
  aJ fs (.kl iw (.lit (.int (j:Nat))) .Add e) (t0::t1::t2::.ol (L++[.dl ds])::tl) K:=by
 refine ND hl ?_;show lz (t0::t1::t2::.ol (L++[.dl ds])::tl) (.bo 3 [L.length]) (aR (.int (j:Nat))) λold=>bp old λx=>den fs e (t0::t1::t2::.ol (L++[.dl ds])::tl) (one λv=>bp v λy=>ik (t0::t1::t2::.ol (L++[.dl ds])::tl) 3 [L.length] (λt k=>km t (j:Nat) λj=>qj t j (.dat (.int (x+y))) k) λU=>K .nx U)
 refine Pn Po (fC hd V ?_);show den fs e (t0::t1::t2::.ol (L++[.dl ds])::tl) (one λv=>bp v λy=>ik (t0::t1::t2::.ol (L++[.dl ds])::tl) 3 [L.length] (λt k=>km t (j:Nat) λj=>qj t j (.dat (.int (x+y))) k) λU=>K .nx U)
 refine W _ ?_;have e1:eg (.ol (L++[.dl ds])) [L.length]=some (.dl ds):=by
  show (L++[Tr.dl ds])[L.length]? = _
  rw [hH (aK _),xa];rfl
 have e2:∀u:Tr,jL (.ol (L++[.dl ds])) [L.length] u=.ol (L++[u]):=λu=>by
  show Tr.ol ((L++[Tr.dl ds]).set L.length u)=_
  refine ae (List.set_append_right _ _ (aK _) ..) (ae (xa ..) ?_);rfl
 show wT (eg (.ol (L++[.dl ds])) [L.length]) λu=>km u (j:Nat) λj=>qj u j (.dat (.int (x+y))) λu'=>K .nx (t0::t1::t2::jL (.ol (L++[.dl ds])) [L.length] u'::tl)
 refine ae (e1 ..) ?_;have hn:=(dU.mp hd).1;refine km.mk (l:=ds.length) rfl (aL (ui) (I2 V) (xx hn)) ?_;show K .nx (t0::t1::t2::jL (.ol (L++[.dl ds])) [L.length] (.dl (ds.set (j:Int).toNat (.int (x+y))))::tl)
 refine ae (e2 ..) <| h
end
theorem abi {fs:cX}{t0 t1 t2:Tr}{L tl:List Tr}{p q:ah}{K:KS}(hl:L.length<2 ^ 24) (W:[p,q,ah.int x,.int y][2]? = some (.int x)) (h2:[p,q,ah.int x,.int y][3]? = some (.int y)) (V:∀{ds:List ah}(k:List Ev->Prop),k [aR (.int w)]->den fs m5 (t0::t1::t2::.ol (L++[.dl ds])::tl) k)
  (h:K .nx (t0::t1::t2::.ol (L++[.dl [p,q,.int (x+1),.int (y+w)]])::tl)) :
  aJ fs (.seq (.kl iw (.lit (.int (2))) .Add (.lit (.int (1)))) (.seq (.kl iw (.lit (.int (3))) .Add m5) .nil)) (t0::t1::t2::.ol (L++[.dl [p,q,.int x,.int y]])::tl) K:=by
 show aJ fs (.kl iw (.lit (.int (2:Nat))) .Add (.lit (.int (1)))) (t0::t1::t2::.ol (L++[.dl [p,q,.int x,.int y]])::tl) λf U=>match f with | .nx=>aJ fs (.seq (.kl iw (.lit (.int (3:Nat))) .Add m5) .nil) U K | f=>K f U
 refine Pq (j:=2) hl (x:=x) rfl (by decide) (y:=1) (λk h=>h) ?_
 show aJ fs (.kl iw (.lit (.int (3:Nat))) .Add m5) (t0::t1::t2::.ol (L++[.dl [p,q,.int (x+1),.int y]])::tl) λf U=>match f with | .nx=>K .nx U | f=>K f U
 exact Pq (j:=3) hl (x:=y) rfl (by decide) (y:=w) (λk h=>V k h) h
section
variable {fs:cX}{P:Nat->Pe}{A B:List Nat}{N p:Nat}{R:List Rn}{K:KS}{t1 t3 t5:Tr}{tl:List Tr}
noncomputable abbrev d5 (P:Nat->Pe) (N:Nat):List ah:=oT N λn=>.list (intD (P n).t)
theorem abj (U:p<A.length) (V:A.length<1000) (hn:dG A p<N) (W:N<1000) (hw:wl P A p<1000) (h:k [aR (.int (wl P A p:Nat))]):den fs m5 (.dat (.list (bG A))::t1::.dat (.list (d5 P N))::t3::.dat (.int (p:Nat))::tl) k:=by
 refine fC (x:=.int (dG A p)) (by rw [fQ,gJ U];rfl) (A7 U V) ?_
 refine fC (oU hn) (A7 hn W) <| ql (ns:=(P (dG A p)).t) (fb hw (by decide)) h
noncomputable abbrev rR (R:List Rn):Tr:=.ol (R.reverse.map lU)
theorem Ae (r:Rn) (R:List Rn):rR (r::R)=.ol (R.reverse.map lU++[lU r]):=by
 show Tr.ol ((r::R).reverse.map lU)=_
 refine ae (RB ..) (ae (bH ..) ?_);rfl
theorem abk (T:dP A B N) (W:p<A.length) (hA:A.length<1000) (hN:N<1000) (hw:wl P A p<1000) (hR:R.length<1000)
  (h:K .nx (.dat (.list (bG A))::.dat (.list (bG B))::.dat (.list (d5 P N))::rR (o6 (eV A B p) (wl P A p) p R)::.dat (.int (p:Nat))::.dat (.int (eV A B p:Nat))::tl)) :
  aJ fs Gg (.dat (.list (bG A))::.dat (.list (bG B))::.dat (.list (d5 P N))::rR R::.dat (.int (p:Nat))::t5::tl) K:=by
 have hm:dG A p∈A:=d6 (gJ W);have hn:=T.lt _ hm;refine fC (x:=.int (dG A p)) (by rw [fQ,gJ W];rfl) (A7 W hA) ?_
 refine abg (T.pm.mem_iff.mp hm) (by refine ae (T.ln ..) <| hA) (λx hx=>fb (T.lb x hx) hN) ?_
 have ev:∀{t1 t3:Tr}{tl:List Tr}(k:List Ev->Prop),k [aR (.int (wl P A p:Nat))]->den fs m5 (.dat (.list (bG A))::t1::.dat (.list (d5 P N))::t3::.dat (.int (p:Nat))::tl) k:=λk=>abj W hA hn hN hw;refine aw (aF rfl) ?_;have e1:(Tr.data (rR R))=some (.list (R.reverse.map qH)):=by
  show (nZ (R.reverse.map lU)).map ah.list=_
  refine ae (Pl ..) ?_;rfl
 show wD (Tr.data (rR R)) _
 refine Pm e1 <| cq (abe _) ⟨(abd _).shaped (by decide),rfl⟩ ?_
 have app:∀{R:List Rn},R.length<1000->K .nx (.dat (.list (bG A))::.dat (.list (bG B))::.dat (.list (d5 P N))::rR (⟨p,eV A B p,1,wl P A p⟩::R)::.dat (.int (p:Nat))::.dat (.int (eV A B p:Nat))::tl)->
   aJ fs (.app (.var 3) (.lst (.cons (.var 4) (.cons (.var 5) (.cons (.lit (.int (1))) (.cons m5 .nil)))))) (.dat (.list (bG A))::.dat (.list (bG B))::.dat (.list (d5 P N))::rR R::.dat (.int (p:Nat))::.dat (.int (eV A B p:Nat))::tl) λf U=>match f with | .nx=>K .nx U | f=>K f U:=by
  intro R hR h;refine fC (x:=.int (dG A p)) (by rw [fQ,gJ W];rfl) (A7 W hA) ?_
  refine fC (oU hn) (Jd hN hn) <| ql (ns:=(P (dG A p)).t) (fb hw (by decide)) <| aw (aF rfl) <| aw (by refine (?_:(R.reverse.map lU).length<_);refine ae (aY ..) (ae (rb ..) ?_);exact (Je hR)) ?_
  rw [Ae] at h;exact h
 clear e1;cases R with
 |nil=>exact app (R:=[]) (by decide) h
 |cons r R=>
  refine ae (Ae ..) <| bw.yes (by refine ae (List.isEmpty_eq_false_iff.mpr (by simp) ..) ?_;rfl) ?_
  have hl:(R.reverse.map lU).length<2 ^ 24:=by refine ae (aY ..) (ae (rb ..) ?_);simp at hR;exact (cF (.k (.S .b) (.n 1000)) .b (.n 16777216) rfl hR)
  have hd:∀(z:ah),[ah.int r.p,.int r.q,.int r.c,.int r.z].length=4:=λ_=>rfl;refine abh (a:=r.q) (b:=r.c) hl rfl rfl ?_;have e2:o6 (eV A B p) (wl P A p) p (r::R)=if eV A B p=r.q+r.c then ⟨r.p,r.q,r.c+1,r.z+wl P A p⟩::R else ⟨p,eV A B p,1,wl P A p⟩::r::R:=rfl;rw [e2] at h;refine bw.dec (λe=>?_) λe=>?_
  ·have e:((eV A B p:Nat):Int)=(r.q:Nat)+(r.c:Nat):=e;rw [if_pos (by exact (aN (bL (.Q .q (.a .t .x)) .b (.a .c .d) rfl e) (bL (.Q (.a .q .t) .x) (.a .b .c) .d rfl (aC e)))),Ae] at h
   exact abi (x:=r.c) (y:=r.z) (w:=(wl P A p:Nat)) (K:=λf U=>match f with | .nx=>aJ fs .nil U K | f=>K f U) hl rfl rfl (λk h=>ev k h) h
  ·have e:¬((eV A B p:Nat):Int)=(r.q:Nat)+(r.c:Nat):=e;rw [if_neg (by exact (λgD=>(Or.elim (HP e) (λV=>(xo (.t (.q (.a .b .c) .d) (.K .x (.a .q .t))) rfl (aC gD) V)) λV=>(xo (.t (.q .b (.a .c .d)) (.K (.a .t .x) .q)) rfl gD V))))] at h
   have:=app (R:=r::R) hR h;rw [Ae] at this;exact this
end
theorem Pr (n:Nat):dE 0 (n:Int)=bG (gO 0 n):=by
 unfold dE bG;refine ae (Bu ..) (ae (show ((n:Int)-0).toNat=n by exact (aN (cp (.Q .q (.s .t .z)) .b .c rfl (dh (Jf))) (cp (.Q (.s .q .z) .t) .b .c rfl (dh (Jf)).symm))) ?_)
 refine wQ λi _=>ae (pz ..) rfl
theorem Gi:∀p,(Pure.runs κ w p).length<=p:=by
 intro p;induction p with
 |zero=>exact aK _
 |succ p U=>
  show (o6 (κ p) (w p) p (Pure.runs κ w p)).length<=p+1
  generalize Pure.runs κ w p=R at U;cases R with
  |nil=>exact gY (bA _)
  |cons r R=>
   show (if κ p=r.q+r.c then _ else _:List Rn).length<=p+1
   split
   ·exact tF U
   ·exact gY U
section
variable {fs:cX}{P:Nat->Pe}{A B:List Nat}{N:Nat}{K:KS}{tl:List Tr}
theorem abl (T:dP A B N) (W:A.length<1000) (hN:N<1000) (hw:∀p,p<A.length->wl P A p<1000):∀(m p:Nat) {t4 t5:Tr},p+m=A.length->
  (∀t4 t5,K .nx (.dat (.list (bG A))::.dat (.list (bG B))::.dat (.list (d5 P N))::rR (fN P A B)::t4::t5::tl))->
  du (eI fs [(4,.fr)] false Gg) K (bG (gO p m)) (.dat (.list (bG A))::.dat (.list (bG B))::.dat (.list (d5 P N))::rR (Pure.runs (eV A B) (wl P A) p)::t4::t5::tl):=by
 intro m;induction m with
 |zero=>
  intro p t4 t5 V h;have e:p=A.length:=V;clear V;subst e;exact h t4 t5
 |succ m ih=>
  intro p t4 t5 V h;have U:p<A.length:=by exact (Jg V)
  refine NH <| abk T U W hN (hw p U) (dk (Gi p) (fb U W)) <| ih (p+1) (aN (Jh V) (Ji (aC V))) h
theorem abm:∀(R:List Rn) {k:List ah->Prop},k (R.map qI)->mj (λd k=>iH [(0,.fr),(1,.fr),(2,.fr),(3,.fr)] true d [.un,.un,.un,.un] λU=>den fs (.tup (.cons (.neg (.var 3)) (.cons (.var 0) (.cons (.var 1) (.cons (.var 2) .nil))))) U (one k)) (λd k=>one k [aR (.bool true)]) (R.map qH) k:=by
 intro R;induction R with
 |nil=>intro k h;exact h
 |cons r R V=>
  intro k h;exact aw (aF rfl) (V h)
theorem abn (r:Rn):∀(S:List Rn) {k:List ah->Prop},k ((S.map (Pure.ez r)).map .bool)->mj (λd k=>iH [(0,.fr),(1,.fr),(2,.fr)] true d [.un,.un,.un,.dat (.int (r.p:Nat)),.dat (.int (r.q:Nat))] λU=>den fs (.cmp .Eq (.cmp .Lt (.var 3) (.var 0)) (.cmp .Lt (.var 4) (.var 1))) U (one k)) (λd k=>one k [aR (.bool true)]) (S.map i9) k:=by
 intro S;induction S with
 |nil=>intro k h;exact h
 |cons s S V=>
  intro k h;have e:ah.eqv (.bool (decide ((r.p:Int)<(s.p:Nat)))) (.bool (decide ((r.q:Int)<(s.q:Nat))))=Pure.ez r s:=by
   unfold Pure.ez;refine ae (show decide ((r.p:Int)<(s.p:Nat))=decide (r.p<s.p) from by rw [decide_eq_decide];lia) (ae (show decide ((r.q:Int)<(s.q:Nat))=decide (r.q<s.q) from by rw [decide_eq_decide];lia) ?_)
   cases decide (r.p<s.p) <;> cases decide (r.q<s.q) <;> rfl
  refine cq e ⟨rfl,rfl⟩ <| V h
theorem abo {fs:cX}{B:SS}(h:aJ fs B ((((σ.set a (.dat V)).set b (.dat W)).set c (.dat d3)).set e (.dat d4)) (λf U=>match f with | .nx=>du (eI fs [(a,.fr),(b,.fr),(c,.fr),(e,.fr)] true B) k ds U | .cnt=>du (eI fs [(a,.fr),(b,.fr),(c,.fr),(e,.fr)] true B) k ds U | .brk=>k .nx U | .ret e=>k (.ret e) U)):du (eI fs [(a,.fr),(b,.fr),(c,.fr),(e,.fr)] true B) k (.tuple [V,W,d3,d4]::ds) σ:=h
noncomputable abbrev Gj:cX:=⟨[zY,Fi],[]⟩
theorem abp {K:KS}(U:S.length<=1000) (h:K .nx [t0,t1,t2,t3,.dat (.int (r.p:Nat)),.dat (.int (r.q:Nat)),.dl ((if S.all (Pure.ez r)=true then S++[r] else S).map i9),t7,.dat (.int (r.c:Nat))]) :
  aJ Gj Gh [t0,t1,t2,t3,.dat (.int (r.p:Nat)),.dat (.int (r.q:Nat)),.dl (S.map i9),t7,.dat (.int (r.c:Nat))] K:=by
 have hl:(S.map i9).length<=1000:=by refine ae (aY ..) <| U
 refine aw (aD hl (by decide)) <| abn r S <| eJ (S.map (Pure.ez r)) (aw rfl ?_)
 refine ae (List.all_map ..) <| bw.by (λe=>?_) λe=>?_
 ·have e:S.all (Pure.ez r)=true:=e;rw [if_pos e,bH] at h;refine aw (aF rfl) <| aw (dk hl (by decide)) <| h
 ·rw [if_neg (by refine ae (show S.all (Pure.ez r)=false from e) ?_;decide)] at h
  exact h
theorem abq {K:KS}:∀(T S:List Rn) {t4 t5 t7 t8:Tr},S.length+T.length<=1000->(∀t4 t5 t7 t8,K .nx [t0,t1,t2,t3,t4,t5,.dl ((mZ S T).map i9),t7,t8])->du (eI Gj [(7,.fr),(4,.fr),(5,.fr),(8,.fr)] true Gh) K (T.map qI) [t0,t1,t2,t3,t4,t5,.dl (S.map i9),t7,t8]:=by
 intro T;induction T with
 |nil=>intro S t4 t5 t7 t8 _ h;exact h _ _ _ _
 |cons r T U=>
  intro S t4 t5 t7 t8 hl h;refine abo <| abp (r:=r) (cp (.l (.a .b .c) (.n 1000)) .b (.n 1000) rfl hl) <| U _ ?_ h;split
  ·refine ae (aG ..) ?_;simp at hl ⊢;exact (cp (.l (.a .b (.S .c)) (.n 1000)) (.a (.S .b) .c) (.n 1000) rfl hl)
  ·simp at hl;exact (cp (.l (.a .b (.S .c)) (.n 1000)) (.a .b .c) (.n 1000) rfl hl)
end
theorem abr (ha:a.z<1000/\a.p<100) (hb:b.z<1000/\b.p<100) (h:iu a<iu b):vI (qI a) (qI b)=some true:=by
 unfold iu at h;show (if (-(a.z:Int)) = -(b.z:Int) then _ else some (decide ((-(a.z:Int)) < -(b.z:Int))))=some true
 by_cases e:a.z=b.z
 ·refine ae (if_pos (fP (Jj (aC e)) (Jj e)) ..) ?_;show (if (a.p:Int)=(b.p:Int) then _ else some (decide ((a.p:Int)<(b.p:Int))))=some true
  exact ae (if_neg (by exact (λW=>(IA (.c 1 (.k (.a (.r .b 100) .c) (.a (.r .d 100) .f)) (.c 100 (.q .h .i) (.c 100 (.q (.n 1000) (.a .b .h)) (.c 100 (.q (.a .d .i) (.n 1000)) (.c 1 (.Q .y .t) .z))))) rfl h e (aE (rF ha.1)).symm (aE (rF hb.1)) (aC W)))) ..) (ae (decide_eq_true (by exact (S5 (.c 1 (.k (.a (.r .d 100) .b) (.a (.r .f 100) .c)) (.c 100 (.q .h .i) (.c 100 (.q (.n 1000) (.a .d .h)) (.c 100 (.q (.a .f .i) (.n 1000)) .z)))) .q .t rfl h e (aE (rF ha.1)).symm (aE (rF hb.1)))) ..) rfl)
 ·exact ae (if_neg (by exact (λW=>(Or.elim (kR e) (λU=>(Jk W U)) λU=>(Jk (aC W) U)))) ..) (ae (decide_eq_true (by exact (Or.elim (kR e) (λV=>(Co (.c6 _ _ _ _ _ _) .z 0 (.c 1 (.k .d (.n 100)) (.c 1 (.k (.a (.r .f 100) .h) (.a (.r .i 100) .d)) (.c 100 (.q (.n 1000) (.a .f .b)) (.c 100 (.q (.a .i .c) (.n 1000)) (.c 100 (.k .b .c) .z))))) (.g .q) (.g .t) rfl hb.2 h (aE (rF ha.1)).symm (aE (rF hb.1)) V)) λV=>(ub (.k .c .b) (.g .q) (.g .t) rfl V))) ..) rfl)
theorem abt (h:a.p<b.p):vI (i9 a) (i9 b)=some true:=by
 show (if (a.p:Int)=(b.p:Int) then _ else some (decide ((a.p:Int)<(b.p:Int))))=some true
 exact ae (if_neg (by exact (λU=>(IS h (aC U)))) ..) (ae (decide_eq_true (by exact (xx h)) ..) rfl)
theorem abu (r:Rn):sJ (qI r):=.mk (by
 have i:∀n:Int,fw (.int n):=λn=>(Lay.int n).shaped (by decide)
 exact cz.mpr ⟨i _,cz.mpr ⟨i _,cz.mpr ⟨i _,cm.mpr (i _)⟩⟩⟩)
theorem abv (r:Rn):sJ (i9 r):=.mk (by
 have i:∀n:Int,fw (.int n):=λn=>(Lay.int n).shaped (by decide)
 exact cz.mpr ⟨i _,cz.mpr ⟨i _,cm.mpr (i _)⟩⟩)
theorem Pt:∀(T S:List Rn),(mZ S T).length<=S.length+T.length:=by
 intro T;induction T with
 |nil=>intro S;exact aK _
 |cons r T U=>
  intro S;have:=U (if S.all (Pure.ez r)=true then S++[r] else S);show (mZ (if S.all (Pure.ez r)=true then S++[r] else S) T).length<=S.length+(T.length+1)
  split at this
  ·rename_i e;refine ae (if_pos e ..) ?_;rw [aG] at this;simp at this;exact (bL (.l .b (.a (.S .c) .d)) .b (.a .c (.S .d)) rfl this)
  ·rename_i e;refine ae (if_neg e ..) <| (bL (.l .b (.a .c .d)) .b (.a .c (.S .d)) rfl this)
structure Pu (P:Nat->Pe) (A B:List Nat) (N:Nat) (cT S:List Rn):Prop where
 T:dP A B N
 Y:Ab P A B cT S
 a:A.length<60
 n:N<1000
 x:(bN P A).length<1000
noncomputable def Af:iE:=(false,λds k=>∃P A B N cT S,ds=[.list (bG A),.list (bG B),.list (d5 P N)]/\Pu P A B N cT S/\k (.list (S.map i9)))
theorem abw (h:Af.2 ds k):ds.length=3/\aJ Gj Pk (init ds 6) (ju k):=by
 refine Kh h ?_;clear h;intro P A B N cT S e H h;subst e;refine ⟨rfl,?_⟩;have hw:∀p,p<A.length->wl P A p<1000:=λp hp=>by
  have U:bq (wl P A) (p+1)<=bq (wl P A) A.length:=gI hp;rw [o7] at U;have h2:bq (wl P A) (p+1)=bq (wl P A) p+wl P A p:=rfl;have fi:=H.x;exact (Jl U (aC h2) fi)
 have bd:∀r∈cT,r.z<1000/\r.p<100:=λr V=>by
  have R:=H.T.rf (H.Y.pt.mem_iff.mpr V);have U:=gI (w:=wl P A) R.pl;rw [o7] at U;have fh:=R.x;have kL:=R.pl;have mY:=R.c;have mU:=H.x;have mV:=H.a;exact ⟨(Jl U fh mU),(dQ (.t (.l (.a .b .c) .d) (.k .d (.n 60))) .b (.n 100) rfl kL mV)⟩
 have lt:=H.Y.pt.length_eq;have W:(fN P A B).length<=A.length:=Gi _;have ls:=H.Y.qt.length_eq;have lg:=Pt cT [];have lA:=H.a;have hn:A.length<2000:=by exact (cF (.k .b (.n 60)) .b (.n 2000) rfl lA)
 refine aw (aF rfl) <| aw (by refine (?_:(bG A).length<=_);refine ae (aY ..) <| aD (cA hn) (by decide)) (.mk (aY ..) ?_)
 refine aw (cB (by decide) (by decide) (CD) (rt (.k .b (.n 60)) .q (.n 4611686018427387904) rfl lA)) <| ae (Pr ..) <| abl H.T (rC lA) H.n hw A.length 0 (jf _) λt4 t5=>?_
 show wD (Tr.data (rR (fN P A B))) _
 refine Pm (d:=.list ((fN P A B).reverse.map qH)) (by show (nZ _).map ah.list=_;refine ae (Pl ..) ?_;rfl) ?_
 refine aw (aF rfl) <| aw (by refine (?_:((fN P A B).reverse.map qH).length<=_);refine ae (aY ..) (ae (rb ..) ?_);exact aD W (aD (cA hn) (by decide))) ?_
 refine abm _ <| eJ _ (eJ (cT.map qI) (aw rfl (aw (cB (((aei _).trans H.Y.pt).map qI) ?_ ?_ ?_) ?_)))
 ·rw [rh];exact H.Y.ps.imp_of_mem λha hb h=>abr (bd _ ha) (bd _ hb) h
 ·refine ae (fE ..) (ae (aY ..) (ae (rb ..) ?_));exact (cM (.t (.l .b .c) (.k .c (.n 60))) .b (.n 64) rfl W lA)
 ·intro r V;refine ar (bf.mp V) λx hx e=>e▸abu x
 refine abq cT [] (by simp;exact (bL (.u (.q .b .c) (.l .c .d) (.k .d (.n 60))) .b (.n 1000) rfl (aC lt) W lA)) λt4 t5 t7 t8=>?_
 refine eJ _ (eJ (S.map i9) (aw rfl (aw (cB (H.Y.qt.map i9) ?_ ?_ ?_) h)))
 ·rw [rh];exact H.Y.qs.imp λh=>abt h
 ·refine ae (aY ..) ?_;simp at lg;exact (eN (.y (.q .c .d) (.l .d .f) (.k .f (.n 60)) (.l .b .c)) .b (.n 64) rfl (aC lt) W lA lg)
 ·intro r V;refine ar (bf.mp V) λx hx e=>e▸abv x
theorem Pw:mroOf (.type "map")=pure [.type "map",.type "object"]:=by refine ae (mroOf_type ..) ?_;kernel_rfl
theorem abx:jb (.type "map") "__new__"=pure (some (.builtin "map.__new__")):=by refine ae (lZ ..) (ae (l0 ..) ?_);kernel_rfl
theorem aby:Slot "map" "__init__" "object.__init__":=
 .of (owner:="object") (n:="__init__") (by refine ae (lZ ..) (ae (l0 ..) ?_);kernel_rfl) (by decide +kernel) (by decide +kernel) (by decide +kernel)
  (by first | exact .inl (by decide +kernel) | exact .inr (by decide +kernel)) (by refine ae (ni ..) ?_;kernel_rfl)
theorem abz:TypeCalled "map" "map.__new__" "object.__init__":=
 ⟨by decide +kernel,by decide +kernel,(Kb _ _ Pw),madeBy_type Pw abx (by decide +kernel),by decide +kernel,by refine ae (ni ..) ?_;kernel_rfl,aby⟩
theorem typeCall_map_2 (a b:af):checkTypeCall "map" ⟨[a,b],[]⟩=pure ():=by kernel_rfl
theorem newCall_map_2 (a b:af):HE "map.__new__" ⟨[.type "map",a,b],[]⟩=pure ():=by kernel_rfl
theorem abA:AJ table "map.__new__"=some bY.«map.__new__»:=Rl (by kernel_rfl)
theorem abB:jA (.type "map") (.type "map")=pure true:=by refine ae (ni ..) ?_;kernel_rfl
noncomputable abbrev gT (T:ak) (f:af):ay:={cls:=.type "map",data:=.fields #[.ref T,f]}
section
variable {prog:bM}{w:aW}{A:cD}{E:af->ai->Prop}{s:ai}
theorem abC (f:af) (l:ak) (items:Array af):MeetsIn prog w (bY.«map.__new__» ⟨[.type "map",f,.ref l],[]⟩) (λzz R s=>s.heap.IsList l items/\R (.ok (.ret (.ref (s.heap.objs.size+2))))
  {s with heap:=((s.heap.push {cls:=.type "list_iterator",data:=.fields #[.ref l,.int 0 0]}).push {cls:=.type "tuple",data:=.seq #[.ref s.heap.objs.size]}).push (gT (s.heap.objs.size+1) f)}):=
 .of_wp λA R s h=>by
  refine El.aa h ?_;clear h;intro hl h;have U:=abB;unfold bY.«map.__new__» bY.SmallTypes.newClass bY.SmallTypes.refuseKeywords;refine au (au (aZ ?_));simp only [aeT,kY,if_false];refine au (w3 U ?_);simp only [aeT,kY,if_false];refine aZ ?_;dsimp only;refine au (aZ ?_);refine ae (if_neg (by simp) ..) ?_
  unfold bY.SmallTypes.iterAll;refine (?_:aA _ _ (do
   let its <-(do
    let r <-forIn [af.ref l] (#[]:Array af) λx r=>do
     let y <-Hf r.toList (gX x)
     pure (AX (r.push y))
    pure r.toList)
   let t <-Ru its
   ret (<-bY.SmallTypes.newRecord (.type "map") [t,f])) _ _ _)
  refine au (au ?_);refine ae (tI ..) <| au (au (fo (wZ hl (aZ ?_))));dsimp only;refine ae (RL ..) <| aZ (aZ ?_);refine au (wpAny_newTuple ?_ (by simp [cc]))
  refine au ?_;unfold bY.SmallTypes.newRecord;refine Ba (aZ (av _ rfl ?_));refine ae (aq.size_push ..) (ae (aq.size_push ..) ?_);exact h
theorem abD (hl:s.heap.IsList l items)
  (h:Q (.ref (s.heap.objs.size+2)) {s with heap:=((s.heap.push {cls:=.type "list_iterator",data:=.fields #[.ref l,.int 0 0]}).push {cls:=.type "tuple",data:=.seq #[.ref s.heap.objs.size]}).push (gT (s.heap.objs.size+1) f)}) :
  aA (az prog w) A (call (.type "map") [f,.ref l]) Q E s:=
 callType_newIn abz (by decide) (typeCall_map_2 _ _) (newCall_map_2 _ _) (λU=>F.args_object_init_3 U _ _) abA (abC f l items)
  (aL hl (av _ (by heap_get) rfl) h)
theorem vS:Slot "map" "__next__" "map.__next__":=
 .of (owner:="map") (n:="__next__") (by refine ae (lZ ..) (ae (l0 ..) ?_);kernel_rfl) (by decide +kernel) (by decide +kernel) (by decide +kernel)
  (by first | exact .inl (by decide +kernel) | exact .inr (by decide +kernel)) (by refine ae (ni ..) ?_;kernel_rfl)
theorem Px:AJ table "map.__next__"=some bY.«map.__next__»:=Rl (by kernel_rfl)
theorem Py (a:af):qS "map.__next__" ⟨[a],[]⟩:=by unfold qS;kernel_rfl
theorem abE (W:s.heap.get? M=some (gT T f)) (hT:s.heap.get? T=some {cls:=.type "tuple",data:=.seq #[.ref I]}) (vT:M≠I)
  (hI:s.heap.IsListIter I l k) (hl:s.heap.IsList l items) (hx:items[k]? = some x)
  (h:∀h',h'.IsListIter I l (k+1)->aq.SameBut I s.heap h'->aA (az prog w) A.in1 (call f [x]) (λv s'=>Q (some v) s') (λzz zz=>False) {s with heap:=h'}):aA (az prog w) A (iU (.ref M)) Q E s:=by
 have U:s.TypeIs (.ref M) "map":=(av _ W rfl);unfold iU;refine au (HG (HH (name:=ag.ofString "__next__") U vS
  (tP vS U Px ?_ (Py _))))
 refine (?_:aA _ _ (tQ (.ref M) 0>>=_) _ _ s);refine au (tR W rfl (x:=.ref T) rfl ?_);refine au (Bq hT rfl ?_);dsimp only;refine au <| ae (aeU ..).symm <| ae (tI ..) <| au (au (fo (wpAny_nextOf_list_item hI hl hx λh' hI' V=>aZ ?_)));dsimp only;refine ae (RL ..) <| aZ ?_;refine (?_:aA _ _ (tQ (.ref M) 1>>=_) _ _ _);refine au (tR (s:={s with heap:=h'}) ((V.2 M vT).trans W) rfl (x:=f) rfl ?_)
 refine au (fo (cK (h h' hI' V) (λv s' hv=>?_) λzz zz e=>e.elim));exact au (wpAny_letGo (aZ (av v rfl (aZ hv))))
theorem abF (hh:A.handled=none) (V:s.heap.get? M=some (gT T f)) (W:s.heap.get? T=some {cls:=.type "tuple",data:=.seq #[.ref I]})
  (hI:s.heap.IsListIter I l k) (hl:s.heap.IsList l items) (hx:items[k]? = none) (h:∀h',aq.ExtBut I s.heap h'->Q none {s with heap:=h'}):aA (az prog w) A (iU (.ref M)) Q E s:=by
 have U:s.TypeIs (.ref M) "map":=(av _ V rfl);unfold iU;refine au (HG (HH (name:=ag.ofString "__next__") U vS
  (tP vS U Px ?_ (Py _))))
 refine (?_:aA _ _ (tQ (.ref M) 0>>=_) _ _ s);refine au (tR V rfl (x:=.ref T) rfl ?_);refine au (Bq W rfl ?_);dsimp only;refine au <| ae (aeU ..).symm <| ae (tI ..) <| au (au (fo (wpAny_nextOf_list_end hh hI hl hx λh' e he ⟨o,ho,hc⟩=>?_)));refine au (wpAny_isInstance (T:="StopIteration") (b:=true) (av o ho hc) isSubtype_stop ?_);exact aZ (h h' he)
end
theorem abG:wB "tuple.__len__"=some .slot:=by decide +kernel
theorem abH:HD "tuple.__len__"=some ("tuple","__len__"):=by decide +kernel
section
variable {prog:bM}{w:aW}{A:cD}{E:af->ai->Prop}{s:ai}{P:aV}
theorem abI (X:(K P).In h):bz (az prog w) h (jb (.ref 135) "__len__") (some (.builtin "tuple.__len__")):=HC X (by kernel_rfl!)
theorem abJ {its:Array af}(X:(K P).In s.heap) (W:s.heap.get? y=some (gF dy its)) (hz:its.size<2 ^ 24)
  (h:∀tk t,Q (.int its.size t) {s with toks:=tk}):aA (az prog w) A (call (.builtin "len") [.ref y]) Q E s:=by
 obtain ⟨hh,g,d,t,os⟩:=s;dsimp only at X W h;have t1:bz (az prog w) hh (j4 (.ref y)) (.ref 135):=(bz.ld W).andThen .now;have t2:bz (az prog w) hh (tO (.ref y) (.type "tuple")) true:=t1.andThen (sI X);have i1:=abI (prog:=prog) (w:=w) X;have b1:HF (.builtin "tuple.__len__") (.ref y)=pure (.builtin "tuple.__len__",[.ref y]):=slot_tuple_len.bind _;have U:HE "len" ⟨[.ref y],[]⟩=pure ():=by kernel_rfl
 have fin:∀(A':cD) (V:af->ai->Prop) (E':af->ai->Prop),V (.int its.size t) ⟨hh,g,d,t+1,os⟩->aA (az prog w) A' (call (.builtin "tuple.__len__") ([.ref y]++[])) V E' ⟨hh,g,d,t,os⟩:=by
  intro A' V E' hq;refine jB (pG slot_tuple_len.plain entry_tuple_len (Bn abG abH t2 (args_tuple_len _) ?_));unfold bY.«tuple.__len__»;repeat (first | exact hq | lk)
 refine jB (pG (by decide +kernel) entry_len (w3 U ?_))
 unfold bY.«len» callSpecial? rj;have n1:¬((its.size:Int)<0):=by omega
 have n2:¬((its.size:Int)≥2 ^ 63):=by omega
 repeat (first | exact h _ _ | (with_reducible refine fin _ _ _ ?_) | rw [b1] | rw [if_neg n1] | rw [if_neg n2] | lk)
end
noncomputable abbrev Pz:G0:=kW (fnName (mem 3 5)) "Match._make" (xb (mem 3 5)) (pR (mem 3 5)) (kZ (mem 3 5)) .none .none (fF (mem 3 5) 293) (.str "cpy313.difflib" 194) (some 92) (.ref 88) .none
theorem abK (P:aV):(K P).lookup 89=some ⟨.type "function",none,.func Pz,#[]⟩:=by kernel_rfl!
theorem abL (P:aV):tM (K P) (.ref 88) "Match._make"=true:=by kernel_rfl!
theorem abM (c v:af):w5 Pz ⟨[c,v],[]⟩=pure [(ag.ofString "cls",c),(ag.ofString "iterable",v)]:=by kernel_rfl!
theorem abN (c v:af):([(ag.ofString "cls",c),(ag.ofString "iterable",v)].all λx=>decide ((kZ (mem 3 5)).names.lookup x.1=some .local))=true:=by kernel_rfl!
theorem abO:j4 (.type "tuple")=pure (.type "type"):=by kernel_rfl
theorem abP {w:aW}{prog:bM}{A:cD}{E:af->ai->Prop}{s:ai}{its:Array af}{P:aV}(F:Fr h₀ L s.heap m) (N:aI h₀ L s.heap news) (X:(K P).In h₀)
  (ht:h₀.get? tp=some (⟨.type "tuple",none,.seq its 0,#[]⟩:ay)) (hz:its.size<=cc)
  (h:∀x dx h',Fr h₀ L h' m->aI h₀ L h' ((x,gF dx its)::news)->(∀p∈news,p.1<x)->Q (.ref x) {s with heap:=h'}) :
  aA (az prog w) A (call (.builtin "tuple.__new__") [.ref 135,.ref tp] []) Q E s:=by
 obtain ⟨hh,g,d,t,os⟩:=s;refine jB (NQ (X.keeps F.keep) (F.keep _ _ ht) hz λh' hk=>?_);dsimp only at F N hk;have V:Fr h₀ L h' m:=⟨F.ns.keeps hk,λb o e=>hk _ _ (F.keep b o e),F.above⟩;have W:aI h₀ L h' news:=λp U=>⟨hk _ _ (N p U).1,(N p U).2⟩;have N2:=(W.push V Bm).push (V.push _) (gF h'.objs.size its);rw [aq.size_push] at N2;exact h _ _ _ ((V.push _).push _) (λp U=>N2 p (by
  rcases aT.mp U with rfl | U
  ·exact .head _
  ·exact .tail _ (.tail _ U))) λp U=>pL (aq.lt_size (W p U).1)
theorem abQ {prog:bM}{w:aW}{A:cD}{E:af->ai->Prop}{s:ai}{its:Array af}{P:aV}(F:Fr h₀ L s.heap m) (N:aI h₀ L s.heap news) (X:(K P).In h₀) (U:(y,gF V its)∈news) (hz:its.size<=cc)
  (hs:its.size=3) (h:∀tk t,Q (.int 3 t) {s with toks:=tk}):aA (az prog w) A (call (.builtin "len") [.ref y]) Q E s:=
 abJ (X.keeps F.keep) (N _ U).1 (by omega) λtk t=>by refine ae (hs ..) <| h tk t
theorem abR {w:aW}{dp un:Nat}{s:ai}{base:aq}{R:eZ->ai->Prop}
  (T:Top q (gN q loose) means mg mb base) (kb:Kept base s.heap) (V:dp<w4) (htp:s.heap.get? tp=some (jU #[v1,v2,v3]))
  (hR:∀x dx h' tk,Kept s.heap h'->s.heap.get? x=none->h'.get? x=some (gF dx #[v1,v2,v3])->R (.ok (.ret (.ref x))) {s with heap:=h',toks:=tk}) :
  (K w.params).In base->PySem.Challenge.rw_dm0054_05.prog=pw->dc (az pw w) (cD.mk none dp fr gu un) (.call (.ref 89) ⟨[.ref 135,.ref tp],[]⟩) R s:=by
 have hz:(#[v1,v2,v3]:Array af).size<=cc:=by simp [cc]
 k_fill
 intro W _;refine enter [] W T kb (λzz h=>El.nm h) V (abK _) (abL _) (.of_eq (abM _ _)) (locs (abN _ _)) ?_ (by kernel_rfl!) (by kernel_rfl!) (by kernel_rfl!) (by decide +kernel)
 intro L dS X' T' F' k₁ hL;have N':aI (jF s.heap []) L dS []:=aI.nil;dsimp only [jF] at X' T' F' N'
 k_steps
 with_reducible refine' method_type ?k0 ?k1 abO ?k2 (NS _) ?k3 ?_
 case k0=>k_asm
 case k1=>k_asm
 case k2=>decide +kernel
 case k3=>k_handed
 k_steps
 with_reducible refine' abP ?k0 ?k1 ?k2 ?k3 ?k4 ?_
 case k0=>k_asm
 case k1=>k_asm
 case k2=>k_asm
 case k3=>assumption
 case k4=>assumption
 intro x' ZJ h' Mm D4 l1
 k_steps
 with_reducible refine' abQ ?k0 ?k1 ?k2 ?k3 ?k4 ?k5 ?_
 case k0=>k_asm
 case k1=>k_asm
 case k2=>k_asm
 case k3=>exact .head _
 case k4=>assumption
 case k5=>rfl
 intro vU t'
 k_steps
 rename Fr _ _ _ _=>Fp
 rename aI _ _ _ _=>U
 exact hR _ _ _ _ Fp.keep (U _ (.head _)).2.2 (U _ (.head _)).1
theorem PA:Slot "map" "__iter__" "map.__iter__":=
 .of (owner:="map") (n:="__iter__") (by refine ae (lZ ..) (ae (l0 ..) ?_);kernel_rfl) (by decide +kernel) (by decide +kernel) (by decide +kernel)
  (by first | exact .inl (by decide +kernel) | exact .inr (by decide +kernel)) (by refine ae (ni ..) ?_;kernel_rfl)
theorem abS:AJ table "map.__iter__"=some bY.«dict_keyiterator.__iter__»:=
 entryFor_alias (id':="dict_keyiterator.__iter__") (by kernel_rfl) rfl (by decide +kernel) (by kernel_rfl)
theorem abT (a:af):qS "map.__iter__" ⟨[a],[]⟩:=by unfold qS;kernel_rfl
theorem abU:jb (.type "map") "__len__"=pure none:=by refine ae (lZ ..) (ae (l0 ..) ?_);kernel_rfl
theorem abV:jb (.type "map") "__length_hint__"=pure none:=by refine ae (lZ ..) (ae (l0 ..) ?_);kernel_rfl
section
variable {prog:bM}{w:aW}{A:cD}{E:af->ai->Prop}{s:ai}
theorem abW (V:s.heap.get? M=some (gT T f)) (h:Q (.ref M) s):aA (az prog w) A (gX (.ref M)) Q E s:=by
 have U:s.TypeIs (.ref M) "map":=(av _ V rfl);refine wpAny_pyIter_slot U PA (tP PA U abS ?_ (abT _));refine (?_:aA _ _ (ret (.ref M)) _ _ s);exact aZ ⟨_,rfl,"map",_,U,vS.lookup,h⟩
noncomputable abbrev lst (acc:Array af) (c:Nat):ay:={cls:=.type "list",dict:=none,data:=.seq acc c,slots:=#[]}
theorem abX (hM:s.heap.get? M=some (gT T f))
  (h:∀h',aq.ExtBut s.heap.objs.size s.heap h'->(∃c,h'.get? s.heap.objs.size=some (lst #[] c))->
   dc (az prog w) A.in1 (.builtin "list.extend.loop" ⟨[.ref s.heap.objs.size,.ref M,.none],[]⟩) (wants (λr gz=>r=.none/\Q (.ref s.heap.objs.size) gz) E) {s with heap:=h'}) :
  aA (az prog w) A (call (.type "list") [.ref M]) Q E s:=by
 have gB:s.heap.objs.size≠M:=λe=>by
  rw [<-e,aq.get?_none_of_le (aK _)] at hM;cases hM
 refine callType_codes (Q₁:=λobj eH=>obj=.ref s.heap.objs.size/\eH={s with heap:=s.heap.push {cls:=.type "list",data:=.seq #[]}}) F.called_list (F.typeCall_list_1 _) F.entry_list_init
  (code_list_new _ ⟨rfl,rfl⟩) λobj eH dS=>?_
 refine El.aa dS λbx cu=>?_;clear dS;subst bx;subst cu;have hS:(s.heap.push {cls:=.type "list",data:=.seq #[]}).get? s.heap.objs.size=some {cls:=.type "list",data:=.seq #[]}:=aq.get?_push_size _ rfl;have o1:∀b o,s.heap.get? b=some o->(s.heap.push {cls:=.type "list",data:=.seq #[]}).get? b=some o:=λb o e=>aq.get?_push_of_some _ e;refine aL (av _ hS rfl) (F.args_list_init_2 _ _) ?_;generalize s.heap.objs.size=S at *;generalize s.heap.push {cls:=.type "list",data:=.seq #[]}=h1 at *;refine (?_:aA _ A.in1.in1 (do let old <-bY.List.listItems (.ref S);bY.List.listUpdate (.ref S) (λzz=>#[]);letGo old.toList.reverse;bY.List.listExtendWith (.ref S) (.ref M) .none) _ _ _)
 refine au ?_;unfold bY.List.listItems;refine au (Bq hS rfl (aZ ?_));refine (?_:aA _ A.in1.in1 (HT S (λzz=>#[])>>=λzz=>letGo (#[]:Array af).toList.reverse>>=λzz=>bY.List.listExtendWith (.ref S) (.ref M) .none) _ _ _);refine au (AR hS rfl ?_);have U:=aq.get?_update_self (ay.mapSeq (λzz=>(#[]:Array af))) hS rfl;have o2:∀b o,b≠S->s.heap.get? b=some o->(h1.update S (ay.mapSeq (λzz=>(#[]:Array af)))).get? b=some o:=
  λb o hb e=>(aq.get?_update_other _ _ (cR hb)).trans (o1 b o e)
 refine au (wpAny_letGo ?_);dsimp only;generalize h1.update S (ay.mapSeq (λzz=>(#[]:Array af)))=h2 at *;have W:h2.get? M=some (gT T f):=o2 M _ (cR gB) hM;unfold bY.List.listExtendWith;refine au (wpAny_typeOf (T:="map") (av _ W rfl) ?_);have g1:bY.List.listSameRef (.ref S) (.ref M)=false:=by simp [bY.List.listSameRef,gB]
 have g2:(af.type "map" == af.type "list")=false:=by decide
 have g3:(af.type "map" == af.type "tuple")=false:=by decide
 simp only [g1,g2,g3,R4,kY,if_false];refine au (abW (s:={s with heap:=h2}) W ?_)
 refine au (fo ?_);unfold bY.List.listLengthHint;refine au (wpAny_specialOf (T:="map") (av _ W rfl) abU ?_);refine (?_:aA _ A.in1.in1 (rj (af.ref M) (ag.ofString "__length_hint__")>>=_) _ _ _);refine au (wpAny_specialOf (T:="map") (av _ W rfl) abV ?_);refine aZ ?_;refine (?_:aA _ A.in1.in1 (rule "list.extend.makes-room">>=λzz=>bY.List.listTouch (.ref S)>>=λzz=>
  again (.builtin "list.extend.loop" ⟨[.ref S,.ref M,.none],[]⟩)) _ _ _)
 refine au (RX ?_);refine au ?_;refine (?_:aA _ A.in1.in1 (HT S (·.push .none)>>=λzz=>HT S (·.pop)) _ _ _);refine au (AR U rfl ?_);have V:=aq.get?_update_self (ay.mapSeq (·.push af.none)) U rfl;refine AR (hz:=by seq_fits) V rfl ?_
 have abY:=aq.get?_update_self (ay.mapSeq (·.pop)) V rfl;refine aZ ⟨Ro F.plain_extend_loop _,h _ (λb o hb e=>?_) ⟨_,abY⟩⟩;exact (aq.get?_update_other _ _ (cR hb)).trans ((aq.get?_update_other _ _ (cR hb)).trans (o2 b o hb e))
end
noncomputable abbrev lV (l:ak):ay:={cls:=.type "list_iterator",data:=.fields #[.ref l,.int 0 0]}
section
variable {prog:bM}{w:aW}{A:cD}{E:af->ai->Prop}{s:ai}
end
section
variable {P:Fz}{ws:List af}{bl:List bc}
theorem Dat.uD (h:Dat P v (eG b)):∃a U t1 t2 t3,v=.ref a/\P a (gF U #[.int (b.1:Nat) t1,.int (b.2.1:Nat) t2,.int (b.2.2:Nat) t3]):=by
 cases h with
 |mt h=>exact Tp _ _ _ _ _ rfl h
theorem Dat.tpI (h:Dat P v (p8 b)):∃a t1 t2 t3,v=.ref a/\P a (jU #[.int (b.1:Nat) t1,.int (b.2.1:Nat) t2,.int (b.2.2:Nat) t3]):=by
 refine aO h.tupI λa ws U p d=>?_;clear h;subst U;refine aO d.ig λx wr U d1 dr=>?_;clear d;subst U;refine aO dr.ig λy wr2 U d2 V=>?_;subst U;refine aO V.ig λz wr3 U d3 W=>?_;subst U;obtain rfl:=W.mf;refine El.ea d1.jJ λt1 U=>?_;subst U;refine El.ea d2.jJ λt2 U=>?_;subst U;refine El.ea d3.jJ λt3 U=>?_;subst U;exact To _ _ _ _ rfl p
end
theorem abZ {P:aV}(X:(K P).In C.h₀) (hu:C.A.units+1<qT):Ln C:=by
 intro P m lm nm ms rest bl total Q s F N W hP hm hp hs FG h;have hlen:ms.length=bl.length:=by exact ae (hm.len ..) (ae (aY ..) rfl)
 have rd:∀{h':aq},Fr C.h₀ C.L h' m->aI C.h₀ C.L h' rest->∀a o,P a o->h'.get? a=some o:=λF N a o q=>(hP a o q).elim (F.keep a o) λq=>(N _ q).1;by_cases V:2<=ms.length
 ·refine kas_lsort (T:=.ref 135) F N (UpdF.head W) rfl V (hlen▸hp.length_eq▸FG) (λe1 h' F' N' v hv=>?_) (by decide) λe1 h' F' N'=>?_
  ·obtain ⟨i,hi,rfl⟩:=aeA.mp (show v∈ms from hv);obtain ⟨d,hd⟩:∃d,(bl.map eG)[i]? = some d:=⟨_,eC (hm.len▸hi)⟩;refine ar (hm.get hd) λv e d=>?_;rw [eC hi] at e;refine ar (bf.mp (d6 hd)) λb zz U=>?_;clear hd;subst U;refine CL d.uD λa dy t1 t2 t3 U p=>?_;clear d;subst U;refine ae (dJ e ..) <| (bz.ld (rd F' (λq hq=>N' q (.tail _ hq)) _ _ p)).andThen .now
  ·have N1:aI C.h₀ C.L h' rest:=λq hq=>N' q (.tail _ hq);refine Oe (z:=Pure.z3) (D:=eG) (R:=λa b=>a.1<b.1) (Inv:=λs'=>∃tk,s'={s with heap:=h',toks:=tk}) (λh1 V=>HL h1 V) hm (aD (by decide) V) hp hs ?_ ⟨s.toks,rfl⟩ λp s' hI hd=>?_
   ·rintro i j b1 b2 c K s' hi hj ⟨tk,rfl⟩ h1 V hC
    refine ar (hm.get (i:=i) (by rw [fQ,hi];rfl)) λv1 f1 d1=>?_
    refine ar (hm.get (i:=j) (by rw [fQ,hj];rfl)) λv2 f2 d2=>?_
    refine CL d1.uD λa dy t1 t2 t3 U p1=>?_;clear d1;subst U;refine CL d2.uD λb dz u1 u2 u3 U p2=>?_;clear d2;subst U;refine (?_:aA _ _ (keyLt' oneType' (ms.getD i af.none) (ms.getD j af.none)) K _ _);rw [iW,iW,f1,f2];refine Z1 hu (X.keeps F'.keep) (rd F' N1 _ _ p1) (rd F' N1 _ _ p2) λvU=>?_;have:=hC {s with heap:=h',toks:=vU} ⟨vU,rfl⟩
    clear hC;cases c with
    |true=>refine ae (decide_eq_true (.inl (cV.mpr (h1 rfl))) ..) <| this
    |false=>
     rw [decide_eq_false]
     ·exact this
     ·clear f1 f2;rcases V rfl with rfl | V
      ·cases hi.symm.trans hj
       exact λg=>g.elim (Br _) λg=>g.2.elim (Br _) λg=>Br _ g.2
      ·exact λg=>g.elim (λg=>HL V (cV.mp g)) λg=>nF V (wA g.1)
   ·refine El.ea hI λtk U=>?_;clear hI;subst U;exact KasFin.intro F' N' (UpdF.head W) λsF c FI FJ=>h sF tk _ c FI FJ hd
 ·have h1:=w9 V;have nz:=N _ (.head _);refine tP slot_list_sort (av _ nz.1 rfl) entry_list_sort (Ob nz.1 h1 (av _ rfl ?_)) (args_list_sort _);obtain ⟨F2,e2,N2⟩:=Og F (λp hp=>N p (.tail _ hp)) nz.1 nz.2.1 nz.2.2 W;exact h _ s.toks ms e2 F2 N2 (Of hp (hlen▸h1)▸hm)
theorem ab0 {w:aW}{mg mb:ag->Option af}{means:ExcName->Option af}{dp un:Nat}{fr:Option (List da)}{gu:Option (List iz)}{s:ai}{base h0:aq}{R:eZ->ai->Prop}{M T I l S p:ak}{items:Array af}{bl:List (Nat×Nat×Nat)}{P:Fz}{oi:ay}
  (X:(K w.params).In base) (TT:Top q (gN q loose) means mg mb base) (kb:Keeps base h0) (bI:base.get? I=none) (bS:base.get? S=none) (Fj:dp<w4) (hz:items.size<2 ^ 24)
  (PB:h0.get? I=some oi) (Gk:I≠S) (vT:M≠I) (PC:M≠S) (PD:T≠I) (PE:T≠S) (PF:l≠I) (PG:l≠S) (PH:p≠I) (hpS:p≠S)
  (hM:h0.get? M=some (gT T (.ref p))) (hT:h0.get? T=some {cls:=.type "tuple",data:=.seq #[.ref I]}) (hp:h0.get? p=some sb) (hl:h0.IsList l items)
  (ht:aU P items.toList (bl.map p8)) (hN0:∀a o,P a o->h0.get? a=some o/\a≠I/\a≠S)
  (hR:∀h' tk acc c (N:Led),(∀b o,b≠I->b≠S->h0.get? b=some o->h'.get? b=some o)->h'.get? S=some (lst acc c)->aU (λa o=>(a,o)∈N) acc.toList (bl.map eG)->(∀x∈N,h'.get? x.1=some x.2/\h0.get? x.1=none/\x.1≠S)->(adr N).Nodup->R (.ok (.ret .none)) {s with heap:=h',toks:=tk}) :
  ∀n k h tk acc c (N:Led),items.size-k=n->k<=items.size->(∀b o,b≠I->b≠S->h0.get? b=some o->h.get? b=some o)->h.IsListIter I l k->h.get? S=some (lst acc c)->aU (λa o=>(a,o)∈N) acc.toList ((bl.take k).map eG)->acc.size=k->
   (∀x∈N,h.get? x.1=some x.2/\h0.get? x.1=none/\x.1≠S)->(adr N).Nodup->
   dc (az pw w) (cD.mk none dp fr gu un) (.builtin "list.extend.loop" ⟨[.ref S,.ref M,.none],[]⟩) R {s with heap:=h,toks:=tk}:=by
 have hlen:items.size=bl.length:=by
  have:=ht.len;rw [aY] at this;exact this
 intro n;induction n with
 |zero=>
  intro k h tk acc c N hn hk U hI hS sV hsz hN nd;have qr:k=items.size:=by exact (aN (Lin.A0 hk) (bL (.t (.q .d .z) (.q .b (.a .d .c))) .b .c rfl hn (aE (Lin.A0 hk)).symm))
  clear hn hk hsz;subst qr;refine ar hl λol Gl rl=>?_;clear hl;refine G7 F.entry_extend_loop ?_;refine ae (cD.under_plainId F.plain_extend_loop _ ..) ?_;refine (?_:aA _ _ (iU (.ref M)>>=_) _ _ _);refine au (abF (s:={s with heap:=h,toks:=tk}) rfl (U _ _ vT PC hM) (U _ _ PD PE hT) hI (av ol (U _ _ PF PG Gl) rl) (Array.getElem?_eq_none (aK _)) λh' he=>?_)
  refine aZ (hR h' _ acc c N (λb o b1 b2 e=>he _ _ b1 (U b o b1 b2 e)) (he _ _ (cR Gk) hS) ?_ (λx hx=>⟨he _ _ (λe=>?_) (hN x hx).1,(hN x hx).2⟩) nd)
  ·rw [hlen,HS] at sV;exact sV
  ·have h1:=(hN x hx).2.1;rw [e,PB] at h1;cases h1
 |succ n ih=>
  intro k h tk acc c N hn hk U hI hS sV hsz hN nd;have V:k<items.size:=by exact (eN (.t (.q (.S .d) .f) (.q (.a .f .b) .c)) .b .c rfl (aC hn) (aE (Lin.A0 hk)))
  have PI:bl[k]? = some (bl[k]'(hlen▸V)):=eC _;refine ar (ht.get (i:=k) (by rw [fQ,PI];rfl)) λv e1 dv=>?_
  obtain ⟨a,t1,t2,t3,bx,pa⟩:=dv.tpI;clear dv;subst bx;rw [aes] at e1;refine ar hl λol Gl rl=>?_;clear hl;refine cg (hN0 _ _ pa) λha PJ haS=>?_;refine G7 F.entry_extend_loop ?_;refine ae (cD.under_plainId F.plain_extend_loop _ ..) ?_;refine (?_:aA _ _ (iU (.ref M)>>=_) _ _ _);refine au (abE (s:={s with heap:=h,toks:=tk}) (U _ _ vT PC hM) (U _ _ PD PE hT) vT hI (av ol (U _ _ PF PG Gl) rl) e1 λh1 PK hs1=>?_)
  have k1:∀b o,b≠I->h.get? b=some o->h1.get? b=some o:=λb o hb e=>(hs1.2 b hb).trans e;have kb1:Kept base h1:=λb o e=>by
   have n1:b≠I:=λe'=>by rw [e',bI] at e;cases e
   have n2:b≠S:=λe'=>by rw [e',bS] at e;cases e
   exact k1 _ _ n1 (U _ _ n1 n2 (kb _ _ e))
  have nI:∀x∈N,x.1≠I:=λx hx e=>by
   have g2:=(hN x hx).2.1;rw [e,PB] at g2;cases g2
  refine jB (method_call (s:={s with heap:=h1,toks:=tk}) (k1 _ _ PH (U _ _ PH hpS hp)) ?_)
  refine abR (s:={s with heap:=h1,toks:=tk}) (base:=base) TT kb1 Fj (k1 _ _ PJ (U _ _ PJ haS ha)) (λy dy h2 se k2 W hy2=>?_) X rfl
  have PL:h1.get? S=some (lst acc c):=k1 _ _ (cR Gk) hS;have PM:h2.get? S=some (lst acc c):=k2 _ _ PL;have Gm:y≠S:=λe=>by rw [e,PL] at W;cases W
  refine (?_:aA _ _ (HT S (·.push (.ref y))>>=_) _ _ _);refine au ?_;refine ar PK λoi1 PN ri1=>?_;clear PK;have PO:y≠I:=λe=>by rw [e,PN] at W;cases W
  have hyN:y∉adr N:=λhm=>by
   refine ar (bf.mp hm) λx hx e=>?_;have:=k1 _ _ (nI x hx) (hN x hx).1;rw [show x.1=y from e,W] at this;clear hx e;cases this
  refine AR PM rfl (aZ ⟨Ro F.plain_extend_loop _,ih (k+1) _ _ (acc.push (.ref y)) _ ((y,gF dy #[.int ((bl[k]'(hlen▸V)).1:Nat) t1,.int ((bl[k]'(hlen▸V)).2.1:Nat) t2,.int ((bl[k]'(hlen▸V)).2.2:Nat) t3])::N) (by exact (aN (dD (.u (.q .d (.S .c)) (.q .f (.a .d .h)) (.q (.a .b (.S .h)) .f)) .b .c rfl hn (aE (A1 V)).symm (aE (A4 V))) (dD (.u (.q (.S .b) .d) (.q (.a .d .f) .h) (.q .h (.a .c (.S .f)))) .b .c rfl (aC hn) (aE (A1 V)) (aE (A4 V)).symm))) V (λb o b1 b2 e=>?_) (av oi1 ?_ ri1) (aq.get?_update_self _ PM rfl) ?_ (by exact ae (aeV ..) (ae (hsz ..) rfl)) (λx hx=>?_) (bR.mpr ⟨hyN,nd⟩)⟩)
   (by refine (?_:acc.size<=cc);simp only [cc];omega) (by refine (?_:(acc.push (.ref y)).size<=cc+1);refine ae (aeV ..) ?_;simp only [cc];omega)
  ·exact (aq.get?_update_other _ _ (cR b2)).trans (k2 _ _ (k1 _ _ b1 (U b o b1 b2 e)))
  ·exact (aq.get?_update_other _ _ (cR Gk)).trans (k2 _ _ PN)
  ·refine ae (Array.toList_push ..) (ae (Ht ..) (ae (PI ..) (ae (bH ..) ?_)));exact (sV.mono λa o q=>wU _ q).append (.one (.mt (.head _)))
  ·rcases aT.mp hx with rfl | hx
   ·refine aL ((aq.get?_update_other _ _ (cR Gm)).trans hy2) ?_ Gm;cases e:h0.get? y with
    |none=>rfl
    |some o=>
     dsimp only at W;rw [k1 _ _ PO (U _ _ PO Gm e)] at W;cases W
   ·refine cg (hN x hx) λg1 g2 g3=>?_;exact aL ((aq.get?_update_other _ _ (cR g3)).trans (k2 _ _ (k1 _ _ (nI x hx) g1))) g2 g3
theorem PQ (e1:U=pg) (e2:V=w) (hh:A.handled=none) {R:eZ->ai->Prop}(h:dc (az pg w) (cD.mk none A.depth A.frames A.guards A.units) c R s):dc (az U V) A c R s:=by
 subst e1 e2;cases A
 cases hh
 exact h
theorem ab1 {w:aW}{C:Cx}{D:Nat}(e1:C.pg=pw) (e2:C.w=w) (W:Wo (K w.params) q (gN q loose) C D):Lo C:=by
 obtain ⟨X,T,hh,hd,hu⟩:=W;refine ⟨λ{m N Q s} F N1 h=>cls_cm (mc:=.type "type") (p:=91) (f:=.ref 89) (rest:=[.bool false]) F X N1 (by kernel_rfl!) (by kernel_rfl!) (by kernel_rfl!) (by kernel_rfl!) λq h' F' N' lt=>h q h' _ F' N' lt,λ{P m N q l n ws bl Q s} F N1 hq hP hl ht hz h=>?_⟩
 refine pV T ?_;clear T;intro means mg mb T;refine abD (items:=ws.toArray) (md _ hl rfl _ rfl) ?_;have lt:∀{b:ak}{o:ay},s.heap.get? b=some o->b<s.heap.objs.size:=aq.lt_size;have k1:Keeps s.heap (((s.heap.push (lV l)).push (jU #[.ref s.heap.objs.size])).push (gT (s.heap.objs.size+1) (.ref q))):=λb o e=>aq.get?_push_of_some _ (aq.get?_push_of_some _ (aq.get?_push_of_some _ e));have hI:(((s.heap.push (lV l)).push (jU #[.ref s.heap.objs.size])).push (gT (s.heap.objs.size+1) (.ref q))).get? s.heap.objs.size=some (lV l):=aq.get?_push_of_some _ (aq.get?_push_of_some _ (aq.get?_push_size _ rfl));have hT:(((s.heap.push (lV l)).push (jU #[.ref s.heap.objs.size])).push (gT (s.heap.objs.size+1) (.ref q))).get? (s.heap.objs.size+1)=some (jU #[.ref s.heap.objs.size]):=aq.get?_push_of_some _ (by have:=aq.get?_push_size (s.heap.push (lV l)) (o:=jU #[.ref s.heap.objs.size]) rfl;rw [aq.size_push] at this;exact this)
 have hM:(((s.heap.push (lV l)).push (jU #[.ref s.heap.objs.size])).push (gT (s.heap.objs.size+1) (.ref q))).get? (s.heap.objs.size+2)=some (gT (s.heap.objs.size+1) (.ref q)):=by
  have:=aq.get?_push_size ((s.heap.push (lV l)).push (jU #[.ref s.heap.objs.size])) (o:=gT (s.heap.objs.size+1) (.ref q)) rfl;rw [aq.size_push,aq.size_push] at this;exact this
 have hsz:(((s.heap.push (lV l)).push (jU #[.ref s.heap.objs.size])).push (gT (s.heap.objs.size+1) (.ref q))).objs.size=s.heap.objs.size+3:=by exact ae (aq.size_push ..) (ae (aq.size_push ..) (ae (aq.size_push ..) rfl))
 refine (?_:Keeps C.h₀ (((s.heap.push (lV l)).push (jU #[.ref s.heap.objs.size])).push (gT (s.heap.objs.size+1) (.ref q)))/\_);generalize ((s.heap.push (lV l)).push (jU #[.ref s.heap.objs.size])).push (gT (s.heap.objs.size+1) (.ref q))=h1 at *;refine ⟨λb o e=>k1 b o (F.keep b o e),?_⟩;have no:∀{b:ak}{o:ay}(j:Nat),s.heap.get? b=some o->b≠s.heap.objs.size+j:=λj e=>cy (fR (lt e) (ba _ _));have V:=(N1 _ hq).1;have bn:∀j,C.h₀.get? (s.heap.objs.size+j)=none:=λj=>F.noneBack (aq.get?_none_of_le (ba _ _));have sn:∀{h':aq},(∀b o,b≠s.heap.objs.size+3->h1.get? b=some o->h'.get? b=some o)->∀{b:ak},h'.get? b=none->s.heap.get? b=none:=λ{h'} k b e=>by
  cases g:s.heap.get? b with
  |none=>rfl
  |some o=>rw [k b o (no 3 g) (k1 b o g)] at e;exact El.sn e
 refine abX (s:={s with heap:=h1}) hM λh2 U hS=>?_
 dsimp only at U hS ⊢;rw [hsz] at U hS ⊢;refine El.ea hS ?_;clear hS;intro c hS;have ne:∀{i j:Nat},i<j->s.heap.objs.size+i≠s.heap.objs.size+j:=λg=>cy (Sl g _);refine PQ (A:=C.A.in1) e1 e2 hh (ab0 (s:=s) (base:=C.h₀) (h0:=h2) (M:=s.heap.objs.size+2) (T:=s.heap.objs.size+1) (I:=s.heap.objs.size) (l:=l) (S:=s.heap.objs.size+3) (p:=q) (items:=ws.toArray) (bl:=bl) (P:=P) X T (λb o e=>U _ _ (no 3 (F.keep b o e)) (k1 b o (F.keep b o e))) (bn 0) (bn 3) (dk (ba _ _) hd) ?_
  (U _ _ (ne (i:=0) (by decide)) hI) (ne (i:=0) (by decide)) (ne (i:=0) (j:=2) (by decide)).symm (ne (by decide)) (ne (i:=0) (j:=1) (by decide)).symm (ne (by decide)) (no 0 hl) (no 3 hl) (no 0 V) (no 3 V)
  (U _ _ (ne (by decide)) hM) (U _ _ (ne (by decide)) hT) (U _ _ (no 3 V) (k1 _ _ V)) (md _ (U _ _ (no 3 hl) (k1 _ _ hl)) rfl _ rfl)
  ht (λa o e=>(aL (U _ _ (no 3 (hP a o e)) (k1 _ _ (hP a o e))) (no 0 (hP a o e)) (no 3 (hP a o e)))) (λh' tk acc c' Nn hk hS' sV hN nd=>?_) ws.toArray.size 0 h2 s.toks #[] c [] rfl (bA _) (λb o zz zz e=>e) (dq _ (U _ _ (ne (i:=0) (by decide)) hI) rfl rfl) hS rfl rfl (λx hx=>El.nm hx) gW)
 ·refine (?_:ws.length<_);refine ae (ht.len ..) (ae (aY ..) ?_);exact hz
 ·have k':∀b o,s.heap.get? b=some o->h'.get? b=some o:=λb o e=>hk _ _ (no 0 e) (no 3 e) (U _ _ (no 3 e) (k1 _ _ e));exact ⟨rfl,h _ h' tk acc.toList c' Nn (F.keeps k') k' hS' (aq.get?_none_of_le (ba _ _)) (λx hx=>(aL (hN x hx).1 (sn U (hN x hx).2.1) (hN x hx).2.2)) nd sV⟩
theorem ab2 (e1:C.pg=pw) (e2:C.w=w) (W:Wo (K w.params) q (gN q loose) C D):yN C:=
 ⟨by refine pV W.T λzz zz zz T=>T.nolimit,λenv U k pos y dx ws m N Q s F V hy hn hs h=>ZX F V W.X W.hh hy (by exact ae (hn ..) (ae (ee ..) rfl)) hs λh' F' N' zz=>h h' F' N',abZ W.X (dk (HU (ba _ _) (by decide)) W.hu),ab1 e1 e2 W,EU W (by kernel_rfl!)⟩
noncomputable abbrev Gn (j:Nat) (qual:ag) (ew:af):G0:=kW (fnName (top j)) qual (xb (top j)) (pR (top j)) (kZ (top j)) .none .none .none (.str "law_dm0054_05" 583) none ew .none
section
variable {w:aW}{D:Nat}
abbrev qJ (w:aW) (D:Nat) (a:Nat) (f:iE):Prop:=mT (K w.params) q (gN q loose) pw w D (λvs=>call (.ref a) vs) f
theorem vV (P:aV):uF.all (λx=>decide (rg (K P) iA x=some none))=true:=by kernel_rfl!
theorem vW (w:aW) {D:Nat}:ER (K w.params)=true/\∀C:Cx,C.pg=pw->C.w=w->Wo (K w.params) q (gN q loose) C D->yN C:=⟨by kernel_rfl!,λC e1 e2 W=>ab2 e1 e2 W⟩
noncomputable abbrev H0:Hn:=⟨λzz=>.fr,[]⟩
abbrev Gp (w:aW) (D:Nat) (f:Fn):Prop:=zL (K w.params) f/\mT (K w.params) q (gN q loose) pw w D (λvs=>call f.val vs) f.spec
abbrev Gq (w:aW) (D:Nat) (g:Mn):Prop:=Nd (K w.params) g/\qA (K w.params) q (gN q loose) pw w D g.val g.spec/\zK (K w.params) q (gN q loose) pw w D g
theorem fk (h:mT (K w.params) q (gN q loose) pw w D (λvs=>call f.val vs) f.spec) (a:rg (K w.params) iA f.nm=some (some f.val):=by kernel_rfl!) (b:Bf (K w.params) f.val=true:=by kernel_rfl!):Gp w D f:=⟨.inl ⟨a,b⟩,h⟩
theorem gb {α:Type}{P:α->Prop}:∀x∈([]:List α),P x:=λzz h=>El.nm h
theorem sW (j:Nat) (nm:ag) (a:Nat) (fs:bX) (H:Hn) (ps ls':List ag) (W:∀f∈fs.f,Gp w D f) (hm:∀g∈fs.m,Gq w D g) (U:∀ds k,sp ds k->ds.length=ps.length/\aJ (specs fs) ir (init ds ls'.length) (ju k))
  (hb:zN ps.length λvs=>w5 (Gn j nm (.ref a)) ⟨vs,[]⟩=pure (ps.zip vs)) (h1:(K w.params).lookup (a+1)=some ⟨.type "function",none,.func (Gn j nm (.ref a)),#[]⟩:=by kernel_rfl!) (h2:tM (K w.params) (.ref a) nm=true:=by kernel_rfl!) (ht:EV (kZ (top j)) ps ls':=by decide +kernel)
  (V:(qz 14 14 ⟨fs,kZ (top j),ps++ls'⟩ H (pR (top j))).ir=ir:=by kernel_rfl!):qJ w (D+1) (a+1) (false,sp):=YT ⟨h1,h2,ht⟩ (sH _ hb) ⟨vV _,vW w,W,hm⟩ V U
noncomputable abbrev Hcg:Hn:=⟨λi=>if i=4 then .own else .fr,[]⟩
theorem ab3:qJ w (D+1) 273 vw:=sW (ir:=NB) 11 "_law_changes" 272 ⟨[],[]⟩ Hcg ["codes","base","text","side"] ["rows","i","j","last","tag","i1","i2","j1","j2","same"] gb gb (λds k h=>Y4 h) λx y z u=>aC (by kernel_rfl!)
end
section
variable {w:aW}{D:Nat}
theorem PR:qJ w (D+1) 256 qF:=sW (ir:=NJ) 8 "_law_flat" 255 ⟨[],[]⟩ H0 ["texts","order"] [] gb gb (λds k h=>Y9 h) λx y=>aC (by kernel_rfl!)
noncomputable abbrev Hsy:Hn:=⟨λi=>if i=3 then .deep else if i=6 then .own else .fr,[(487,3),(491,6)]⟩
noncomputable abbrev vX:Fn:=⟨ag.ofString "sorted",.builtin "sorted",zY⟩
noncomputable abbrev Ag:Fn:=⟨ag.ofString "all",.builtin "all",Fi⟩
theorem PS {D:Nat}:zL (K w.params) vX/\mT (K w.params) q (gN q loose) pw w (D+1) (λvs=>call vX.val vs) vX.spec:=⟨.inr (Ki (by kernel_rfl!) rfl (by decide +kernel) _ rfl),λC e1 e2 W=>aam (by have U:=W.hu;exact (dQ (.k (.a (.a .b (.m 3 (.S .d))) (.n 64)) .c) (.a (.S (.S .b)) (.n 64)) .c rfl U))⟩
theorem ab4 {D:Nat}:zL (K w.params) Ag/\mT (K w.params) q (gN q loose) pw w D (λvs=>call Ag.val vs) Ag.spec:=⟨.inr (Ki (by kernel_rfl!) rfl (by decide +kernel) _ rfl),λC e1 e2 W=>Za W.hh⟩
theorem ab5:qJ w (D+2) 261 Af:=sW (ir:=Pk) 9 "_law_stay" 260 ⟨[vX,Ag],[]⟩ Hsy ["first","second","texts"] ["runs","p","q","stay","less","count"] (cz.mpr ⟨PS,cm.mpr ab4⟩) gb (λds k h=>abw h) λx y z=>aC (by kernel_rfl!)
end
noncomputable abbrev gK (t:gH):ah:=.tuple [.list (intD t.1),.list (d8 t.2.1),.list (d8 t.2.2)]
noncomputable def d9:Ent->ah:=@λA=>match A with
 |.it n=>.int n
 |.cf o l r=>.list [.list (intD o),.list (intD l),.list (intD r)]
theorem qK (l:List Int):(Pure.its l).map d9=intD l:=by unfold intD;refine ae (qZ ..) ?_;rfl
noncomputable def vY (T:List gH) (M:List Ent):ah:=.tuple [.list (T.map gK),.list (M.map d9)]
noncomputable abbrev eW (P:Nat->Pe) (N:Nat):List ah:=oT N λn=>.list (intD (P n).d)
noncomputable abbrev fj (P:Nat->Pe) (N:Nat):List ah:=oT N λn=>.tuple [.list (intD (P n).x),.list (d8 (P n).m)]
noncomputable abbrev Ah:SS:=(.seq (.cS (.cmp .NotEq (.sub (.sub (.var 4) (.var 16)) (.lit (.int (1)))) (.lst .nil)) (.seq (.app (.var 5) (.tup (.cons (.sub (.sub (.var 4) (.var 16)) (.lit (.int (0)))) (.cons (.lst .nil) (.cons (.sub (.sub (.var 4) (.var 16)) (.lit (.int (1)))) .nil))))) .nil) .nil) (.seq (.ext (.var 6) (.sub (.var 3) (.var 16))) .nil))
theorem ab6 (a b:Nat):zV (de a b):=by
 unfold de;split
 ·exact .inl rfl
 ·split
  ·exact .inr (.inl rfl)
  ·exact .inr (.inr rfl)
theorem ab7 (p:Pe):∀g∈p.m,zV g:=by
 intro g hg;unfold Pe.m at hg;split at hg
 ·exact El.nm hg
 ·refine ae (cQ.mp hg ..) <| ab6 _ _
theorem ab8 (l:List String):ah.eqv (.list (d8 l)) (.list [])=l.isEmpty:=by cases l <;> rfl
section
variable {fs:cX}{P:Nat->Pe}{A B:List Nat}{N:Nat}{K:KS}{t0 t1 t2 t7 t8 t9 bC bW aM bP bK t15:Tr}
theorem ab9 (hn:n<N) (V:N<1000) (hx:(P n).m≠[]->(P n).x=(P n).o) (W:T.length<10000) (lM:M.length+(P n).d.length<100000)
  (h:K .nx [t0,t1,t2,.dat (.list (eW P N)),.dat (.list (fj P N)),.dl ((T++kt [P n]).map gK),.dl ((M++Pure.its (P n).d).map d9),t7,t8,t9,bC,bW,aM,bP,bK,t15,.dat (.int (n:Nat))]) :
  aJ fs Ah [t0,t1,t2,.dat (.list (eW P N)),.dat (.list (fj P N)),.dl (T.map gK),.dl (M.map d9),t7,t8,t9,bC,bW,aM,bP,bK,t15,.dat (.int (n:Nat))] K:=by
 refine fC (oU hn) (A7 hn V) <| lQ <| aw (aF rfl) <| cq (ab8 _) ⟨(Fh (ab7 _)).shaped (by decide),rfl⟩ ?_
 have U:kt [P n]=if (P n).o=[]/\(P n).n=[] then [] else [((P n).o,[],(P n).m)]:=cL _;have ext:∀{T:List gH},K .nx [t0,t1,t2,.dat (.list (eW P N)),.dat (.list (fj P N)),.dl (T.map gK),.dl ((M++Pure.its (P n).d).map d9),t7,t8,t9,bC,bW,aM,bP,bK,t15,.dat (.int (n:Nat))]->aJ fs (.seq (.ext (.var 6) (.sub (.var 3) (.var 16))) .nil) [t0,t1,t2,.dat (.list (eW P N)),.dat (.list (fj P N)),.dl (T.map gK),.dl (M.map d9),t7,t8,t9,bC,bW,aM,bP,bK,t15,.dat (.int (n:Nat))] K:=by
  intro T h;refine fC (oU hn) (A7 hn V) <| aw (by refine (?_:(M.map d9).length+(intD _).length<_);refine ae (aY ..) (ae (iq ..) ?_);exact (cM (.k (.a .b .c) (.n 100000)) (.a .b .c) (.n 16777216) rfl lM)) ?_
  rw [bH,qK] at h;exact h
 cases e:(P n).m with
 |nil=>
  have e2:(P n).o=[]/\(P n).n=[]:=HA λq=>by
   unfold Pe.m at e;rw [if_neg q] at e;cases e
  rw [U,if_pos e2,cL] at h;exact ext h
 |cons g r=>
  have e2:¬((P n).o=[]/\(P n).n=[]):=λq=>by
   unfold Pe.m at e;rw [if_pos q] at e;cases e
  rw [U,if_neg e2,bH,<-hx (by refine ae (e ..) <| aeP _ _)] at h
  refine fC (oU hn) (A7 hn V) <| jv <| aw (aF rfl) <| fC (oU hn) (A7 hn V) <| lQ <| aw (aF rfl) <| aw (by refine (?_:(T.map gK).length<_);refine ae (aY ..) <| (cF (.k .b (.n 10000)) .b (.n 16777216) rfl W)) ?_
  have:=ext (T:=T++[((P n).x,[],(P n).m)]) (by refine ae (bH ..) <| h)
  rw [bH] at this;exact this
theorem aca:∀(ns:List Nat) {T:List gH}{M:List Ent}{br:Tr},(∀n∈ns,n<N)->N<1000->(∀n,n<N->(P n).m≠[]->(P n).x=(P n).o)->T.length+ns.length<10000->M.length+(Pure.fd (ns.map P)).length<100000->
  (∀br,K .nx [t0,t1,t2,.dat (.list (eW P N)),.dat (.list (fj P N)),.dl ((T++kt (ns.map P)).map gK),.dl ((M++Pure.its (Pure.fd (ns.map P))).map d9),t7,t8,t9,bC,bW,aM,bP,bK,t15,br])->
  du (eI fs [(16,.fr)] false Ah) K (bG ns) [t0,t1,t2,.dat (.list (eW P N)),.dat (.list (fj P N)),.dl (T.map gK),.dl (M.map d9),t7,t8,t9,bC,bW,aM,bP,bK,t15,br]:=by
 intro ns;induction ns with
 |nil=>
  intro T M br _ _ _ _ _ h;have:=h br;rw [show kt (([]:List Nat).map P)=[] from rfl,show Pure.its (Pure.fd (([]:List Nat).map P))=[] from rfl,cL,cL] at this;exact this
 |cons n ns ih=>
  intro T M br hn hN hx U V h;rw [iQ,mW,aG] at V;simp only [gL] at U;refine NH <| ab9 (T:=T) (M:=M) (hn n (.head _)) hN (hx n (hn n (.head _))) (cM (.k (.a .b (.S .c)) (.n 10000)) .b (.n 10000) rfl U) (dQ (.k (.a .b (.a .c .d)) (.n 100000)) (.a .b .c) (.n 100000) rfl V) <| ih (λm hm=>hn m (.tail _ hm)) hN hx ?_ ?_ λbr=>?_
  ·have W:(kt [P n]).length<=1:=by
    refine ae (show kt [P n]=if (P n).o=[]/\(P n).n=[] then [] else [((P n).o,[],(P n).m)] from cL _) ?_;split <;> simp
   refine ae (aG ..) <| (dQ (.t (.k (.a .b (.S .d)) (.n 10000)) (.l .c .u)) (.a (.a .b .c) .d) (.n 10000) rfl U W)
  ·refine ae (aG ..) (ae (aY ..) ?_);exact (dQ (.k (.a .b (.a .c .d)) (.n 100000)) (.a (.a .b .c) .d) (.n 100000) rfl V)
  ·have:=h br;have e1:kt ((n::ns).map P)=kt [P n]++kt (ns.map P):=by
    show kt (P n::ns.map P)=_
    unfold kt;exact ae (gi ..) (ae (gi ..) (ae (HB ..) (ae (cL ..) rfl)))
   have e2:Pure.its (Pure.fd ((n::ns).map P))=Pure.its (P n).d++Pure.its (Pure.fd (ns.map P)):=by
    refine ae (iQ ..) (ae (mW ..) ?_);exact bH
   rw [e1,e2,<-bt,<-bt] at this;exact this
end
noncomputable abbrev Gr:SE:=.slc (.var 0) (.var 7) (.var 9)
noncomputable abbrev Gs:SS:=.asg 15 .fr (.ite (.cmp .Eq (.var 12) (.lst .nil)) (.lit (.str (ag.ofString "insert"))) (.ite (.cmp .Eq (.var 13) (.lst .nil)) (.lit (.str (ag.ofString "delete"))) (.lit (.str (ag.ofString "replace")))))
noncomputable abbrev PT:SS:=.app (.var 5) (.tup (.cons (.var 12) (.cons (.lst (.cons (.var 15) .nil)) (.cons (.ya [(0,.fr)] false [4] 2 Gr (.sub (.sub (.var 2) (.var 0)) (.lit (.int (1))))) .nil))))
noncomputable abbrev rwS:SS:=.ext (.var 6) (.ite (.cmp .Eq (.var 14) (.var 12)) (.var 13) (.lst (.cons (.lst (.cons (.var 12) (.cons (.var 13) (.cons (.var 14) .nil)))) .nil)))
noncomputable abbrev vZ:SS:=(.seq rwS (.seq (.eu [(16,.fr)] false (.seq (.slc (.var 0) (.var 9) (.bin .Add (.var 9) (.var 11)))) Ah) (.seq (.fA [(7,.fr),(8,.fr)] (.cons (.bin .Add (.var 9) (.var 11)) (.cons (.bin .Add (.var 10) (.var 11)) .nil))) .nil)))
noncomputable abbrev Gu:SS:=(.seq (.fA [(12,.fr),(13,.fr),(14,.fr)] (.cons (.fn 1 (.cons (.var 2) (.cons Gr .nil))) (.cons (.fn 1 (.cons (.var 2) (.cons (.slc (.var 1) (.var 8) (.var 10)) .nil))) (.cons (.fn 1 (.cons (.var 3) (.cons Gr .nil))) .nil)))) (.seq (.cS (.cmp .NotEq (.bin .Add (.var 12) (.var 13)) (.lst .nil)) (.seq Gs (.seq PT .nil)) .nil) vZ))
theorem Gv {l k:List Pe}(h:l.Sublist k):(Pure.ft l).length<=(Pure.ft k).length:=by
 induction h with
 |slnil=>exact aK _
 |cons a _ U=>refine ae (gS ..) (ae (aG ..) ?_);exact (CG U)
 |cons_cons a _ U=>rw [gS,gS,aG,aG];exact (JU U)
theorem Gw {l k:List Pe}(h:l.Sublist k):(Pure.fd l).length<=(Pure.fd k).length:=by
 induction h with
 |slnil=>exact aK _
 |cons a _ U=>refine ae (mW ..) (ae (aG ..) ?_);exact (CG U)
 |cons_cons a _ U=>rw [mW,mW,aG,aG];exact (JU U)
theorem qL:(Pure.sl l p u).Sublist l:=(aeW _ _).trans (List.drop_sublist _ _)
section
variable {P:Nat->Pe}{N:Nat}{ns:List Nat}{k:ah->Prop}
theorem Ai {β:Type}{f:Pe->List β}:∀ns:List Nat,ns.flatMap (λn=>f (P n))=(ns.map P).flatMap f:=by
 intro ns;induction ns with
 |nil=>rfl
 |cons n ns U=>exact ae (gi ..) (ae (iQ ..) (ae (gi ..) (ae (U ..) rfl)))
theorem Aj (hn:∀n∈ns,n<N) (U:N<1000) (hl:(bN P ns).length<=1000) (h:k (.list (intD (bN P ns)))):qF.2 [.list (d5 P N),.list (bG ns)] k:=
 (iD N (λn=>(P n).t) ns rfl (aL hn U (by rw [Ai];exact hl)) (by rw [Ai];exact h))
theorem PU (hn:∀n∈ns,n<N) (U:N<1000) (hl:(Pure.fd (ns.map P)).length<=1000) (h:k (.list (intD (Pure.fd (ns.map P))))):qF.2 [.list (eW P N),.list (bG ns)] k:=
 (iD N (λn=>(P n).d) ns rfl (aL hn U (by rw [Ai];exact hl)) (by rw [Ai];exact h))
theorem PV (ns:List Nat):ns.flatMap (λn=>d8 (P n).m)=d8 ((ns.map P).flatMap Pe.m):=by
 induction ns with
 |nil=>rfl
 |cons n ns U=>exact ae (gi ..) (ae (iQ ..) (ae (gi ..) (ae (U ..) (ae (Y7 ..) rfl))))
end
section
variable {fs:cX}{K:KS}{t0 t1 t2 t3 t4 t5 t6 t7 t8 t9 bC bW bK t15 br:Tr}
theorem acb (U:¬(o=[]/\n=[])) (h:K .nx [t0,t1,t2,t3,t4,t5,t6,t7,t8,t9,bC,bW,.dat (.list (intD o)),.dat (.list (intD n)),bK,.dat (.str (ag.ofString (de o.length n.length))),br]) :
  aJ fs Gs [t0,t1,t2,t3,t4,t5,t6,t7,t8,t9,bC,bW,.dat (.list (intD o)),.dat (.list (intD n)),bK,t15,br] K:=by
 refine aw (aF rfl) <| qC o [] <| bw.dec (λe1=>?_) λe1=>?_
 ·rw [show de o.length n.length="insert" from by
   rcases sQ U with q | q | q
   ·exact (q.2.1 e1).elim
   ·exact (q.2.1 e1).elim
   ·exact q.1] at h
  exact h
 ·refine aw (aF rfl) <| qC n [] <| bw.dec (λe2=>?_) λe2=>?_
  ·rw [show de o.length n.length="delete" from by
    rcases sQ U with q | q | q
    ·exact (q.2.2 e2).elim
    ·exact q.1
    ·exact (e1 q.2.1).elim] at h
   exact h
  ·rw [show de o.length n.length="replace" from by
    rcases sQ U with q | q | q
    ·exact q.1
    ·exact (e2 q.2.2).elim
    ·exact (e1 q.2.1).elim] at h
   exact h
end
theorem qM {ns:List Nat}(h:ns.length<1000):small (bG ns).length:=by show _<=_;refine ae (aY ..) <| aD (cA h) (by decide)
section
variable {fs:cX}{P:Nat->Pe}{A B:List Nat}{N:Nat}{K:KS}{t3 aM bP bK t15 br:Tr}
noncomputable abbrev jX (P:Nat->Pe) (A B:List Nat) (N:Nat) (T:List gH) (M:List Ent) (p q:Nat) (tl:List Tr):List Tr:=.dat (.list (bG A))::.dat (.list (bG B))::.dat (.list (d5 P N))::.dat (.list (eW P N))::.dat (.list (fj P N))::.dl (T.map gK)::.dl (M.map d9)::.dat (.int (p:Nat))::.dat (.int (q:Nat))::tl
structure Ak (P:Nat->Pe) (A B:List Nat) (N:Nat):Prop where
 T:dP A B N
 x:∀n,n<N->(P n).m≠[]->(P n).x=(P n).o
 n:N<1000
 a:A.length<60
 la:(bN P A).length<500
 lb:(bN P B).length<500
 ld:(Pure.fd (A.map P)).length<500
theorem acd {p q u v c:Nat}(H:Ak P A B N) (hu:u+c<=A.length) (W:T.length+c<9000) (U:M.length<90000) (lo:o.length<500) (ln:n.length<500) (ld:d.length<500)
  (h:∀br,K .nx (jX P A B N (T++kt (pc P A u (u+c))) (M++((if d=o then Pure.its n else [.cf o n d])++Pure.its (Pure.fd (pc P A u (u+c))))) (u+c) (v+c) [.dat (.int (u:Nat)),.dat (.int (v:Nat)),.dat (.int (c:Nat)),.dat (.list (intD o)),.dat (.list (intD n)),.dat (.list (intD d)),t15,br])) :
  aJ fs vZ (jX P A B N T M p q [.dat (.int (u:Nat)),.dat (.int (v:Nat)),.dat (.int (c:Nat)),.dat (.list (intD o)),.dat (.list (intD n)),.dat (.list (intD d)),t15,br]) K:=by
 have hA:=H.a;have V:∀n∈Pure.sl A u (u+c),n<N:=λn hn=>H.T.lt n (sU hn);have lk:(Pure.fd (pc P A u (u+c))).length<500:=dk (Gw (qL.map P)) H.ld;have lc:(Pure.sl A u (u+c)).length<=c:=by unfold Pure.sl;refine ae (jg ..) <| (IX (Bc _ _) (aE (rD)))
 have rest:∀{G:List Ent},G.length<1000->(∀br,K .nx (jX P A B N (T++kt (pc P A u (u+c))) (M++(G++Pure.its (Pure.fd (pc P A u (u+c))))) (u+c) (v+c) [.dat (.int (u:Nat)),.dat (.int (v:Nat)),.dat (.int (c:Nat)),.dat (.list (intD o)),.dat (.list (intD n)),.dat (.list (intD d)),t15,br]))->
   aJ fs (.seq (.eu [(16,.fr)] false (.seq (.slc (.var 0) (.var 9) (.bin .Add (.var 9) (.var 11)))) Ah) (.seq (.fA [(7,.fr),(8,.fr)] (.cons (.bin .Add (.var 9) (.var 11)) (.cons (.bin .Add (.var 10) (.var 11)) .nil))) .nil)) (jX P A B N T (M++G) p q [.dat (.int (u:Nat)),.dat (.int (v:Nat)),.dat (.int (c:Nat)),.dat (.list (intD o)),.dat (.list (intD n)),.dat (.list (intD d)),t15,br]) K:=by
  intro G hG h;refine aw (qM (rC hA)) (.mk (w:=bG (Pure.sl A u (u+c))) (vA (j:=u+c) hu) ?_);refine aca (Pure.sl A u (u+c)) V H.n H.x (dQ (.t (.k (.a .b .d) (.n 9000)) (.l .c .d)) (.a .b .c) (.n 10000) rfl W lc) (by refine ae (aG ..) <| dk (Hs (cA lk) _) (cM (.t (.k .b (.n 90000)) (.k .c (.n 1000))) (.a (.a .b .c) (.n 500)) (.n 100000) rfl U hG)) λbr=>?_
  refine aw (aF rfl) ?_;have:=h br;rw [<-bt] at this;exact this
 refine qC d o <| bw.dec (λe=>?_) λe=>?_
 ·rw [if_pos e] at h;refine aw (by refine (?_:(M.map d9).length+(intD _).length<_);refine ae (aY ..) (ae (iq ..) ?_);exact (cM (.t (.k .b (.n 90000)) (.k .c (.n 500))) (.a .b .c) (.n 16777216) rfl U ln)) ?_
  have:=rest (G:=Pure.its n) (by refine ae (aY ..) <| (cF (.k .b (.n 500)) .b (.n 1000) rfl ln)) h
  unfold jX at this;rw [bH,qK] at this;exact this
 ·rw [if_neg e] at h;refine aw (aF rfl) (aw (aF rfl) ?_);refine aw (by refine (?_:(M.map d9).length+1<_);refine ae (aY ..) <| (cF (.k .b (.n 90000)) (.S .b) (.n 16777216) rfl U)) ?_
  have:=rest (G:=[.cf o n d]) (show 1<1000 by decide) h
  unfold jX at this;rw [bH] at this;exact this
end
theorem ace:∀ps:List Pe,(ps.flatMap Pe.m).length<=ps.length:=by
 intro ps;induction ps with
 |nil=>exact aK _
 |cons p ps V=>
  have U:p.m.length<=1:=by unfold Pe.m;split <;> simp
  refine ae (gi ..) (ae (aG ..) (ae (gL ..) ?_));exact (bL (.t (.l .c .d) (.l .b .u)) (.a .b .c) (.S .d) rfl V U)
noncomputable abbrev o8:cX:=⟨[Af,qF],[]⟩
section
variable {P:Nat->Pe}{A B:List Nat}{N:Nat}{K:KS}{t9 bC bW aM bP bK t15 br:Tr}
theorem PW {p q u v c:Nat}(H:Ak P A B N) (hp:p<=u) (hu:u+c<=A.length) (hq:q<=v) (hv:v<=A.length) (lT:T.length+(c+1)<9000) (lM:M.length<90000)
  (h:∀aM bP bK t15 br,K .nx (jX P A B N (T++(gt (pc P A p u) (Pure.ft (pc P B q v))++kt (pc P A u (u+c)))) (M++(Pure.gm (pc P A p u) (Pure.ft (pc P B q v))++Pure.its (Pure.fd (pc P A u (u+c))))) (u+c) (v+c) [.dat (.int (u:Nat)),.dat (.int (v:Nat)),.dat (.int (c:Nat)),aM,bP,bK,t15,br])) :
  aJ o8 Gu (jX P A B N T M p q [.dat (.int (u:Nat)),.dat (.int (v:Nat)),.dat (.int (c:Nat)),aM,bP,bK,t15,br]) K:=by
 have hA:=H.a;have Am:=H.T.ln;have V:∀{a b},∀n∈Pure.sl A a b,n<N:=λn hn=>H.T.lt n (sU hn);have hlB:∀{a b},∀n∈Pure.sl B a b,n<N:=λn hn=>H.T.lb n (sU hn);have lo:(Pure.ft (pc P A p u)).length<500:=dk (Gv (qL.map P)) H.la;have ln:(Pure.ft (pc P B q v)).length<500:=dk (Gv (qL.map P)) H.lb;have ld:(Pure.fd (pc P A p u)).length<500:=dk (Gw (qL.map P)) H.ld;have W:u<=A.length:=by exact (aD (ba _ _) hu)
 have zk:v<=B.length:=by exact (aD hv (dm Am.symm))
 refine aw (qM (rC hA)) (.mk (w:=bG (Pure.sl A p u)) (vA W) ?_);refine Aj (P:=P) V H.n (aD (cA lo) (by decide)) <| aw (qM (IU hA Am)) (.mk (w:=bG (Pure.sl B q v)) (vA zk) ?_)
 refine Aj (P:=P) hlB H.n (aD (cA ln) (by decide)) <| aw (qM (rC hA)) (.mk (w:=bG (Pure.sl A p u)) (vA W) ?_)
 refine PU (P:=P) V H.n (aD (cA ld) (by decide)) <| aw (aF rfl) <| oS (Pure.ft (pc P A p u)) (Pure.ft (pc P B q v)) (cp (.t (.k .b (.n 500)) (.k .c (.n 500))) (.a .b .c) (.n 16777216) rfl lo ln) <| aw (aF rfl) <| qC _ [] ?_
 have key:∀{T':List gH}{t15:Tr},T'.length+c<9000->T'=T++gt (pc P A p u) (Pure.ft (pc P B q v))->aJ o8 vZ (jX P A B N T' M p q [.dat (.int (u:Nat)),.dat (.int (v:Nat)),.dat (.int (c:Nat)),.dat (.list (intD (Pure.ft (pc P A p u)))),.dat (.list (intD (Pure.ft (pc P B q v)))),.dat (.list (intD (Pure.fd (pc P A p u)))),t15,br]) K:=by
  intro T' t15 l1 e;refine acd H hu l1 lM lo ln ld λbr=>?_;clear l1;subst e;refine ae (bt ..) <| h _ _ _ _ _
 refine bw.Y8 (λe=>?_) λe=>?_
 ·have gB:¬(Pure.ft (pc P A p u)=[]/\Pure.ft (pc P B q v)=[]):=λq=>e (tV.mpr q);show aJ o8 Gs _ (λf U=>match f with | .nx=>aJ o8 (.seq PT .nil) U (λf U=>match f with | .nx=>aJ o8 vZ U K | f=>K f U) | f=>(λf U=>match f with | .nx=>aJ o8 vZ U K | f=>K f U) f U)
  refine acb gB <| aw (aF rfl) <| aw (qM (rC hA)) (.mk (w:=bG (Pure.sl A p u)) (vA W) ?_);refine NI (g:=λn=>d8 (P n).m) (Pure.sl A p u) [] (λn hn k hk=>?_) ?_ ?_
  ·exact fC (oU (V n hn)) (by have fi:=V n hn;have fh:=H.n;exact (A7 fi fh)) (lQ hk)
  ·refine ae (fE ..) (ae (PV ..) (ae (NG ..) ?_));exact aD (ace _) (by refine ae (aY ..) <| aD qL.length_le (aD (cA hA) (by decide)))
  refine ae (fE ..) (ae (PV ..) ?_);refine aw (aF rfl) <| aw (by refine (?_:(T.map gK).length<_);refine ae (aY ..) <| (cM (.k (.a .b (.S .c)) (.n 9000)) .b (.n 16777216) rfl lT)) ?_
  have:=key (T':=T++[(Pure.ft (pc P A p u),[de (Pure.ft (pc P A p u)).length (Pure.ft (pc P B q v)).length],(pc P A p u).flatMap Pe.m)]) (t15:=.dat (.str (ag.ofString (de (Pure.ft (pc P A p u)).length (Pure.ft (pc P B q v)).length)))) (by refine ae (aG ..) ?_;simp;exact (cM (.k (.a .b (.S .c)) (.n 9000)) (.a (.S .b) .c) (.n 9000) rfl lT)) (by unfold gt;exact ae (if_neg gB ..) rfl)
  unfold jX at this;rw [bH] at this;exact this
 ·have e2:=tV.mp e;exact key (cM (.k (.a .b (.S .c)) (.n 9000)) (.a .b .c) (.n 9000) rfl lT) (by unfold gt;exact ae (if_pos e2 ..) (ae (cL ..) rfl))
end
theorem PX {B:SS}(h:aJ fs B (((σ.set a (.dat V)).set b (.dat W)).set c (.dat d3)) (λf U=>match f with | .nx=>du (eI fs [(a,.fr),(b,.fr),(c,.fr)] true B) k ds U | .cnt=>du (eI fs [(a,.fr),(b,.fr),(c,.fr)] true B) k ds U | .brk=>k .nx U | .ret e=>k (.ret e) U)):du (eI fs [(a,.fr),(b,.fr),(c,.fr)] true B) k (.tuple [V,W,d3]::ds) σ:=h
section
variable {P:Nat->Pe}{A B:List Nat}{N:Nat}{K:KS}
theorem acf (h:c.length<500):(Pure.gm ps c).length<500:=by
 unfold Pure.gm;split
 ·refine ae (aY ..) <| h
 ·show 1<500;decide
theorem acg:(gt ps c).length<=1:=by
 unfold gt;split
 ·exact bA _
 ·exact aK _
theorem ach:∀ps:List Pe,(kt ps).length<=ps.length:=by
 intro ps;induction ps with
 |nil=>exact aK _
 |cons p ps V=>
  show (aeX _ (p::ps)).length<=_
  refine ae (gi ..) (ae (aG ..) ?_);have U:(if p.o=[]/\p.n=[] then [] else [(p.o,([]:List String),p.m)]).length<=1:=by split <;> simp
  show _+(kt ps).length<=ps.length+1
  lia
theorem aci (H:Ak P A B N):∀(S:List Rn) (p q:Nat) {T:List gH}{M:List Ent}{t9 bC bW aM bP bK t15 br:Tr},jy P A B p q S->T.length+2*(A.length-p)+2<9000->M.length+1000*(A.length-p)+1000<90000->
  (∀p' q' t9 bC bW aM bP bK t15 br,K .nx (jX P A B N (T++Pure.zt (dH P A B p q S) (cP P A B p q S)) (M++Pure.zm (dH P A B p q S) (cP P A B p q S)) p' q' [t9,bC,bW,aM,bP,bK,t15,br]))->
  du (eI o8 [(9,.fr),(10,.fr),(11,.fr)] true Gu) K (S.map i9++[.tuple [.int (A.length:Nat),.int (B.length:Nat),.int 0]]) (jX P A B N T M p q [t9,bC,bW,aM,bP,bK,t15,br]):=by
 intro S;have hA:=H.a;have U:=H.T.ln;have V:∀{q v:Nat},(Pure.ft (pc P B q v)).length<500:=dk (Gv (qL.map P)) H.lb;have lfd:∀{p u:Nat},(Pure.fd (pc P A p u)).length<500:=dk (Gw (qL.map P)) H.ld;induction S with
 |nil=>
  intro p q T M t9 bC bW aM bP bK t15 br hc W lM h;refine El.aa hc.le λl1 l2=>PX <| PW (c:=0) (u:=A.length) (v:=B.length) H l1 (aK _) (U▸l2) (dm U) (cM (.k (.a (.a .b (.m 2 .c)) (.n 2)) (.n 9000)) (.S .b) (.n 9000) rfl W) (IV lM) λaM bP bK t15 br=>?_;have e:pc P A A.length (A.length+0)=[]:=by
   unfold pc Pure.sl;refine ae (RT ..) ?_;simp
  have:=h (A.length+0) (B.length+0) (.dat (.int (A.length:Nat))) (.dat (.int (B.length:Nat))) (.dat (.int 0)) aM bP bK t15 br;refine ae (e ..) (ae (show kt []=[] from rfl) (ae (show Pure.its (Pure.fd [])=[] from rfl) (ae (cL ..) (ae (cL ..) ?_))));exact this
 |cons s S ih=>
  intro p q T M t9 bC bW aM bP bK t15 br hc W lM h;cases hc with
  |cons a b R hc=>
   have c1:=R.c;have c2:=R.pl;have c3:=R.ql;refine PX <| PW (c:=s.c) (u:=s.p) (v:=s.q) H a R.pl b (aD (ba _ _) c3) (ud (.y (.k (.a (.a .b (.m 2 .d)) (.n 2)) (.n 9000)) (.l .f .h) (.l (.a .h .c) .i) (.q .i (.a .d .f))) (.a .b (.S .c)) (.n 9000) rfl W a c2 (aE (IW a c1 c2)).symm) (IV lM) λaM bP bK t15 br=>ih (s.p+s.c) (s.q+s.c) hc ?_ ?_ λp' q' t9 bC bW aM bP bK t15 br=>?_
   ·have h1:=acg (ps:=pc P A p s.p) (c:=Pure.ft (pc P B q s.q));have h2:=ach (pc P A s.p (s.p+s.c));have h3:(pc P A s.p (s.p+s.c)).length<=s.c:=by
     refine ae (aY ..) ?_;unfold Pure.sl;refine ae (jg ..) <| (IX (Bc _ _) (aE (rD)))
    refine ae (aG ..) (ae (aG ..) ?_);exact (ji (.SX _ _ _ _ _ _ _ _ _ _) .z 1 (.c 1 (.k (.a (.a .b (.m 2 .h)) (.n 2)) (.n 9000)) (.c 2 (.l .i .j) (.c 1 (.k .z .k) (.c 1 (.l .c .u) (.c 1 (.l .d .l) (.c 1 (.l .l .k) (.c 2 (.q .w (.a .h .i)) (.c 2 (.q (.a .f (.a .j .k)) .w) .z)))))))) (.a (.a (.a .b (.a .c .d)) (.m 2 .f)) (.n 2)) (.n 9000) rfl W a c1 h1 h2 h3 (aE (IW a c1 c2)).symm (aE (uj c2)))
   ·have h1:=acf (ps:=pc P A p s.p) (c:=Pure.ft (pc P B q s.q)) V;have h2:=lfd (p:=s.p) (u:=s.p+s.c);refine ae (aG ..) (ae (aG ..) (ae (aY ..) ?_));lia
   ·have:=h p' q' t9 bC bW aM bP bK t15 br;refine ae (bt ..) (ae (bt ..) (ae (bt ..) (ae (bt ..) ?_)));exact this
end
noncomputable def PY:SS:=(.seq (.mA [(5,.own),(6,.own),(7,.fr),(8,.fr)] (.tup (.cons (.lst .nil) (.cons (.lst .nil) (.cons (.lit (.int (0))) (.cons (.lit (.int (0))) .nil)))))) (.seq (.eu [(9,.fr),(10,.fr),(11,.fr)] true (.seq (.bin .Add (.fn 0 (.cons (.var 0) (.cons (.var 1) (.cons (.var 2) .nil)))) (.lst (.cons (.tup (.cons (.bi .len (.cons (.var 0) .nil)) (.cons (.bi .len (.cons (.var 1) .nil)) (.cons (.lit (.int (0))) .nil)))) .nil)))) Gu) (.seq (.seq (.fz 5) (.seq (.fz 6) (.ret (.tup (.cons (.var 5) (.cons (.var 6) .nil)))))) .nil)))
noncomputable def An:iE:=(false,λds k=>∃P A B N cT S,ds=[.list (bG A),.list (bG B),.list (d5 P N),.list (eW P N),.list (fj P N)]/\(Pu P A B N cT S/\Ak P A B N)/\k (vY (Pure.zt (dH P A B 0 0 S) (cP P A B 0 0 S)) (Pure.zm (dH P A B 0 0 S) (cP P A B 0 0 S))))
theorem acj (h:An.2 ds k):ds.length=5/\aJ o8 PY (init ds 12) (ju k):=by
 refine Kh h ?_;clear h;intro P A B N cT S e W h;obtain ⟨U,H⟩:=W;subst e;have V:=H.a;have Am:=H.T.ln;refine cg (Ad U.T U.Y) λsub pw gr=>?_;have hc:jy P A B 0 0 S:=Gf (bA _) (bA _) (λs hs=>(aL (H.T.rf (sub s hs)) (bA _) (bA _))) pw;have lS:S.length<=A.length:=by
  have h1:=U.Y.pt.length_eq;have h2:=U.Y.qt.length_eq;have h3:=Pt cT [];have h4:(fN P A B).length<=A.length:=Gi _;rw [tU,jf] at h3;exact (aD (aD (aD (dm h2.symm) h3) (dm h1.symm)) h4)
 refine ⟨rfl,?_⟩;repeat refine vg rfl ?_
 refine eJ P (eJ A (eJ B (eJ N (eJ cT (eJ S (aw rfl (aw U ?_)))))));refine aw (qM (rC V)) (.mk (w:=A.length) (aY ..) ?_);refine aw (qM (IU V Am)) (.mk (w:=B.length) (aY ..) ?_);refine aw (aF rfl) (aw (aF rfl) ?_);refine aw (by refine (?_:(S.map i9).length+1<=_);refine ae (aY ..) ?_;unfold cc;exact (cp (.t (.k .c (.n 60)) (.l .b .c)) (.S .b) (.n 16777216) rfl V lS)) (Fe ?_)
 refine aci (T:=[]) (M:=[]) H S 0 0 hc (by simp;exact (cF (.c 2 (.k .b (.n 60)) .z) (.a (.m 2 .b) (.n 2)) (.n 9000) rfl V)) (by simp;exact (cF (.c 1000 (.k .b (.n 60)) .z) (.a (.m 1000 .b) (.n 1000)) (.n 90000) rfl V)) λp' q' t9 bC bW aM bP bK t15 br=>?_
 refine aw (aF rfl) <| h
section
variable {w:aW}{D:Nat}
noncomputable abbrev Hdu:Hn:=⟨λi=>if i=5 then .own else if i=6 then .own else .fr,[(505,5),(505,6)]⟩
noncomputable abbrev syN:Fn:=⟨ag.ofString "_law_stay",.ref 261,Af⟩
noncomputable abbrev PZ:Fn:=⟨ag.ofString "_law_flat",.ref 256,qF⟩
theorem ack:qJ w (D+3) 266 An:=sW (ir:=PY) 10 "_law_due" 265 ⟨[syN,PZ],[]⟩ Hdu ["first","second","texts","edited","edits"] ["told","row","p","q","u","v","count","old","come","new","word","n"] (cz.mpr ⟨fk ab5,cm.mpr (fk PR)⟩) gb (λds k h=>acj h) λx y z u v=>aC (by kernel_rfl!)
end
noncomputable abbrev P0:SS:=(.seq (.yz [(12,.fr),(13,.fr),(14,.fr),(15,.fr),(16,.fr)] 3) (.seq (.app (.sub (.var 9) (.var 14)) (.var 15)) (.seq (.ext (.sub (.var 10) (.var 14)) (.bin .Add (.slc (.var 0) (.sub (.var 11) (.var 14)) (.var 12)) (.ite (.cmp .Eq (.var 15) (.lit (.str (ag.ofString "delete")))) (.lst .nil) (.var 16)))) (.seq (.set (.var 11) (.var 14) (.ite (.cmp .Eq (.var 15) (.lit (.str (ag.ofString "insert")))) (.var 12) (.var 13))) (.seq (.asg 8 .fr (.bi .max (.cons (.var 8) (.cons (.var 13) .nil)))) .nil)))))
noncomputable abbrev P1:SS:=.mB (.an (.cmp .NotEq (.var 3) (.lst .nil)) (.cmp .LtE (.sub (.sub (.var 3) (.lit (.int (0)))) (.lit (.int (0)))) (.var 8))) P0
theorem Ao (hg:g="replace"∨g="delete"∨g="insert") (hx:x="delete"∨x="insert"):ah.eqv (.str (ag.ofString g)) (.str (ag.ofString x))=decide (g=x):=by
 rcases hg with rfl | rfl | rfl <;> rcases hx with rfl | rfl <;> kernel_rfl
theorem P2 {p:Prop} [Decidable p] {fs:cX}(V:σ[j]? = some (.dat (.list (intD U)))) (l:xs.length+U.length<=2 ^ 24) (h:k (.ow (.dl (intD (xs++if p then [] else U))))) :
  bw (decide p) (den fs (.lst .nil) σ (one λvb=>rT σ .Add (.ow (.dl (intD xs))) vb k)) (den fs (.var j) σ (one λvb=>rT σ .Add (.ow (.dl (intD xs))) vb k)):=by
 refine bw.dec (λe=>?_) λe=>?_
 ·rw [if_pos e] at h;exact aw (bA _) (oS xs [] (aD (Hs (bA _) _) l) h)
 ·rw [if_neg e] at h;exact vy V (oS xs U l h)
theorem P4 {p:Prop} [Decidable p] {fs:cX}(hi:σ[i]? = some (.dat (.int a))) (U:σ[j]? = some (.dat (.int b))) (h:k [aR (.int (if p then a else b))]):bw (decide p) (den fs (.var i) σ k) (den fs (.var j) σ k):=by
 refine bw.dec (λe=>?_) λe=>?_
 ·rw [if_pos e] at h;exact vy hi h
 ·rw [if_neg e] at h;exact vy U h
theorem acm {bs:List Int}(h:iL bs c):Lay 2 (oR c):=
 have i:∀n:Int,Lay 1 (.int n):=λn=>(Lay.int n).mono (bA _)
 .tup (cz.mpr ⟨i _,cz.mpr ⟨i _,cz.mpr ⟨i _,cz.mpr ⟨(Lay.str (Fg h.2.1)).mono (bA _),cm.mpr (lay_ints _)⟩⟩⟩⟩)
theorem P5 {bs:List Int}(h:∀c∈V,iL bs c):fw (.list (eT V)):=(Lay.list (n:=2) λd hd=>by
 refine ar (bf.mp hd) λc hc U=>?_;clear hd;subst U;exact acm (h c hc)).shaped (by decide)
theorem P6 (U:List cC):ah.eqv (.list (eT U)) (.list [])=U.isEmpty:=by cases U <;> rfl
structure m6 (n:Nat) (st:bD):Prop where
 y0:st.y0.length<=n
 y1:st.y1.length<=n
 w0:st.w0.length<=n
 w1:st.w1.length<=n
theorem P7 {bs:List Int}(h:iL bs c) (hb:bs.length<1000):(bD.way bs r c).length<=2000:=by
 have U:(Pure.slc bs r c.1).length<=bs.length:=by unfold Pure.slc;refine ae (jg ..) (ae (hU ..) ?_);exact (rE (Ss _ _) (l7 _ _))
 have V:=h.2.2.2.2;unfold bD.way;refine ae (aG ..) ?_;split
 ·refine (?_:_+0<=_);exact (cp (.t (.k .c (.n 1000)) (.l .b .c)) (.a .b .z) (.n 2000) rfl hb U)
 ·exact (bL (.u (.k .d (.n 1000)) (.l .b .d) (.k .c (.n 1000))) (.a .b .c) (.n 2000) rfl hb U V)
theorem m6.step {bs:List Int}{st:bD}(b:m6 n st) (h:iL bs c) (hb:bs.length<1000):m6 (n+2000) (st.step bs c):=by
 have h0:=P7 (r:=st.r0) h hb;have U:=P7 (r:=st.r1) h hb;have up:∀{m:Nat},m<=n->m<=n+2000:=λh=>aD h (ba _ _);have one:∀{l:List String}{x:String},l.length<=n->(l++[x]).length<=n+2000:=λh=>by refine ae (aG ..) <| HU h (show 1<=2000 by decide)
 have two:∀{l y:List Int},l.length<=n->y.length<=2000->(l++y).length<=n+2000:=λh g=>by refine ae (aG ..) <| HU h g
 unfold bD.step;split
 ·exact ⟨two b.y0 h0,up b.y1,one b.w0,up b.w1⟩
 ·exact ⟨up b.y0,two b.y1 U,up b.w0,one b.w1⟩
section
variable {t1 t2 t4 t5 t6 t7:Tr}{tl:List Tr}{bs:List Int}{K:KS}{fs:cX}
noncomputable abbrev o9 (bs:List Int) (t1 t2 t4 t5 t6 t7:Tr) (U:List cC) (st:bD) (a b c d e:Tr) (tl:List Tr):List Tr:=.dat (.list (intD bs))::t1::t2::.dl (eT U)::t4::t5::t6::t7::.dat (.int st.hi)::.ol [.dl (d8 st.w0),.dl (d8 st.w1)]::.ol [.dl (intD st.y0),.dl (intD st.y1)]::.dl [.int st.r0,.int st.r1]::a::b::c::d::e::tl
theorem acn {st:bD}(hc:iL bs c) (hb:bs.length<1000) (bd:m6 200000 st) (hl:cs.length<1000)
  (h:∀a b c' d e,K .nx (o9 bs t1 t2 t4 t5 t6 t7 cs (st.step bs c) a b c' d e tl)):aJ fs P0 (o9 bs t1 t2 t4 t5 t6 t7 (c::cs) st a13 a14 a15 a16 P8 tl) K:=by
 obtain ⟨x,y,s,g,U⟩:=c;refine CJ hc λhs hg hx hy ht=>?_;clear hc;have tg:g="equal"∨g="replace"∨g="delete"∨g="insert":=.inr hg;have V:∀{l:List String},l.length<=200000->iI (d8 l).length:=λh=>by show _<_;refine ae (NG ..) <| (cF (.l .b (.n 200000)) .b (.n 16777216) rfl h)
 have ls:∀r,(Pure.slc bs r x).length<=bs.length:=λr=>by unfold Pure.slc;refine ae (jg ..) (ae (hU ..) ?_);exact (rE (Ss _ _) (l7 _ _))
 have Fu:s=0∨s=1:=hs;have la:∀r,(Pure.slc bs r x).length+U.length<=2 ^ 24:=λr=>by
  have:=ls r;have ht:U.length<1000:=ht;exact (bL (.u (.k .d (.n 1000)) (.l .b .d) (.k .c (.n 1000))) (.a .b .c) (.n 16777216) rfl hb this ht)
 have W:∀{l:List Int}{r:Nat},l.length<=200000->iI ((intD l).length+(intD (Pure.slc bs r x++if g="delete" then [] else U)).length):=λ{l r} h=>by
  have h2:(if g="delete" then [] else U).length<=1000:=by
   split
   ·exact bA _
   ·exact cA ht
  have fi:=ls r;show _<_
  refine ae (iq ..) (ae (iq ..) (ae (aG ..) ?_));exact (eN (.y (.k .f (.n 1000)) (.l .b (.n 200000)) (.l .d (.n 1000)) (.l .c .f)) (.a .b (.a .c .d)) (.n 16777216) rfl hb h h2 fi)
 have mx:∀a b:Nat,max (a:Int) ((b:Nat):Int)=((max a b:Nat):Int):=λa b=>by (clear ht hy hx hl hb;omega)
 have ri:((if g="insert" then (x:Int) else (y:Int)):Int)=((if g="insert" then x else y:Nat):Int):=by split <;> rfl
 refine aw (by refine (?_:(eT cs).length<_);unfold eT;refine ae (aY ..) <| (Je hl)) ?_
 clear hs hy ht;rcases Fu with rfl | rfl
 ·refine jv <| aw (V bd.w0) <| jv <| jv <| qs (ns:=bs) (A5 hb) hx <| cq (Ao hg (.inl rfl)) ⟨i7 tg,i7 (.inr (.inr (.inl rfl)))⟩ <| P2 rfl (la _) <| aw (W bd.y0) <| cq (Ao hg (.inr rfl)) ⟨i7 tg,i7 (.inr (.inr (.inr rfl)))⟩ <| P4 rfl rfl <| Y5 ?_;have:=h (.dat (.int x)) (.dat (.int y)) (.dat (.int 0)) (.dat (.str (ag.ofString g))) (.dat (.list (intD U)));unfold bD.step at this;rw [if_pos rfl] at this;unfold o9 d8 at this;dsimp only at this;rw [bH,<-mx,<-zU,show ((bD.sO (x,y,0,g,U):Nat):Int)=_ from ri.symm] at this;exact this
 ·refine lQ <| aw (V bd.w1) <| lQ <| lQ <| qs (ns:=bs) (A5 hb) hx <| cq (Ao hg (.inl rfl)) ⟨i7 tg,i7 (.inr (.inr (.inl rfl)))⟩ <| P2 rfl (la _) <| aw (W bd.y1) <| cq (Ao hg (.inr rfl)) ⟨i7 tg,i7 (.inr (.inr (.inr rfl)))⟩ <| P4 rfl rfl <| Y6 ?_;have:=h (.dat (.int x)) (.dat (.int y)) (.dat (.int 1)) (.dat (.str (ag.ofString g))) (.dat (.list (intD U)));unfold bD.step at this;rw [if_neg (by exact Sr)] at this
  unfold o9 d8 at this;dsimp only at this;rw [bH,<-mx,<-zU,show ((bD.sO (x,y,1,g,U):Nat):Int)=_ from ri.symm] at this;exact this
inductive P9 (bs:List Int) (t1 t2 t4 t5 t6 t7:Tr) (tl:List Tr) (st:bD) (cs:List cC) (n:Nat):List Tr->Prop
 |mk {qN:bD}{jW:List cC}{m:Nat}{a b c d e:Tr}:jW.length=n->n<=cs.length->bD.run bs st cs=bD.run bs qN jW->m6 m qN->m+2000*n<=150000->(∀c∈jW,iL bs c)->P9 bs t1 t2 t4 t5 t6 t7 tl st cs n (o9 bs t1 t2 t4 t5 t6 t7 jW qN a b c d e tl)
structure MiE (bs:List Int) (st:bD) (cs:List cC) (qN:bD) (jW:List cC):Prop where
 r:bD.run bs st cs=(qN,jW)
 b:m6 200000 qN
 k:∀c∈jW,iL bs c
 l:jW.length<=cs.length
theorem aco {st:bD}(hc:∀c∈cs,iL bs c) (hb:bs.length<1000) (bd:m6 0 st) (hl:cs.length<=64)
  (h:∀U W a b c d e,MiE bs st cs U W->K .nx (o9 bs t1 t2 t4 t5 t6 t7 W U a b c d e tl)):aJ fs P1 (o9 bs t1 t2 t4 t5 t6 t7 cs st a13 a14 a15 a16 P8 tl) K:=by
 refine ox.mk (P9 bs t1 t2 t4 t5 t6 t7 tl st cs) cs.length (.mk rfl (aK _) rfl bd (dW (.c 2000 (.l .b (.n 64)) .z) (.a .z (.m 2000 .b)) (.n 150000) rfl hl) hc) λn σ J=>?_;cases J with
 |@mk U W m a b c d e hn le hr hm V hk=>
  have Gx:m6 200000 U:=⟨aD hm.y0 (xF V),aD hm.y1 (xF V),aD hm.w0 (xF V),aD hm.w1 (xF V)⟩;subst hn;refine aw (aF rfl) <| cq (P6 W) ⟨P5 hk,rfl⟩ ?_;cases W with
  |nil=>exact h U [] a b c d e ⟨hr,Gx,(λzz h=>El.nm h),bA _⟩
  |cons q r=>
   refine jv <| jv <| bw.dec (λe1=>?_) λe1=>?_
   ·refine acn (hk q (.head _)) hb Gx (by rw [gL] at le;exact (cM (.t (.l .c (.n 64)) (.l (.S .b) .c)) .b (.n 1000) rfl hl le)) λa b c d e=>?_
    exact av r.length (nf _) (.mk rfl (HM le) (hr.trans (if_pos (pD.mp e1))) (hm.step (hk q (.head _)) hb) (by rw [gL] at V;exact (cp (.l (.a .b (.m 2000 (.S .c))) (.n 150000)) (.a (.a .b (.n 2000)) (.m 2000 .c)) (.n 150000) rfl V)) λc h=>hk c (.tail _ h))
   ·exact h U (q::r) a b c d e ⟨hr.trans (if_neg λe=>e1 (pD.mpr e)),Gx,hk,le⟩
end
noncomputable abbrev Ap:SS:=.cS (.orr (.cmp .Eq (.var 18) (.var 19)) (.cmp .Eq (.var 19) (.var 17))) (.seq (.asg 20 .fr (.var 18)) .nil) (.seq (.asg 20 .fr (.ite (.cmp .Eq (.var 18) (.var 17)) (.var 19) (.lst (.cons (.lst (.cons (.var 17) (.cons (.var 18) (.cons (.var 19) .nil)))) .nil)))) .nil)
noncomputable abbrev Aq:SS:=(.seq (.seq (.fz 9) (.app (.var 4) (.tup (.cons (.var 17) (.cons (.sub (.var 9) (.lit (.int (0)))) (.cons (.sub (.var 9) (.lit (.int (1)))) .nil)))))) (.seq (.ext (.var 5) (.bin .Add (.slc (.var 0) (.var 6) (.var 7)) (.var 20))) (.seq (.asg 6 .fr (.var 8)) .nil)))
noncomputable abbrev Qa:SS:=(.seq (.fA [(17,.fr),(18,.fr),(19,.fr)] (.cons (.slc (.var 0) (.var 7) (.var 8)) (.cons (.bin .Add (.sub (.var 10) (.lit (.int (0)))) (.slc (.var 0) (.sub (.var 11) (.lit (.int (0)))) (.var 8))) (.cons (.bin .Add (.sub (.var 10) (.lit (.int (1)))) (.slc (.var 0) (.sub (.var 11) (.lit (.int (1)))) (.var 8))) .nil)))) (.seq Ap Aq))
noncomputable abbrev Qb:SS:=(.seq (.fA [(7,.fr),(8,.fr)] (.cons (.sub (.sub (.var 3) (.lit (.int (0)))) (.lit (.int (0)))) (.cons (.sub (.sub (.var 3) (.lit (.int (0)))) (.lit (.int (1)))) .nil))) (.seq (.fA [(9,.own),(10,.own),(11,.own)] (.cons (.lst (.cons (.lst .nil) (.cons (.lst .nil) .nil))) (.cons (.lst (.cons (.lst .nil) (.cons (.lst .nil) .nil))) (.cons (.lst (.cons (.var 7) (.cons (.var 7) .nil))) .nil)))) (.seq P1 Qa)))
noncomputable abbrev Qc:SS:=.mB (.cmp .NotEq (.var 3) (.lst .nil)) Qb
section
variable {t1 t2:Tr}{bs:List Int}{K:KS}{fs:cX}
inductive pb:List Tr->Prop
 |mk {a b c d e f g h i j k l m n:Tr}:pb [a,b,c,d,e,f,g,h,i,j,k,l,m,n]
noncomputable abbrev As (bs:List Int) (t1 t2:Tr) (U:List cC) (T:List gH) (M:List Ent) (d:Nat) (tl:List Tr):List Tr:=.dat (.list (intD bs))::t1::t2::.dl (eT U)::.dl (T.map gK)::.dl (M.map d9)::.dat (.int d)::tl
theorem acp
  (h:K .nx [s0,s1,s2,s3,s4,s5,s6,s7,s8,s9,U,V,W,Qd,Qe,Qf,Qg,.dat (.list (intD o)),.dat (.list (intD l)),.dat (.list (intD r)),.dat (.list ((kK o l r).map d9))]) :
  aJ fs Ap [s0,s1,s2,s3,s4,s5,s6,s7,s8,s9,U,V,W,Qd,Qe,Qf,Qg,.dat (.list (intD o)),.dat (.list (intD l)),.dat (.list (intD r)),s20] K:=by
 unfold kK at h;refine qC l r <| bw.dec (λe1=>?_) λe1=>?_
 ·rw [if_pos (.inl e1),qK] at h;exact h
 ·refine qC r o <| bw.dec (λe2=>?_) λe2=>?_
  ·rw [if_pos (.inr e2),qK] at h;exact h
  ·rw [if_neg (not_or.mpr ⟨e1,e2⟩)] at h;refine qC l o <| bw.dec (λe3=>?_) λe3=>?_
   ·rw [if_pos e3,qK] at h;exact h
   ·rw [if_neg e3] at h;exact aw (aF rfl) (aw (aF rfl) h)
theorem acq (hb:bs.length<1000) (hx:x<=bs.length) (lT:T.length<=900) (U:M.length+((Pure.slc bs d x).length+W.length)<=900)
  (h:∀tl Td V,pb tl->Td=(T++[(o,w0,w1)]).map gK->V=(M++(Pure.its (Pure.slc bs d x)++W)).map d9->K .nx (.dat (.list (intD bs))::t1::t2::.dl (eT cs)::.dl Td::.dl V::.dat (.int hi)::tl)) :
  aJ fs Aq [.dat (.list (intD bs)),t1,t2,.dl (eT cs),.dl (T.map gK),.dl (M.map d9),.dat (.int d),.dat (.int x),.dat (.int hi),.ol [.dl (d8 w0),.dl (d8 w1)],s10,s11,s12,Qd,Qe,Qf,Qg,.dat (.list (intD o)),s18,s19,.dat (.list (W.map d9))] K:=by
 refine jv <| lQ <| aw (aF rfl) <| aw (by refine (?_:(T.map gK).length<_);refine ae (aY ..) <| (cF (.l .b (.n 900)) .b (.n 16777216) rfl lT)) ?_
 refine qs (ns:=bs) (fb hb (by decide)) hx <| aw (by refine (?_:(intD _).length+(W.map d9).length<=_);refine ae (iq ..) (ae (aY ..) ?_);unfold cc;exact (bL (.l (.a .d (.a .b .c)) (.n 900)) (.a .b .c) (.n 16777216) rfl U)) (Fe ?_)
 refine aw (by refine (?_:(M.map d9).length+(intD _++W.map d9).length<_);refine ae (aG ..) (ae (iq ..) (ae (aY ..) (ae (aY ..) ?_)));exact (dQ (.l (.a .b (.a .c .d)) (.n 900)) (.a .b (.a .c .d)) (.n 16777216) rfl U)) ?_
 exact h _ _ _ .mk (by refine ae (bH ..) ?_;rfl) (by exact ae (bH ..) (ae (bH ..) (ae (qK ..) rfl)))
theorem acr {st:bD}(hb:bs.length<1000) (hx:x<=bs.length) (hi:st.hi<=bs.length) (bd:m6 200000 st) (lT:T.length<=900) (lM:M.length+((Pure.slc bs d x).length+(kK (Pure.slc bs x st.hi) (st.y0++Pure.slc bs st.r0 st.hi) (st.y1++Pure.slc bs st.r1 st.hi)).length)<=900)
  (h:∀tl Td Md,pb tl->Td=(T++[(Pure.slc bs x st.hi,st.w0,st.w1)]).map gK->Md=(M++(Pure.its (Pure.slc bs d x)++kK (Pure.slc bs x st.hi) (st.y0++Pure.slc bs st.r0 st.hi) (st.y1++Pure.slc bs st.r1 st.hi))).map d9->K .nx (.dat (.list (intD bs))::t1::t2::.dl (eT cs)::.dl Td::.dl Md::.dat (.int st.hi)::tl)) :
  aJ fs Qa (o9 bs t1 t2 (.dl (T.map gK)) (.dl (M.map d9)) (.dat (.int d)) (.dat (.int x)) cs st a b c e f [s17,s18,s19,W]) K:=by
 have sl:∀i j,(Pure.slc bs i j).length<=1000:=λi j=>by unfold Pure.slc;refine ae (jg ..) (ae (hU ..) ?_);exact (bL (.u (.k .c (.n 1000)) (.l .b .d) (.l .d .c)) .b (.n 1000) rfl hb (Ss _ _) (l7 _ _))
 have U:bs.length<2000:=fb hb (by decide)
 have sm:∀{l:List Int}{i j:Nat},l.length<=200000->l.length+(Pure.slc bs i j).length<=2 ^ 24:=λh=>aD (HU h (sl _ _)) (by decide)
 refine qs (ns:=bs) U hi <| jv <| jv <| qs (ns:=bs) U hi <| oS st.y0 _ (sm bd.y0) <| lQ <| lQ <| qs (ns:=bs) U hi <| oS st.y1 _ (sm bd.y1) <| aw (aF rfl) ?_;show aJ fs (.seq Ap Aq) [.dat (.list (intD bs)),t1,t2,.dl (eT cs),.dl (T.map gK),.dl (M.map d9),.dat (.int d),.dat (.int x),.dat (.int st.hi),.ol [.dl (d8 st.w0),.dl (d8 st.w1)],.ol [.dl (intD st.y0),.dl (intD st.y1)],.dl [.int st.r0,.int st.r1],a,b,c,e,f,.dat (.list (intD (Pure.slc bs x st.hi))),.dat (.list (intD (st.y0++Pure.slc bs st.r0 st.hi))),.dat (.list (intD (st.y1++Pure.slc bs st.r1 st.hi))),W] K
 show aJ fs Ap _ (λf V=>match f with | .nx=>aJ fs Aq V K | f=>K f V)
 refine acp <| acq hb hx lT lM h
theorem acs {st:bD}(ht:pb tl) (hb:bs.length<1000) (hc:∀q∈c::V,iL bs q) (hl:(c::V).length<=64) (lT:T.length<=900) (W:bD.run bs ⟨[],[],[],[],c.1,c.1,c.2.1⟩ (c::V)=(st,r)) (lM:M.length+((Pure.slc bs d c.1).length+(kK (Pure.slc bs c.1 st.hi) (st.y0++Pure.slc bs st.r0 st.hi) (st.y1++Pure.slc bs st.r1 st.hi)).length)<=900)
  (h:(∀q∈r,iL bs q)->r.length<=64->∀tl Td Md,pb tl->Td=(T++[(Pure.slc bs c.1 st.hi,st.w0,st.w1)]).map gK->Md=(M++(Pure.its (Pure.slc bs d c.1)++kK (Pure.slc bs c.1 st.hi) (st.y0++Pure.slc bs st.r0 st.hi) (st.y1++Pure.slc bs st.r1 st.hi))).map d9->K .nx (.dat (.list (intD bs))::t1::t2::.dl (eT r)::.dl Td::.dl Md::.dat (.int st.hi)::tl)) :
  aJ fs Qb (As bs t1 t2 (c::V) T M d tl) K:=by
 have U:=hc c (.head _);have hi:st.hi<=bs.length:=by
  have:=bD.OV (bs:=bs) (n:=bs.length) (c::V) ⟨[],[],[],[],c.1,c.1,c.2.1⟩ U.2.2.2.1 λq hq=>(hc q hq).2.2.2.1;rw [W] at this;exact this
 cases ht with
 |mk=>
  refine jv <| jv <| jv <| lQ ?_;repeat refine vg rfl ?_
  refine aco (st:=⟨[],[],[],[],c.1,c.1,c.2.1⟩) hc hb ⟨bA _,bA _,bA _,bA _⟩ hl λqN jW a b c' d' e E=>?_;cases W.symm.trans E.r
  exact acr hb U.2.2.1 hi E.b lT lM (h E.k (aD E.l hl))
inductive Qh (bs:List Int) (t1 t2:Tr) (T:List gH) (M:List Ent) (n:Nat):List Tr->Prop
 |mk {cs:List cC}{d:Nat}{T0 T1:List gH}{M0 M1:List Ent}{tl:List Tr}:iM bs n cs d T1 M1->T=T0++T1->M=M0++M1->(∀c∈cs,iL bs c)->cs.length<=64->pb tl->Qh bs t1 t2 T M n (As bs t1 t2 cs T0 M0 d tl)
theorem acu (ht:pb tl) (hb:bs.length<1000) (hc:∀c∈U,iL bs c) (hl:U.length<=64) (hM:iM bs n U 0 T M) (nT:T.length<=900) (nM:M.length<=900)
  (h:∀d V tl,pb tl->M=V++Pure.its (bs.drop d)->K .nx (As bs t1 t2 [] T V d tl)):aJ fs Qc (As bs t1 t2 U [] [] 0 tl) K:=by
 refine ox.mk (Qh bs t1 t2 T M) n (.mk (T0:=[]) (M0:=[]) hM rfl rfl hc hl ht) λn σ J=>?_;cases J with
 |@mk W d T0 T1 M0 M1 tl hm e1 e3 hk FR ht=>
  refine aw (aF rfl) <| cq (P6 W) ⟨P5 hk,rfl⟩ ?_;have l1:T0.length<=900:=by rw [e1,aG] at nT;exact (cp (.l (.a .b .c) (.n 900)) .b (.n 900) rfl nT)
  cases hm with
  |done=>
   rw [cL] at e1;clear l1;subst e1;exact h d M0 tl ht e3
  |@step n _ c U r st T' V hr hm=>
   have l2:=nM;rw [e3,aG,aG,aY,aG] at l2;refine acs ht hb hk FR l1 hr (bJ (.l (.a .b (.a .c (.a .d .f))) (.n 900)) (.a .b (.a .c .d)) (.n 900) rfl l2) λhk hl tl Td Md ht q1 q2=>?_;subst q1 q2;exact av n (nf _) (.mk hm (by rw [e1];simp) (by rw [e3];simp) hk hl ht)
end
noncomputable abbrev Qi:SS:=.seq (.Dy 5 2 4) (.seq (.Dz 5 3) .nil)
section
variable {fs:cX}{K:KS}{I B:Tr}{a:ak}{tl:List Tr}{b:Nat->Int}
theorem Qj:∀(U:List Int) (i n:Nat) (g:Int->Option (List ah)) (l:Option (Int×ak)) (t3 t4 t5:Tr),(∀j,j<U.length->U[j]? = some (b (i+j)))->(∀c,(g c).getD []=intD (places b i c))->n<=i->i+U.length<2 ^ 24->
  (∀n' W l' t3 t4 t5,(∀c,(W c).getD []=intD (places b (i+U.length) c))->K .nx (I::B::.fr (gw a n' W l')::t3::t4::t5::tl))->
  du (eI fs [(3,.fr),(4,.fr)] true Qi) K (ou i (intD U)) (I::B::.fr (gw a n g l)::t3::t4::t5::tl):=@λA C D F G H J L M N O P Q=>match A,C,D,F,G,H,J,L,M,N,O,P,Q with
 |[],i,n,g,l,t3,t4,t5,hs,hg,hn,hl,h=>h n g l t3 t4 t5 hg
 |c::U,i,n,g,l,t3,t4,t5,hs,hg,hn,hl,h=>by
  rw [gL] at hl h;have hc:c=b i:=dJ (hs 0 (wu _));have gl:((g c).getD []).length=(places b i c).length:=by refine ae (hg ..) <| aY ..
  refine yH.mk (c:=c) rfl rfl (dk (aD hn (ba _ _)) hl) λbb=>yI.mk (d:=2) (ds:=(g c).getD []) rfl rfl rfl oG (by refine ae (gl ..) <| dk (places_len b i c) (dk (ba _ _) hl)) ?_
  have pl:∀V,places b (i+1) V=places b i V++if b i=V then [(i:Int)] else []:=λV=>aan b i V;refine Qj U (i+1) (n+1) _ _ _ _ _ (λj hj=>?_) (λV=>?_) (gY hn) (by lia) λn' W l' a3 a4 a5 hg'=>h n' W l' a3 a4 a5 ?_
  ·have:=hs (j+1) (R3 hj);refine ae (show i+1+j=i+(j+1) from by exact (aN (rB) (rA))) <| this
  ·refine ae (pl ..) ?_;by_cases e:V=c
   ·clear hs gl;subst e;refine ae (oG ..) (ae (if_pos hc.symm ..) ?_);refine (?_:(g V).getD []++[ah.int i]=_);refine ae (hg ..) ?_;unfold intD;refine ae (bH ..) ?_;rfl
   ·refine ae (oH e ..) (ae (oH e ..) (ae (if_neg (λq=>e (q.symm.trans hc.symm)) ..) (ae (cL ..) ?_)));exact hg V
  ·refine ae (show i+(U.length+1)=i+1+U.length from by exact (aN (rA) (rB))) <| hg'
end
noncomputable abbrev chJ:SS:=.seq (.eu [(4,.fr)] false (.seq .bad) (.seq (.cS (.tv (.rS 7 (.cons (.var 4) .nil))) (.seq .bad .nil) .nil) .nil)) (.seq (.eu [(4,.fr)] false (.seq (.var 6)) (.seq .bad .nil)) .nil)
noncomputable abbrev chP:SS:=.seq (.asg 10 .fr (.bin .Add (.bin .FloorDiv (.var 9) (.lit (.int (100)))) (.lit (.int (1))))) (.seq (.eu [(4,.fr),(11,.fr)] true (.seq .bad) (.seq (.cS (.cmp .Gt (.bi .len (.cons (.var 11) .nil)) (.var 10)) (.seq .bad .nil) .nil) .nil)) (.seq (.eu [(4,.fr)] false (.seq (.var 8)) (.seq .bad .nil)) .nil))
noncomputable abbrev Qk:SS:=(.seq (.asg 1 .fr (.er 0 2)) (.seq (.Dx 0 7 2) (.seq (.eu [(3,.fr),(4,.fr)] true (.r6 (.var 1)) Qi) (.seq (.seq .DA (.fg [(.dO 0 8),(.nm 6 .deep)] .yf)) (.seq (.asg 7 .fr (.er 0 0)) (.seq (.cS (.tv (.var 7)) chJ .nil) (.seq (.fg [(.dO 0 9),(.nm 8 .deep)] .yf) (.seq (.asg 9 .fr (.bi .len (.cons (.var 1) .nil))) (.seq (.cS (.an (.tv (.er 0 3)) (.cmp .GtE (.var 9) (.lit (.int (200))))) chP .nil) .nil)))))))))
noncomputable def v5:eF:=λx as ds k=>ds=[]/\∃(t1 t4 t5 t6:bu) (U:Bool) (bS:List Int),as=[.tr (.dat .none),t1,.tr (.dat (.list (intD bS))),.tr (.dat (.bool U)),t4,t5,t6]/\bS.length<200/\
 ∀bd,(∀c,(bd c).getD (.list [])=.list (intD (places (λi=>bS.getD i 0) bS.length c)))->k .none [.tr (.dat .none),t1,.tr (.dat (.list (intD bS))),.tr (.dat (.bool U)),t4,t5,t6,.tr (b7 (fU bd)),.tr (b7 (jM λzz=>false)),.tr (b7 (jM λzz=>false))]
theorem Ql:mE (b7 (jM S)):=.fz LU λP v q=>by
 refine dX q λa o U zz=>?_;clear q;subst U;rfl
theorem acv (x:ak×ak) (as:List bu) (ds:List ah) (k:ah->List bu->Prop) (h:v5 x as ds k):ds.length+1+0=1/\aJ ⟨[],[]⟩ Qk (b6 x as::init (ds++[]) 11) (lP x k):=by
 obtain ⟨U,t1,t4,t5,t6,aj,bS,V,hl,h⟩:=h;subst U;subst V;refine ⟨rfl,?_⟩;refine .mk rfl rfl <| yG.mk rfl ⟨aF rfl,aF rfl⟩ λa=>aw rfl <| Qj (b:=λi=>bS.getD i 0) bS 0 0 (λzz=>none) none _ _ _ (λj hj=>?_) (λzz=>rfl) (aK _) (cF (.k .b (.n 200)) (.a .z .b) (.n 16777216) rfl hl) λn' W l' t3 t4' t5' hg=>?_
 ·refine ae (jf ..) ?_;refine (?_:_=some (bS.getD j 0));rw [iW,eC hj];rfl
 ·rw [jf] at hg;refine yJ.mk (i:=0) (j:=7) (d:=2) (by decide) rfl rfl rfl <| aw Ql <| .mk rfl ⟨aF rfl,aF rfl⟩ <| .mk rfl rfl <| aw Ql <| .mk rfl ⟨aF rfl,aF rfl⟩ <| ql (cF (.k .b (.n 200)) .b (.n 2000) rfl hl) <| .mk rfl rfl ?_
  have fin:=h (λc=>(W c).map .list) λc=>by
   refine ae (hg ..).symm ?_;cases W c <;> rfl
  clear h;cases aj with
  |true=>
   refine bw.dec (λe=>?_) λe=>?_
   ·exact absurd (pD.mp (show ((200:Nat):Int)<=_ from e)) (dg.mpr hl)
   ·exact av _ rfl fin
  |false=>exact av _ rfl fin
noncomputable abbrev Qm:SS:=(.seq .nil (.seq (.cS (.cmp .Is (.var 1) (.er 0 1)) (.seq (.ret (.lit .none)) .nil) .nil) (.seq (.fg [(.dO 0 1)] (.var 1)) (.seq (.fg [(.dO 0 4),(.dO 0 5)] (.lit .none)) .nil))))
noncomputable abbrev Qn:SS:=(.seq .nil (.seq (.cS (.cmp .Is (.var 1) (.er 0 2)) (.seq (.ret (.lit .none)) .nil) .nil) (.seq (.fg [(.dO 0 2)] (.var 1)) (.seq (.fg [(.dO 0 4),(.dO 0 5)] (.lit .none)) (.seq (.fg [(.dO 0 6)] (.lit .none)) (.seq (.qh 0 0 .nil) .nil))))))
noncomputable abbrev Qo:SS:=(.seq .nil (.seq (.qh 0 0 (.cons (.var 1) .nil)) (.seq (.qh 0 1 (.cons (.var 2) .nil)) .nil)))
noncomputable abbrev Qp:SS:=(.seq .nil (.seq (.fg [(.dO 0 0)] (.var 1)) (.seq (.fg [(.dO 0 1),(.dO 0 2)] (.lit .none)) (.seq (.fg [(.dO 0 3)] (.var 4)) (.seq (.qh 0 0 (.cons (.var 2) (.cons (.var 3) .nil))) .nil)))))
noncomputable abbrev dN:bu:=.tr (.dat .none)
noncomputable abbrev dL (l:List Int):bu:=.tr (.dat (.list (intD l)))
noncomputable abbrev dB (b:Bool):bu:=.tr (.dat (.bool b))
noncomputable def v7:eF:=λx as ds k=>∃(aS:List Int) (U:Bool),as=[dN,dN,dN,dB U]/\ds=[.list (intD aS)]/\k .none [dN,dL aS,dN,dB U,dN,dN]
noncomputable abbrev Au (aS bS:List Int) (U:Bool) (bd:Int->Option ah):List bu:=[dN,dL aS,dL bS,dB U,dN,dN,dN,.tr (b7 (fU bd)),.tr (b7 (jM λzz=>false)),.tr (b7 (jM λzz=>false))]
abbrev Av (bS:List Int) (bd:Int->Option ah):Prop:=∀c,(bd c).getD (.list [])=.list (intD (places (λi=>bS.getD i 0) bS.length c))
noncomputable def v8:eF:=λx as ds k=>∃(aS bS:List Int) (U:Bool),as=[dN,dL aS,dN,dB U,dN,dN]/\ds=[.list (intD bS)]/\bS.length<200/\∀bd,Av bS bd->k .none (Au aS bS U bd)
noncomputable def v9:eF:=λx as ds k=>∃(aS bS:List Int) (U:Bool),as=[dN,dN,dN,dB U]/\ds=[.list (intD aS),.list (intD bS)]/\bS.length<200/\∀bd,Av bS bd->k .none (Au aS bS U bd)
noncomputable def sY:eF:=λx as ds k=>∃(aS bS:List Int),as=[]/\ds=[.none,.list (intD aS),.list (intD bS)]/\bS.length<200/\∀bd,Av bS bd->k .none (Au aS bS true bd)
section
variable (x:ak×ak) (as:List bu) (ds:List ah) (k:ah->List bu->Prop)
theorem acw (h:v7 x as ds k):ds.length+1+0=2/\aJ ⟨[],[]⟩ Qm (b6 x as::init (ds++[]) 0) (lP x k):=by
 refine aO h ?_;clear h;intro aS W U V h;subst U;subst V;refine ⟨rfl,.mk rfl rfl ?_⟩;refine .mk rfl ⟨aF rfl,aF rfl⟩ <| .mk rfl ⟨aF rfl,aF rfl⟩ <| .mk rfl ⟨aF rfl,aF rfl⟩ <| av _ rfl h
theorem acx (h:v8 x as ds k):ds.length+1+0=2/\aJ ⟨[],[v5]⟩ Qn (b6 x as::init (ds++[]) 0) (lP x k):=by
 refine fS h ?_;clear h;intro aS bS W U V hl h;subst U;subst V;refine ⟨rfl,.mk rfl rfl ?_⟩;refine .mk rfl ⟨aF rfl,aF rfl⟩ <| .mk rfl ⟨aF rfl,aF rfl⟩ <| .mk rfl ⟨aF rfl,aF rfl⟩ <| .mk rfl ⟨aF rfl,aF rfl⟩ <| jO.mk rfl (jm.mk (sp:=v5) rfl rfl rfl ⟨rfl,_,_,_,_,W,bS,rfl,hl,λbd hb=>?_⟩);exact av _ rfl (h bd hb)
theorem acy (h:v9 x as ds k):ds.length+1+0=3/\aJ ⟨[],[v7,v8]⟩ Qo (b6 x as::init (ds++[]) 0) (lP x k):=by
 refine fS h ?_;clear h;intro aS bS W U V hl h;subst U;subst V;refine ⟨rfl,jO.mk rfl (jm.mk (sp:=v7) rfl rfl rfl (bQ aS W rfl rfl ?_))⟩;refine jO.mk rfl (jm.mk (sp:=v8) rfl rfl rfl (rM aS bS W rfl rfl hl (λbd hb=>?_)));exact av _ rfl (h bd hb)
theorem acz (h:sY x as ds k):ds.length+1+1=5/\aJ ⟨[],[v9]⟩ Qp (b6 x as::init (ds++[.bool true]) 0) (lP x k):=by
 refine nQ h ?_;clear h;intro aS bS U V hl h;subst U;subst V;refine ⟨rfl,?_⟩;refine .mk rfl ⟨aF rfl,aF rfl⟩ <| .mk rfl ⟨aF rfl,aF rfl⟩ <| .mk rfl ⟨aF rfl,aF rfl⟩ <| .mk rfl ⟨aF rfl,aF rfl⟩ <| jO.mk rfl (jm.mk (sp:=v9) rfl rfl rfl (rM aS bS true rfl rfl hl (λbd hb=>?_)));exact av _ rfl (h bd hb)
end
noncomputable abbrev Aw:SS:=(.seq (.fA [(1,.fr),(2,.fr)] (.cons (.bin .Add (.var 4) (.var 6)) (.cons (.bin .Add (.var 5) (.var 6)) .nil))) (.seq (.cS (.tv (.var 6)) (.seq (.app (.var 3) (.tup (.cons (.lit (.str (ag.ofString "equal"))) (.cons (.var 4) (.cons (.var 1) (.cons (.var 5) (.cons (.var 2) .nil))))))) .nil) .nil) .nil))
noncomputable abbrev Qq:SS:=.seq (.cS (.tv (.var 7)) (.seq (.app (.var 3) (.tup (.cons (.var 7) (.cons (.var 1) (.cons (.var 4) (.cons (.var 2) (.cons (.var 5) .nil))))))) .nil) .nil) Aw
noncomputable abbrev Gy:SS:=.seq (.asg 7 .fr (.lit (.str (ag.ofString "")))) (.seq (.cS (.an (.cmp .Lt (.var 1) (.var 4)) (.cmp .Lt (.var 2) (.var 5))) (.seq (.asg 7 .fr (.lit (.str (ag.ofString "replace")))) .nil) (.seq (.cS (.cmp .Lt (.var 1) (.var 4)) (.seq (.asg 7 .fr (.lit (.str (ag.ofString "delete")))) .nil) (.seq (.cS (.cmp .Lt (.var 2) (.var 5)) (.seq (.asg 7 .fr (.lit (.str (ag.ofString "insert")))) .nil) .nil) .nil)) .nil)) Qq)
noncomputable abbrev Qr:SS:=.seq .nil (.seq (.cS (.cmp .IsNot (.er 0 5) (.lit .none)) (.seq (.ret (.er 0 5)) .nil) .nil) (.seq (.fg [(.nm 1 .fr),(.nm 2 .fr)] (.lit (.int (0)))) (.seq (.yA 0 5 3 .own (.lst .nil)) (.seq (.eu [(4,.fr),(5,.fr),(6,.fr)] true (.yy 0 0 .nil) Gy) (.seq (.ret (.var 3)) .nil)))))
section
variable {fs:cX}{K:KS}{I t4 t5 t6 t7:Tr}{p q x1 x2 x3:Nat}{os:List Op}
theorem Qs:os.map gE++[gE o]=(os++[o]).map gE:=by refine ae (bH ..) ?_;rfl
theorem Qt (h:os.length<1000):iI (os.map gE).length:=by show _<_;refine ae (aY ..) ?_;omega
theorem acA (hl:os.length<999) (h:∀U V W a7,K .nx [I,.dat (.int ((x1+x3:Nat):Int)),.dat (.int ((x2+x3:Nat):Int)),.dl ((os++fG (x1,x2,x3)).map gE),U,V,W,a7]) :
  aJ fs Aw [I,.dat (.int p),.dat (.int q),.dl (os.map gE),.dat (.int x1),.dat (.int x2),.dat (.int x3),t7] K:=by
 refine aw (aF rfl) <| bw.dec (λe=>?_) λe=>?_
 ·have e2:fG (x1,x2,x3)=[("equal",x1,x1+x3,x2,x2+x3)]:=TM e;rw [e2,<-Qs] at h;refine aw (aF rfl) (aw (Qt (cF (.k .b (.n 999)) .b (.n 1000) rfl hl)) ?_);exact h _ _ _ _
 ·have e2:fG (x1,x2,x3)=[]:=TN (Su.mp e);rw [e2,cL] at h;exact h _ _ _ _
theorem Gz (U:(ag.ofString g).length<1000/\decide ((ag.ofString g).length≠0)=true) (hl:os.length<998) (h:aJ fs Aw [I,.dat (.int p),.dat (.int q),.dl ((os++[(g,p,x1,q,x2)]).map gE),.dat (.int x1),.dat (.int x2),.dat (.int x3),.dat (.str (ag.ofString g))] K) :
  aJ fs Qq [I,.dat (.int p),.dat (.int q),.dl (os.map gE),.dat (.int x1),.dat (.int x2),.dat (.int x3),.dat (.str (ag.ofString g))] K:=by
 rw [<-Qs] at h;refine aw U.1 (bw.yes U.2 (aw (aF rfl) (aw (Qt (cF (.k .b (.n 998)) .b (.n 1000) rfl hl)) ?_)));exact h
theorem acB:(fv a b c d).length<=1:=by
 unfold fv;split
 ·exact aK _
 ·split
  ·exact aK _
  ·split
   ·exact aK _
   ·exact bA _
theorem GA (h:K .nx (σ.set i (.dat (KV c)))):aJ fs (.seq (.asg i .fr (.lit c)) .nil) σ K:=h
theorem acC (hl:os.length<998) (h:∀U V W a7,K .nx [I,.dat (.int ((x1+x3:Nat):Int)),.dat (.int ((x2+x3:Nat):Int)),.dl (((os++fv p q x1 x2)++fG (x1,x2,x3)).map gE),U,V,W,a7]) :
  aJ fs Gy [I,.dat (.int p),.dat (.int q),.dl (os.map gE),.dat (.int x1),.dat (.int x2),.dat (.int x3),t7] K:=by
 have tl:∀{r:List Op}{t:Tr},fv p q x1 x2=r->r.length<=1->aJ fs Aw [I,.dat (.int p),.dat (.int q),.dl ((os++r).map gE),.dat (.int x1),.dat (.int x2),.dat (.int x3),t] K:=λ{r t} e l=>by
  subst e;exact acA (by refine ae (aG ..) ?_;omega) h
 refine bw.dec (λe1=>?_) λe1=>?_
 ·refine bw.dec (λe2=>?_) λe2=>?_
  ·exact GA (Gz (g:="replace") (by decide +kernel) hl (tl (TH e1 e2) (aK _)))
  ·refine bw.dec (λzz=>?_) λe=>(e e1).elim;exact GA (Gz (g:="delete") (by decide +kernel) hl (tl (TJ e1 e2) (aK _)))
 ·refine bw.dec (λe=>(e1 e).elim) λzz=>bw.dec (λe2=>?_) λe2=>?_
  ·exact GA (Gz (g:="insert") (by decide +kernel) hl (tl (TK e1 e2) (aK _)))
  ·refine aw (by decide +kernel) ?_
   have:=tl (t:=.dat (.str (ag.ofString ""))) (TL e1 e2) (bA _);rw [cL] at this;exact this
theorem Qu:∀(bl:List bc) (p q:Nat) (os:List Op) (t4 t5 t6 t7:Tr),os.length+2*bl.length<996->(∀U V W a7,K .nx [I,.dat (.int ((bl.foldl me ((p,q),os)).1.1:Nat)),.dat (.int ((bl.foldl me ((p,q),os)).1.2:Nat)),.dl ((bl.foldl me ((p,q),os)).2.map gE),U,V,W,a7])->
  du (eI fs [(4,.fr),(5,.fr),(6,.fr)] true Gy) K (bl.map eG) [I,.dat (.int p),.dat (.int q),.dl (os.map gE),t4,t5,t6,t7]:=@λA B C D F G H J L M=>match A,B,C,D,F,G,H,J,L,M with
 |[],p,q,os,t4,t5,t6,t7,zz,h=>h _ _ _ _
 |b::bl,p,q,os,t4,t5,t6,t7,hl,h=>by
  refine acC (t7:=t7) (cM (.k (.a .b (.m 2 .c)) (.n 996)) .b (.n 998) rfl hl) λU V W a7=>Qu bl _ _ _ _ _ _ _ ?_ h;have h1:(fv p q b.1 b.2.1).length<=1:=acB;have h2:(fG (b.1,b.2.1,b.2.2)).length<=1:=by unfold fG;split <;> simp
  refine ae (aG ..) (ae (aG ..) ?_);rw [gL] at hl;exact (eN (.u (.k (.a .b (.m 2 (.S .f))) (.n 996)) (.l .c .u) (.l .d .u)) (.a (.a (.a .b .c) .d) (.m 2 .f)) (.n 996) rfl hl h1 h2)
end
noncomputable def pd (gm:eF):eF:=λx as ds k=>ds=[]/\as[5]? = some (.tr (.dat .none))/\gm x (as.set 5 .any) [] λd U=>∃bl:List bc,d=.list (bl.map eG)/\bl.length<400/\k (.list ((jI bl).2.map gE)) U
theorem acD {gm:eF}(mono:∀x as ds (k k':ah->List bu->Prop),(∀d as,k d as->k' d as)->gm x as ds k->gm x as ds k') (x:ak×ak) (as:List bu) (ds:List ah) (k:ah->List bu->Prop) (h:pd gm x as ds k):ds.length+1+0=1/\aJ ⟨[],[gm]⟩ Qr (b6 x as::init (ds++[]) 7) (lP x k):=by
 refine cg h ?_;clear h;intro U W h;subst U;refine ⟨rfl,?_⟩;have lt:5<as.length:=(dU.mp W).1;refine .mk rfl W <| aw (aF rfl) (aw rfl ?_);refine .mk rfl ⟨cA lt,aF rfl⟩ <| .mk rfl (.mk rfl rfl rfl ?_);refine ae (show mD as 5 .any=as.set 5 .any from if_pos lt) <| mono _ _ _ _ _ ?_ h
 rintro d V ⟨bl,rfl,hl,hk⟩
 exact Qu bl 0 0 [] _ _ _ _ (by refine ae (tU ..) ?_;omega) λa4 a5 a6 a7=>(av V rfl hk)
noncomputable abbrev GC:SS:=.cS (.an (.cmp .Lt (.var 5) (.var 9)) (.cmp .Lt (.var 7) (.var 10))) (.seq (.app (.var 3) (.tup (.cons (.var 5) (.cons (.var 9) (.cons (.var 7) (.cons (.var 10) .nil)))))) .nil) .nil
noncomputable abbrev GD:SS:=.cS (.an (.cmp .Lt (.bin .Add (.var 9) (.var 11)) (.var 6)) (.cmp .Lt (.bin .Add (.var 10) (.var 11)) (.var 8))) (.seq (.app (.var 3) (.tup (.cons (.bin .Add (.var 9) (.var 11)) (.cons (.var 6) (.cons (.bin .Add (.var 10) (.var 11)) (.cons (.var 8) .nil)))))) .nil) .nil
noncomputable abbrev gmK:SS:=.seq (.app (.var 4) (.var 12)) (.seq GC (.seq GD .nil))
noncomputable abbrev GF:SS:=.seq (.yB [(5,.fr),(6,.fr),(7,.fr),(8,.fr)] 3) (.seq (.fg [(.tp [(9,.fr),(10,.fr),(11,.fr)]),(.nm 12 .fr)] (.mp 0 0 (.cons (.var 5) (.cons (.var 6) (.cons (.var 7) (.cons (.var 8) .nil)))))) (.seq (.cS (.tv (.var 11)) gmK .nil) .nil))
noncomputable abbrev Ax:SS:=.cS (.tv (.var 15)) (.seq (.app (.var 16) (.tup (.cons (.var 13) (.cons (.var 14) (.cons (.var 15) .nil))))) .nil) .nil
noncomputable abbrev GG:SS:=.seq (.cS (.an (.cmp .Eq (.bin .Add (.var 13) (.var 15)) (.var 17)) (.cmp .Eq (.bin .Add (.var 14) (.var 15)) (.var 18))) (.seq (.aug 15 .Add (.var 19)) .nil) (.seq Ax (.seq (.fA [(13,.fr),(14,.fr),(15,.fr)] (.cons (.var 17) (.cons (.var 18) (.cons (.var 19) .nil)))) .nil))) .nil
noncomputable abbrev gmE:SS:=.seq Ax (.seq (.app (.var 16) (.tup (.cons (.var 1) (.cons (.var 2) (.cons (.lit (.int (0))) .nil))))) (.seq (.fg [(.dO 0 4)] (.yc 16)) (.seq (.ret (.er 0 4)) .nil)))
noncomputable abbrev gmF:SS:=.seq (.qi 4) (.seq (.fg [(.nm 13 .fr),(.nm 14 .fr),(.nm 15 .fr)] (.lit (.int (0)))) (.seq (.asg 16 .own (.lst .nil)) (.seq (.eu [(17,.fr),(18,.fr),(19,.fr)] true (.seq (.var 4)) GG) gmE)))
noncomputable abbrev Qv:SS:=(.seq .nil (.seq (.cS (.cmp .IsNot (.er 0 4) (.lit .none)) (.seq (.ret (.er 0 4)) .nil) .nil) (.seq (.fA [(1,.fr),(2,.fr)] (.cons (.bi .len (.cons (.er 0 1) .nil)) (.cons (.bi .len (.cons (.er 0 2) .nil)) .nil))) (.seq (.asg 3 .own (.lst (.cons (.tup (.cons (.lit (.int (0))) (.cons (.var 1) (.cons (.lit (.int (0))) (.cons (.var 2) .nil))))) .nil))) (.seq (.asg 4 .own (.lst .nil)) (.seq (.mB (.tv (.var 3)) GF) gmF))))))
noncomputable def wc (r:jk):ah:=.tuple [.int r.1,.int r.2.1,.int r.2.2.1,.int r.2.2.2]
theorem sZ {α:Type}{f:α->ah}{l:List α}(h:l.length<2 ^ 24):iI (l.map f).length:=by show _<_;refine ae (aY ..) <| h
theorem ta {α:Type}(f:α->ah) (l:List α) (x:α):l.map f++[f x]=(l++[x]).map f:=by refine ae (bH ..) ?_;rfl
section
variable {fs:cX}{K:KS}{I:Tr}{na nb:ah}{tl:List Tr}{rs:List jk}{bl:List bc}{x1 x2 x3 x4 i j k:Nat}{R:SS}
noncomputable abbrev kN (I:Tr) (na nb:ah) (tl:List Tr) (rs:List jk) (bl:List bc) (x1 x2 x3 x4 i j k:Nat):List Tr:=I::.dat na::.dat nb::.dl (rs.map wc)::.dl (bl.map eG)::.dat (.int x1)::.dat (.int x2)::.dat (.int x3)::.dat (.int x4)::.dat (.int i)::.dat (.int j)::.dat (.int k)::.dat (eG (i,j,k))::tl
theorem acE (hl:rs.length<2 ^ 24) (V:x1<i/\x3<j->aJ fs R (kN I na nb tl (rs++[(x1,i,x3,j)]) bl x1 x2 x3 x4 i j k) K) (U:¬(x1<i/\x3<j)->aJ fs R (kN I na nb tl rs bl x1 x2 x3 x4 i j k) K):aJ fs (.seq GC R) (kN I na nb tl rs bl x1 x2 x3 x4 i j k) K:=by
 refine bw.dec (λe1=>?_) λe1=>U λq=>e1 (cV.mpr q.1);refine bw.dec (λe2=>?_) λe2=>U λq=>e2 (cV.mpr q.2);have h:=V ⟨cV.mp e1,cV.mp e2⟩;unfold kN at h;rw [<-ta] at h;exact aw (aF rfl) (aw (sZ hl) h)
theorem Qw (hl:rs.length<2 ^ 24) (V:i+k<x2/\j+k<x4->K .nx (kN I na nb tl (rs++[(i+k,x2,j+k,x4)]) bl x1 x2 x3 x4 i j k)) (U:¬(i+k<x2/\j+k<x4)->K .nx (kN I na nb tl rs bl x1 x2 x3 x4 i j k)):aJ fs (.seq GD .nil) (kN I na nb tl rs bl x1 x2 x3 x4 i j k) K:=by
 refine bw.dec (λe1=>?_) λe1=>U λq=>e1 (cV.mpr q.1);refine bw.dec (λe2=>?_) λe2=>U λq=>e2 (cV.mpr q.2);have h:=V ⟨cV.mp e1,cV.mp e2⟩;unfold kN at h;rw [<-ta] at h;exact aw (aF rfl) (aw (sZ hl) h)
end
def td (na nb:Nat) (rs:List jk):Prop:=∀r∈rs,r.1<=r.2.1/\r.2.1<=na/\r.2.2.1<=r.2.2.2/\r.2.2.2<=nb
def GH (fm:eF) (x:ak×ak) (as:List bu) (f:Nat->Nat->Nat->Nat->bc) (na nb:Nat):Prop:=∀(alo ahi blo bhi:Nat) (k:ah->List bu->Prop),alo<=ahi->ahi<=na->blo<=bhi->bhi<=nb->k (eG (f alo ahi blo bhi)) as->fm x as [.int alo,.int ahi,.int blo,.int bhi] k
section
variable {fm:eF}{x:ak×ak}{as:List bu}{K:KS}{f:Nat->Nat->Nat->Nat->bc}{na nb:Nat}{tl:List Tr}{rs:List jk}{bl total:List bc}{x1 x2 x3 x4:Nat}{t5 t6 t7 t8 t9 bC bW aM:Tr}
theorem td.snoc (h:td na nb rs) (g:x1<=x2/\x2<=na/\x3<=x4/\x4<=nb):td na nb (rs++[(x1,x2,x3,x4)]):=λr U=>(bT.mp U).elim (h r) λq=>cQ.mp q▸g
theorem acF (hm:GH fm x as f na nb) (hf:lq f) (hl:gn (rs++[(x1,x2,x3,x4)])<2 ^ 23) (hb:bl.length<2 ^ 23) (g:x1<=x2/\x2<=na/\x3<=x4/\x4<=nb) (ok:td na nb rs) (hp:(bl++(rs++[(x1,x2,x3,x4)]).flatMap (dY f)).Perm total)
  (h:∀U Ay y1 y2 y3 y4 i j k,gn U<gn (rs++[(x1,x2,x3,x4)])->td na nb U->(Ay++U.flatMap (dY f)).Perm total->K .nx (kN (b6 x as) (.int na) (.int nb) tl U Ay y1 y2 y3 y4 i j k)) :
  aJ ⟨[],[fm]⟩ GF (b6 x as::.dat (.int na)::.dat (.int nb)::.dl ((rs++[(x1,x2,x3,x4)]).map wc)::.dl (bl.map eG)::t5::t6::t7::t8::t9::bC::bW::aM::tl) K:=by
 have hr1:rs.length+1<2 ^ 23:=by
  have:=CU (rs++[(x1,x2,x3,x4)]);rw [aG] at this;exact dk this hl
 have u:∀{n:Nat},n+1<2 ^ 23->n<2 ^ 24/\n+1<2 ^ 24:=λq=>⟨by exact (cF (.k (.S .b) (.n 8388608)) .b (.n 16777216) rfl q),by exact (cF (.k (.S .b) (.n 8388608)) (.S .b) (.n 16777216) rfl q)⟩
 have V:=u hr1;refine ae (ta ..).symm <| yK.mk (r:=rs.map wc) (d:=wc (x1,x2,x3,x4)) rfl (sZ V.1) <| jO.mk (x:=x) (as:=as) rfl <| jm.mk (sp:=fm) rfl rfl rfl (hm x1 x2 x3 x4 _ g.1 g.2.1 g.2.2.1 g.2.2.2 ⟨rfl,?_⟩);have q:=hf x1 x2 x3 x4 g.1 g.2.2.1;obtain ⟨⟨i,j,k⟩,e⟩:∃b,f x1 x2 x3 x4=b:=⟨_,rfl⟩;rw [e] at q ⊢;refine l9 q λq1 q2 q3 q4=>?_;clear q;dsimp only at q1 q2 q3 q4;refine bw.dec (λhk=>?_) λhk=>?_
 ·have hk:k≠0:=λz=>hk (by refine ae (z ..) ?_;rfl)
  have gl:x1<=i/\i<=na/\x3<=j/\j<=nb:=(cB q1 (aD (aD (ba _ _) q2) g.2.1) q3 (aD (aD (ba _ _) q4) g.2.2.2));have gr:i+k<=x2/\x2<=na/\j+k<=x4/\x4<=nb:=(cB q2 g.2.1 q4 g.2.2.2);have W:aJ ⟨[],[fm]⟩ (.seq GC (.seq GD .nil)) (kN (b6 x as) (.int na) (.int nb) tl rs (bl++[(i,j,k)]) x1 x2 x3 x4 i j k) K:=
   acE V.1
    (λa=>Qw (by refine ae (aG ..) <| V.2) (λb=>h _ _ _ _ _ _ _ _ _ (CV hk q1 q2) ((ok.snoc gl).snoc gr) (Tz hf g.1 g.2.2.1 e hk a b hp)) λb=>h _ _ _ _ _ _ _ _ _ (Tv hk q1 q2) (ok.snoc gl) (TA hf g.1 g.2.2.1 e hk a b hp))
    λa=>Qw V.1 (λb=>h _ _ _ _ _ _ _ _ _ (Tw hk q1 q2) (ok.snoc gr) (TB hf g.1 g.2.2.1 e hk a b hp)) λb=>h _ _ _ _ _ _ _ _ _ Kq ok (TF hf g.1 g.2.2.1 e hk a b hp)
  unfold kN at W;rw [<-ta] at W;exact aw (sZ (fR hb (by decide))) W
 ·have hk:k=0:=wA (Su.mp hk);exact h _ _ _ _ _ _ _ _ _ Kq ok (Tx e hk hp)
theorem acG (hm:GH fm x as f na nb) (hf:lq f) (V:na<2 ^ 20) (ht:total.length<2 ^ 23) (e0:dY f (0,na,0,nb)=total)
  (h:∀(bl:List bc) (t5 t6 t7 t8 t9 bC bW aM:Tr),bl.Perm total->K .nx (b6 x as::.dat (.int na)::.dat (.int nb)::.dl []::.dl (bl.map eG)::t5::t6::t7::t8::t9::bC::bW::aM::tl)) :
  aJ ⟨[],[fm]⟩ (.mB (.tv (.var 3)) GF) (b6 x as::.dat (.int na)::.dat (.int nb)::.dl [.tuple [.int 0,.int na,.int 0,.int nb]]::.dl []::t5::t6::t7::t8::t9::bC::bW::aM::tl) K:=by
 refine ox.mk (λn σ=>∃rs bl t5 t6 t7 t8 t9 bC bW aM,gn rs=n/\n<2 ^ 23/\td na nb rs/\(bl++rs.flatMap (dY f)).Perm total/\σ=b6 x as::.dat (.int na)::.dat (.int nb)::.dl (rs.map wc)::.dl (bl.map eG)::t5::t6::t7::t8::t9::bC::bW::aM::tl) _
  ⟨[(0,na,0,nb)],[],_,_,_,_,_,_,_,_,rfl,?_,?_,?_,rfl⟩ λn σ J=>?_
 ·refine (?_:2*(na-0)+1+0<_);exact (cM (.c 2 (.k .c (.n 1048576)) (.c 2 (.q (.a .b .z) .c) .z)) (.a (.S (.m 2 .b)) .z) (.n 8388608) rfl V (aE (A6)))
 ·exact λr hr=>cQ.mp hr▸(cB (bA _) (aK _) (bA _) (aK _))
 ·rw [fE,AH,e0]
 ·obtain ⟨rs,bl,t5,t6,t7,t8,t9,bC,bW,aM,W,hn,ok,U,cu⟩:=J;subst W;subst cu;have hl:=CU rs;refine aw (by unfold small cc;refine ae (aY ..) ?_;omega) ?_
  clear hl;rcases List.eq_nil_or_concat rs with rfl | ⟨r,⟨x1,x2,x3,x4⟩,rfl⟩
  ·rw [HB,cL] at U;exact h _ _ _ _ _ _ _ _ _ U
  ·refine bw.yes (by refine ae (aeY ..) (ae (bH ..) ?_);cases r <;> rfl) ?_
   rw [aeY] at U hn ok ⊢;have hb:bl.length<2 ^ 23:=by
    have:=U.length_eq;rw [aG] at this;exact (dk (aD (ba _ _) (dm this)) ht)
   refine acF hm hf hn hb (ok _ (bj _ (.head _))) (λq hq=>ok q (bE _ hq)) U λrs' Ay y1 y2 y3 y4 i j k a b c=>⟨_,a,rs',Ay,_,_,_,_,_,_,_,_,rfl,fb a hn,b,c,rfl⟩
end
theorem Qx (st:bc×List bc) (b:bc):(gq st b).2.length<=st.2.length+1:=by
 unfold gq;split
 ·exact kU _
 ·dsimp only;split
  ·exact kU _
  ·exact dm (aG ..)
theorem Az (a b:Int):ah.eqv (.int a) (.int b)=decide (a=b):=by
 unfold ah.eqv;exact aez.mpr ⟨λh=>decide_eq_true (beq_iff_eq.mp h),λh=>beq_iff_eq.mpr (of_decide_eq_true h)⟩
section
variable {fs:cX}{K:KS}{acc:List bc}{i1 j1 k1:Nat}{R:SS}{t0 t1 t2 t3 t4 t5 t6 t7 t8 t9 bC bW aM b9 cb th:Tr}{b:bc}
noncomputable abbrev pf (t0 t1 t2 t3 t4 t5 t6 t7 t8 t9 bC bW aM:Tr) (c:bc) (acc:List bc) (b9 cb th:Tr):List Tr:=[t0,t1,t2,t3,t4,t5,t6,t7,t8,t9,bC,bW,aM,.dat (.int c.1),.dat (.int c.2.1),.dat (.int c.2.2),.dl (acc.map p8),b9,cb,th]
theorem Qy (hl:acc.length<2 ^ 24) (h:aJ fs R (pf t0 t1 t2 t3 t4 t5 t6 t7 t8 t9 bC bW aM b (if b.2.2=0 then acc else acc++[b]) b9 cb th) K):aJ fs (.seq Ax R) (pf t0 t1 t2 t3 t4 t5 t6 t7 t8 t9 bC bW aM b acc b9 cb th) K:=by
 refine bw.dec (λhk=>?_) λhk=>?_
 ·rw [if_neg λz=>hk (by refine ae (z ..) ?_;rfl)] at h
  unfold pf at h;rw [<-ta] at h;exact aw (aF rfl) (aw (sZ hl) h)
 ·rw [if_pos (wA (Su.mp hk))] at h;exact h
theorem acH (hl:acc.length<2 ^ 24) (h:K .nx (pf t0 t1 t2 t3 t4 t5 t6 t7 t8 t9 bC bW aM (gq (c,acc) b).1 (gq (c,acc) b).2 (.dat (.int b.1)) (.dat (.int b.2.1)) (.dat (.int b.2.2)))) :
  aJ fs GG (pf t0 t1 t2 t3 t4 t5 t6 t7 t8 t9 bC bW aM c acc (.dat (.int b.1)) (.dat (.int b.2.1)) (.dat (.int b.2.2))) K:=by
 unfold gq at h;have no:¬(c.1+c.2.2=b.1/\c.2.1+c.2.2=b.2.1)->aJ fs (.seq Ax (.seq (.fA [(13,.fr),(14,.fr),(15,.fr)] (.cons (.var 17) (.cons (.var 18) (.cons (.var 19) .nil)))) .nil)) (pf t0 t1 t2 t3 t4 t5 t6 t7 t8 t9 bC bW aM c acc (.dat (.int b.1)) (.dat (.int b.2.1)) (.dat (.int b.2.2))) K:=λe=>by
  rw [if_neg e] at h;exact Qy hl (aw (aF rfl) h)
 refine cq (Az _ _) ⟨rfl,rfl⟩ (bw.dec (λe1=>cq (Az _ _) ⟨rfl,rfl⟩ (bw.dec (λe2=>?_) λe2=>no λq=>e2 (congrArg Rk q.2))) λe1=>no λq=>e1 (congrArg Rk q.1));rw [if_pos ⟨wA e1,wA e2⟩] at h;exact h
theorem Qz:∀(bl:List bc) (c:bc) (acc:List bc) (b9 cb th:Tr),acc.length+bl.length<2 ^ 24->(∀a b d,K .nx (pf t0 t1 t2 t3 t4 t5 t6 t7 t8 t9 bC bW aM (bl.foldl gq (c,acc)).1 (bl.foldl gq (c,acc)).2 a b d))->
  du (eI fs [(17,.fr),(18,.fr),(19,.fr)] true GG) K (bl.map eG) (pf t0 t1 t2 t3 t4 t5 t6 t7 t8 t9 bC bW aM c acc b9 cb th):=@λA B C D F G H J=>match A,B,C,D,F,G,H,J with
 |[],c,acc,zz,U,V,W,h=>h _ _ _
 |b::bl,c,acc,zz,U,V,hl,h=>by
  rw [gL] at hl;refine acH (b:=b) (c:=c) (dk (ba _ _) hl) ?_;have:=Qx (c,acc) b;exact Qz bl _ _ _ _ _ (by dsimp only at this;omega) h
end
theorem GJ:∀(bl:List bc) (st:bc×List bc),(bl.foldl gq st).2.length<=st.2.length+bl.length:=@λA B=>match A,B with
 |[],zz=>aK _
 |b::r,st=>by
  have:=GJ r (gq st b);have:=Qx st b;refine ae (AI ..) (ae (gL ..) ?_);lia
theorem acI (bl:List bc) (a b:Nat):(joined bl a b).length<=bl.length+2:=by
 have:=GJ bl ((0,0,0),[]);unfold joined pW;refine ae (aG ..) ?_;rw [tU] at this;split
 ·refine (?_:_+1<=_);exact (cp (.l .b (.a .z .c)) (.S .b) (.a .c (.n 2)) rfl this)
 ·refine ae (aG ..) ?_;refine (?_:_+1+1<=_);exact (cp (.l .b (.a .z .c)) (.S (.S .b)) (.a .c (.n 2)) rfl this)
noncomputable def lW (fm:eF):eF:=λx as ds k=>ds=[]/\∃(f:Nat->Nat->Nat->Nat->bc) (aS bS:List Int),as[1]? = some (.tr (.dat (.list (intD aS))))/\as[2]? = some (.tr (.dat (.list (intD bS))))/\as[4]? = some (.tr (.dat .none))/\(aS.length<2000/\bS.length<2000)/\
 GH fm x as f aS.length bS.length/\lq f/\(dY f (0,aS.length,0,bS.length)).length<63/\(dY f (0,aS.length,0,bS.length)).Pairwise (λa b=>a.1<b.1)/\
 k (.list ((joined (dY f (0,aS.length,0,bS.length)) aS.length bS.length).map eG)) (as.set 4 (.tr (.dat (.list ((joined (dY f (0,aS.length,0,bS.length)) aS.length bS.length).map eG)))))
theorem acJ {fm:eF}(x:ak×ak) (as:List bu) (ds:List ah) (k:ah->List bu->Prop) (h:lW fm x as ds k):ds.length+1+0=1/\aJ ⟨[],[fm]⟩ Qv (b6 x as::init (ds++[]) 19) (lP x k):=by
 obtain ⟨V,f,aS,bS,h1,h2,h4,W,hm,hf,hl,hs,h⟩:=h;subst V;obtain ⟨la,lb⟩:=W;refine ⟨rfl,?_⟩;have lt:4<as.length:=(dU.mp h4).1;refine .mk rfl h4 <| .mk rfl h1 (ql la ?_);refine .mk rfl h2 (ql lb ?_);refine aw (aF rfl) <| aw (aF rfl) <| aw (aF rfl) <| aw (aF rfl) ?_;generalize e0:dY f (0,aS.length,0,bS.length)=total at *;refine acG hm hf (cF (.k .b (.n 2000)) .b (.n 1048576) rfl la) (cF (.k .b (.n 63)) .b (.n 8388608) rfl hl) e0 λbl t5 t6 t7 t8 t9 bC bW aM hp=>.mk rfl hp hs (by lia) <| aw (aF rfl) <| Qz total (0,0,0) [] _ _ _ (by show 0+_<_;omega) λa b d=>?_
 have hj:=GJ total ((0,0,0),[]);rw [tU] at hj;have U:=acI total aS.length bS.length;refine Qy (cM (.t (.k .c (.n 63)) (.l .b (.a .z .c))) .b (.n 16777216) rfl hl hj) <| aw (aF rfl) (aw (sZ ?_) ?_)
 ·unfold joined pW at U;rw [aG] at U;exact dk (aD (ba _ _) U) (cF (.k .b (.n 63)) (.a .b (.n 2)) (.n 16777216) rfl hl)
 ·refine .mk (bl:=joined total aS.length bS.length) (congrArg (λl=>some (Tr.dl l)) (ta p8 _ (aS.length,bS.length,0))) (by lia) <| .mk rfl ⟨cA lt,aF rfl⟩ ?_
  rw [show ∀a,mD as 4 a=as.set 4 a from λa=>if_pos lt];refine .mk rfl (Hg lt) ?_;exact av _ rfl h
noncomputable abbrev QA:SS:=.seq (.cS (.cmp .Lt (.var 17) (.var 3)) (.seq .cnt .nil) .nil) (.seq (.cS (.cmp .GtE (.var 17) (.var 4)) (.seq .brk .nil) .nil) (.seq (.fg [(.nm 18 .fr),(.qg 16 17)] (.bin .Add (.rS 15 (.cons (.bin .Sub (.var 17) (.lit (.int (1)))) (.cons (.lit (.int (0))) .nil))) (.lit (.int (1))))) (.seq (.cS (.cmp .Gt (.var 18) (.var 11)) (.seq (.fA [(9,.fr),(10,.fr),(11,.fr)] (.cons (.bin .Add (.bin .Sub (.var 14) (.var 18)) (.lit (.int (1)))) (.cons (.bin .Add (.bin .Sub (.var 17) (.var 18)) (.lit (.int (1)))) (.cons (.var 18) .nil)))) .nil) .nil) .nil)))
noncomputable abbrev QB:SS:=.seq (.asg 15 .own (.C9 12)) (.seq (.asg 16 .own (.kc false)) (.seq (.eu [(17,.fr)] false (.seq (.Dc 7 (.cons (.sub (.var 5) (.var 14)) (.cons (.var 13) .nil)))) QA) (.seq (.Dw 12 16) .nil)))
def qO (gd:Int->Option ah) (G:Int->Int):Prop:=∀x,(gd x).getD (.int 0)=.int (G x)
theorem qO.put {G:Int->Int}(h:qO U G) (j n:Int):qO (λx=>if x=j then some (.int n) else U x) λx=>if x=j then n else G x:=λx=>by
 by_cases e:x=j
 ·simp only [if_pos e];rfl
 ·simp only [if_neg e];exact h x
section
variable {fs:cX}{K:KS}{I t1 t2 t5 t6 t7 t8 aM bP:Tr}{blo bhi i:Int}{g0:Int->Option ah}{G:Int->Int}
noncomputable abbrev wg (I t1 t2:Tr) (blo bhi:Int) (t5 t6 t7 t8:Tr) (b:Int×Int×Int) (aM bP bK t15 br b9 cb:Tr):List Tr:=[I,t1,t2,.dat (.int blo),.dat (.int bhi),t5,t6,t7,t8,.dat (.int b.1),.dat (.int b.2.1),.dat (.int b.2.2),aM,bP,bK,t15,br,b9,cb]
theorem AA (hG:qO g0 G):∀(U:List Int) (n:Nat) (V:Int->Option ah) (N:Int->Int) (b:Int×Int×Int) (b9 cb:Tr),qO V N->n+U.length<2 ^ 24->
  (∀n' W b9 cb,qO W (inner G blo bhi i U (N,b)).1->K .nx (wg I t1 t2 blo bhi t5 t6 t7 t8 (inner G blo bhi i U (N,b)).2 aM bP (.dat (.int i)) (b7 (n6 g0)) (.fr (lx n' W)) b9 cb))->
  du (eI fs [(17,.fr)] false QA) K (intD U) (wg I t1 t2 blo bhi t5 t6 t7 t8 b aM bP (.dat (.int i)) (b7 (n6 g0)) (.fr (lx n V)) b9 cb):=@λA B C D F H J L M O=>match A,B,C,D,F,H,J,L,M,O with
 |[],n,V,N,b,b9,cb,ht,hn,h=>h _ _ _ _ ht
 |j::U,n,V,N,b,b9,cb,ht,hn,h=>by
  rw [gL] at hn;refine bw.dec (λe1=>?_) λe1=>?_
  ·rw [CS e1] at h;exact AA hG U n V N b _ _ ht (by lia) h
  ·refine bw.dec (λe2=>?_) λe2=>?_
   ·rw [Kl e1 e2] at h;exact h _ _ _ _ ht
   ·refine mh.get (g:=g0) rfl (lC.mk (c:=j-1) (d:=.int 0) rfl rfl ?_);refine (?_:one _ [aR ((g0 (j-1)).getD (.int 0))]);refine ae (hG (j-1) ..) <| yE.mk rfl rfl rfl (dk (ba _ _) hn) <| bw.dec (λe3=>?_) λe3=>?_
    ·rw [Ts e1 e2 e3] at h;refine aw (aF rfl) <| AA hG U (n+1) _ _ (i-(G (j-1)+1)+1,j-(G (j-1)+1)+1,G (j-1)+1) _ _ (ht.put j _) (by lia) h
    ·rw [Tt e1 e2 e3] at h;exact AA hG U (n+1) _ _ b _ _ (ht.put j _) (by lia) h
end
theorem m7 {ns:List Int}{i:Nat}(e:n=(i:Int)) (h:i<ns.length) (hl:ns.length<2 ^ 24) (hk:k i (.int (ns.getD i 0))):iG (intD ns) n k:=by
 subst e;have e1:(intD ns).length=ns.length:=aY ..;refine .mk (j:=i) (x:=.int (ns.getD i 0)) ?_ ?_ ⟨by exact (II),by exact (ub (.t (.k .b .c) (.k .c (.n 16777216))) .q (.n 9223372036854775808) rfl h hl)⟩ hk
 ·unfold l6;refine ae (e1 ..) ?_;dsimp only;rw [if_neg (kQ.mpr (pE i)),if_pos (kP.mpr ⟨decide_eq_true (pE i),decide_eq_true (cV.mpr h)⟩),kS]
 ·unfold intD;rw [fQ,eC h,iW,eC h];rfl
theorem acK (a b:Nat):dE a b=(gO a (b-a)).map λi=>.int (i:Nat):=by
 unfold dE;refine ae (List.range'_eq_map_range ..) (ae (qZ ..) (ae (Int.toNat_sub ..) ?_));rfl
section
variable {fs:cX}{K:KS}{I t1 t2 t6 t8:Tr}{blo bhi:Int}{bd:Int->Option ah}{idx:Int->List Int}{aS:List Int}
theorem QC (hB:∀c,(bd c).getD (.list [])=.list (intD (idx c))) (hI:∀c,(idx c).length<2 ^ 24) (hl:aS.length<2 ^ 24):∀(n i:Nat) (U:Int->Option ah) (G:Int->Int) (b:Int×Int×Int) (bK t15 br b9 cb:Tr),i+n<=aS.length->qO U G->
  (∀aM bK t15 br b9 cb,K .nx (wg I t1 t2 blo bhi (.dat (.list (intD aS))) t6 (b7 (fU bd)) t8 (outer (λi=>aS.getD i 0) idx blo bhi i n (G,b)).2 aM (.dat (.list [])) bK t15 br b9 cb))->
  du (eI fs [(14,.fr)] false QB) K ((gO i n).map λi=>.int (i:Nat)) (wg I t1 t2 blo bhi (.dat (.list (intD aS))) t6 (b7 (fU bd)) t8 b (b7 (fU U)) (.dat (.list [])) bK t15 br b9 cb):=@λA B C D F H J L M N O P Q=>match A,B,C,D,F,H,J,L,M,N,O,P,Q with
 |0,i,U,G,b,zz,zy,zx,zw,zv,hn,hG,h=>h _ _ _ _ _ _
 |n+1,i,U,G,b,zz,zy,zx,zw,zv,hn,hG,h=>by
  refine yl.mk (g:=U) rfl <| ym.mk (g:=bd) rfl <| m7 (i:=i) rfl (dQ (.l (.a .b (.S .d)) .c) .b .c rfl hn) hl <| lC.mk (c:=aS.getD i 0) (d:=.list []) rfl rfl ?_;refine (?_:one _ [aR ((bd (aS.getD i 0)).getD (.list []))]);refine ae (hB ..) <| AA (G:=G) hG (idx (aS.getD i 0)) 0 _ (λzz=>0) b _ _ (λzz=>rfl) (by refine ae (jf ..) <| hI _) λn' V P8 a18 W=>?_
  refine yD.mk (n:=n') (g:=V) rfl <| QC hB hI hl n (i+1) V _ _ _ _ _ _ _ (bL (.l (.a .b (.S .c)) .d) (.a (.S .b) .c) .d rfl hn) W h
end
noncomputable def jz (ng:Bool) (S:Int->Bool) (c:Int):Bool:=match ng with
 |true=>!S c
 |false=>S c
noncomputable abbrev QD (ng:Bool) (e:SE):SE:=match ng with
 |true=>.nt (.tv (.rS 8 (.cons e .nil)))
 |false=>.tv (.rS 8 (.cons e .nil))
noncomputable abbrev QE (ng:Bool):SS:=match ng with
 |true=>.seq (.aug 11 .Add (.lit (.int (1)))) .nil
 |false=>.seq (.asg 11 .fr (.bin .Add (.var 11) (.lit (.int (1))))) .nil
noncomputable abbrev GK (ng:Bool):SS:=.mB (.an (.cmp .Gt (.var 9) (.var 1)) (.an (.cmp .Gt (.var 10) (.var 3)) (.an (QD ng (.sub (.var 6) (.bin .Sub (.var 10) (.lit (.int (1)))))) (.cmp .Eq (.sub (.var 5) (.bin .Sub (.var 9) (.lit (.int (1))))) (.sub (.var 6) (.bin .Sub (.var 10) (.lit (.int (1))))))))) (.seq (.fA [(9,.fr),(10,.fr),(11,.fr)] (.cons (.bin .Sub (.var 9) (.lit (.int (1)))) (.cons (.bin .Sub (.var 10) (.lit (.int (1)))) (.cons (.bin .Add (.var 11) (.lit (.int (1)))) .nil)))) .nil)
noncomputable abbrev GL (ng:Bool):SS:=.mB (.an (.cmp .Lt (.bin .Add (.var 9) (.var 11)) (.var 2)) (.an (.cmp .Lt (.bin .Add (.var 10) (.var 11)) (.var 4)) (.an (QD ng (.sub (.var 6) (.bin .Add (.var 10) (.var 11)))) (.cmp .Eq (.sub (.var 5) (.bin .Add (.var 9) (.var 11))) (.sub (.var 6) (.bin .Add (.var 10) (.var 11))))))) (QE ng)
section
variable {fs:cX}{K:KS}{I t7 aM bP bK t15 br b9 cb:Tr}{alo ahi blo bhi:Nat}{aS bS:List Int}{S:Int->Bool}
noncomputable abbrev iy (I t7 aM bP bK t15 br b9 cb:Tr) (alo ahi blo bhi:Nat) (aS bS:List Int) (S:Int->Bool) (i j k:Nat):List Tr:=wg I (.dat (.int alo)) (.dat (.int ahi)) blo bhi (.dat (.list (intD aS))) (.dat (.list (intD bS))) t7 (b7 (p7 S)) (i,j,k) aM bP bK t15 br b9 cb
inductive qP (I t7 aM bP bK t15 br b9 cb:Tr) (alo ahi blo bhi:Nat) (aS bS:List Int) (S:Int->Bool) (E:Nat->Nat->Nat->Prop) (M:Nat->Nat->Nat) (n:Nat):List Tr->Prop
 |mk {i j k:Nat}:M i k=n->E i j k->alo<=i->i+k<=ahi->blo<=j->j+k<=bhi->qP I t7 aM bP bK t15 br b9 cb alo ahi blo bhi aS bS S E M n (iy I t7 aM bP bK t15 br b9 cb alo ahi blo bhi aS bS S i j k)
noncomputable abbrev QF (J:Nat->List Tr->Prop) (n:Nat) (K:KS):KS:=λf U=>match f with
 |.nx=>∃n',n'<n/\J n' U
 |.cnt=>∃n',n'<n/\J n' U
 |.brk=>K .nx U
 |.ret e=>K (.ret e) U
theorem QG (ng:Bool) (la:aS.length<2 ^ 24) (lb:bS.length<2 ^ 24) (ha:ahi<=aS.length) (hb:bhi<=bS.length) (h1:alo<=i) (h2:i+k<=ahi) (h3:blo<=j) (h4:j+k<=bhi)
  (h:∀i' j' k',ff (λi=>aS.getD i 0) (λi=>bS.getD i 0) (jz ng S) alo blo i j k=(i',j',k')->alo<=i'->i'+k'<=ahi->blo<=j'->j'+k'<=bhi->K .nx (iy I t7 aM bP bK t15 br b9 cb alo ahi blo bhi aS bS S i' j' k')) :
  aJ fs (GK ng) (iy I t7 aM bP bK t15 br b9 cb alo ahi blo bhi aS bS S i j k) K:=by
 generalize V:ff (λi=>aS.getD i 0) (λi=>bS.getD i 0) (jz ng S) alo blo i j k=T at h;refine ox.mk (qP I t7 aM bP bK t15 br b9 cb alo ahi blo bhi aS bS S (λi j k=>ff (λi=>aS.getD i 0) (λi=>bS.getD i 0) (jz ng S) alo blo i j k=T) λi k=>i) _ (.mk rfl V h1 h2 h3 h4) λn σ J=>?_;clear V h1 h2 h3 h4;obtain @⟨i,j,k,hn,V,g1,g2,g3,g4⟩:=J;subst hn;have stop:¬(alo<i/\blo<j/\jz ng S (bS.getD (j-1) 0)=true/\aS.getD (i-1) 0=bS.getD (j-1) 0)->K .nx (iy I t7 aM bP bK t15 br b9 cb alo ahi blo bhi aS bS S i j k):=λq=>h i j k (V.symm.trans (xR q)) g1 g2 g3 g4;refine bw.dec (λe1=>?_) λe1=>stop λq=>e1 (cV.mpr q.1);refine bw.dec (λe2=>?_) λe2=>stop λq=>e2 (cV.mpr q.2.1);have e1:=cV.mp e1;have e2:=cV.mp e2;have W:(i:Int)-1=((i-1:Nat):Int):=by exact (fP (J4 (aE (A2 e1)).symm) (J5 (aE (A2 e1))))
 have U:(j:Int)-1=((j-1:Nat):Int):=by exact (fP (J4 (aE (A2 e2)).symm) (J5 (aE (A2 e2))))
 have key:bw (jz ng S (bS.getD (j-1) 0)) (den fs (.cmp .Eq (.sub (.var 5) (.bin .Sub (.var 9) (.lit (.int (1))))) (.sub (.var 6) (.bin .Sub (.var 10) (.lit (.int (1)))))) (iy I t7 aM bP bK t15 br b9 cb alo ahi blo bhi aS bS S i j k) (one λv=>ly v λc=>bw c (aJ fs (.seq (.fA [(9,.fr),(10,.fr),(11,.fr)] (.cons (.bin .Sub (.var 9) (.lit (.int (1)))) (.cons (.bin .Sub (.var 10) (.lit (.int (1)))) (.cons (.bin .Add (.var 11) (.lit (.int (1)))) .nil)))) .nil) (iy I t7 aM bP bK t15 br b9 cb alo ahi blo bhi aS bS S i j k) (QF (qP I t7 aM bP bK t15 br b9 cb alo ahi blo bhi aS bS S (λi j k=>ff (λi=>aS.getD i 0) (λi=>bS.getD i 0) (jz ng S) alo blo i j k=T) λi k=>i) i K)) (K .nx (iy I t7 aM bP bK t15 br b9 cb alo ahi blo bhi aS bS S i j k)))) (K .nx (iy I t7 aM bP bK t15 br b9 cb alo ahi blo bhi aS bS S i j k)):=by
  refine bw.by (λe3=>?_) λe3=>stop λq=>El.ft (e3.symm.trans q.2.2.1)
  refine m7 (i:=i-1) W (xI ha g2 (aC W)) la <| m7 (i:=j-1) U (xI hb g4 (aC U)) lb <| cq (Az _ _) ⟨rfl,rfl⟩ (bw.dec (λe4=>?_) λe4=>stop λq=>e4 q.2.2.2);refine aw (aF rfl) <| av (i-1) (cM (.Q .q (.P .t)) .b .c rfl (aC W)) (W▸U▸qP.mk (i:=i-1) (j:=j-1) (k:=k+1) rfl ((Km (cB e1 e2 e3 e4)).symm.trans V) (J6 e1 W) (J7 g2 (aC W)) (J6 e2 U) (J7 g4 (aC U)))
 clear V stop;cases ng with
 |true=>
  refine mh.has (S:=S) rfl (m7 (i:=j-1) U (xI hb g4 (aC U)) lb (qb.mk (c:=bS.getD (j-1) 0) rfl rfl ?_));exact key
 |false=>
  refine mh.has (S:=S) rfl (m7 (i:=j-1) U (xI hb g4 (aC U)) lb (qb.mk (c:=bS.getD (j-1) 0) rfl rfl ?_));exact key
theorem QH (ng:Bool) (la:aS.length<2 ^ 24) (lb:bS.length<2 ^ 24) (ha:ahi<=aS.length) (hb:bhi<=bS.length) (h1:alo<=i) (h2:i+k<=ahi) (h3:blo<=j) (h4:j+k<=bhi)
  (h:∀k',fu (λi=>aS.getD i 0) (λi=>bS.getD i 0) (jz ng S) ahi bhi i j (ahi-(i+k)) k=k'->i+k'<=ahi->j+k'<=bhi->K .nx (iy I t7 aM bP bK t15 br b9 cb alo ahi blo bhi aS bS S i j k')) :
  aJ fs (GL ng) (iy I t7 aM bP bK t15 br b9 cb alo ahi blo bhi aS bS S i j k) K:=by
 generalize U:fu (λi=>aS.getD i 0) (λi=>bS.getD i 0) (jz ng S) ahi bhi i j (ahi-(i+k)) k=T at h;refine ox.mk (qP I t7 aM bP bK t15 br b9 cb alo ahi blo bhi aS bS S (λV W k=>V=i/\W=j/\fu (λi=>aS.getD i 0) (λi=>bS.getD i 0) (jz ng S) ahi bhi i j (ahi-(i+k)) k=T) λi k=>ahi-(i+k)) _ (.mk rfl (aL rfl rfl U) h1 h2 h3 h4) λn σ J=>?_;clear U h2 h4;clear h1 h3;obtain @⟨i,j,k,hn,⟨rfl,rfl,U⟩,g1,g2,g3,g4⟩:=J;subst hn;have stop:¬(i+k<ahi/\j+k<bhi/\jz ng S (bS.getD (j+k) 0)=true/\aS.getD (i+k) 0=bS.getD (j+k) 0)->K .nx (iy I t7 aM bP bK t15 br b9 cb alo ahi blo bhi aS bS S i j k):=λq=>h k (U.symm.trans (xS q _)) g2 g4;refine bw.dec (λe1=>?_) λe1=>stop λq=>e1 (cV.mpr q.1);refine bw.dec (λe2=>?_) λe2=>stop λq=>e2 (cV.mpr q.2.1);have e1:i+k<ahi:=cV.mp e1;have e2:j+k<bhi:=cV.mp e2;have ei:(i:Int)+k=((i+k:Nat):Int):=rfl;have ej:(j:Int)+k=((j+k:Nat):Int):=rfl;have key:bw (jz ng S (bS.getD (j+k) 0)) (den fs (.cmp .Eq (.sub (.var 5) (.bin .Add (.var 9) (.var 11))) (.sub (.var 6) (.bin .Add (.var 10) (.var 11)))) (iy I t7 aM bP bK t15 br b9 cb alo ahi blo bhi aS bS S i j k) (one λv=>ly v λc=>bw c (aJ fs (QE ng) (iy I t7 aM bP bK t15 br b9 cb alo ahi blo bhi aS bS S i j k) (QF (qP I t7 aM bP bK t15 br b9 cb alo ahi blo bhi aS bS S (λV W k=>V=i/\W=j/\fu (λi=>aS.getD i 0) (λi=>bS.getD i 0) (jz ng S) ahi bhi i j (ahi-(i+k)) k=T) λi k=>ahi-(i+k)) (ahi-(i+k)) K)) (K .nx (iy I t7 aM bP bK t15 br b9 cb alo ahi blo bhi aS bS S i j k)))) (K .nx (iy I t7 aM bP bK t15 br b9 cb alo ahi blo bhi aS bS S i j k)):=by
  refine bw.by (λe3=>?_) λe3=>stop λq=>El.ft (e3.symm.trans q.2.2.1)
  refine m7 (i:=i+k) ei (fR e1 ha) la <| m7 (i:=j+k) ej (fR e2 hb) lb <| cq (Az _ _) ⟨rfl,rfl⟩ (bw.dec (λe4=>?_) λe4=>stop λq=>e4 q.2.2.2);have J:∃n',n'<ahi-(i+k)/\qP I t7 aM bP bK t15 br b9 cb alo ahi blo bhi aS bS S (λV W k=>V=i/\W=j/\fu (λi=>aS.getD i 0) (λi=>bS.getD i 0) (jz ng S) ahi bhi i j (ahi-(i+k)) k=T) (λi k=>ahi-(i+k)) n' (iy I t7 aM bP bK t15 br b9 cb alo ahi blo bhi aS bS S i j (k+1)):=
   (av (ahi-(i+(k+1))) (nP (.t (.q (.a .b (.a .d (.S .f))) .h) (.q .h (.a .c (.a .d .f)))) .b .c rfl (aE (A8 e1)) (aE (A9 e1)).symm) (.mk rfl (aL rfl rfl ((Tu (cB e1 e2 e3 e4)).symm.trans U)) g1 (A8 e1) g3 (A8 e2)))
  clear U stop e3;cases ng with
  |true=>exact J
  |false=>exact J
 clear U stop;cases ng with
 |true=>
  refine mh.has (S:=S) rfl (m7 (i:=j+k) ej (fR e2 hb) lb (qb.mk (c:=bS.getD (j+k) 0) rfl rfl ?_));exact key
 |false=>
  refine mh.has (S:=S) rfl (m7 (i:=j+k) ej (fR e2 hb) lb (qb.mk (c:=bS.getD (j+k) 0) rfl rfl ?_));exact key
end
noncomputable abbrev QI:SS:=(.seq .nil (.seq (.mA [(5,.fr),(6,.fr),(7,.own),(8,.own)] (.tup (.cons (.er 0 1) (.cons (.er 0 2) (.cons (.er 0 7) (.cons (.has 0 8) .nil)))))) (.seq (.cS (.cmp .Is (.var 2) (.lit .none)) (.seq (.asg 2 .fr (.bi .len (.cons (.var 5) .nil))) .nil) .nil) (.seq (.cS (.cmp .Is (.var 4) (.lit .none)) (.seq (.asg 4 .fr (.bi .len (.cons (.var 6) .nil))) .nil) .nil) (.seq (.fA [(9,.fr),(10,.fr),(11,.fr)] (.cons (.var 1) (.cons (.var 3) (.cons (.lit (.int (0))) .nil)))) (.seq (.asg 12 .own (.kc true)) (.seq (.asg 13 .fr (.lst .nil)) (.seq (.eu [(14,.fr)] false (.qf (.var 1) (.var 2)) QB) (.seq (GK true) (.seq (GL true) (.seq (GK false) (.seq (GL false) (.seq (.ret (.fn 0 (.cons (.var 9) (.cons (.var 10) (.cons (.var 11) .nil))))) .nil)))))))))))))
noncomputable def AB:iE:=(false,λds k=>∃i j n:Int,ds=[.int i,.int j,.int n]/\k (C1 i j n))
noncomputable def lX:eF:=λx as ds k=>∃(alo ahi blo bhi:Nat) (aS bS:List Int) (idx:Int->List Int) (bd:Int->Option ah) (S:Int->Bool),ds=[.int alo,.int ahi,.int blo,.int bhi]/\as[1]? = some (.tr (.dat (.list (intD aS))))/\as[2]? = some (.tr (.dat (.list (intD bS))))/\as[7]? = some (.tr (b7 (fU bd)))/\as[8]? = some (.tr (b7 (jM S)))/\
 (∀c,(bd c).getD (.list [])=.list (intD (idx c)))/\(∀c,(idx c).length<2 ^ 24)/\(alo<=ahi/\ahi<=aS.length/\aS.length<2 ^ 24)/\(blo<=bhi/\bhi<=bS.length/\bS.length<2 ^ 24)/\k (eG (jj (λi=>aS.getD i 0) (λi=>bS.getD i 0) idx S alo ahi blo bhi)) as
theorem acL (x:ak×ak) (as:List bu) (ds:List ah) (k:ah->List bu->Prop) (h:lX x as ds k):ds.length+1+0=5/\aJ ⟨[AB],[]⟩ QI (b6 x as::init (ds++[]) 14) (lP x k):=by
 obtain ⟨alo,ahi,blo,bhi,aS,bS,idx,bd,S,bx,h1,h2,h7,h8,hB,hI,cu,jl,h⟩:=h;subst bx;obtain ⟨a1,U,V⟩:=cu;obtain ⟨b1,W,b3⟩:=jl;refine ⟨rfl,?_⟩;refine .mk rfl h1 <| .mk rfl h2 <| .mk rfl h7 <| yk.mk rfl h8 <| aw (aF rfl) <| aw (aF rfl) <| aw (aF rfl) <| aw (cB (CD) (Iu (.u (.l .b .c) (.l .c .d) (.k .d (.n 16777216))) .q (.n 4611686018427387904) rfl a1 U V) (CD) (ub (.t (.l .b .c) (.k .c (.n 16777216))) .q (.n 4611686018427387904) rfl U V)) <| ae (acK ..) <| QC (G:=λzz=>0) (b:=((alo:Int),(blo:Int),0)) hB hI V (ahi-alo) alo _ _ _ _ _ _ (bJ (.t (.l .f .d) (.q (.a .c .b) .f)) (.a .b .c) .d rfl U (aE (Lin.A0 a1))) (λzz=>rfl) λaM bK t15 br b9 cb=>?_;unfold jj at h;refine xM (Ko (λi=>aS.getD i 0) idx b1 a1) λi j n e c1 c2 c3 c4=>?_;rw [e] at h ⊢;refine QG true V b3 U W c1 c2 c3 c4 λi1 j1 n1 e1 c1 c2 c3 c4=>QH true V b3 U W c1 c2 c3 c4 λn2 e2 c2 c4=>QG false V b3 U W c1 c2 c3 c4 λi3 j3 n3 e3 c1 c2 c3 c4=>QH false V b3 U W c1 c2 c3 c4 λn4 e4 c2 c4=>⟨_,_,_,rfl,as,rfl,?_⟩;have f1:ff (λi=>aS.getD i 0) (λi=>bS.getD i 0) (λc=>!S c) alo blo (i:Int).toNat (j:Int).toNat (n:Int).toNat=(i1,j1,n1):=e1;have f2:fu (λi=>aS.getD i 0) (λi=>bS.getD i 0) (λc=>!S c) ahi bhi i1 j1 (ahi-(i1+n1)) n1=n2:=e2;have f3:ff (λi=>aS.getD i 0) (λi=>bS.getD i 0) S alo blo i1 j1 n2=(i3,j3,n3):=e3;have f4:fu (λi=>aS.getD i 0) (λi=>bS.getD i 0) S ahi bhi i3 j3 (ahi-(i3+n3)) n3=n4:=e4;dsimp only at h;rw [f1] at h;dsimp only at h;rw [f2] at h;rw [f3] at h;dsimp only at h;rw [f4] at h;exact h
section
variable {w:aW}{D:Nat}
abbrev jY (w:aW) (D:Nat) (a:Nat) (f:eF):Prop:=qA (K w.params) q (gN q loose) pw w D (.ref a) f
theorem mk (a:Nat) (h:qA (K w.params) q (gN q loose) pw w D (.ref a) g.spec) (U:g.val=.ref a:=by rfl) (b:ET (K w.params) g.nm a=true:=by kernel_rfl!) (n:g.nm≠ag.ofString "__init__":=by dsimp only;decide +kernel):Gq w D g:=aL (av a U b) (U▸h) (YN n)
theorem tn (j:Nat) (nm:ag) (doc:af) (a:Nat) (fs:bX) (H:Hn) (ps ls':List ag) (W:∀f∈fs.f,Gp w D f) (hm:∀g∈fs.m,Gq w D g) (U:∀x as ds k,sp x as ds k->ds.length+1+0=ps.length/\aJ (specs fs) ir (b6 x as::init (ds++[]) ls'.length) (lP x k))
  (hb:zN ps.length λvs=>w5 (fnAt 5 j nm .none doc (.ref a)) ⟨vs,[]⟩=pure (ps.zip vs)) (h1:(K w.params).lookup (a+1)=some ⟨.type "function",none,.func (fnAt 5 j nm .none doc (.ref a)),#[]⟩:=by kernel_rfl!) (h2:tM (K w.params) (.ref a) nm=true:=by kernel_rfl!) (ht:EV (kZ (mem 5 j)) ps ls':=by decide +kernel)
  (V:(qz 14 14 ⟨fs,kZ (mem 5 j),ps++ls'⟩ H (pR (mem 5 j))).ir=ir:=by kernel_rfl!):jY w (D+1) (a+1) sp:=E7 (dfl:=[]) (dds:=[]) ⟨h1,h2,ht⟩ (λzz=>rfl) ps.length rfl (λs zz vs hl=>.of_eq ((cL vs).symm▸sH _ hb vs hl)) ⟨vV _,vW w,W,hm⟩ V U
theorem acM:jY w (D+1) 188 v5:=tn (ir:=Qk) 5 "SequenceMatcher.__chain_b" .none 187 ⟨[],[]⟩ ⟨λi=>if ([6,8]:List Nat).contains i then .deep else if ([2,5]:List Nat).contains i then .n5 else .fr,[(242,999)]⟩ ["self"] ["b","b2j","i","elt","indices","junk","isjunk","popular","n","ntest","idxs"] gb gb acv λx=>aC (by kernel_rfl!)
noncomputable abbrev acN:Mn:=⟨ag.ofString "_SequenceMatcher__chain_b",.ref 188,v5⟩
noncomputable abbrev mS1:Mn:=⟨ag.ofString "set_seq1",.ref 174,v7⟩
noncomputable abbrev mS2:Mn:=⟨ag.ofString "set_seq2",.ref 181,v8⟩
theorem acO:jY w (D+1) 174 v7:=tn (ir:=Qm) 3 "SequenceMatcher.set_seq1" (fF (mem 5 3) 435) 173 ⟨[],[]⟩ H0 ["self","a"] [] gb gb acw λx y=>aC (by kernel_rfl!)
theorem acP:jY w (D+1+1) 181 v8:=tn (ir:=Qn) 4 "SequenceMatcher.set_seq2" (fF (mem 5 4) 444) 180 ⟨[],[acN]⟩ H0 ["self","b"] [] gb (cm.mpr (mk 188 acM)) acx λx y=>aC (by kernel_rfl!)
theorem acQ:jY w (D+1+1+1) 167 v9:=tn (ir:=Qo) 2 "SequenceMatcher.set_seqs" (fF (mem 5 2) 426) 166 ⟨[],[mS1,mS2]⟩ H0 ["self","a","b"] [] gb (cz.mpr ⟨mk 174 acO,cm.mpr (mk 181 acP)⟩) acy λx y z=>aC (by kernel_rfl!)
theorem acR (U:jY w D 196 fm):jY w (D+1) 203 (lW fm):=tn (ir:=Qv) 7 "SequenceMatcher.get_matching_blocks" (fF (mem 5 7) 517) 202 ⟨[],[⟨ag.ofString "find_longest_match",.ref 196,fm⟩]⟩ ⟨λi=>if ([3,4,16]:List Nat).contains i then .own else .fr,[]⟩ ["self"] ["la","lb","queue","matching_blocks","alo","ahi","blo","bhi","i","j","k","x","i1","j1","k1","non_adjacent","i2","j2","k2"] gb (cm.mpr (mk 196 U)) acJ λx=>aC (by kernel_rfl!)
theorem QJ:jY w (D+1+1+1+1) 160 sY:=
 E7 (dd:=14) (nn:=14) (fs:=⟨[],[⟨ag.ofString "set_seqs",.ref 167,v9⟩]⟩) (H:=H0) (ir:=Qp) (ps:=["self","isjunk","a","b","autojunk"]) (ls':=[]) (dfl:=[.bool true]) (dds:=[.bool true]) ⟨(by kernel_rfl! : (K w.params).lookup 160=some ⟨.type "function",none,.func (fnAt 5 1 "SequenceMatcher.__init__" (.ref 153) (fF (mem 5 1) 416) (.ref 159)),#[]⟩),by kernel_rfl!,by decide +kernel⟩ (λzz=>.one (.bool _)) 4 rfl (λs X=>sH 4 λx a b c=>.of_defaults rfl (X _ _ (by kernel_rfl! : (K w.params).lookup 153=some (xe w.params))) rfl rfl rfl) ⟨vV _,vW w,gb,cm.mpr (mk 167 acQ)⟩ (by kernel_rfl!) acz
theorem acS (U:mT (K w.params) q (gN q loose) pw w D (λvs=>call (.ref 135) vs) AB):jY w (D+1) 196 lX:=
 E7 (dd:=14) (nn:=14) (fs:=⟨[⟨ag.ofString "Match",.ref 135,AB⟩],[]⟩) (H:=⟨λi=>if ([12]:List Nat).contains i then .n5 else if ([7,8,15,16]:List Nat).contains i then .own else .fr,[]⟩) (ir:=QI) (ps:=["self","alo","ahi","blo","bhi"]) (ls':=["a","b","b2j","isbjunk","besti","bestj","bestsize","j2len","nothing","i","j2lenget","newj2len","j","k"]) (dfl:=[]) (dds:=[]) ⟨Zf _,Zg _,by decide +kernel⟩ (λzz=>rfl) 5 rfl (λs X=>sH 5 λx a b c d=>Zi X x a b c d) ⟨vV _,vW w,cm.mpr (fk U),gb⟩ (by kernel_rfl!) acL
theorem acT {gm:eF}(mono:∀x as ds (k k':ah->List bu->Prop),(∀d as,k d as->k' d as)->gm x as ds k->gm x as ds k') (hg:jY w D 203 gm):jY w (D+1) 210 (pd gm):=tn (ir:=Qr) 8 "SequenceMatcher.get_opcodes" (fF (mem 5 8) 532) 209 ⟨[],[⟨ag.ofString "get_matching_blocks",.ref 203,gm⟩]⟩ ⟨λi=>if ([3]:List Nat).contains i then .own else .fr,[]⟩ ["self"] ["i","j","answer","ai","bj","size","tag"] gb (cm.mpr (mk 203 hg)) (acD mono) λx=>aC (by kernel_rfl!)
end
theorem acU:mT (K w.params) q (gN q loose) pw w (D+1) (λvs=>call (.ref 135) vs) AB:=by
 intro C e1 e2 W P m vs ds k s Q F hP hd hs hQ;refine ma hs λi j n U hk=>?_;clear hs;subst U;obtain ⟨X,T,hh,iJ,hu⟩:=W;refine pV T ?_;clear T;intro means mg mb T;refine aO hd.ig λv1 wr U d1 dr=>?_;clear hd;subst U;refine aO dr.ig λv2 wr2 U d2 qo=>?_;subst U;refine aO qo.ig λv3 wr3 U d3 dr3=>?_;subst U;obtain rfl:=dr3.mf;refine El.ea d1.jJ λt1 U=>?_;subst U;refine El.ea d2.jJ λt2 U=>?_;subst U;refine El.ea d3.jJ λt3 U=>?_;subst U;refine jB (ZC (X.keeps F.keep) (λA' Q' E' qu=>cls_sm F X (ZM _) (ZN _) (ZO _) (ZP _) rfl (qu _)) λtk=>?_);refine PQ (A:=C.A.under _) e1 e2 hh (ZI (base:=C.h₀) T F.keep (by show C.A.depth+iz.weight _<_;refine ae (ZK ..) ?_;omega) (λx dx h' vU V hx hn=>?_) X rfl)
 dsimp only at V hx hn ⊢;exact ⟨(iC dx _ V hn),hQ (.ref x) _ [(x,xW dx #[.int i _,.int j _,.int n _])] h' vU ⟨F.ns.keeps V,λb o e=>V _ _ (F.keep b o e),F.above⟩ (λb o zz e=>V b o e) (cm.mpr ⟨hn,hx⟩) (bR.mpr ⟨(λh=>El.nm h),gW⟩) (.mt (.inr (.head _))) hk⟩
theorem acV (x:ak×ak) (as:List bu) (ds:List ah) (k k':ah->List bu->Prop) (hk:∀d as,k d as->k' d as) (h:lW lX x as ds k):lW lX x as ds k':=by
 obtain ⟨e,f,aS,bS,U,V,W,l,hm,hf,hl,hs,h⟩:=h;exact ⟨e,f,aS,bS,U,V,W,l,hm,hf,hl,hs,hk _ _ h⟩
theorem acW:jY w (D+1+1+1+1) 210 (pd (lW lX)):=acT acV (acR (acS acU))
theorem QK {as bs:List Int}{L:List bc}{R:List cC}(h:kI as bs L s R):(jI (joined L as.length bs.length)).2.length<1000/\(joined L as.length bs.length).length<400:=by
 have:=h.len;have e:(joined L as.length bs.length).length=L.length+1:=by refine ae (h.join ..) (ae (aG ..) ?_);rfl
 exact ⟨dk (TO _) (by refine ae (e ..) <| (cF (.c 2 (.k .b (.n 63)) .z) (.m 2 (.S .b)) (.n 1000) rfl this)),by exact (cM (.t (.k .c (.n 63)) (.q .b (.S .c))) .b (.n 400) rfl this e)⟩
theorem QL {as bs:List Int}{L:List bc}{R:List cC}(U:kI as bs L s R) (na:as.length<200) (nb:bs.length<200) (hb:Av bs bd) (h:∀V,k (.list ((jI (joined L as.length bs.length)).2.map gE)) V):pd (lW lX) x (Au as bs true bd) [] k:=by
 have e:dY (jj (λi=>as.getD i 0) (λi=>bs.getD i 0) (places (λi=>bs.getD i 0) bs.length) λzz=>false) (0,as.length,0,bs.length)=L:=U.blocks.ro (bA _) (bA _) (aK _);have W:∀c,(places (λi=>bs.getD i 0) bs.length c).length<2 ^ 24:=λc=>dk (places_len _ _ c) (fb nb (by decide))
 refine ⟨rfl,rfl,rfl,(jj (λi=>as.getD i 0) (λi=>bs.getD i 0) (places (λi=>bs.getD i 0) bs.length) λzz=>false),as,bs,rfl,rfl,rfl,⟨fb na (by decide),fb nb (by decide)⟩,(λalo ahi blo bhi k h1 h2 h3 h4 hk=>⟨alo,ahi,blo,bhi,as,bs,_,bd,_,rfl,rfl,rfl,rfl,rfl,hb,W,(aL h1 h2 (fb na (by decide))),(aL h3 h4 (fb nb (by decide))),hk⟩),Kr _ _ _ _,ae (e ..) ⟨U.len,U.pw,_,rfl,(QK U).2,h _⟩⟩
noncomputable abbrev QM:cX:=⟨[vw,zY],[sY,pd (lW lX)]⟩
noncomputable abbrev GN (i:Nat):SE:=.yb 1 (.new 0 (.cons (.lit .none) (.cons (.var 0) (.cons (.var i) .nil)))) .nil
theorem acX (ns:List Int) (d:Nat):jN (intD ns) (some (d:Int)) none=intD (ns.drop d):=by
 refine ae (vv ..) ?_;unfold intD;refine (?_:nC (_-iV _ (d:Int)) (kX (iV _ (d:Int)) _)=_);refine ae (qE ..) (ae (aY ..) (ae (w7 ..) ?_));by_cases h:d<=ns.length
 ·refine ae (iB h ..) <| pM (by refine ae (hU ..) (ae (aY ..) ?_);exact aK _)
 ·refine ae (w6 (cA (dg.mp h)) ..) ?_;refine (?_:nC (ns.length-ns.length) _=_);exact ae (xa ..) (ae (So ..) (ae (RC (by rw [aY];exact (cA (dg.mp h))) ..) rfl))
section
variable {bs ts:List Int}{σ:List Tr}{L:List bc}
theorem QN {R:List cC}(U:kI bs ts L sd R) (hi:i=1/\t1=.dat (.list (intD ts))∨i=2/\t2=.dat (.list (intD ts))) (nb:bs.length<200) (nt:ts.length<200) (h:k [aR (.list (eT R))]) :
  den QM (.fn 0 (.cons (GN i) (.cons (.var 0) (.cons (.var i) (.cons (.lit (.int sd)) .nil))))) (.dat (.list (intD bs))::t1::t2::tl) k:=by
 have fin:vw.2 [.list ((jI (joined L bs.length ts.length)).2.map gE),.list (intD bs),.list (intD ts),.int sd] λd=>k [aR d]:=(nU _ bs ts sd rfl (cB U.alt (fb nb (by decide)) (fb nt (by decide)) (QK U).1) (by refine ae (U.chg ..) <| h))
 rcases hi with ⟨rfl,rfl⟩ | ⟨rfl,rfl⟩
 ·refine λx=>.mk (sp:=sY) rfl rfl rfl (i4 bs ts rfl rfl nt (λbd hb=>⟨rfl,?_⟩));exact .mk (.mk (sp:=pd (lW lX)) rfl rfl rfl (QL U nb nt hb λzz=>fin))
 ·refine λx=>.mk (sp:=sY) rfl rfl rfl (i4 bs ts rfl rfl nt (λbd hb=>⟨rfl,?_⟩));exact .mk (.mk (sp:=pd (lW lX)) rfl rfl rfl (QL U nb nt hb λzz=>fin))
end
theorem acY (hc:c.2.1<2048/\c.2.2.1<2) (hd:d.2.1<2048/\d.2.2.1<2) (h:kJ c<kJ d):vI (oR c) (oR d)=some true:=by
 have step:∀{a b:Nat}{xs ys:List ah}{p:Prop},(a<b∨a=b/\p)->(p->kH xs ys=some true)->kH (.int a::xs) (.int b::ys)=some true:=λ{a b xs ys p} h g=>by
  refine (?_:(if (a:Int)=b then kH xs ys else some (decide ((a:Int)<b)))=_);rcases h with h | ⟨rfl,h⟩
  ·exact ae (if_neg (λV=>(IS h (aC V))) ..) (ae (decide_eq_true (cV.mpr h) ..) rfl)
  ·refine ae (if_pos rfl ..) <| g h
 have h:=(aaQ hc hd).mpr h;exact step (p:=c.2.1<d.2.1∨c.2.1=d.2.1/\(c.2.2.1<d.2.2.1∨c.2.2.1=d.2.2.1/\False)) (Or.elim h (λU=>(.inl (cM (.K .q .t) .b .c rfl U))) λU=>(.inr ⟨(aN (IT U.1) (IT (aC U.1))),(by lia)⟩)) λh=>step h λh=>step h λh=>h.elim
theorem acZ {bs:List Int}(h:iL bs c):sJ (oR c):=
 have i:∀n:Int,fw (.int n):=λn=>(Lay.int n).shaped (by decide)
 .mk (cz.mpr ⟨i _,cz.mpr ⟨i _,cz.mpr ⟨i _,cz.mpr ⟨(Lay.str (Fg h.2.1)).shaped (by decide),cm.mpr (kF _)⟩⟩⟩⟩)
noncomputable def QO:SS:=(.seq (.asg 3 .own (.fn 0 (.cons (GN 1) (.cons (.var 0) (.cons (.var 1) (.cons (.lit (.int (0))) .nil)))))) (.seq (.asg 3 .own (.fn 1 (.cons (.bin .Add (.var 3) (.fn 0 (.cons (GN 2) (.cons (.var 0) (.cons (.var 2) (.cons (.lit (.int (1))) .nil)))))) .nil))) (.seq (.fA [(4,.own),(5,.own),(6,.fr)] (.cons (.lst .nil) (.cons (.lst .nil) (.cons (.lit (.int (0))) .nil)))) (.seq Qc (.seq (.seq (.fz 4) (.ret (.tup (.cons (.var 4) (.cons (.bin .Add (.var 5) (.slc (.var 0) (.var 6) .nil)) .nil))))) .nil)))))
structure ac0 (bs o1 o2:List Int) (T:List gH) (M:List Ent):Prop where
 m:∃L1 L2 R R0 R1 n,z9 bs o1 o2 T M L1 L2 R R0 R1 n
 t:T.length<=900
 e:M.length<=900
noncomputable def mergeF:iE:=(false,λds k=>∃bs o1 o2 T M,ds=[.list (intD bs),.list (intD o1),.list (intD o2)]/\ac0 bs o1 o2 T M/\k (vY T M))
theorem ac1 (h:mergeF.2 ds k):ds.length=3/\aJ QM QO (init ds 18) (ju k):=by
 obtain ⟨bs,o1,o2,T,M,e,bx,h⟩:=h;obtain ⟨⟨L1,L2,R,R0,R1,n,U⟩,nT,nM⟩:=bx;subst e;have hp:=U.perm;have V:=U.iI;have nb:=U.nb;have bd:∀c∈R,c.2.1<2048/\c.2.2.1<2:=λc hc=>by
  have:=U.ok c hc;unfold iL at this;exact ⟨(cM (.t (.k .c (.n 200)) (.l .b .c)) .b (.n 2048) rfl nb this.2.2.2.1),(by (clear V nM nT;omega))⟩
 refine ⟨rfl,?_⟩;refine QN (sd:=0) U.one (.inl ⟨rfl,rfl⟩) nb U.n1 <| QN (sd:=1) U.other (.inr ⟨rfl,rfl⟩) nb U.n2 ?_;have lp:=hp.length_eq;rw [aG] at lp;refine aw (by refine (?_:(eT _).length+(eT _).length<=_);unfold eT cc;refine ae (aY ..) (ae (aY ..) ?_);exact (bL (.t (.k .d (.n 64)) (.q (.a .b .c) .d)) (.a .b .c) (.n 16777216) rfl V (aC lp))) (Fe ?_)
 refine eJ _ (eJ (eT R) (aw rfl (aw (cB ?_ ?_ ?_ (λr W=>?_)) ?_)))
 ·unfold eT;refine ae (bH ..).symm <| (hp.map oR).symm
 ·unfold eT;rw [rh];exact U.sort.imp_of_mem λha hb h=>acY (bd _ ha) (bd _ hb) h
 ·unfold eT;refine ae (aG ..) (ae (aY ..) (ae (aY ..) ?_));exact (dQ (.t (.k .d (.n 64)) (.q (.a .b .c) .d)) (.a .b .c) (.n 64) rfl V (aC lp))
 ·unfold eT at W;rw [<-bH] at W;refine ar (bf.mp W) λc hc e=>?_;clear W;subst e;exact acZ (U.ok c (hp.mem_iff.mpr hc))
 repeat refine vg rfl ?_
 refine acu .mk (fb nb (by decide)) U.ok (cA V) U.mrg nT nM λd M' tl ht e=>aw (Fb (ns:=bs) (fb nb (by decide))) (.mk (acX bs d) ?_)
 have lM:=congrArg Bv e;rw [aG,aY,hU] at lM;refine aw (by refine (?_:(M'.map d9).length+(intD _).length<=_);refine ae (aY ..) (ae (iq ..) (ae (hU ..) ?_));unfold cc;exact (bL (.t (.l .d (.n 900)) (.q (.a .b .c) .d)) (.a .b .c) (.n 16777216) rfl nM (aC lM))) (.mk (w:=M.map d9) (by exact ae (e ..) (ae (bH ..) (ae (qK ..) rfl))) ?_)
 repeat refine vg rfl ?_
 exact h
section
variable {w:aW}{D:Nat}
theorem ac2 (P:aV):makesIn (K P) 242=true:=by kernel_rfl!
theorem ac3 (P:aV):tL (K P) (.ref 242) "__init__"=some (some (.ref 160)):=by kernel_rfl!
theorem ac4 (P:aV):isFn (K P) (.ref 160)=true:=by kernel_rfl!
noncomputable abbrev Hmg:Hn:=⟨λi=>if ([3,4,5,9,10,11]:List Nat).contains i then .own else .fr,[(534,9),(537,4)]⟩
noncomputable abbrev ac5:Mn:=⟨ag.ofString "__init__",.ref 160,sY⟩
noncomputable abbrev ac6:Mn:=⟨ag.ofString "get_opcodes",.ref 210,pd (lW lX)⟩
noncomputable abbrev chN:Fn:=⟨ag.ofString "_law_changes",.ref 273,vw⟩
theorem ac7:qJ w (D+7) 280 mergeF:=sW (ir:=QO) 12 "_law_merge" 279 ⟨[chN,vX],[ac5,ac6]⟩ Hmg ["base","one","other"] ["rows","told","merged","done","low","high","words","ways","reach","i1","i2","side","tag","text","old","left","right","way"] (cz.mpr ⟨fk ab3,cm.mpr PS⟩)
  (cz.mpr ⟨(aL (av 160 rfl (by kernel_rfl!)) QJ (aak (ac2 _) (ac3 _) (ac4 _) QJ (by kernel_rfl!) (by kernel_rfl!))),cm.mpr (mk 210 acW)⟩) (λds k h=>ac1 h) λx y z=>aC (by kernel_rfl!)
end
end Internal.Mine
end
section
namespace Internal.Pure
noncomputable def iO (so x:Int):Nat:=(3+x % so).toNat
noncomputable def fD (so:Int) (n:Nat) (x:Int):List Int:=(iR (iO so x)).map λd=>16*(n:Int)+2*(d:Nat)
noncomputable def fO (so x:Int):Nat:=(1+x / 3 / 16 % ((iO so x:Int)-2)).toNat
noncomputable def cx (x:Int):Nat:=(x / 3 / 4 % 4).toNat
noncomputable def dI (so:Int) (n:Nat) (x:Int):Int:=16*(n:Int)+2*(fO so x:Nat)
noncomputable def eX (so:Int) (n:Nat) (x:Int):Pe where
 a:=(fD so n x).take (fO so x)
 o:=if cx x=1∨cx x=2 then [dI so n x] else []
 n:=if cx x=2∨cx x=3 then [dI so n x+1] else []
 b:=if cx x=0∨cx x=3 then dI so n x::(fD so n x).drop (fO so x+1) else (fD so n x).drop (fO so x+1)
 x:=if cx x=3 then [] else [dI so n x]
section
variable {so:Int}(hs:0<so/\so<=3)
include hs
theorem pj (x:Int):3<=iO so x/\iO so x<=5/\(iO so x:Int)=3+x % so:=by
 have U:=Rh x (by exact (λV=>(Iz (.t (.K .z .b) (.Q .b .z)) rfl hs.1 V)):so≠0)
 have W:=Bw x hs.1;unfold iO;exact aL (Iw (.t (.L .z .b) (.Q (.a (.n 3) .b) .q)) (.n 3) .b rfl U (dh (xq U)).symm) (Tc (.u (.L .b (.n 3)) (.K .c .b) (.Q .q (.a (.n 3) .c))) .b (.n 5) rfl hs.2 W (dh (xq U))) (fP (k8 (.Q .q (.a (.n 3) .b)) .q (.a (.n 3) .b) rfl (dh (xq U))) (k8 (.Q (.a (.n 3) .b) .q) (.a (.n 3) .b) .q rfl (dh (xq U)).symm))
theorem qQ (x:Int):1<=fO so x/\fO so x+1<iO so x/\(fO so x:Int)=1+x / 3 / 16 % ((iO so x:Int)-2):=by
 refine cg (pj hs x) λW l2 zz=>?_;have U:=Rh (x / 3 / 16) (by exact (λV=>(l8 (.t (.l (.n 3) .b) (.Q (.s .q (.n 2)) .z)) rfl W V)):((iO so x:Int)-2)≠0)
 have h2:=Bw (x / 3 / 16) (by exact (IJ W):0<((iO so x:Int)-2))
 unfold fO;exact aL (Iw (.t (.L .z .b) (.Q (.a .u .b) .q)) .u .b rfl U (dh (xu U)).symm) (Iv (.t (.K .b (.s .t (.n 2))) (.Q .q (.a .u .b))) (.S .b) .c rfl h2 (dh (xu U))) (fP (k8 (.Q .q (.a .u .b)) .q (.a .u .b) rfl (dh (xu U))) (k8 (.Q (.a .u .b) .q) (.a .u .b) .q rfl (dh (xu U)).symm))
omit hs in
theorem tq (x:Int):cx x<4/\(cx x:Int)=x / 3 / 4 % 4:=by
 unfold cx;exact ⟨(IK (dh (A3 (rr _ _ (by decide)))) (Bw _ (by decide))),(fP (IL (dh (A3 (rr _ _ (by decide))))) (IM (dh (A3 (rr _ _ (by decide)))).symm))⟩
omit hs in
theorem wi (n:Nat) (x:Int):(fD so n x).length=iO so x:=by unfold fD;exact ae (aY ..) (ae (pK ..) rfl)
theorem QP (n:Nat) (x:Int):(fD so n x)[fO so x]? = some (dI so n x):=by
 refine cg (qQ hs x) λV U zz=>?_;unfold fD dI;rw [fQ,aey (dk (kU _) U)];rfl
theorem ac8 (n:Nat) (x:Int):fD so n x=(fD so n x).take (fO so x)++(dI so n x::(fD so n x).drop (fO so x+1)):=by
 have h:=QP hs n x;obtain ⟨U,V⟩:=dU.mp h
 conv=>lhs;rw [<-HR (fO so x) (fD so n x),AS U,V]
theorem wj (n:Nat) (x:Int):(eX so n x).t=fD so n x:=by
 have U:=(tq x).1;have e:=ac8 hs n x;unfold Pe.t eX;dsimp only;have:cx x=0∨cx x=1∨cx x=2∨cx x=3:=by lia
 rcases this with h | h | h | h <;> rw [h] <;> simp <;> exact e.symm
omit hs in
theorem QQ (n:Nat) (x:Int):(eX so n x).d=(fD so n x).take (fO so x)++((if cx x=0 then [dI so n x] else if cx x=1 then [] else if cx x=2 then [dI so n x+1] else [dI so n x+1,dI so n x])++(fD so n x).drop (fO so x+1)):=by
 have U:=(tq x).1;unfold Pe.d eX;dsimp only;have:cx x=0∨cx x=1∨cx x=2∨cx x=3:=by lia
 rcases this with h | h | h | h <;> rw [h] <;> simp
omit hs in
theorem QR (n:Nat) (x:Int):(eX so n x).m=if cx x=0 then [] else if cx x=1 then ["delete"] else if cx x=2 then ["replace"] else ["insert"]:=by
 have U:=(tq x).1;unfold Pe.m eX;dsimp only;have:cx x=0∨cx x=1∨cx x=2∨cx x=3:=by lia
 rcases this with h | h | h | h <;> rw [h] <;> rfl
omit hs in
theorem ac9 (n:Nat) (x:Int):(eX so n x).m≠[]->(eX so n x).x=(eX so n x).o:=by
 refine ae (QR ..) ?_;have U:=(tq x).1;unfold eX;dsimp only;have:cx x=0∨cx x=1∨cx x=2∨cx x=3:=by lia
 rcases this with h | h | h | h <;> rw [h] <;> simp
omit hs in
theorem GO (h:z∈fD so n x):∃d,d<iO so x/\z=16*(n:Int)+2*(d:Nat):=by
 refine ar (bf.mp h) λd hd e=>av d (pO.mp hd) e.symm
omit hs in
theorem GP (h:z∈(eX so n x).n):z=dI so n x+1:=by
 unfold eX at h;dsimp only at h;split at h
 ·exact cQ.mp h
 ·exact El.nm h
theorem QS (n:Nat) (x:Int):(eX so n x).t.length<=5/\(eX so n x).d.length<=6:=by
 refine cg (pj hs x) λV l2 zz=>cg (qQ hs x) λW U zz=>ae (wj hs ..) (ae (QQ ..) (ae (aG ..) (ae (aG ..) (ae (jg ..) (ae (hU ..) (ae (wi ..) ?_))))));refine ⟨l2,?_⟩;have:(if cx x=0 then [dI so n x] else if cx x=1 then [] else if cx x=2 then [dI so n x+1] else [dI so n x+1,dI so n x]).length<=2:=by
  split
  ·exact kU _
  ·split
   ·exact bA _
   ·split
    ·exact kU _
    ·exact aK _
 exact (dD (.y (.l .f (.n 5)) (.l .c (.n 2)) (.q .b .h) (.q (.a .d (.S .h)) .f)) (.a .b (.a .c .d)) (.n 6) rfl l2 this (iB (Cu U)) (aE (IP U)))
theorem ada (xs:List Int) (N:Nat):iN (λn=>eX so n (xs.getD n 0)) N:=by
 refine ⟨λn _=>?_,λn _=>?_,λn _=>?_,λm n z _ _ V U=>?_,λm n z _ _ V U=>?_,λm n z _ _ V U=>?_⟩
 ·refine cg (qQ hs (xs.getD n 0)) λa1 W zz=>?_;have l:=wi (so:=so) n (xs.getD n 0);constructor
  ·intro e;have:=congrArg Bv e;unfold eX at this;dsimp only at this;rw [jg,tU] at this;exact (ka (.u (.l .u .b) (.q .c .z) (.q .b .c)) rfl a1 this (iB (bL (.t (.k (.S .b) .d) (.q .d .c)) .b .c rfl W (aC l))).symm)
  ·intro e;have:=congrArg Bv e;unfold eX at this;dsimp only at this;split at this
   ·exact sz this
   ·rw [hU,tU] at this;exact (ue (.y (.k (.S .b) .c) (.q .c .d) (.q .f .z) (.q .d (.a .f (.S .b)))) rfl W (aC l) this (aE (bL (.t (.k (.S .b) .d) (.q .d .c)) (.S .b) .c rfl W (aC l))).symm)
 ·refine ae (wj hs ..) ?_;unfold fD;refine rh.mpr (aeZ.imp λ{a b} h e=>h ?_);exact (aN (eM (.c3 _ _ _) .z 2 (.Q (.a (.m 16 .x) (.m 2 .q)) (.a (.m 16 .x) (.m 2 .t))) .b .c rfl e) (eM (.c3 _ _ _) .z 2 (.Q (.a (.m 16 .x) (.m 2 .q)) (.a (.m 16 .x) (.m 2 .t))) .b .c rfl (aC e)))
 ·unfold eX;dsimp only;split
  ·exact bR.mpr ⟨λh=>El.nm h,gW⟩
  ·exact gW
 ·rw [wj hs] at V U;refine ar (GO V) λd hd e=>ar (GO U) λd' iJ e'=>?_;have fi:=(pj hs (xs.getD m 0)).2.1;have fh:=(pj hs (xs.getD n 0)).2.1;exact (aN (eM (.c5 _ _ _ _ _) (.c1 _) 16 (.c 1 (.Q (.a (.m 16 .q) (.m 2 .x)) .b) (.c 2 (.k .f .h) (.c 1 (.Q .b (.a (.m 16 .t) (.m 2 .y))) (.c 2 (.l .h (.n 5)) .z)))) .b .c rfl (aC e) iJ e' fh) (eM (.c5 _ _ _ _ _) (.c1 _) 16 (.c 2 (.k .d .f) (.c 1 (.Q .b (.a (.m 16 .t) (.m 2 .x))) (.c 1 (.Q (.a (.m 16 .q) (.m 2 .o4)) .b) (.c 2 (.l .f (.n 5)) .z)))) .b .c rfl hd e (aC e') fi))
 ·rw [wj hs] at U;refine ar (GO U) λd hd e=>?_;have:=GP V;unfold dI at this;lia
 ·have e1:=GP V;have e2:=GP U;unfold dI at e1 e2;have kL:=(qQ hs (xs.getD m 0)).2.1;have mY:=(qQ hs (xs.getD n 0)).2.1;have mU:=(pj hs (xs.getD m 0)).2.1;have mV:=(pj hs (xs.getD n 0)).2.1;exact (aN (eM (.c5 _ _ _ _ _) (.c1 _) 16 (.c 1 (.Q (.S (.a (.m 16 .q) (.m 2 .x))) .b) (.c 1 (.Q .b (.S (.a (.m 16 .t) (.m 2 .y)))) (.c 2 (.k (.S .f) .h) (.c 2 (.l .h (.n 5)) .z)))) .b .c rfl (aC e1) e2 mY mV) (eM (.c5 _ _ _ _ _) (.c1 _) 16 (.c 1 (.Q .b (.S (.a (.m 16 .t) (.m 2 .x)))) (.c 1 (.Q (.S (.a (.m 16 .q) (.m 2 .y))) .b) (.c 2 (.k (.S .d) .h) (.c 2 (.l .h (.n 5)) .z)))) .b .c rfl e1 (aC e2) kL mU))
end
noncomputable def kO (x:Int):Nat:=if x / 3 % 4=2 then 1 else if x / 3 % 4=3 then 2 else 0
noncomputable def AD:Nat->List Int->List Nat->List Nat:=@λA B C=>match A,B,C with
 |n,[],o=>o
 |n,x::xs,o=>AD (n+1) xs (o.take (n-kO x)++n::o.drop (n-kO x))
theorem adb:∀(xs:List Int) (n:Nat) (o:List Nat),o.Perm (iR n)->(AD n xs o).Perm (iR (n+xs.length)):=by
 intro xs;induction xs with
 |nil=>intro n o h;exact h
 |cons x xs U=>
  intro n o h;have:=U (n+1) (o.take (n-kO x)++n::o.drop (n-kO x)) (by
   refine nh.trans <| ae (HR ..) (ae (Hz ..) ?_);exact (h.cons n).trans (aeb (l₁:=[n])))
  refine ae (show n+(x::xs).length=n+1+xs.length by simp;exact (aN (rA) (rB))) ?_
  exact this
end Internal.Pure
end
section
open PySem PySem.W PySem.Calls PyProof.Rows
open Mine
namespace Internal.Mine
noncomputable abbrev txS:SE:=.x7 [(0,.fr)] false [6] 1 (.bin .Add (.lit (.int (3))) (.bin .Mod (.var 7) (.var 1))) (.bin .Add (.bin .Mult (.lit (.int (16))) (.var 1)) (.bin .Mult (.lit (.int (2))) (.var 0)))
noncomputable abbrev tu:SE:=.sub (.var 8) (.var 10)
noncomputable abbrev GQ:SS:=(.seq (.asg 12 .fr (.sub (.tup (.cons (.lst (.cons tu .nil)) (.cons (.lst .nil) (.cons (.lst (.cons (.bin .Add tu (.lit (.int (1)))) .nil)) (.cons (.lst (.cons (.bin .Add tu (.lit (.int (1)))) (.cons tu .nil))) .nil))))) (.var 11))) (.seq (.app (.var 3) (.var 8)) (.seq (.app (.var 4) (.bin .Add (.bin .Add (.slc (.var 8) .nil (.var 10)) (.var 12)) (.slc (.var 8) (.bin .Add (.var 10) (.lit (.int (1)))) .nil))) (.seq (.app (.var 5) (.tup (.cons (.ite (.cmp .Eq (.var 11) (.lit (.int (3)))) (.lst .nil) (.lst (.cons tu .nil))) (.cons (.sub (.tup (.cons (.lst .nil) (.cons (.lst (.cons (.lit (.str (ag.ofString "delete"))) .nil)) (.cons (.lst (.cons (.lit (.str (ag.ofString "replace"))) .nil)) (.cons (.lst (.cons (.lit (.str (ag.ofString "insert"))) .nil)) .nil))))) (.var 11)) .nil)))) (.seq (.ins 2 (.cons (.bi .max (.cons (.lit (.int (0))) (.cons (.bin .Sub (.var 6) (.sub (.tup (.cons (.lit (.int (0))) (.cons (.lit (.int (0))) (.cons (.lit (.int (1))) (.cons (.lit (.int (2))) .nil))))) (.bin .Mod (.var 9) (.lit (.int (4)))))) .nil))) (.cons (.var 6) .nil))) .nil)))))
noncomputable abbrev AE:SS:=(.seq (.asg 8 .fr txS) (.seq (.asg 9 .fr (.bin .FloorDiv (.var 7) (.lit (.int (3))))) (.seq (.fA [(10,.fr),(11,.fr)] (.cons (.bin .Add (.lit (.int (1))) (.bin .Mod (.bin .FloorDiv (.var 9) (.lit (.int (16)))) (.bin .Sub (.bi .len (.cons (.var 8) .nil)) (.lit (.int (2)))))) (.cons (.bin .Mod (.bin .FloorDiv (.var 9) (.lit (.int (4)))) (.lit (.int (4)))) .nil))) GQ)))
theorem ade {α:Type}{l:List α}{n:Int}{y:α}{k:Nat->α->Prop}{m:Nat}(e:n=(m:Nat)) (hx:l[m]? = some y) (hl:m<2 ^ 24) (hk:k m y):iG l n k:=by
 subst e;exact fC hx hl hk
noncomputable def pk {α:Type}(a b c d:α) (n:Nat):α:=if n=0 then a else if n=1 then b else if n=2 then c else d
theorem adf {a b c d:List Int}{n:Nat}(h:n<4):[Tr.dl (intD a),.dl (intD b),.dl (intD c),.dl (intD d)][n]? = some (.dl (intD (pk a b c d n))):=by
 have:n=0∨n=1∨n=2∨n=3:=by lia
 clear h;rcases this with e | e | e | e <;> subst e <;> rfl
theorem adg {a b c d:List String}{n:Nat}(h:n<4):[Tr.dl (d8 a),.dl (d8 b),.dl (d8 c),.dl (d8 d)][n]? = some (.dl (d8 (pk a b c d n))):=by
 have:n=0∨n=1∨n=2∨n=3:=by lia
 clear h;rcases this with e | e | e | e <;> subst e <;> rfl
theorem adh {a b c d:Int}{n:Nat}(h:n<4):[ah.int a,.int b,.int c,.int d][n]? = some (.int (pk a b c d n)):=by
 have:n=0∨n=1∨n=2∨n=3:=by lia
 clear h;rcases this with e | e | e | e <;> subst e <;> rfl
theorem adi (ns:List Int) (d:Nat):jN (intD ns) none (some (d:Int))=intD (ns.take d):=by
 refine ae (vv ..) ?_;unfold intD;show nC (iV _ (d:Int)-0) (kX 0 _)=_
 refine ae (qE ..) (ae (Hl ..) (ae (aY ..) (ae (Nat.sub_zero ..) (ae (Bk ..).symm ?_))));by_cases h:d<=ns.length
 ·exact ae (iB h ..) rfl
 ·exact ae (w6 (cA (dg.mp h)) ..) (ae (HS ..) (ae (pM (cA (dg.mp h)) ..) rfl))
theorem adj (ns:List Int) (d:Nat):jN (intD ns) (some (d:Int)) none=intD (ns.drop d):=by
 refine ae (vv ..) ?_;unfold intD;refine (?_:nC (_-iV _ (d:Int)) (kX (iV _ (d:Int)) _)=_);refine ae (qE ..) (ae (aY ..) (ae (w7 ..) ?_));by_cases h:d<=ns.length
 ·refine ae (iB h ..) ?_;exact pM (by refine ae (hU ..) (ae (aY ..) ?_);exact aK _)
 ·refine ae (w6 (cA (dg.mp h)) ..) ?_;refine (?_:nC (ns.length-ns.length) _=_);exact ae (xa ..) (ae (So ..) (ae (RC (by rw [aY];exact (cA (dg.mp h))) ..) rfl))
section
variable {fs:cX}{K:KS}
theorem adk {σ:List Tr}{dd:Nat}{z:Int}{k:List Ev->Prop}{tx:List Int}{V:Nat}(h8:σ[8]? = some (.dat (.list (intD tx)))) (kz:σ[10]? = some (.dat (.int (V:Nat)))) (hz:(intD tx)[V]? = some (.int z)) (hl:V<2 ^ 24) (h:k [.ow (.dl (intD (if dd=3 then [] else [z])))]) :
  bw (decide ((dd:Int)=3)) (den fs (.lst .nil) σ k) (den fs (.lst (.cons tu .nil)) σ k):=by
 refine bw.dec (λe=>?_) λe=>?_
 ·rw [if_pos (by exact (aN (dW (.Q .q (.n 3)) .b (.n 3) rfl e) (dW (.Q (.n 3) .q) (.n 3) .b rfl (aC e))))] at h
  exact aw (aF rfl) h
 ·rw [if_neg (by exact (λW=>(Or.elim (HP e) (λU=>(l8 (.t (.q (.n 3) .b) (.K .q (.n 3))) rfl (aC W) U)) λU=>(l8 (.t (.q .b (.n 3)) (.K (.n 3) .q)) rfl W U))))] at h
  show den fs (.var 8) σ (one λva=>den fs (.var 10) σ (one λvi=>lz σ va vi λe=>[e].length<=100/\_))
  refine vy (fs:=fs) h8 (vy (fs:=fs) kz (fC hz hl ?_));exact aw (aF rfl) h
theorem adl {so x:Int}{n:Nat}{t0 t1 aM:Tr}{o:List Nat}{P:Nat->Pe}(hs:0<so/\so<=3) (hP:P n=eX so n x) (ho:o.length=n) (hn:n<100)
  (h:∀aM,K .nx [t0,t1,.dl (bG (o.take (n-kO x)++n::o.drop (n-kO x))),.dl (d5 P (n+1)),.dl (eW P (n+1)),.dl (fj P (n+1)),.dat (.int (n:Nat)),.dat (.int x),.dat (.list (intD (fD so n x))),.dat (.int (x / 3)),.dat (.int (fO so x:Nat)),.dat (.int (cx x:Nat)),aM]) :
  aJ fs GQ [t0,t1,.dl (bG o),.dl (d5 P n),.dl (eW P n),.dl (fj P n),.dat (.int (n:Nat)),.dat (.int x),.dat (.list (intD (fD so n x))),.dat (.int (x / 3)),.dat (.int (fO so x:Nat)),.dat (.int (cx x:Nat)),aM] K:=by
 obtain ⟨a1,U,_⟩:=qQ hs x;obtain ⟨l1,l2,_⟩:=pj hs x;obtain ⟨k1,k2⟩:=tq x;have la:fO so x<2 ^ 24:=by exact (cM (.t (.k (.S .b) .c) (.l .c (.n 5))) .b (.n 16777216) rfl U l2)
 have hz:(intD (fD so n x))[fO so x]? = some (.int (dI so n x)):=by
  unfold intD;rw [fQ,QP hs];rfl
 have V:=wi (so:=so) n x;have W:∀{f:Nat->ah},(oT n f).length=n:=by intro f;exact ae (aY ..) (ae (pK ..) rfl)
 have rs:∀{f:Nat->ah},oT (n+1) f=oT n f++[f n]:=by intro f;show (iR (n+1)).map f=_;refine ae (Hz ..) (ae (bH ..) ?_);rfl
 refine fC hz la ?_;refine aw (aF rfl) (aw (aF rfl) ?_);refine fC hz la ?_;refine aw (aF rfl) ?_;refine fC hz la ?_;refine fC hz la ?_;refine aw (aF rfl) (aw (aF rfl) ?_);refine fC (adf (a:=[dI so n x]) (b:=[]) (c:=[dI so n x+1]) (d:=[dI so n x+1,dI so n x]) k1) (Cv k1) ?_;refine aw (by refine (?_:(d5 P n).length<_);refine ae (W ..) ?_;exact (xw hn)) ?_
 refine aw (by refine (?_:(intD _).length<=_);refine ae (iq ..) (ae (V ..) ?_);unfold cc;exact (Cw l2)) (.mk (adi _ _) ?_)
 have lw:∀z:Int,(pk [z] [] [z+1] [z+1,z] (cx x)).length<=2:=λz=>by
  unfold pk;split
  ·exact kU _
  ·split
   ·exact bA _
   ·split
    ·exact kU _
    ·exact aK _
 refine oS _ _ (by refine ae (jg ..) (ae (V ..) ?_);have fi:=lw (dI so n x);exact (bJ (.y (.k (.S .d) .f) (.l .f (.n 5)) (.l .c (.n 2)) (.q .b .d)) (.a .b .c) (.n 16777216) rfl U l2 fi (iB (Cu U)))) ?_
 refine aw (by refine (?_:(intD _).length<=_);refine ae (iq ..) (ae (V ..) ?_);unfold cc;exact (Cw l2)) (.mk (adj _ (fO so x+1)) ?_)
 refine oS _ _ (by refine ae (aG ..) (ae (jg ..) (ae (hU ..) (ae (V ..) ?_)));have fh:=lw (dI so n x);exact (dD (.y (.l .f (.n 5)) (.l .c (.n 2)) (.q .b .h) (.q (.a .d (.S .h)) .f)) (.a (.a .b .c) .d) (.n 16777216) rfl l2 fh (iB (Cu U)) (aE (IP U)))) ?_
 refine aw (by refine (?_:(eW P n).length<_);refine ae (W ..) ?_;exact (xw hn)) ?_
 refine cq (NF _ _) ⟨rfl,rfl⟩ ?_;refine adk rfl rfl hz la ?_;repeat refine vg rfl ?_
 refine fC (adg (a:=[]) (b:=["delete"]) (c:=["replace"]) (d:=["insert"]) k1) (Cv k1) ?_;refine aw (aF rfl) ?_;refine aw (by refine (?_:(fj P n).length<_);refine ae (W ..) ?_;exact (xw hn)) ?_
 refine yt.mk rfl ?_;refine aw (aF rfl) (aw (by decide) ?_)
 have e4:x / 3 % 4=((x / 3 % 4).toNat:Nat):=by exact (fP (IM (dh (A3 (rr _ _ (by decide)))).symm) (IL (dh (A3 (rr _ _ (by decide))))))
 have l4:(x / 3 % 4).toNat<4:=by exact (IK (aC e4) (Bw _ (by decide)))
 refine ade e4 (adh l4) (Cv l4) ?_;have hc:max 0 ((n:Int)-pk 0 0 1 2 (x / 3 % 4).toNat)=((n-kO x:Nat):Int):=by
  unfold pk kO;have:x / 3 % 4=0∨x / 3 % 4=1∨x / 3 % 4=2∨x / 3 % 4=3:=by (clear e4 V k2 k1 right_1 right ho hs;lia)
  rcases this with e | e | e | e <;> rw [e] <;> simp <;> lia
 refine lC.mk (c:=((n-kO x:Nat):Int)) (d:=.int (n:Nat)) (by refine ae (hc ..).symm ?_;rfl) rfl ?_
 refine aw (cB (ui) (ub (.t (.k .c (.n 100)) (.l .b .c)) .q (.n 9223372036854775808) rfl hn (l7 _ _)) (by rw [aY,ho];exact (IQ (l7 _ _))) (by rw [aY,ho];exact (xw hn))) ?_
 have:=h (.dat (.list (intD (pk [dI so n x] [] [dI so n x+1] [dI so n x+1,dI so n x] (cx x)))));unfold d5 eW fj bG at this;rw [rs,rs,rs,hP,wj hs,QQ,QR,bH,iQ,Bk,w7] at this;have e5:(eX so n x).x=if cx x=3 then [] else [dI so n x]:=rfl;rw [e5] at this;refine ae (bt ..) ?_;exact this
end
theorem adm {fs:cX}(h:k (intD (fD so n x))):mj (λd k=>iH [(0,.fr)] false d [.un,.dat (.int (n:Nat))] λU=>den fs (.bin .Add (.bin .Mult (.lit (.int (16))) (.var 1)) (.bin .Mult (.lit (.int (2))) (.var 0))) U (one k)) (λd k=>one k [aR (.bool true)]) (dE 0 (3+x % so)) k:=by
 have V:∀(l:List Nat) {k:List ah->Prop},k (intD (l.map λd=>16*(n:Int)+2*(d:Nat)))->mj (λd k=>iH [(0,.fr)] false d [.un,.dat (.int (n:Nat))] λU=>den fs (.bin .Add (.bin .Mult (.lit (.int (16))) (.var 1)) (.bin .Mult (.lit (.int (2))) (.var 0))) U (one k)) (λd k=>one k [aR (.bool true)]) (l.map λi=>.int (0+(i:Nat))) k:=by
  intro l;induction l with
  |nil=>intro k h;exact h
  |cons d l W=>
   intro k h;refine aw (by decide) (aw (by decide) ?_)
   refine W <| ae (pz ..) <| h
 unfold dE;refine V _ <| ae (show (3+x % so-0).toNat=iO so x from by unfold iO;rw [RZ]) ?_
 exact h
section
variable {fs:cX}{K:KS}
theorem adn {P:Nat->Pe}(hs:0<so/\so<=3) (W:P n=eX so n x) (ho:o.length=n) (hn:n<100)
  (h:∀t8 t9 bC bW aM,K .nx [t0,.dat (.int so),.dl (bG (o.take (n-kO x)++n::o.drop (n-kO x))),.dl (d5 P (n+1)),.dl (eW P (n+1)),.dl (fj P (n+1)),.dat (.int (n:Nat)),.dat (.int x),t8,t9,bC,bW,aM]) :
  aJ fs AE [t0,.dat (.int so),.dl (bG o),.dl (d5 P n),.dl (eW P n),.dl (fj P n),.dat (.int (n:Nat)),.dat (.int x),t8,t9,bC,bW,aM] K:=by
 refine cg (pj hs x) λV l2 U=>cg (qQ hs x) λa1 a2 a3=>El.aa (tq x) λk1 k2=>?_;have key:∀(a d:Int) (aM:Tr),a=(fO so x:Nat)->d=(cx x:Nat)->aJ fs GQ [t0,.dat (.int so),.dl (bG o),.dl (d5 P n),.dl (eW P n),.dl (fj P n),.dat (.int (n:Nat)),.dat (.int x),.dat (.list (intD (fD so n x))),.dat (.int (x / 3)),.dat (.int a),.dat (.int d),aM] K:=by
  intro a d aM e1 e2;subst e1 e2;exact adl hs W ho hn λaM=>h _ _ _ _ _
 refine aw hs.1 <| aw ⟨by exact (pS (.Q .q (.a (.n 3) .b)) (.g (.n 4611686018427387904)) (.a (.n 3) .b) rfl U),by exact (pS (.t (.l .b (.n 5)) (.Q (.a (.n 3) .b) .q)) (.a (.n 3) .b) (.n 4611686018427387904) rfl l2 (aC U))⟩ (aw (by refine (?_:(dE 0 (3+x % so)).length<=_);unfold dE cc;refine ae (aY ..) (ae (pK ..) ?_);exact (xm (.u (.l .c (.n 5)) (.Q (.a (.n 3) .b) .t) (.Q .q (.s (.a (.n 3) .b) .z))) .b (.n 16777216) rfl l2 (aC U) (dh (k8 (.t (.l (.n 3) .b) (.Q .q (.a (.n 3) .b))) .z (.s (.a (.n 3) .b) .z) rfl V U)))) ?_)
 refine adm <| aw (by decide) <| aw (by decide) <| aw (by refine (?_:(intD _).length<=_);refine ae (iq ..) (ae (wi ..) ?_);unfold cc;exact (Cw l2)) (.mk (w:=iO so x) (by exact ae (fE ..) (ae (iq ..) (ae (wi ..) rfl))) ?_)
 refine aw (IJ V) <| aw (by decide) (aw (by decide) ?_)
 refine aw (aF rfl) <| key _ _ _ a3.symm k2.symm
theorem ado {P:Nat->Pe}(hs:0<so/\so<=3):∀(xs:List Int) (n:Nat) (o:List Nat) {t6 t7 t8 t9 bC bW aM:Tr},n+xs.length<=100->o.length=n->(∀i,i<xs.length->P (n+i)=eX so (n+i) (xs.getD i 0))->
  (∀t6 t7 t8 t9 bC bW aM,K .nx [t0,.dat (.int so),.dl (bG (AD n xs o)),.dl (d5 P (n+xs.length)),.dl (eW P (n+xs.length)),.dl (fj P (n+xs.length)),t6,t7,t8,t9,bC,bW,aM])->
  du (eI fs [(6,.fr),(7,.fr)] true AE) K (ou n (intD xs)) [t0,.dat (.int so),.dl (bG o),.dl (d5 P n),.dl (eW P n),.dl (fj P n),t6,t7,t8,t9,bC,bW,aM]:=by
 intro xs;induction xs with
 |nil=>intro n o t6 t7 t8 t9 bC bW aM _ _ _ h;exact h _ _ _ _ _ _ _
 |cons x xs V=>
  intro n o t6 t7 t8 t9 bC bW aM hn ho U h;rw [gL] at hn;refine Ff <| adn (n:=n) hs (U 0 (wu _)) ho (cM (.l (.a .b (.S .c)) (.n 100)) .b (.n 100) rfl hn) λt8 t9 bC bW aM=>V (n+1) _ (cp (.l (.a .b (.S .c)) (.n 100)) (.a (.S .b) .c) (.n 100) rfl hn) (by refine ae (aG ..) (ae (gL ..) (ae (jg ..) (ae (hU ..) ?_)));exact (aN (dD (.u (.q .f .d) (.q .b .h) (.q (.a .c .h) .f)) (.a .b (.S .c)) (.S .d) rfl ho (iB (I5 (aE (xA (aC ho) (l7 _ _))))) (aE (xA (aC ho) (l7 _ _)))) (dD (.u (.q .b .f) (.q .h .c) (.q .f (.a .d .h))) (.S .b) (.a .c (.S .d)) rfl (aC ho) (iB (I5 (aE (xA (aC ho) (l7 _ _))))).symm (aE (xA (aC ho) (l7 _ _))).symm))) (λi hi=>?_) λt6 t7 t8 t9 bC bW aM=>?_
  ·have:=U (i+1) (R3 hi);refine ae (show n+1+i=n+(i+1) by exact (aN (rB) (rA))) <| this
  ·have:=h t6 t7 t8 t9 bC bW aM;rw [gL,show n+(xs.length+1)=n+1+xs.length by exact (aN (rA) (rB))] at this
   exact this
noncomputable def wk (ns:List Int):Int:=match ns with
 |[]=>1
 |x::zz=>1+x % 3
noncomputable def cI (ns:List Int):List Int:=(ns.drop 1).take 10++[0,24,6]
noncomputable def gU (ns:List Int) (n:Nat):Pe:=eX (wk ns) n ((cI ns).getD n 0)
noncomputable def m8 (ns:List Int):List Nat:=AD 0 (cI ns) []
theorem QT (ns:List Int):0<wk ns/\wk ns<=3:=by
 unfold wk;cases ns with
 |nil=>decide
 |cons x r=>dsimp only;exact ⟨(Ir (.L .z .b) .z (.a .u .b) rfl (rr _ _ (by decide))),(ru (.K .b (.n 3)) (.a .u .b) (.n 3) rfl (Bw _ (by decide)))⟩
theorem QU (ns:List Int):(cI ns).length<=13/\3<=(cI ns).length:=by
 unfold cI;refine ae (aG ..) (ae (jg ..) (ae (hU ..) ?_));simp;exact (dW (.l .b (.n 10)) .b (.n 10) rfl (Bc _ _))
theorem slc_11 (ns:List Int):jN (intD ns) (some 1) (some 11)=intD ((ns.drop 1).take 10):=by
 refine ae (vv ..) ?_;unfold intD;show nC (iV _ ((11:Nat):Int)-iV _ ((1:Nat):Int)) (kX (iV _ ((1:Nat):Int)) _)=_
 refine ae (qE ..) (ae (qE ..) (ae (aY ..) (ae (w7 ..).symm (ae (Bk ..).symm ?_))));cases ns with
 |nil=>rfl
 |cons x r=>
  refine ae (gL ..) (ae (iB (by exact (um):1<=r.length+1) ..) ?_)
  show pI _ (nC (min 11 (r.length+1)-1) r)=pI _ (nC 10 r)
  congr 1
  by_cases h:10<=r.length
  ·exact ae (iB (dW (.l (.n 10) .b) (.n 11) (.S .b) rfl h) ..) rfl
  ·exact ae (w6 (dW (.k .b (.n 10)) (.S .b) (.n 11) rfl (dg.mp h)) ..) (ae (pM (cp (.q (.S .b) (.S .c)) .b .c rfl (aE (um)).symm) ..) (ae (pM (dW (.k .b (.n 10)) .b (.n 10) rfl (dg.mp h)) ..) rfl))
noncomputable abbrev GR:SS:=.asg 1 .fr (.ite (.tv (.var 0)) (.bin .Add (.lit (.int (1))) (.bin .Mod (.sub (.var 0) (.lit (.int (0)))) (.lit (.int (3))))) (.lit (.int (1))))
theorem adp {ns:List Int}(hl:ns.length<=63) (h:K .nx (.dat (.list (intD ns))::.dat (.int (wk ns))::tl)):aJ fs GR (.dat (.list (intD ns))::t1::tl) K:=by
 refine aw (by refine (?_:(intD ns).length<=_);refine ae (iq ..) ?_;unfold cc;exact (I6 hl)) ?_
 clear hl;cases ns with
 |nil=>exact h
 |cons x r=>
  refine jv <| aw (by decide) h
end
noncomputable def QV:SS:=(.seq GR (.seq (.mA [(2,.own),(3,.own),(4,.own),(5,.own)] (.tup (.cons (.lst .nil) (.cons (.lst .nil) (.cons (.lst .nil) (.cons (.lst .nil) .nil)))))) (.seq (.eu [(6,.fr),(7,.fr)] true (.r6 (.bin .Add (.slc (.var 0) (.lit (.int (1))) (.lit (.int (11)))) (.lst (.cons (.lit (.int (0))) (.cons (.lit (.int (24))) (.cons (.lit (.int (6))) .nil)))))) AE) (.seq (.seq (.fz 2) (.seq (.fz 3) (.seq (.fz 4) (.seq (.fz 5) (.ret (.tup (.cons (.var 2) (.cons (.var 3) (.cons (.var 4) (.cons (.var 5) .nil)))))))))) .nil))))
noncomputable def AF:iE:=(false,λds k=>∃ns:List Int,ds=[.list (intD ns)]/\ns.length<=63/\k (.tuple [.list (bG (m8 ns)),.list (d5 (gU ns) (cI ns).length),.list (eW (gU ns) (cI ns).length),.list (fj (gU ns) (cI ns).length)]))
theorem adq (h:AF.2 ds k):ds.length=1/\aJ ⟨[],[]⟩ QV (init ds 12) (ju k):=by
 refine ef h ?_;clear h;intro ns e hl h;subst e;refine El.aa (QU ns) λV zz=>⟨rfl,?_⟩;show aJ ⟨[],[]⟩ GR _ (λf U=>match f with | .nx=>aJ ⟨[],[]⟩ (.seq (.mA [(2,.own),(3,.own),(4,.own),(5,.own)] (.tup (.cons (.lst .nil) (.cons (.lst .nil) (.cons (.lst .nil) (.cons (.lst .nil) .nil)))))) (.seq (.eu [(6,.fr),(7,.fr)] true (.r6 (.bin .Add (.slc (.var 0) (.lit (.int (1))) (.lit (.int (11)))) (.lst (.cons (.lit (.int (0))) (.cons (.lit (.int (24))) (.cons (.lit (.int (6))) .nil)))))) AE) (.seq (.seq (.fz 2) (.seq (.fz 3) (.seq (.fz 4) (.seq (.fz 5) (.ret (.tup (.cons (.var 2) (.cons (.var 3) (.cons (.var 4) (.cons (.var 5) .nil)))))))))) .nil))) U (ju k) | f=>ju k f U)
 refine adp hl ?_;repeat refine vg rfl ?_
 refine aw (by refine (?_:(intD ns).length<=_);refine ae (iq ..) ?_;unfold cc;exact (I6 hl)) (.mk (slc_11 ns) ?_)
 refine aw (aF rfl) <| oS _ [0,24,6] (by refine ae (jg ..) ?_;simp;exact (dW (.l .b (.n 10)) .b (.n 16777213) rfl (Bc _ _))) ?_
 refine aw rfl <| ado (P:=gU ns) (QT ns) (cI ns) 0 [] (dW (.l .b (.n 13)) (.a .z .b) (.n 100) rfl V) rfl (λi hi=>by refine ae (jf ..) ?_;rfl) λt6 t7 t8 t9 bC bW aM=>?_
 refine aw (aF rfl) <| ae (jf ..) <| h
section
variable {w:aW}{D:Nat}
noncomputable abbrev Hsr:Hn:=⟨λi=>if ([2,3,4,5]:List Nat).contains i then .own else .fr,[(475,2),(475,3),(475,4),(475,5)]⟩
theorem ads:qJ w (D+1) 251 AF:=sW (ir:=QV) 7 "_law_stretches" 250 ⟨[],[]⟩ Hsr ["script"] ["sizes","order","texts","edited","edits","n","x","text","left","at","deed","way"] gb gb (λds k h=>adq h) λx=>aC (by kernel_rfl!)
end
end Internal.Mine
end
section
namespace Internal.Pure
theorem QW:∀(T S:List Rn),∃U,U.Sublist T/\mZ S T=S++U:=by
 intro T;induction T with
 |nil=>intro S;exact av [] .slnil (cL S).symm
 |cons r T ih=>
  intro S;show ∃U,U.Sublist (r::T)/\mZ (if S.all (ez r)=true then S++[r] else S) T=S++U
  split
  ·refine ar (ih (S++[r])) λU V W=>av (r::U) (V.cons_cons r) (by rw [W,bt];rfl)
  ·refine ar (ih S) λU V W=>av U (V.cons r) W
section
variable {P:Nat->Pe}{A B:List Nat}{N:Nat}
theorem adt (T:dP A B N) (hA:A.length<100):∃cT S,Ab P A B cT S:=by
 have R:=vQ (κ:=eV A B) (w:=wl P A) A.length;have pn:(fN P A B).Pairwise λa b=>a.p≠b.p:=R.pw.imp_of_mem λ{a b} ha hb h=>by
  have:=(R.lo b hb).1.c;exact (λV=>(xo (.u (.l (.a .b .c) .d) (.k .z .c) (.q .d .b)) rfl h this V))
 have bd:∀r∈fN P A B,r.p<100:=λr hr=>by
  have W:=(R.lo r hr).2;have fh:=(R.lo r hr).1.c;exact (dQ (.u (.k .c (.n 100)) (.l (.a .b .d) .c) (.k .z .d)) .b (.n 100) rfl hA W fh)
 refine ar (O8 iu (fN P A B) (pn.imp_of_mem λ{a b} ha hb h e=>by
  have kL:=bd a ha;have mY:=bd b hb;unfold iu at e;lia)) λcT pt ps=>?_
 have pt2:cT.Pairwise λa b=>a.p≠b.p:=(pt.pairwise_iff λ{a b} h=>h.symm).mp pn;refine ar (QW cT []) λU h1 h2=>?_;rw [fE] at h2;refine ar (O8 (λr:Rn=>r.p) (mZ [] cT) (h2▸pt2.sublist h1)) λS qt qs=>⟨cT,S,pt,ps,qt,qs⟩
theorem QX:(gm ps c).length<=c.length+1:=by
 unfold gm;split
 ·refine ae (aY ..) <| kU _
 ·show 1<=_;exact (um)
theorem QY:(gt ps c).length<=1:=by
 unfold gt;split
 ·exact bA _
 ·exact aK _
theorem adu:∀ps:List Pe,(kt ps).length<=ps.length:=by
 intro ps;induction ps with
 |nil=>exact aK _
 |cons p ps V=>
  show (aeX _ (p::ps)).length<=_
  refine ae (gi ..) (ae (aG ..) ?_);have U:(if p.o=[]/\p.n=[] then [] else [(p.o,([]:List String),p.m)]).length<=1:=by split <;> simp
  show _+(kt ps).length<=ps.length+1
  lia
theorem adv {E:List Pe×List Int}:∀Z:List Zn,(zm E Z).length<=(ht (eh E) (hz Z)).length+(fd (zp E Z)).length+Z.length+1:=by
 intro Z;induction Z with
 |nil=>
  have:=QX (ps:=E.1) (c:=E.2);show (gm E.1 E.2).length<=E.2.length+(fd E.1).length+0+1
  exact (bL (.l .b (.S .c)) .b (.S (.a (.a .c .d) .z)) rfl this)
 |cons z Z U=>
  have:=QX (ps:=z.1) (c:=z.2.1);show (gm z.1 z.2.1++(its (fd z.2.2)++zm E Z)).length<=(z.2.1++(ft z.2.2++ht (eh E) (hz Z))).length+(fd (z.1++(z.2.2++zp E Z))).length+(Z.length+1)+1
  refine ae (OY ..) (ae (OY ..) (ae (aG ..) (ae (aG ..) (ae (aG ..) (ae (aG ..) (ae (aG ..) (ae (aG ..) (ae (aY ..) ?_))))))));exact (Iy (.t (.l .d (.S (.a (.a .i .k) .l))) (.l .b (.S .f))) (.a .b (.a .c .d)) (.S (.a (.a (.a .f (.a .h .i)) (.a .j (.a .c .k))) (.S .l))) rfl U this)
theorem adw {E:List Pe×List Int}:∀Z:List Zn,(zt E Z).length<=(zp E Z).length+Z.length+1:=by
 intro Z;induction Z with
 |nil=>
  have:=QY (ps:=E.1) (c:=E.2);show (gt E.1 E.2).length<=E.1.length+0+1
  exact (cp (.l .b .u) .b (.S (.a .c .z)) rfl this)
 |cons z Z W=>
  have U:=QY (ps:=z.1) (c:=z.2.1);have V:=adu z.2.2;show (gt z.1 z.2.1++(kt z.2.2++zt E Z)).length<=(z.1++(z.2.2++zp E Z)).length+(Z.length+1)+1
  refine ae (aG ..) (ae (aG ..) (ae (aG ..) (ae (aG ..) ?_)));exact (pU (.u (.l .d (.S (.a .i .j))) (.l .b .u) (.l .c .h)) (.a .b (.a .c .d)) (.S (.a (.a .f (.a .h .i)) (.S .j))) rfl W U V)
abbrev c0 (g:String):Prop:=g="replace"∨g="delete"∨g="insert"
theorem QZ (a b:Nat):c0 (de a b):=by
 unfold de;split
 ·exact .inl rfl
 ·split
  ·exact .inr (.inl rfl)
  ·exact .inr (.inr rfl)
theorem Q0 (p:Pe):∀g∈p.m,c0 g:=by
 intro g hg;unfold Pe.m at hg;split at hg
 ·exact El.nm hg
 ·refine ae (cQ.mp hg ..) <| QZ _ _
abbrev wm (t:gH):Prop:=(∀g∈t.2.1,c0 g)/\∀g∈t.2.2,c0 g
theorem Q1:∀t∈gt ps c,wm t:=by
 intro t ht;unfold gt at ht;split at ht
 ·exact El.nm ht
 ·refine ae (cQ.mp ht ..) <| ⟨λg hg=>by refine ae (cQ.mp hg ..) <| QZ _ _,λg hg=>?_⟩
  refine ar (rn.mp hg) λp zz h=>Q0 p g h
theorem adx:∀t∈kt ps,wm t:=by
 intro t ht;refine ar (rn.mp ht) λp zz h=>?_;split at h
 ·exact El.nm h
 ·refine ae (cQ.mp h ..) <| ⟨λg hg=>El.nm hg,Q0 p⟩
theorem ady {E:List Pe×List Int}:∀Z:List Zn,∀t∈zt E Z,wm t:=by
 intro Z;induction Z with
 |nil=>exact Q1
 |cons z Z U=>
  intro t ht;rcases bT.mp (show t∈gt z.1 z.2.1++(kt z.2.2++zt E Z) from ht) with h | h
  ·exact Q1 t h
  ·rcases bT.mp h with h | h
   ·exact adx t h
   ·exact U t h
theorem GS {f:Pe->List Int}{c:Nat}(h:∀n,(f (P n)).length<=c):∀ns:List Nat,((ns.map P).flatMap f).length<=c*ns.length:=by
 intro ns;induction ns with
 |nil=>exact aK _
 |cons n ns U=>
  have:=h n;refine ae (iQ ..) (ae (gi ..) (ae (aG ..) (ae (gL ..) (ae (Nat.mul_succ ..) ?_))));exact (bJ (.t (.l .c .d) (.l .b .f)) (.a .b .c) (.a .d .f) rfl U this)
theorem adz (F:iN P N) (T:dP A B N) (h0:A≠[]) (V:A.length<=13) (l1:∀n,(P n).t.length<=5) (l2:∀n,(P n).d.length<=6):∃cT S,Ab P A B cT S/\(∃L1 L2 R R0 R1 n,z9 (bN P A) (bN P B) (fd (A.map P)) (zt (dH P A B 0 0 S) (cP P A B 0 0 S)) (zm (dH P A B 0 0 S) (cP P A B 0 0 S)) L1 L2 R R0 R1 n)/\(zt (dH P A B 0 0 S) (cP P A B 0 0 S)).length<=900/\(zm (dH P A B 0 0 S) (cP P A B 0 0 S)).length<=900/\(bN P A).length<=65/\(bN P B).length<=65/\(fd (A.map P)).length<=78:=by
 refine uu (adt (P:=P) T (Jz V)) λcT S Y=>?_;have hB:=T.ln;have la:(bN P A).length<=65:=aD (GS (f:=Pe.t) l1 A) (dW (.c 5 (.l .b (.n 13)) .z) (.m 5 .b) (.n 65) rfl V);have lb:(bN P B).length<=65:=aD (GS (f:=Pe.t) l1 B) (cp (.c 5 (.l .c (.n 13)) (.c 5 (.q .b .c) .z)) (.m 5 .b) (.n 65) rfl V hB);have ld:(fd (A.map P)).length<=78:=aD (GS (f:=Pe.d) l2 A) (dW (.c 6 (.l .b (.n 13)) .z) (.m 6 .b) (.n 78) rfl V);refine cg (Ad T Y) λsub pw gr=>?_;have hc:jy P A B 0 0 S:=Gf (bA _) (bA _) (λs hs=>(aL (T.rf (sub s hs)) (bA _) (bA _))) pw;refine cg (Pg T.ln hc) λe1 e2 e3=>El.aa (Ph T.ln hc) λk1 k2=>?_;have lS:S.length<=A.length:=by
  have h1:=Y.pt.length_eq;have h2:=Y.qt.length_eq;refine ar (QW cT []) λU h3 h4=>?_;rw [h4,fE] at h2;have W:=h3.length_le;have:∀p,(runs (eV A B) (wl P A) p).length<=p:=by
   intro p;induction p with
   |zero=>exact aK _
   |succ p ih=>
    show (o6 _ _ p (runs (eV A B) (wl P A) p)).length<=p+1
    unfold o6;split
    ·exact gY (bA _)
    ·rename_i e;rw [e] at ih;split
     ·exact tF ih
     ·exact gY ih
  have:(fN P A B).length<=A.length:=this _;exact (aD (aD (aD (dm h2.symm) W) (dm h1.symm)) this)
 refine ⟨cT,S,Y,(aba F T Y (Jz V) (JA la) h0 (dW (.l .b (.n 13)) .b (.n 30) rfl V) (cF (.l .b (.n 65)) .b (.n 200) rfl la) (cF (.l .b (.n 78)) .b (.n 200) rfl ld)),?_,?_,la,lb,ld⟩
 ·refine aD (adw _) <| ae (e1 ..) (ae (k2 ..) (ae (aY ..) ?_));have:=(aeW (A.length-0) (A.drop 0)).length_le;unfold sl;rw [hU] at this;exact (bJ (.c 2 (.l .d (.n 13)) (.c 1 (.l .c .d) (.c 1 (.l .b .f) (.c 1 (.q (.a .f .z) .d) .z)))) (.S (.a .b .c)) (.n 900) rfl V lS this (aE (A6)))
 ·refine aD (adv _) <| ae (e1 ..) (ae (e2 ..) (ae (k2 ..) ?_));unfold pc;refine ae (vR ..) (ae (vR ..) ?_);have lb:(ft (B.map P)).length<=65:=lb;exact (bJ (.y (.l .f (.n 13)) (.l .c (.n 78)) (.l .d .f) (.l .b (.n 65))) (.S (.a (.a .b .c) .d)) (.n 900) rfl V ld lS lb)
end
end Internal.Pure
end
section
open PySem PySem.W PySem.Calls PyProof.Rows
open Mine
namespace Internal.Mine
theorem GU (h:∀t∈T,wm t):Lay 4 (vY T M):=by
 refine .tup (cz.mpr ⟨.list λd hd=>?_,cm.mpr (.list λd hd=>?_)⟩)
 ·refine ar (bf.mp hd) λt ht e=>?_;clear hd;subst e;exact .tup (cz.mpr ⟨lay_ints _,cz.mpr ⟨Fh (h t ht).1,cm.mpr (Fh (h t ht).2)⟩⟩)
 ·refine ar (bf.mp hd) λe U q=>?_;clear hd;subst q;cases e with
  |it n=>exact (Lay.int n).mono (bA _)
  |cf o l r=>exact .list (cz.mpr ⟨lay_ints o,cz.mpr ⟨lay_ints l,cm.mpr (lay_ints r)⟩⟩)
theorem adA (h:∀t∈T,wm t):ah.eqv (vY T M) (vY T M)=true:=SeqAt.eqv_refl _ (GU h).1
noncomputable abbrev GV:cX:=⟨[AF,qF,mergeF,An],[]⟩
noncomputable abbrev GW:SS:=(.seq (.fA [(8,.fr),(9,.fr),(10,.fr)] (.cons (.fn 1 (.cons (.var 2) (.cons (.var 6) .nil))) (.cons (.fn 1 (.cons (.var 2) (.cons (.var 7) .nil))) (.cons (.fn 1 (.cons (.var 3) (.cons (.var 6) .nil))) .nil)))) (.seq (.cS (.cmp .NotEq (.fn 2 (.cons (.var 8) (.cons (.var 9) (.cons (.var 10) .nil)))) (.fn 3 (.cons (.var 6) (.cons (.var 7) (.cons (.var 2) (.cons (.var 3) (.cons (.var 4) .nil))))))) (.seq (.ret (.lit (.bool false))) .nil) .nil) .nil))
noncomputable def Q3:SS:=(.seq (.mA [(1,.fr),(2,.fr),(3,.fr),(4,.fr)] (.fn 0 (.cons (.var 0) .nil))) (.seq (.asg 5 .fr (.C8 (.bi .len (.cons (.var 2) .nil)))) (.seq (.eu [(6,.fr),(7,.fr)] true (.seq (.tup (.cons (.tup (.cons (.var 5) (.cons (.var 1) .nil))) (.cons (.tup (.cons (.var 1) (.cons (.var 5) .nil))) .nil)))) GW) (.seq (.ret (.lit (.bool true))) .nil))))
section
variable {K:KS}{t0 t1 t5 t8 t9 bC:Tr}{P:Nat->Pe}{A B:List Nat}{N:Nat}
theorem Q4 (F:iN P N) (T:dP A B N) (h0:A≠[]) (V:A.length<=13) (U:N<1000) (W:∀n,(P n).t.length<=5) (l2:∀n,(P n).d.length<=6) (hx:∀n,n<N->(P n).m≠[]->(P n).x=(P n).o)
  (h:∀t8 t9 bC,K .nx [t0,t1,.dat (.list (d5 P N)),.dat (.list (eW P N)),.dat (.list (fj P N)),t5,.dat (.list (bG A)),.dat (.list (bG B)),t8,t9,bC]) :
  aJ GV GW [t0,t1,.dat (.list (d5 P N)),.dat (.list (eW P N)),.dat (.list (fj P N)),t5,.dat (.list (bG A)),.dat (.list (bG B)),t8,t9,bC] K:=by
 refine Tq (adz F T h0 V W l2) λcT S Y hm nT nM la lb ld=>Aj (P:=P) T.lt U (JD la) <| Aj (P:=P) T.lb U (JD lb) <| PU (P:=P) T.lt U (dW (.l .b (.n 78)) .b (.n 1000) rfl ld) <| aw (aF rfl) <| eJ _ (eJ _ (eJ _ (eJ _ (eJ _ (aw rfl (aw ⟨hm,nT,nM⟩ ?_))))));refine eJ P (eJ A (eJ B (eJ N (eJ cT (eJ S (aw rfl (aw ⟨⟨T,Y,by exact (JE V),U,by exact (JA la)⟩,⟨T,hx,U,by exact (JE V),by exact (JF la),by exact (JF lb),by exact (cF (.l .b (.n 78)) .b (.n 500) rfl ld)⟩⟩ ?_)))))))
 have ok:=ady (E:=dH P A B 0 0 S) (cP P A B 0 0 S);refine cq (adA ok) ⟨(GU ok).shaped (by decide),(GU ok).shaped (by decide)⟩ <| h _ _ _
end
noncomputable def adB:iE:=(false,λds k=>∃ns:List Int,ds=[.list (intD ns)]/\ns.length<=63/\k (.bool true))
theorem adC (h:adB.2 ds k):ds.length=1/\aJ GV Q3 (init ds 10) (ju k):=by
 refine ef h ?_;clear h;intro ns e hl h;subst e;refine El.aa (QU ns) λx1 x2=>?_;have so:=QT ns;have pm:(m8 ns).Perm (gO 0 (cI ns).length):=by
  have:=adb (cI ns) 0 [] (.refl _);rw [jf,Bu] at this;exact this
 have nd:(gO 0 (cI ns).length).Nodup:=by refine ae (Bu ..).symm <| aeZ
 have lt:∀n∈gO 0 (cI ns).length,n<(cI ns).length:=λn hn=>by
  rw [<-Bu] at hn;exact pO.mp hn
 have W:dP (gO 0 (cI ns).length) (m8 ns) (cI ns).length:=⟨nd,pm.nodup_iff.mpr nd,pm.symm,lt⟩;have T2:dP (m8 ns) (gO 0 (cI ns).length) (cI ns).length:=⟨pm.nodup_iff.mpr nd,nd,pm,λn hn=>lt n (pm.mem_iff.mp hn)⟩;have F:iN (gU ns) (cI ns).length:=ada so (cI ns) _;have V:∀n,(gU ns n).t.length<=5:=λn=>(QS so n _).1;have l2:∀n,(gU ns n).d.length<=6:=λn=>(QS so n _).2;have hx:∀n,n<(cI ns).length->(gU ns n).m≠[]->(gU ns n).x=(gU ns n).o:=λn _=>ac9 n _;have la:(gO 0 (cI ns).length).length=(cI ns).length:=List.length_range';have lo:(m8 ns).length=(cI ns).length:=pm.length_eq.trans la;refine ⟨rfl,eJ ns (aw rfl (aw hl ?_))⟩;refine aw (by refine (?_:(d5 (gU ns) (cI ns).length).length<=_);refine ae (aY ..) (ae (pK ..) ?_);unfold cc;exact (dW (.l .b (.n 13)) .b (.n 16777216) rfl x1)) (.mk (w:=(cI ns).length) (by exact ae (aY ..) (ae (pK ..) rfl)) ?_)
 refine aw ⟨by exact (ui),by exact (rx (.l .b (.n 13)) .q (.n 16777216) rfl x1)⟩ <| ae (Pr ..) ?_
 repeat refine vg rfl ?_
 have U:∀l,l=[ah.tuple [.list (bG (gO 0 (cI ns).length)),.list (bG (m8 ns))],.tuple [.list (bG (m8 ns)),.list (bG (gO 0 (cI ns).length))]]->∀{t6 t7 t8 t9 bC:Tr}{K:KS},(∀t6 t7 t8 t9 bC,K .nx [.dat (.list (intD ns)),.dat (.list (bG (m8 ns))),.dat (.list (d5 (gU ns) (cI ns).length)),.dat (.list (eW (gU ns) (cI ns).length)),.dat (.list (fj (gU ns) (cI ns).length)),.dat (.list (bG (gO 0 (cI ns).length))),t6,t7,t8,t9,bC])->
   du (eI GV [(6,.fr),(7,.fr)] true GW) K l [.dat (.list (intD ns)),.dat (.list (bG (m8 ns))),.dat (.list (d5 (gU ns) (cI ns).length)),.dat (.list (eW (gU ns) (cI ns).length)),.dat (.list (fj (gU ns) (cI ns).length)),.dat (.list (bG (gO 0 (cI ns).length))),t6,t7,t8,t9,bC]:=by
  intro l e t6 t7 t8 t9 bC K h;subst e;refine Ff (Q4 F W (λe=>by rw [e] at la;simp at la;exact (JG x2 (aC la))) (JH x1 la) (JI x1) V l2 hx λt8 t9 bC=>?_)
  refine Ff (Q4 F T2 (λe=>by rw [e] at lo;simp at lo;exact (JG x2 (aC lo))) (JH x1 lo) (JI x1) V l2 hx λt8 t9 bC=>?_)
  exact h _ _ _ _ _
 exact U _ rfl λt6 t7 t8 t9 bC=>h
end Internal.Mine
end
section
open Internal.Mine
open PySem PySem.W PyProof.Rows
namespace Mine
noncomputable section
noncomputable def S0 (w:aW) (os:dT):ai:=⟨pq w.params,#[],Ra,boot_toks,os⟩
noncomputable def evP (p:bM) (w:aW) (os:dT):=topGo tb p w 11 (some (.ref 6)) 12 (S0 w os) (Bx p)
noncomputable def goodP (U:iz) (w:aW) (os:dT):Option (ai×Thread):=some ((tW w os).abs,⟨denote tb U,U,iX,[AG iX]⟩)
theorem evP_self:@evP=@evP:=rfl
theorem goodP_self:@goodP=@goodP:=rfl
name_quick mineEvP for Mine.evP by Mine.evP_self
name_quick mineGoodP for Mine.goodP by Mine.goodP_self
theorem adD (w:aW) (os:dT):evP pw w os=goodP gj w os:=
 (congrFun (congrFun (congrFun PySem.W.Fast.mineEvP_eq pw) w) os).trans ((by kernel_rfl! : PySem.W.Fast.mineEvP pw w os=PySem.W.Fast.mineGoodP gj w os).trans (congrFun (congrFun (congrFun PySem.W.Fast.mineGoodP_eq gj) w) os).symm)
noncomputable def evQ (p:bM) (U:da) (V:iz) (w:aW) (os:dT):=segRun tb p w 11 (some (.ref 6)) 1 1 (tW w os).abs (blockOf p.main.body U V iX [AG iX])
noncomputable def goodQ (U:iz) (w:aW) (os:dT):Option (iP×ai×iz×aB):=some (.next,(tW w os).abs,U,iX)
theorem evQ_self:@evQ=@evQ:=rfl
theorem goodQ_self:@goodQ=@goodQ:=rfl
name_quick mineEvQ for Mine.evQ by Mine.evQ_self
name_quick mineGoodQ for Mine.goodQ by Mine.goodQ_self
theorem adE (w:aW) (os:dT):evQ pw jG gj w os=goodQ gj w os:=
 (congrFun (congrFun (congrFun (congrFun (congrFun PySem.W.Fast.mineEvQ_eq pw) jG) gj) w) os).trans ((by kernel_rfl! : PySem.W.Fast.mineEvQ pw jG gj w os=PySem.W.Fast.mineGoodQ gj w os).trans (congrFun (congrFun (congrFun PySem.W.Fast.mineGoodQ_eq gj) w) os).symm)
theorem adF (w:aW) (s:ai) (U:aB) (c:iz):By tb pw w 11 (some (.ref 6)) 2 s ⟨doneF .next,c,U,[AG iX]⟩=some s:=by
 obtain ⟨h,g,d,t,o⟩:=s;rfl
theorem adG (w:aW) (os:dT):∃s,By tb pw w 11 (some (.ref 6)) 2815 (S0 w os) (Bx pw)=some s/\xh w.params s=true/\
  Rb q loose [] xt true s=Rc q loose/\xg s.heap=tX w.params:=by
 obtain ⟨⟨f,U,c,p'⟩,e,eA⟩:=ae0.mp (SR w os);have V:=SU w os;have W:=SV w os;have hD:=SW w os;unfold H6 H7 at V;unfold H8 H9 at W;unfold Ia Ib at hD;rw [e] at V W hD;obtain ⟨rfl,rfl⟩:f=.next/\c=gj:=by simpa using eA
 have h1:segRun tb pw w 11 (some (.ref 6)) 1 2800 (tW w os).abs (piecesOf pw.main.body jG gj iX [AG iX])=some (.next,U.abs,gj,p'):=segRun_of e;refine ⟨U.abs,?_,dJ V,dJ W,dJ hD⟩;have h2:=piece_nil (env:=jG) (adF w U.abs p' gj);have h3:=piece_app (rest:=[]) h1 h2;rw [cL] at h3;have h4:=piece_block (adE w os) h3;exact go_top (adD w os) h4
theorem opens:opening pw=plainProg pw.main.scope.names:=by kernel_rfl!
theorem fence (s:ai):fenceModules? pw s=some s:=by kernel_rfl!
theorem Q5:importedModules pw.main.body=[]:=by kernel_rfl!
theorem adH (w:aW):((pq w.params).isNs iA && (#[]:Array AK).size == 0,(pq w.params).objs.size,(pq w.params).nsMap iA "__annotations__")=(true,11,some (af.ref 6)):=by kernel_rfl!
theorem m9 (P:aV):j8=(K P).map (·.1):=rfl
theorem adI (h:aq):xg h=j8.map h.get?:=rfl
theorem adJ (P:aV):tX P=(K P).map λp=>some p.2:=rfl
theorem adK (w:aW) (os:dT) {s:ai}(r:By tb pw w 11 (some (.ref 6)) 2815 (S0 w os) (Bx pw)=some s) :
  By GZ pw w 11 (some (.ref 6)) 4470 (S0 w os) (Bx pw)=some s:=by
 rw [Sw];exact topRun_mono 1655 _ _ _ _ r
theorem adL (w:aW) (s:ai):xh w.params s=(staticsOk [] (pq w.params) s.heap && namesBound pw s.heap && gensDone s && laidKept (pq w.params) s.heap):=rfl
theorem adM (w:aW) (os:dT) {s:ai}(r:By tb pw w 11 (some (.ref 6)) 2815 (S0 w os) (Bx pw)=some s) (U:xh w.params s=true) :
  topFrom GZ pw w 4470 (S0 w os)=some s:=by
 obtain ⟨V,W,z3⟩:_/\_/\_:=by simpa only [Prod.mk.injEq] using adH w
 rw [adL] at U;have r:=adK w os r;unfold S0 at r ⊢;unfold topFrom;dsimp only;rw [V,W,z3,r,Q5,ae1];dsimp only;rw [U]
theorem left:LeftO pw q loose xt (pQ K j8 m9).obs (pQ K j8 m9).val 4470:=λw=>by
 obtain ⟨⟨h,V,d,k,os⟩,e,W⟩:=ae0.mp (boot_open (p:=pw) (N:=4470) opens (by decide) fence w)
 obtain ⟨rfl,rfl,rfl,rfl⟩:h=pq w.params/\V=⟨[]⟩/\d=Ra/\k=boot_toks:=by simpa using W
 obtain ⟨s,r,l1,l2,U⟩:=adG w os;have t:=adM w os r l1;unfold S0 at t;unfold openEnds;rw [e,ae1,t,aeC,Q5,l2];rw [adI,adJ] at U;have l4:(pQ K j8 m9).obs s=(pQ K j8 m9).val w:=U;rw [l4]
end
noncomputable def GX:DefRec:=((defOf q "law").map (·.1)).getD ⟨"",default,[],default,iX⟩
theorem adN:defOf q "law"=some (GX,[]):=by kernel_rfl!
noncomputable def wo:ak:=287
theorem adO:GX.name=("law":ag):=by kernel_rfl!
theorem adP (P:aV):nsFind (match (k3 P).data with | .dict es _=>es | _=>#[]) "law"=some (.ref wo):=by kernel_rfl!
theorem adQ (P:aV):∃es n,(k3 P).data=.dict es n/\nsFind es "law"=some (.ref wo):=(iC _ _ rfl (adP P))
theorem adR (P:aV):(K P).lookup 3=some (k3 P):=by kernel_rfl!
noncomputable def said (l:OpenLaw):Bool:=l.wellSaid
theorem said_self:@said=@said:=rfl
name_quick mineSaid for Mine.said by Mine.said_self
theorem adS:PySem.Challenge.rw_dm0054_05.wellSaid=true:=(congrFun PySem.W.Fast.mineSaid_eq PySem.Challenge.rw_dm0054_05).trans (by kernel_rfl! : PySem.W.Fast.mineSaid PySem.Challenge.rw_dm0054_05=true)
noncomputable def Done (s:ai) (v:af) (U:ai):Prop:=
 v=.bool true/\(∀b o,s.heap.get? b=some o->U.heap.get? b=some o)/\U.os=s.os/\U.gens=#[]
set_option tactic.hygienic true in
theorem hd (walk:∀(w:aW) (s:ai) (l:ak) (vs:List af) (ns:List Int) (mg mb:ag->Option af) (means:ExcName->Option af),
   (K w.params).In s.heap->Top q (gN q loose) means mg mb s.heap->s.gens=#[]->s.heap.IsList l vs.toArray->Hu vs ns->ns.length<=63->s.heap.NoDictAt (.ref l)->
   aA (az pw w) callerA (call (.ref wo) [.ref l]) (Done s) (λzz zz=>False) s):PySem.Challenge.rw_dm0054_05.Holds:=by
 w_on
 refine holds_law adS λsaid=>?_;refine holds_open (d:=GX) (kwd:=[]) (q:=q) (loose:=loose) (Xt:=λs=>xlAt q [] s && recOk (RowW.records (OpenRow.toRowW (OpenLaw.row PySem.Challenge.rw_dm0054_05))) s) (XP:=XL q []) (Yf:=(pQ K j8 m9).obs) (Ya:=(pQ K j8 m9).val) (YP:=(pQ K j8 m9).says) (N:=4470) left ((pQ K j8 m9).of) ((pQ K j8 m9).keeps) (λs e=>xl_of s (kP.mp e).1) XL.keeps adN (by kernel_rfl!) (by kernel_rfl!) (λs e=>recFacts_of (kP.mp e).2) (by rfl) (by first | assumption | decide +kernel) (by decide +kernel) (xN rfl rfl rfl rfl rfl (by decide +kernel)) ?hw ?hc
 case hw=>w_witness2
 intro w afd U mg mb G Y fa o pm cd doc dV kV ho hd vq hD V hg args vals as W adT hrd Q6 jT;have KX:=kIn_of Y;have T:=G.T;have hfa:fa=wo:=by
  refine fS T.g λo3 es3 n3 h1 h2 zz h4=>?_;refine dX (adQ w.params) λes n e1 e2=>?_;have h5:=KX 3 _ (adR w.params);have Mu:U.heap.get? 3=some o3:=h1;rw [Mu] at h5;obtain rfl:=dJ h5;rw [e1] at h2;refine El.aa (Data.dict.inj h2) λbx zz=>?_;subst bx;rw [adO,<-h4,e2] at V;exact (af.ref.inj (dJ V)).symm
 subst hfa;clear G vq hD ho hd;have zj:=Q6
 wrow_args W adT hrd Q6 jT
 rename_i ns _ _ _ _ _ _ _ l vs _ hL _ _ _ hI _ hlen _;refine cK (walk w U l vs ns mg mb _ KX T hg hL hI (by omega) (by cases zj with | cons a _=>cases a with | list h _=>exact ⟨_,h,rfl⟩)) ?_ (λzz zz h=>h.elim)
 rintro v s' ⟨rfl,hk,hos,hgs⟩
 exact GoodW.toG (cB (.inl (CP _ (.bool true) [] rfl (λzz=>rfl) (.bool true) (by first | kernel_rfl! | with_unfolding_all rfl | exact postW_of rfl (by simp) rfl) (λzz=>⟨.nil,λzz h=>El.nm h⟩))) hk hos hgs)
end Mine
end
section
open Internal.Mine
open PySem PySem.W PySem.Calls PyProof.Rows
namespace Mine
noncomputable abbrev adU:Fn:=⟨ag.ofString "_law_stretches",.ref 251,AF⟩
noncomputable abbrev mgN:Fn:=⟨ag.ofString "_law_merge",.ref 280,mergeF⟩
noncomputable abbrev duN:Fn:=⟨ag.ofString "_law_due",.ref 266,An⟩
theorem Q7 {P:Fz}{ns:List Int}(hI:Hu vs ns):aU P vs (intD ns):=by
 induction hI with
 |nil=>exact rfl
 |cons _ _ _ U=>exact ⟨.int _ _,U⟩
theorem walk {ns:List Int}
  (X:(K w.params).In s.heap) (T:Top q (gN q loose) means mg mb s.heap) (hg:s.gens=#[]) (hl:s.heap.IsList l vs.toArray) (hI:Hu vs ns) (hlen:ns.length<=63) (hn:s.heap.NoDictAt (.ref l)) :
  aA (az pw w) callerA (call (.ref wo) [.ref l]) (Done s) (λzz zz=>False) s:=
 YU (D:=7) (dd:=14) (nn:=14) (H:=H0) (ir:=Q3) (b:=true) (P:=λa o=>s.heap.get? a=some o) (fs:=⟨[adU,PZ,mgN,duN],[]⟩) (ps:=["script"]) (ls':=["order","texts","edited","edits","plain","first","second","base","moved","changed"]) ⟨(by kernel_rfl! : (K w.params).lookup 287=some ⟨.type "function",none,.func (Gn 13 "law" (.ref 286)),#[]⟩),by kernel_rfl!,by decide +kernel⟩ (sH 1 λx=>aC (by kernel_rfl!)) ⟨vV _,vW w,
  cz.mpr ⟨fk ads,cz.mpr ⟨fk PR,cz.mpr ⟨fk ac7,cm.mpr (fk ack)⟩⟩⟩,gb⟩ (by kernel_rfl!) X T rfl (by decide +kernel) (by decide +kernel) (λzz zz h=>h) (ds:=[.list (intD ns)]) (by refine ef hl λo e c d=>?_;clear hl;exact ⟨.list (ws:=vs) (o:=o) e ⟨c,d,hn.of e⟩ (Q7 (P:=λzz zz=>True) hI).len (rQ (Q7 hI)),rfl⟩) rfl (adC (ds:=[.list (intD ns)]) (k:=λd=>d=.bool true) (dq ns rfl hlen rfl)).2 λh' tk hk=>(cB rfl hk rfl hg)
end Mine
end
end
theorem PySem.Challenge.cw_dm0054_05_holds : PySem.Challenge.rw_dm0054_05.Holds := by
 exact Mine.hd λw s l vs ns mg mb means X T hg hl hI hlen hn=>Mine.walk X T hg hl hI hlen hn
