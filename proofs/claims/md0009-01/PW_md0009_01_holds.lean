import PyProof.Rows.All
import KE.KDictLaws
import Wide.FinOn
import OpenK.AllK
import Wide.All
import Lean
import PySem.Challenge.RW_md0009_01
set_option Elab.async false
set_option maxRecDepth 100000
set_option maxHeartbeats 8000000
set_option linter.all false
set_option tactic.hygienic false
set_option bootstrap.genMatcherCode false
set_option genSizeOf false
set_option compiler.extract_closed false
set_option genInjectivity false
set_option genCtorIdx false
set_option compiler.reuse false
namespace Bd
open Option renaming some->Y,none->R,isSome_iff_exists->bp,map_eq_some_iff->cM,isSome_map->dk,bind_eq_some_iff->jU,not_isSome_iff_eq_none->j7,isNone_iff_eq_none->l4,bind_some->pM,toList_some->Aq,getD_some->CN,map_none->DY,casesOn->GA,none->Mh
open PySem renaming wpAny_bind->af,wpAny_pure->aj,wpAny_mono->aG,wpAny_holding->aJ,wpAny->aN,wpAny_standAt->aR,Addr->aW,Shared->aZ,model->bw,isSubtype_type->bM,wpAny_call_entry->bN,World->cC,Builtin->cK,standAt->cN,wpAny_newObj_type->cR,builtinLookup_eq_fast->cU,wpAny_setEntries_of->cZ,mainGlobals->dt,sizeLine_eq->dw,wpAny_setState_of->dK,wpAny_callSpecial?_slot->dU,compEnvC->dY,wpAny_isInstance->ed,typeLookup_type->eA,holding->eD,rawInt->eK,Stmt->fz,wpAny_pyIter_slot->fI,bindArgs->fK,wpAny_of_eq->fU,codeAny_builtin->ib,entryFor_of_tree->iB,checkBuiltinCall->iC,Around->iJ,wpAny_setField_rec->iK,firstArgMember->iL,wpAny_operating->ja,cellsFrom->jb,SetTable->jm,builtinsNs->jx,keywordEach->j6,starEach->kz,wpAny_specialOf->kA,swappedStores->kH,swapsWith->kI,callEnv->k6,wpAny_storeSet_of->lg,wpAny_dictEntries->lh,entryFor->lJ,wpAny_fieldsOf->lK,closureFor->lL,wpAny_pyHash_int->lV,bootBuiltins->lW,wpAny_askSetting->lX,callEnvC->mA,compTurn->mB,comprehension->mC,Program->mL,importedModules->mM,wpAny_rule->mW,argsOk->mX,wpAny_point->nk,isSubtype->nq,wpAny_truthy_bool->oh,sizeLine->oy,getMethod_builtin->oz,call_meetsIn->oB,codeAny_mono->oG,foldedSetIterable->oI,entryFor_alias->oO,callSpecial?->oQ,Heap->oX,wpAny_notOrdered_dict->o7,tupleKind->pJ,assignEach->pK,wpAny_call->pL,wpAny_typeNameOfWhole_itemiter->pQ,hashInt->qf,behindInMarks->qh,assignInOrder->qi,Keyword->qj,backToKw->qG,FuncData->qH,slotArgs->qI,wpAny_typeNameOfWhole_keyiter->qM,wpAny_field->qN,pyIter->qZ,letOwnedTupleGo->ra,wpAny_ite_split->rb,DictEntry->rW,seqItems?->rX,Scope->sq,Operator->sI,methodCallForm->sJ,letTemporaryGo->sM,wpAny_typeNameOf_itemiter->tw,wpAny_evalAll_nil->tL,slot_dict_getitem->tQ,wpAny_pyIter_list->tR,wpAny_pyIter_dict->tT,wpAny_setEpoch_of->tU,swapsWithSole->ue,backTo->uf,attributeBase->uh,methodCallPos->ui,pyNext->uj,wpAny_onRaise->uk,wpAny_attempt->um,wpAny_handled->uo,plainId_quiet->uq,checkTypeCall->uu,wpAny_comprehension_free->uw,wpAny_typeNameOf_keyiter->uy,pickOrder->vg,wpAny_pyNext_items_item->vl,compStart->vq,check_set_init_1->vw,eqBool->wj,sysModules->wt,isTrue->wu,relabel->wz,codeAny_of_tree->wV,size_of_entries->wY,exec_Assign_Name_used->w9,wpAny_storeName_cell->yh,evalThenUse->yi,wpAny_letTemporaryGo->yj,table->ym,wpAny_throw->yo,isSubtype_stop->yp,wpAny_runValue->yq,codeAny_call_builtin->yt,evalPairs_cons->yw,wpAny_letGo->yy,storeName->yU,valueAt->yV,clausesOf->yW,wpAny_release->zF,signature?_of->zH,typeLookup->Ak,wpAny_getItem_list->Am,wpAny_pyIter_items->An,noKeywords->Ap,StrKeys->BG,operate->BH,bindName->BJ,slot_list_getitem->BL,wpAny_typeOf->BP,wpAny_eqBool_str->Cz,assign->CA,codeAny_call_def->CF,wpAny_getItem_of->CH,putSet_of->CJ,wpAny_setScan_of->CK,wpAny_Dict_pairs->CM,pushCells->CO,wpAny_mkInt->Dw,richCompare->Dz,unpackItems->DB,getItem->Et,layNew->Gs,nsFind->Gu,execs->Gv,wpAny_Name->Gw,loadGlobal->Gx,CmpOp->Gy,point->Gz,runOwn->GB,newExc->GC,raiseNew->GD,someArgs->GG,call->Og
open PySem.Str renaming ofString->ah
open Bool renaming true->L,false->au,false_ne_true->aI,and_eq_true_iff->ba,and_eq_true->bW,false_eq_true->e9,not_eq_true'->fE,false_xor->lN,or_eq_true_iff->ma,or_eq_true->qX,xor_right_inj->sW,not_false->yf,not_true->zB,true_and->zC,true_xor->Hx
open Option.some renaming inj->ax,injEq->tO
open Array renaming length_toList->aD,getElem?_toList->bA,getElem?_eq_getElem->cB,eq_empty_of_size_eq_zero->jX,toList_push->ou,getElem?_eq_none->oP,getD->pH,getD_eq_getD_getElem?->rI,getElem?_eq_some_iff->su,size_map->sG,getElem?_eq_none_iff->sT,toList_filterMap->wo,toList_extract->yc,isEmpty->zI,any_toList->CG,replicate->DX,mem_def->Hv,size->Oh
open Ne renaming symm->aE
open PySem.Heap renaming get?_push_of_some->aF,get?_push_size->aO,lt_size->aU,SameBut->cQ,size_push->fJ,get?_update_self->iS,ExtBut->qE,dictOf_iff->wU
open List renaming getElem?_eq_some_iff->aL,not_mem_nil->aM,mem_cons_self->aQ,mem_cons->aS,mem_singleton->aV,getElem?_map->bb,mem_of_getElem?->bo,casesOn->bB,range->bO,getElem?_eq_getElem->b9,map_cons->cj,lookup_cons->cq,all_eq_true->ct,mem_append->cy,length_map->cE,mem_map->cG,map_congr_left->cJ,nodup_cons->dj,mem_cons_of_mem->dG,mem_range->dS,eraseIdx_eq_take_drop_succ->ej,forall_mem_cons->ez,mem_map_of_mem->eL,nodup_append->eM,take_append_drop->eO,filterMap_cons_some->eT,idxOf_lt_length_of_mem->ft,map_map->fH,take_add_one->fL,length_filter_le->gb,mem_reverse->gm,filter_cons->gn,perm_cons_erase->gE,range_succ->hH,map_append->hO,findIdx?_eq_none_iff->iY,mem_append_left->jk,getElem?_range->jI,perm_middle->jS,length_cons->jT,take_length->jV,nodup_nil->jW,pairwise_lt_range->kf,getElem_cons_drop->kg,sum_cons->kJ,mem_append_right->kR,reverse_cons->k7,pairwise_iff_getElem->lZ,getElem?_eq_none_iff->l3,filterMap_cons->l9,filterMap_cons_none->my,mem_filter->mO,length_eq_zero_iff->nj,findIdx?_eq_some_iff_getElem->nz,take_of_length_le->om,append_assoc->ow,eraseIdx_sublist->o5,filterMap_append->o6,getElem_mem->pN,rec->qA,mem_iff_getElem->qC,mem_of_mem_take->qL,find?_cons->qY,perm_singleton->ru,getElem?_drop->sx,length_eraseIdx_of_lt->sy,perm_append_singleton->sD,findIdx?_cons->sO,perm_cons->sS,getElem_idxOf->sY,mem_or_eq_of_mem_set->tx,any_eq_false->tK,size_toArray->tN,length_erase_of_mem->uc,all_cons->ug,mem_of_mem_eraseIdx->ur,pairwise_singleton->vA,append_nil->wQ,isPerm_iff->wR,filter_map->wX,mem_iff_getElem?->w5,mem_of_mem_erase->xb,forIn_nil->yx,filter_sublist->zf,filter_eq_self->zg,toList_toArray->zh,reverse_append->zj,findIdx?->zG,getElem?_take->Ah,filterMap_nil->Ai,find?_eq_none->Aj,lookup_append->Al,take_sublist->BD,map_nil->BK,isEmpty_iff->CD,isEmpty_nil->CL,length_take->CT,map_id->DC,forIn_cons->D3,length_nil->D4,any_cons->Hr,filter->Mi
open Int renaming natAbs->aT,toNat->bk,le_refl->dm,natAbs_neg->eU,le_of_lt->ik,not_lt->iH,min_eq_right->jQ,min_eq_left->ku,lt_of_le_of_lt->mY,add_zero->oa,le_trans->og,toNat_natCast->oU,fmod_nonneg_of_pos->oV,mul_le_mul_of_nonneg_right->pR,mul_assoc->qe,neg_one_mul->qV,toNat_of_nonneg->rn,zero_add->rG,ofNat_lt->rH,natCast_nonneg->so,fmod_lt_of_pos->sZ,add_assoc->ub,lt_irrefl->ux,eq_ofNat_of_zero_le->ve,ofNat_le->we,sub_nonneg_of_le->x9,sub_eq_add_neg->Ab,not_le->Ad,add_left_comm->Bw,lt_or_le->Bx,pow_succ->BR,le_antisymm->D0,zero_mul->JV,mul_comm->JW,le_of_eq->JX
open Nat renaming le_of_ble_eq_true->bg,le_trans->bP,ne_of_lt->bX,casesOn->cV,lt_irrefl->dA,le_refl->dH,lt_trans->d7,succ_pos->ei,lt_succ_self->eE,zero_le->fj,beq->gX,pow_succ->jl,mul_assoc->jw,not_lt->jy,le_of_lt->kc,mul_comm->ke,ne_of_gt->kh,mod_lt->lI,le_succ->lM,rec->mK,two_pow_pos->mN,lt_or_ge->oe,lt_succ_of_lt->oj,succ_ne_zero->pO,pow_le_pow_right->qB,not_lt_zero->qW,add_le_add_left->ro,mul_add->tI,le_succ_of_le->tJ,blt->wc,div_div_eq_div_mul->wk,mul_add_mod->wO,one_mul->yb,mul_le_mul_left->ze,add_assoc->zy,lt_of_lt_of_le->Ag,add_sub_cancel->Ao,mul_left_comm->By,add_zero->Bz,lt_trichotomy->BB,le_of_eq->BO,succ_ne_self->CP,add_mul->DA,div_add_mod->DW,zero_lt_one->D6,ble->Es,succ->Me
open Prod renaming mk->bG
open List.Nodup renaming length_le_of_subset->bS,not_mem_erase->uB
open PySem.SetTable renaming below->bZ,bits->cu,insertAt->dJ,eraseAt->dT,sizeAbove->d8,runEnd->eY,leap->gu,turns->gC,advance->iA,fresh->iN,insertAt_perm->oq,fill->qg,grown->sH,laid->ud,Met->wm,popped->wW,slot->zz,fits->zA,has->BC,freeSlot->BE,layClean->BF
open Unit renaming unit->cF
open PySem.Heap.SameBut renaming update->cY,refl->BN
open PySem.Builtin.Frozenset renaming updateFrom->d9,isAnySet->iO,sizeOf->jA,addrOf->jB,oneOther->sR,subsetOf->sV,slot0->vn,withSetAsKey->CQ,walkUnseen->D5,newClass->GF,noArgs->Hs,merge->It
open PySem.F renaming slot_dict_pop->ee,called_set->fc,slot_dict_items->gY,slot_enumerate_iter->il,slot_dict_keyiterator_next->iM,slot_dict_get->iT,type_dict_pop->iU,type_dict_items->jY,slot_dict_setdefault->kB,slot_set_iter->kS,slot_dict_itemiterator_next->mD,entry_dict_pop->oE,typeCall_set_1->oR,type_dict_get->o8,newCall_set_1->pa,slot_set_add->qJ,args_enumerate_iter_1->qK,entry_enumerate_iter->rd,type_dict_setdefault->rg,slot_enumerate_next->rM,slot_dict_values->uv,slot_list_append->uz,type_list_append->uA,plainAttrs_dict->vi,args_dict_get_2->vj,args_dict_pop_2->vk,args_set_iter_1->vm,slot_set_remove->vz,entry_dict_get->wy,plain_set_new->w8,slot_set_len->yr,slot_set_pop->yu,type_set_add->yB,slot_set_ne->zi
open PySem.Around renaming under_plainId->fk
open PySem.SetTable.layClean renaming free->fD
open PySem.Expr renaming casesOn->fF
open PySem.Value renaming none->gk,ref->jc,type->pP,casesOn->Hw
open PySem.Shared renaming TypeIs->gz
open PySem.W.Fast renaming tw14082659384304107361->iq,tw14364793385576792824->mr,te14082659384304107361->zw,te14364793385576792824->zx,tw4187177175401517315->Ae,te4187177175401517315->Af
open PySem.SetTable.instReprSlot.repr renaming match_1->iI
open List.Pairwise renaming sublist->iR,filter->yC,imp_of_mem->Hq,imp->PQ,map->PR
open Classical renaming byContradiction->iX,em->wg,not_forall->yd
open PySem.W renaming findIn->jz,tabObj->kT,instObj->k8,Frag->wi,typeIn->wx,emptyDict->yY,handedIn->BI,look_both->Cy,codeIn->CB,codeHd_of_K->DE,fnMade->GI
open Prod.mk renaming inj->j8,injEq->Hp
open PySem.Calls renaming call_function_entry->mi,call_function_entry->tn
open PySem.Builtin.SmallTypes renaming refuseKeywords->nB,newClass->rN,iterAll->GH,nextOf->GS
open PySem.SetTable.probe renaming go->ot
open PySem.Builtin renaming bitXor->ox,bitAnd->yg,bitOr->zE
open PyProof.Rows renaming valueAt_kvsOf->qk,call_isinstance_yes->rp,IntsAre->rJ,kvsOf->zD
open List.Mem renaming tail->ql
open PySem.Builtin.Dict_items renaming ownsTuple->rf
open PySem.Builtin.Range renaming small->rt,rangeFitsLong->rO,rangeSize->vo
open PySem.Builtin.List renaming listLengthHint->rK
open HAdd renaming hAdd->rV
open PySem.Obj renaming putSet->sQ,putName->tP,data_mapDictKeys->yA,data->Mj
open PySem.Builtin.Dict renaming keyAndDefault->sU,takeOut->yz,selfAndRest->Ht,addKeywords->Hu
open Eq renaming mpr->sX
open PySem.Flow renaming next->vh,ret->Mg
open PySem.SetTable.sizeAbove renaming go->w6
open PySem.SetTable.drop renaming match_1->w7
open List.Perm renaming cons->ye,eq_nil->CR
open PySem.SetTable.below renaming go->BA
open Nat.succ renaming inj->BQ
open PySem.IntMulOk renaming of_left->CS
open List.cons renaming injEq->DZ
open PySem.W.WShape renaming hasItems->D7
open False renaming elim->Gr
open Int.ofNat renaming inj->Ho
open PySem.EqBoolInt renaming of_rcne->Iu
open PySem.DictEntry renaming mk->JY
open Fin.mk renaming injEq->JZ
open PySem.SeqAt.RcNeAt renaming bool_bool->J0
open PySem.swappedStores renaming match_5->Kb
open PySem.pickOrder.go renaming match_1->Mf
open List.Sublist renaming map->RE
universe u0 u1 u2 u3 u4 u5
section
open Lean
def oN(k:Name)(xs:List Syntax):Syntax:=.node .none k xs.toArray
def oA(s:String):Syntax:=.atom .none s
def oT (s : String) (xs : List Syntax) : Syntax := oN (.str `Lean.Parser.Tactic s) xs
def oM (s : String) (xs : List Syntax) : Syntax := oN (.str `Lean.Parser.Term s) xs
def oL (xs : List Syntax) : Syntax := oN `null xs
def oJ(s:String)(xs:List Syntax):Syntax:=oL (xs.intersperse (oA s))
def oS(a:List Syntax):Syntax:=oT "tacticSeq" [oT "tacticSeq1Indented" [oJ ";" a]]
def oPa(a:List Syntax):Syntax:=oT "paren" [oA "(",oS a,oA ")"]
def oHo(x:Syntax):Syntax:=oM "syntheticHole" [oA "?",x]
def oH:Syntax:=oHo (oA "_")
def VR(f:Syntax)(xs:List Syntax):Syntax:=oM "app" [f,oL xs]
def e?(x:Syntax):Syntax:=oT "refine" [oA "refine",x]
def oFu(xs:List Syntax)(b:Syntax):Syntax:=oM "fun" [oA "fun",oM "basicFun" [oL xs,oL [],oA "=>",b]]
def oF (ts : List Syntax) : Syntax := oT "first" [oA "first", oL (ts.map fun t => oN `group [oA "|", oS [t]])]
def oWr(t:Syntax):Syntax:=oT "withReducible" [oA "with_reducible",oS [t]]
def oTr(t:Syntax):Syntax:=oT "tacticTry_" [oA "try",oS [t]]
def oPm(a:List Syntax):Syntax:=oT "rcasesPatMed" [oJ "|" a]
def oLo(p:Syntax):Syntax:=oT "rcasesPatLo" [p,oL []]
def oOb(p t:Syntax):Syntax:=oT "obtain" [oA "obtain",oL [oPm [p]],oL [],oL [oA ":=",oL [t]]]
def oRc(t q:Syntax):Syntax:=oT "rcases" [oA "rcases",oL [oT "elimTarget" [oL [],t]],oL [oA "with",q]]
def oK (o : Syntax) (s : String) : Bool := o.getKind == .str `Lean.Parser.Tactic.rcasesPat s
def oId (o : Syntax) : Bool := oK o "one" && o[0].getId != `rfl
def oTu(o:Syntax):Bool:=oK o "tuple"&&o[1].getNumArgs>1
def oCl(h:Syntax)(b:Bool):List Syntax:=if h.isIdent&&b then [oTr (oT "clear" [oA "clear",oL [h]])] else []
def oY(z:Name)(k:Nat):Syntax:=mkIdent (z.modifyBase λn=>n.appendIndexAfter k)
def oPs(i q:Syntax):Syntax×List Syntax:=
 let s:=q[0][0]
 let o:=s[0]
 if s.getNumArgs==1 then
  if oId o then(o[0],[]) else if oK o "ignore" then(oM "hole" [oA "_"],[]) else(i,[if oTu o then oOb o i else oRc i q])
 else(i,[oRc i q])
def oAl(z:Name)(qs:List Syntax)(r:List (Syntax×List Syntax))(h:Syntax)(d i:Nat):List Syntax:=
 let ak:=qs.length-1-d
 if i<=ak&&ak<=13 then
  let k:=if d==0 then ak+1 else ak
  let ids:=(r.take k).map (·.1)
  let l:=if d==0 then [] else [oY z 99]
  [oPa (e? (VR (mkIdent (.str `Bd ("e_" ++ "".pushn 'x' i ++ "".pushn 'a' (ak - i)))) [h, oFu (ids ++ l) oH]) :: ((oCl h (!(r.any fun i => i.1.getId == h.getId)))
   ++ (r.take k).flatMap (·.2) ++ l.map fun y => oOb (oN `Lean.Parser.Tactic.rcasesPat.tuple [oA "⟨", oJ "," (qs.drop ak), oA "⟩"]) y))]
 else []
def adb(s:Syntax):MacroM Syntax:=do
 let p:=s[1][0]
 let o:=p[0][0]
 if s[1].getNumArgs==1&&p[0].getNumArgs==1&&oTu o&&s[2].getNumArgs==0&&s[3][1].getNumArgs==1 then
  let z ← Macro.addMacroScope `z
  let h:=s[3][1][0]
  let qs:=o[1].getSepArgs.toList
  let r:=qs.zipIdx.map λx=>oPs (oY z x.2) x.1
  return oF (((bO (qs.length-1)).flatMap λd=>(bO 7).flatMap λi=>oAl z qs r h d i)++[oRc h (oLo p)])
 else Macro.throwUnsupported
def oCa(z:String)(y:Syntax)(h:Syntax)(o:List Syntax):Syntax×Syntax:=
 let t:=mkIdent (.mkSimple z)
 let r:=oPs y (oLo (oPm o))
 (oFu [r.1] (oHo t), oT "case'" [oA "case'", oL [oT "caseArg" [oN `Lean.binderIdent [t], oL []]], oA "=>", oS (oCl h (r.1.getId != h.getId) ++ oT "skip" [oA "skip"] :: r.2)])
def ade(s:Syntax):MacroM Syntax:=do
 let p:=s[2][1]
 let ps:=p[0][0].getSepArgs.toList
 if s[1].getNumArgs==1&&s[1][0][0].getNumArgs==0&&ps.length>1 then
  let z ← Macro.addMacroScope `z
  let h:=s[1][0][1]
  let a:=oCa s!"l{z.hash}" (oY z 0) h (ps.take 1)
  let b:=oCa s!"r{z.hash}" (oY z 1) h (ps.drop 1)
  return oF [oPa [e? (VR (mkIdent `Or.elim) [h, a.1, b.1]), b.2, a.2], oT "obtain" [oA "obtain", oL [p[0]], oL [], oL [oA ":=", oL [h]]]]
 else Macro.throwUnsupported
def oRw(s:Syntax):MacroM Syntax:=
 if s[3].getNumArgs==0&&s[1][0].getNumArgs==0 then
  return oPa ((s[2][1].getSepArgs.toList.map fun r => oF [oWr (e? (VR (mkIdent (if r[0].getNumArgs == 0 then `Bd.rwT else `Bd.rwS)) [VR r[1] [oM "ellipsis" [oA ".."]], oH])),
   oT "rewriteSeq" [oA "rewrite",oT "optConfig" [oL []],oT "rwRuleSeq" [oA "[",oL [r],oA "]"],oL []]])++[oTr (oWr (oT "tacticRfl" [oA "rfl"]))])
 else Macro.throwUnsupported
def oSh (s : Syntax) : MacroM Syntax := return e? (oM "typeAscription" [oM "hygienicLParen" [oA "(", oN `hygieneInfo [mkIdent `_]], oH, oA ":", oL [s[1]], oA ")"])
end
section
open Lean
def oEl (t : Syntax) : List Syntax := if t.getKind == `Lean.Parser.Term.tuple then t[1][0] :: t[1][2].getSepArgs.toList else t[1].getSepArgs.toList
def oPt:Syntax->Syntax:=Nat.repeat (λf t=>
  if t.isIdent then oN `Lean.Parser.Tactic.rcasesPat.one [t]
  else if t.getNumArgs == 1 then oN `Lean.Parser.Tactic.rcasesPat.ignore [t[0]]
  else oN `Lean.Parser.Tactic.rcasesPat.tuple [oA "⟨", oJ "," ((oEl t).map fun x => oLo (oPm [f x])), oA "⟩"]) 30 id
def adf(s:Syntax):MacroM Syntax:=
 let d:=s[2][0]
 let p:=if d[0].getNumArgs==1 then d[0][0] else d[0]
 if !p.isIdent || p.getId == `rfl then
  return oT "obtain" [oA "obtain",oL [oPm [oPt p]],oL d[2][0].getArgs.toList,oL [d[3],oL [d[4]]]]
 else return oT "tacticHave__" [oA "have",s[1],s[2]]
def oBy(t:Syntax):Syntax:=oM "byTactic" [oA "by",oS [t]]
def oTup(s:Syntax):MacroM Syntax:=
 if s[1].getNumArgs==0 then return oBy (oT "tacticRfl" [oA "rfl"]) else return oM "anonymousCtor" [oA "⟨",oJ "," (oEl s),oA "⟩"]
def adg(s:Syntax):MacroM Syntax:=
 let t:=s[1][0][0]
 if s[1][0][1].getNumArgs !=0 then Macro.throwUnsupported
 else if t.getKind == `Lean.Parser.Term.app then return e? (VR t[0] (t[1].getArgs.toList ++ [oH])) else return e? (VR t [oH])
def oEx (s : Syntax) : MacroM Syntax := return oF [oT "exact" [oA "exact", s[1]], e? (oM "typeAscription" [oM "hygienicLParen" [oA "(", oN `hygieneInfo [mkIdent `_]], oH, oA ":", oL [s[1]], oA ")"])]
def ē(c:String)(x:Syntax):MacroM Syntax:=return VR (oM "dotIdent" [oA ".",mkIdent (.mkSimple c)]) [x]
def Ĕ(x:Syntax)(c:String):Syntax:=oM "proj" [x,oA ".",mkIdent (.mkSimple c)]
def oDe(s:Syntax):MacroM Syntax:=
 let d:=s[1]
 let m:=s[0]
 if m[4].getNumArgs==0 then
  let c:=d[2][1].getNumArgs==0
  let df (r : Bool) := oN `Lean.Parser.Command.declaration [(m.setArg 1 (oL (if r then [oM "attributes" [oA ("@".push '['), oL [oM "attrInstance" [oM "attrKind" [oL []], oN `Lean.Parser.Attr.simple [mkIdent `reducible, oL []]]], oA "]"]] else []))).setArg 4 (oL [oN `Lean.Parser.Command.noncomputable [oA "noncomputable"]]), oN `Lean.Parser.Command.definition [oA "def", d[1], d[2], d[3], oL []]]
  if d.getKind == `Lean.Parser.Command.definition then
   if c then return df au else
   let t := oN `Lean.Parser.Command.declaration [m.setArg 6 (oL []), oN `Lean.Parser.Command.theorem [oA "theorem", d[1], oN `Lean.Parser.Command.declSig [d[2][0], d[2][1][0]], d[3]]]
   return if m[6].getNumArgs == 0 then t else oN `Lean.Parser.Command.in [oN `Lean.Parser.Command.set_option [oA "set_option", mkIdent `tactic.hygienic, oL [], oA "true"], oA "in", t]
  else if d.getKind == `Lean.Parser.Command.abbrev then return df (c || m[1].getNumArgs != 0)
  else if s.getPos?.isSome then return s.rewriteBottomUp λt=>t.setInfo .none
  else Macro.throwUnsupported
 else Macro.throwUnsupported
def oHp (s : Syntax) : MacroM Syntax := return oM "structInst" [oA "{", oL [oL [s[0]], oA "with"], oM "structInstFields" [oL [oM "structInstField" [oM "structInstLVal" [mkIdent `heap, oL []], oL [oL [], oL [], oM "structInstFieldDef" [oA ":=", oL [], s[2]]]]]], oM "optEllipsis" [oL []], oL [], oA "}"]
def oNs(s:Syntax):MacroM Syntax:=
 match s[3].isNatLit? with
 | some k => return oN `«term[_]» [oA "[", oJ "," (s[1].getSepArgs.toList ++ List.replicate k (mkIdent `R : Syntax)), oA "]"]
 |none=>Macro.throwUnsupported
theorem aK{c:Prop}{h:Decidable c}(k:¬c){d:Sort u}{a b:d}:ite c a b=b:=if_neg k
theorem bj{c:Prop}{h:Decidable c}(k:c){d:Sort u}{a b:d}:ite c a b=a:=if_pos k
end
local macro_rules (kind:=Lean.Parser.Tactic.rwSeq)|s=>Bd.oRw s
local macro_rules (kind:=Lean.Parser.Tactic.obtain)|s=>Bd.adb s
local macro_rules (kind:=Lean.Parser.Tactic.rcases)|s=>Bd.ade s
local macro_rules (kind := Lean.Parser.Tactic.show) | s => Bd.oEx s
local macro_rules (kind := coeNotation) | s => return Bd.VR (Lean.mkIdent `Bd.bs) [Lean.mkIdent `w, Lean.mkIdent `B, s[1]]
local macro_rules (kind := «term~~~_») | s => return Bd.VR (Lean.mkIdent `PySem.model) [Bd.Ĕ s[1] "prog", Bd.Ĕ s[1] "w"]
local macro_rules (kind := Lean.Parser.Tactic.tacticLet__) | s => Bd.adf s
local macro_rules (kind := Lean.Parser.Term.tuple) | s => Bd.oTup s
local macro_rules (kind := Lean.calcTactic) | s => Bd.adg s
local macro_rules (kind := «term_\_») | s => return Bd.VR (Lean.mkIdent `Bd.aA) [Lean.mkIdent `V, s[0], s[2]]
local macro_rules (kind := «term!_») | s => Bd.ē "ref" s[1]
local macro_rules (kind := coeFunNotation) | s => Bd.ē "int" s[1]
local macro_rules (kind := coeSortNotation) | s => return Bd.Ĕ (Bd.Ĕ (Bd.Ĕ s[1] "heap") "objs") "size"
local macro_rules (kind := Lean.Parser.Term.omission) | s => return Bd.oBy (Bd.oN `tacticKernel_rfl [Bd.oA "kernel_rfl"])
local macro_rules (kind := «term∅») | s => return Bd.oBy (Bd.oT "decide" [Bd.oA "decide", Bd.oT "optConfig" [Bd.oL []]])
local macro_rules (kind := «term∎») | s => return Bd.oBy (Bd.oT "assumption" [Bd.oA "assumption"])
local macro_rules (kind := Lean.Parser.Command.declaration) | s => Bd.oDe s
local macro_rules (kind := «term_<*_») | s => Bd.oHp s
local macro_rules (kind := «term%[_|_]») | s => Bd.oNs s
local macro_rules (kind := PySem.W.tacticLk) | s => return Bd.oT "decide" [Bd.oA "decide", Bd.oT "optConfig" [Bd.oL [Bd.oT "configItem" [Bd.oT "posConfigItem" [Bd.oA "+", Lean.mkIdent `kernel]]]]]
section
variable{p:Prop}{a b c d e f g i j l m n o:Prop}
def e_a(h:a/\b)(k:a->b->p):p:=k h.1 h.2
def e_aa(h:a/\b/\c)(k:a->b->c->p):p:=k h.1 h.2.1 h.2.2
def bt(h:a)(I:b)(k:c):a/\b/\c:=(h,I,k)
def e_aaa(h:a/\b/\c/\d)(k:a->b->c->d->p):p:=k h.1 h.2.1 h.2.2.1 h.2.2.2
def ek(h:a)(I:b)(k:c)(K:d):a/\b/\c/\d:=(h,I,k,K)
def e_aaaa(h:a/\b/\c/\d/\e)(k:a->b->c->d->e->p):p:=k h.1 h.2.1 h.2.2.1 h.2.2.2.1 h.2.2.2.2
def tA(h:a)(I:b)(k:c)(K:d)(ak:e):a/\b/\c/\d/\e:=(h,I,k,K,ak)
def e_aaaaa(h:a/\b/\c/\d/\e/\f)(k:a->b->c->d->e->f->p):p:=k h.1 h.2.1 h.2.2.1 h.2.2.2.1 h.2.2.2.2.1 h.2.2.2.2.2
def uF(h:a)(I:b)(k:c)(K:d)(ak:e)(h2:f):a/\b/\c/\d/\e/\f:=(h,I,k,K,ak,h2)
def e_aaaaaaa(h:a/\b/\c/\d/\e/\f/\g/\i)(k:a->b->c->d->e->f->g->i->p):p:=k h.1 h.2.1 h.2.2.1 h.2.2.2.1 h.2.2.2.2.1 h.2.2.2.2.2.1 h.2.2.2.2.2.2.1 h.2.2.2.2.2.2.2
end
section
variable{p:Prop}{A:Sort u0}{a b c d e f g i j l m n o:A->Prop}
def e_x(h:∃x,a x)(k:∀x,a x->p):p:=h.elim λx q=>k x q
def e_xa(h:∃x,a x/\b x)(k:∀x,a x->b x->p):p:=h.elim λx q=>k x q.1 q.2
def aC(x)(h:a x)(I:b x):∃x,a x/\b x:=(x,h,I)
def e_xaa(h:∃x,a x/\b x/\c x)(k:∀x,a x->b x->c x->p):p:=h.elim λx q=>k x q.1 q.2.1 q.2.2
def dc(x)(h:a x)(I:b x)(k:c x):∃x,a x/\b x/\c x:=(x,h,I,k)
def e_xaaa(h:∃x,a x/\b x/\c x/\d x)(k:∀x,a x->b x->c x->d x->p):p:=h.elim λx q=>k x q.1 q.2.1 q.2.2.1 q.2.2.2
def kU(x)(h:a x)(I:b x)(k:c x)(K:d x):∃x,a x/\b x/\c x/\d x:=(x,h,I,k,K)
def e_xaaaa(h:∃x,a x/\b x/\c x/\d x/\e x)(k:∀x,a x->b x->c x->d x->e x->p):p:=h.elim λx q=>k x q.1 q.2.1 q.2.2.1 q.2.2.2.1 q.2.2.2.2
def Kc(x)(h:a x)(I:b x)(k:c x)(K:d x)(ak:e x):∃x,a x/\b x/\c x/\d x/\e x:=(x,h,I,k,K,ak)
end
section
variable{p:Prop}{A:Sort u0}{B:Sort u1}{a b c d e f g i j l m n o:A->B->Prop}
def e_xx(h:∃x y,a x y)(k:∀x y,a x y->p):p:=h.elim λx ae=>ae.elim λy q=>k x y q
def rY(x y)(h:a x y):∃x y,a x y:=(x,y,h)
def e_xxa(h:∃x y,a x y/\b x y)(k:∀x y,a x y->b x y->p):p:=h.elim λx ae=>ae.elim λy q=>k x y q.1 q.2
def jo(x y)(h:a x y)(I:b x y):∃x y,a x y/\b x y:=(x,y,h,I)
def e_xxaa(h:∃x y,a x y/\b x y/\c x y)(k:∀x y,a x y->b x y->c x y->p):p:=h.elim λx ae=>ae.elim λy q=>k x y q.1 q.2.1 q.2.2
def fX(x y)(h:a x y)(I:b x y)(k:c x y):∃x y,a x y/\b x y/\c x y:=(x,y,h,I,k)
def e_xxaaa(h:∃x y,a x y/\b x y/\c x y/\d x y)(k:∀x y,a x y->b x y->c x y->d x y->p):p:=h.elim λx ae=>ae.elim λy q=>k x y q.1 q.2.1 q.2.2.1 q.2.2.2
def nE(x y)(h:a x y)(I:b x y)(k:c x y)(K:d x y):∃x y,a x y/\b x y/\c x y/\d x y:=(x,y,h,I,k,K)
def e_xxaaaa(h:∃x y,a x y/\b x y/\c x y/\d x y/\e x y)(k:∀x y,a x y->b x y->c x y->d x y->e x y->p):p:=h.elim λx ae=>ae.elim λy q=>k x y q.1 q.2.1 q.2.2.1 q.2.2.2.1 q.2.2.2.2
def Hy(x y)(h:a x y)(I:b x y)(k:c x y)(K:d x y)(ak:e x y):∃x y,a x y/\b x y/\c x y/\d x y/\e x y:=(x,y,h,I,k,K,ak)
def e_xxaaaaa(h:∃x y,a x y/\b x y/\c x y/\d x y/\e x y/\f x y)(k:∀x y,a x y->b x y->c x y->d x y->e x y->f x y->p):p:=h.elim λx ae=>ae.elim λy q=>k x y q.1 q.2.1 q.2.2.1 q.2.2.2.1 q.2.2.2.2.1 q.2.2.2.2.2
def rZ(x y)(h:a x y)(I:b x y)(k:c x y)(K:d x y)(ak:e x y)(h2:f x y):∃x y,a x y/\b x y/\c x y/\d x y/\e x y/\f x y:=(x,y,h,I,k,K,ak,h2)
end
section
variable{p:Prop}{A:Sort u0}{B:Sort u1}{C:Sort u2}{a b c d e f g i j l m n o:A->B->C->Prop}
def e_xxx(h:∃x y z,a x y z)(k:∀x y z,a x y z->p):p:=h.elim λx ae=>ae.elim λy s=>s.elim λz q=>k x y z q
def Iv(x y z)(h:a x y z):∃x y z,a x y z:=(x,y,z,h)
def e_xxxa(h:∃x y z,a x y z/\b x y z)(k:∀x y z,a x y z->b x y z->p):p:=h.elim λx ae=>ae.elim λy s=>s.elim λz q=>k x y z q.1 q.2
def Oi(x y z)(h:a x y z)(I:b x y z):∃x y z,a x y z/\b x y z:=(x,y,z,h,I)
def e_xxxaa(h:∃x y z,a x y z/\b x y z/\c x y z)(k:∀x y z,a x y z->b x y z->c x y z->p):p:=h.elim λx ae=>ae.elim λy s=>s.elim λz q=>k x y z q.1 q.2.1 q.2.2
def xg(x y z)(h:a x y z)(I:b x y z)(k:c x y z):∃x y z,a x y z/\b x y z/\c x y z:=(x,y,z,h,I,k)
def e_xxxaaa(h:∃x y z,a x y z/\b x y z/\c x y z/\d x y z)(k:∀x y z,a x y z->b x y z->c x y z->d x y z->p):p:=h.elim λx ae=>ae.elim λy s=>s.elim λz q=>k x y z q.1 q.2.1 q.2.2.1 q.2.2.2
def yD(x y z)(h:a x y z)(I:b x y z)(k:c x y z)(K:d x y z):∃x y z,a x y z/\b x y z/\c x y z/\d x y z:=(x,y,z,h,I,k,K)
def e_xxxaaaa(h:∃x y z,a x y z/\b x y z/\c x y z/\d x y z/\e x y z)(k:∀x y z,a x y z->b x y z->c x y z->d x y z->e x y z->p):p:=h.elim λx ae=>ae.elim λy s=>s.elim λz q=>k x y z q.1 q.2.1 q.2.2.1 q.2.2.2.1 q.2.2.2.2
def Eu(x y z)(h:a x y z)(I:b x y z)(k:c x y z)(K:d x y z)(ak:e x y z):∃x y z,a x y z/\b x y z/\c x y z/\d x y z/\e x y z:=(x,y,z,h,I,k,K,ak)
def e_xxxaaaaa(h:∃x y z,a x y z/\b x y z/\c x y z/\d x y z/\e x y z/\f x y z)(k:∀x y z,a x y z->b x y z->c x y z->d x y z->e x y z->f x y z->p):p:=h.elim λx ae=>ae.elim λy s=>s.elim λz q=>k x y z q.1 q.2.1 q.2.2.1 q.2.2.2.1 q.2.2.2.2.1 q.2.2.2.2.2
def Kd(x y z)(h:a x y z)(I:b x y z)(k:c x y z)(K:d x y z)(ak:e x y z)(h2:f x y z):∃x y z,a x y z/\b x y z/\c x y z/\d x y z/\e x y z/\f x y z:=(x,y,z,h,I,k,K,ak,h2)
def e_xxxaaaaaa(h:∃x y z,a x y z/\b x y z/\c x y z/\d x y z/\e x y z/\f x y z/\g x y z)(k:∀x y z,a x y z->b x y z->c x y z->d x y z->e x y z->f x y z->g x y z->p):p:=h.elim λx ae=>ae.elim λy s=>s.elim λz q=>k x y z q.1 q.2.1 q.2.2.1 q.2.2.2.1 q.2.2.2.2.1 q.2.2.2.2.2.1 q.2.2.2.2.2.2
def Iw(x y z)(h:a x y z)(I:b x y z)(k:c x y z)(K:d x y z)(ak:e x y z)(h2:f x y z)(aw:g x y z):∃x y z,a x y z/\b x y z/\c x y z/\d x y z/\e x y z/\f x y z/\g x y z:=(x,y,z,h,I,k,K,ak,h2,aw)
def e_xxxaaaaaaaaa(h:∃x y z,a x y z/\b x y z/\c x y z/\d x y z/\e x y z/\f x y z/\g x y z/\i x y z/\j x y z/\l x y z)(k:∀x y z,a x y z->b x y z->c x y z->d x y z->e x y z->f x y z->g x y z->i x y z->j x y z->l x y z->p):p:=h.elim λx ae=>ae.elim λy s=>s.elim λz q=>k x y z q.1 q.2.1 q.2.2.1 q.2.2.2.1 q.2.2.2.2.1 q.2.2.2.2.2.1 q.2.2.2.2.2.2.1 q.2.2.2.2.2.2.2.1 q.2.2.2.2.2.2.2.2.1 q.2.2.2.2.2.2.2.2.2
def wB(x y z)(h:a x y z)(I:b x y z)(k:c x y z)(K:d x y z)(ak:e x y z)(h2:f x y z)(aw:g x y z)(q:i x y z)(P:j x y z)(Q:l x y z):∃x y z,a x y z/\b x y z/\c x y z/\d x y z/\e x y z/\f x y z/\g x y z/\i x y z/\j x y z/\l x y z:=(x,y,z,h,I,k,K,ak,h2,aw,q,P,Q)
end
section
variable{p:Prop}{A:Sort u0}{B:Sort u1}{C:Sort u2}{D:Sort u3}{a b c d e f g i j l m n o:A->B->C->D->Prop}
def e_xxxxa(h:∃x y z u,a x y z u/\b x y z u)(k:∀x y z u,a x y z u->b x y z u->p):p:=h.elim λx ae=>ae.elim λy s=>s.elim λz hx=>hx.elim λu q=>k x y z u q.1 q.2
def RT(x y z u)(h:a x y z u)(I:b x y z u):∃x y z u,a x y z u/\b x y z u:=(x,y,z,u,h,I)
def e_xxxxaaa(h:∃x y z u,a x y z u/\b x y z u/\c x y z u/\d x y z u)(k:∀x y z u,a x y z u->b x y z u->c x y z u->d x y z u->p):p:=h.elim λx ae=>ae.elim λy s=>s.elim λz hx=>hx.elim λu q=>k x y z u q.1 q.2.1 q.2.2.1 q.2.2.2
def e_xxxxaaaa(h:∃x y z u,a x y z u/\b x y z u/\c x y z u/\d x y z u/\e x y z u)(k:∀x y z u,a x y z u->b x y z u->c x y z u->d x y z u->e x y z u->p):p:=h.elim λx ae=>ae.elim λy s=>s.elim λz hx=>hx.elim λu q=>k x y z u q.1 q.2.1 q.2.2.1 q.2.2.2.1 q.2.2.2.2
def lj(x y z u)(h:a x y z u)(I:b x y z u)(k:c x y z u)(K:d x y z u)(ak:e x y z u):∃x y z u,a x y z u/\b x y z u/\c x y z u/\d x y z u/\e x y z u:=(x,y,z,u,h,I,k,K,ak)
def e_xxxxaaaaa(h:∃x y z u,a x y z u/\b x y z u/\c x y z u/\d x y z u/\e x y z u/\f x y z u)(k:∀x y z u,a x y z u->b x y z u->c x y z u->d x y z u->e x y z u->f x y z u->p):p:=h.elim λx ae=>ae.elim λy s=>s.elim λz hx=>hx.elim λu q=>k x y z u q.1 q.2.1 q.2.2.1 q.2.2.2.1 q.2.2.2.2.1 q.2.2.2.2.2
def Iy(x y z u)(h:a x y z u)(I:b x y z u)(k:c x y z u)(K:d x y z u)(ak:e x y z u)(h2:f x y z u):∃x y z u,a x y z u/\b x y z u/\c x y z u/\d x y z u/\e x y z u/\f x y z u:=(x,y,z,u,h,I,k,K,ak,h2)
end
section
variable{p:Prop}{A:Sort u0}{B:Sort u1}{C:Sort u2}{D:Sort u3}{az:Sort u4}{a b c d e f g i j l m n o:A->B->C->D->az->Prop}
end
section
variable{p:Prop}{A:Sort u0}{B:Sort u1}{C:Sort u2}{D:Sort u3}{az:Sort u4}{F:Sort u5}{a b c d e f g i j l m n o:A->B->C->D->az->F->Prop}
def e_xxxxxx(h:∃x y z u v w,a x y z u v w)(k:∀x y z u v w,a x y z u v w->p):p:=h.elim λx ae=>ae.elim λy s=>s.elim λz hx=>hx.elim λu U=>U.elim λv bc=>bc.elim λw q=>k x y z u v w q
end
def hide{bD:Prop}(h:∀P:Prop,(bD->P)->P):bD:=h bD λg=>g
def qP.{u}{c:Sort u}{F:c->Prop}{a b:c}(h:a=b)(k:F b):F a:=h▸k
def pS.{u,v}{c:Sort u}{Z:Sort v}{F:c->Z->Prop}{a b:c}{x:Z}(h:a=b)(k:F b x):F a x:=h▸k
def rw2.{u,v,w}{c:Sort u}{Z:Sort v}{O:Sort w}{F:c->Z->O->Prop}{a b:c}{x:Z}{y:O}(h:a=b)(k:F b x y):F a x y:=h▸k
@[elab_as_elim] def rwT.{u}{c:Sort u}{a b:c}{motive:c->Prop}(h:a=b)(k:motive b):motive a:=h▸k
@[elab_as_elim] def rwS.{u}{c:Sort u}{a b:c}{motive:c->Prop}(h:a=b)(k:motive a):motive b:=h▸k
section
set_option backward.match.sparseCases false
inductive Tq|l(o i:Nat)|b(o:Nat)(x y:Tq)
abbrev B1{α:Type}(d:α)(l:List α):Nat->α:=qA (λ_=>d) (λa _ c i=>mK a (λi _=>c i) i) l
abbrev RF(o:Nat):Nat:=o/2
abbrev RG(o:Nat):Bool:=gX (o%2) 0
abbrev opN(a b:Nat):Nat->Nat|0=>a+b|o=>cond (RG o) (a*RF (o-4))<|RF (o-4)*a
abbrev opI(n:Nat)(a b:Int):Nat->Int|0=>a+b|1=>a-b|2=>n|3=> -a|o=>cond (RG o) (a*(RF (o-4):Nat))<|(RF (o-4):Nat)*a
abbrev zk(aw:List Nat)(t:Tq):Nat:=Tq.rec (λo i=>mK (B1 0 aw i) (λ_ _=>i) o) (λo _ _ a b=>opN a b o) t
abbrev tV(I:List Int)(aw:List Nat)(t:Tq):Int:=Tq.rec (λo i=>mK (B1 0 I i) (λ_ _=>(i:Int)) o) (λo x _ a b=>opI (zk aw x) a b o) t
abbrev RU{c:Type}[LE c][LT c](a b:c):Nat->Prop|0=>a<=b|1=>a<b|_=>a=b
abbrev opF(p q:Prop)(ae:Nat->Prop):Nat->Prop|0=>p/\q|1=>p\/q|2=>p->q|o+3=>ae o
abbrev dFm(I:List Int)(aw:List Nat)(P:List Prop)(t:Tq):Prop:=
 Tq.rec (λo i=>mK False (λ_ _=>B1 True P i) o) (λo x y p q=>opF p q (λo=>cond (wc o 3) (RU (zk aw x) (zk aw y) o)<|RU (tV I aw x) (tV I aw y)<|o-3) o) t
abbrev ĕ(I:List Int)(aw:List Nat)(j:Nat):Int:=cond (RG j) (B1 0 I<|RF j) (B1 0 aw (RF j):Nat)
abbrev Wr(G:Nat->Int)(l:List Int):Nat->Int:=qA (λ_=>0) (λc _ a j=>c*G j+a (j+1)) l
abbrev Ė(l:List Int):List Int->List Int:=qA (λm=>m) (λa l c m=>qA (a::l) (λb m _=>(a+b)::c m) m) l
abbrev mulR(k:Int)(l:List Int):List Int:=l.map (k*·)
abbrev unR(n:Nat):List Int:=mK [1] (λ_ l=>0::l) n
abbrev Po:=Int×List Int
abbrev Iz(I:List Int)(aw:List Nat)(p:Po):Int:=p.1+Wr (ĕ I aw) p.2 0
abbrev Ke(p q:Po):Po:=(p.1+q.1,Ė p.2 q.2)
abbrev MD(k:Int)(p:Po):Po:=(k*p.1,mulR k p.2)
abbrev ė(t:Tq):Po:=Tq.rec (λo i=>mK (0,unR<|2*i+1) (λ_ _=>bG (i:Int) []) o)
 (λo _ _ p q=>match o with|0=>Ke p q|o=>MD (RF (o-4):Nat) p) t
abbrev pIT(t:Tq):Po:=Tq.rec (λo i=>mK (0,unR<|2*i) (λ_ _=>bG (i:Int) []) o)
 (λo x _ p q=>match o with|0=>Ke p q|1=>Ke p (MD (-1) q)|2=>ė x|3=>MD (-1) p|o=>MD (RF (o-4):Nat) p) t
def Ws{G:Nat->Int}(l:List Int):∀m j,Wr G (Ė l m) j=Wr G l j+Wr G m j:=by
 induction l with
 |nil=>show λm j=>(rG _).symm
 |cons a l ih=>
  intro m j
  induction m using bB with|nil=>show(oa _).symm|cons b m=>show((congr (congrArg rV<|Int.add_mul ..)<|ih m<|j+1).trans (ub ..)).trans (((congrArg (a*G j+·)<|Bw ..)).trans (ub ..).symm)
def Wt{G:Nat->Int}(k:Int)(l:List Int):∀j,Wr G (mulR k l) j=k*Wr G l j:=by
 induction l with|nil=>show λj=>(Int.mul_zero _).symm|cons a l ih=>show λj=>(congr (congrArg rV<|qe ..)<|ih<|j+1).trans (Int.mul_add ..).symm
def RV{G:Nat->Int}(n:Nat):∀j,Wr G (unR n) j=G (n+j):=by
 induction n with|zero=>show λj=>(oa _).trans ((Int.one_mul _).trans (congrArg G (Nat.zero_add _).symm))|succ n ih=>show λj=>(congr (congrArg rV<|JV _)<|ih<|j+1).trans ((rG _).trans (congrArg G (Nat.succ_add_eq_add_succ n j).symm))
section
variable{I:List Int}{aw:List Nat}{P:List Prop}
def yE(p q:Po):Iz I aw (Ke p q)=Iz I aw p+Iz I aw q:=
 (congrArg (p.1+q.1+·)<|Ws ..).trans ((ub ..).trans ((congrArg (p.1+·)<|Bw ..).trans (ub ..).symm))
def yF(k:Int)(p:Po):Iz I aw (MD k p)=k*Iz I aw p:=(congrArg (k*p.1+·)<|Wt ..).trans (Int.mul_add ..).symm
def Zo(i:Nat):RG (2*i)=L/\RF (2*i)=i:=(congrArg (gX · 0)<|Nat.mul_mod_right ..,Nat.mul_div_cancel_left _<|ei 1)
def Oj(i:Nat):RG (2*i+1)=au/\RF (2*i+1)=i:=(congrArg (gX · 0)<|wO 2 i 1,(Nat.mul_add_div (ei 1) i 1))
def Ol{a k:Int}{b:Bool}:k*a=cond b (a*k) (k*a):=by cases b;rfl;show JW ..
def IA(t:Tq):Iz I aw (ė t)=(zk aw t:Int):=by
 induction t with
 |l o i=>
  induction o using cV with
  |zero=>
   refine(rG _).trans ((RV (2*i+1) 0).trans ?_);show cond (RG<|2*i+1) _ _=_;rw[(Oj i).1];show congrArg (λj=>((B1 0 aw j:Nat):Int)) (Oj i).2
  |succ=>show oa _
 |b o x y T a=>
  induction o using cV with
  |zero=>show(yE ..).trans (congr (congrArg rV T) a)
  |succ o=>
   refine(yF ..).trans ((congrArg _ T).trans ?_);calc Ol (b:=RG<|o+1)|>.trans;show _=((cond (RG<|o+1) _ _:Nat):Int);cases RG (o+1)<;>rfl
def RW(t:Tq):Iz I aw (pIT t)=tV I aw t:=by
 induction t with
 |l o i=>
  induction o using cV with
  |zero=>
   refine(rG _).trans ((RV ..).trans ?_);show cond (RG<|2*i) _ _=_;rw[(Zo i).1];show congrArg (B1 0 I) (Zo i).2
  |succ=>show oa _
 |b o x y T a=>
  match o with
  |0=>show(yE ..).trans (congr (congrArg rV T) a)
  |1=>show(yE ..).trans (congr (congrArg rV T) ((yF ..).trans ((congrArg _ a).trans (qV _)))|>.trans Ab.symm)
  |2=>show IA x
  |3=>show(yF ..).trans ((congrArg _ T).trans (qV _))
  |o+4=>show(yF ..).trans ((congrArg _ T).trans Ol)
abbrev VS(p q:Po)(c:Int):Po:=Ke (Ke q<|MD (-1) p) (c,[])
def Ę(p q:Po)(c:Int):Iz I aw (VS p q c)=Iz I aw q-Iz I aw p+c:=
 (yE ..).trans (congr (congrArg rV<|(yE ..).trans ((congrArg _<|(yF ..).trans (qV _)).trans Ab.symm))<|oa _)
abbrev DN:=List<|List Po
abbrev f_(p q:Po):Nat->DN×DN
 |0=>([[VS p q 0]],[[VS q p<|-1]])|1=>([[VS p q<|-1]],[[VS q p 0]])|_=>([[VS p q 0,VS q p 0]],[[VS p q<|-1],[VS q p<|-1]])
abbrev xh(x y:DN):DN:=x.flatMap λp=>y.map λq=>p++q
abbrev opD(p q:DN×DN)(ae:Nat->DN×DN):Nat->DN×DN|0=>(xh p.1 q.1,p.2++q.2)|1=>(p.1++q.1,xh p.2 q.2)|2=>(p.2++q.1,xh p.1 q.2)|o+3=>ae o
abbrev dnf(t:Tq):DN×DN:=
 Tq.rec (λo i=>mK ([],[[]]) (λ_ _=>bG [[]] [[]]) o) (λo x y p q=>opD p q (λo=>cond (wc o 3) (f_ (ė x) (ė y) o)<|f_ (pIT x) (pIT y)<|o-3) o) t
abbrev Wu(I:List Int)(aw:List Nat)(c:List Po):Prop:=∀p∈c,0<=Iz I aw p
abbrev J3(I:List Int)(aw:List Nat)(d:DN):Prop:=∃c∈d,Wu I aw c
def J3.l{x y:DN}(h:J3 I aw x):J3 I aw (x++y):=h.elim λc h=>(c,jk _ h.1,h.2)
def J3.r{x y:DN}(h:J3 I aw y):J3 I aw (x++y):=h.elim λc h=>(c,kR _ h.1,h.2)
def J3.x{x y:DN}(h:J3 I aw x)(k:J3 I aw y):J3 I aw (xh x y):=
 h.elim λc h=>k.elim λd k=>(c++d,List.mem_flatMap.mpr (c,h.1,cG.mpr (d,k.1,rfl)),λp a=>(cy.mp a).elim (h.2 p) (k.2 p))
def RX:J3 I aw [[]]:=([],aQ ..,λp h=>nomatch h)
def Kf{p q:Po}{c:Int}(h:0<=Iz I aw q-Iz I aw p+c):J3 I aw [[VS p q c]]:=(_,aQ ..,λr a=>by rw[aV.mp a,Ę];show h)
def le1{a b:Int}(h:a<=b):0<=b-a+0:=(oa _).symm▸x9 h
def lt1{a b:Int}(h:a<b):0<=b-a+ -1:=x9<|Int.sub_pos_of_lt h
abbrev Ml(I:List Int)(aw:List Nat)(p:Prop)(d:DN×DN):Prop:=(p->J3 I aw d.1)/\(¬p->J3 I aw d.2)
def Om{p q:Po}{a b:Int}(d:Iz I aw p=a)(c:Iz I aw q=b):∀k,Ml I aw (RU a b k) (f_ p q k):=by
 subst d;subst c;show fun
 |0=>(λh=>Kf<|le1 h,λh=>Kf<|lt1<|Ad.mp h)
 |1=>(λh=>Kf<|lt1 h,λh=>Kf<|le1<|iH.mp h)
 |_+2=>(λh=>.x (Kf<|le1<|JX h)<|Kf<|le1<|JX h.symm,λh=>(Int.lt_or_gt_of_ne h).elim (λh=>.l (y:=[_])<|Kf<|lt1 h) λh=>.r (x:=[_])<|Kf<|lt1 h)
def RY{a b:Nat}{d:DN×DN}:∀k,Ml I aw (RU (a:Int) b k) d->Ml I aw (RU a b k) d
 |0,h=>(λk=>h.1<|we.mpr k,λk=>h.2 λj=>k<|we.mp j)
 |1,h=>(λk=>h.1<|rH.mpr k,λk=>h.2 λj=>k<|rH.mp j)
 |_+2,h=>(λk=>h.1<|congrArg _ k,λk=>h.2 λj=>k<|Ho j)
def Ml.and{p q:Prop}{d e:DN×DN}(hp:Ml I aw p d)(hq:Ml I aw q e):Ml I aw (p/\q) (xh d.1 e.1,d.2++e.2):=
 (λh=>.x (hp.1 h.1)<|hq.1 h.2,λh=>(wg p).elim (λk=>.r<|hq.2 λj=>h (k,j)) λk=>.l<|hp.2 k)
def Ml.or{p q:Prop}{d e:DN×DN}(hp:Ml I aw p d)(hq:Ml I aw q e):Ml I aw (p\/q) (d.1++e.1,xh d.2 e.2):=
 (λh=>h.elim (λh=>.l<|hp.1 h) λh=>.r<|hq.1 h,λh=>.x (hp.2 λk=>h<|.inl k)<|hq.2 λk=>h<|.inr k)
def Ml.imp{p q:Prop}{d e:DN×DN}(hp:Ml I aw p d)(hq:Ml I aw q e):Ml I aw (p->q) (d.2++e.1,xh d.1 e.2):=
 (λh=>(wg p).elim (λk=>.r<|hq.1<|h k) λk=>.l<|hp.2 k,λh=>(wg p).elim (λk=>.x (hp.1 k)<|hq.2 λj=>h λ_=>j) λk=>absurd (λa=>absurd a k) h)
def RZ(t:Tq):Ml I aw (dFm I aw P t) (dnf t):=by
 induction t with
 |l o i=>induction o using cV with|zero=>show(Gr,λ_=>RX)|succ=>show(λ_=>RX,λ_=>RX)
 |b o x y d c=>
  let ae:=λk=>Om (RW (I:=I) (aw:=aw) x) (RW y) k;let a:=λk=>RY k<|Om (IA (I:=I) (aw:=aw) x) (IA y) k;show match o with
  |0=>d.and c|1=>d.or c|2=>d.imp c|3=>a 0|4=>a 1|5=>a 2|o+6=>ae o
abbrev Oo(ae:Nat)(a:List Po):Nat->Po:=qA (λ_=>bG 0 []) (λp _ ih s=>cond (gX (s%ae) 0) (ih<|s/ae)<|Ke (MD (s%ae:Nat) p)<|ih<|s/ae) a
def Wv{ae:Nat}(a:List Po):∀s,Wu I aw a->0<=Iz I aw (Oo ae a s):=by
 induction a with
 |nil=>show λ_ _=>dm 0
 |cons p a c=>
  intro s h;let M:=c (s/ae) λq d=>h q<|dG _ d;show 0<=Iz I aw (cond _ _ _)
  induction gX (s%ae) 0 with
  |true=>show M
  |false=>
   show 0<=Iz I aw (Ke _ _);rw[yE,yF];show Int.add_nonneg (Int.mul_nonneg (so _)<|h p<|aQ ..) M
abbrev izR:Int->Bool|.ofNat n=>gX n 0|.negSucc _=>au
def f?:∀{a:Int},izR a=L->a=0
 |.ofNat _,h=>congrArg Int.ofNat<|Nat.eq_of_beq_eq_true h
 |.negSucc _,h=>nomatch h
abbrev g_(l:List Int):Bool:=qA L (λc _ a=>cond (izR c) a au) l
def Ww{G:Nat->Int}(l:List Int):∀j,g_ l=L->Wr G l j=0:=by
 induction l with
 |nil=>show λ_ _=>rfl
 |cons a l c=>
  intro j h;replace h:cond (izR a) (g_ l) au=L:=h
  induction k:izR a with|false=>rw[k] at h;cases h|true=>rw[k] at h;show a*G j+_=0;rw[f? k,JV,rG];show c (j+1) h
abbrev adk:Int->Bool|.ofNat _=>au|.negSucc _=>L
abbrev Wx(p:Po):Bool:=cond (adk p.1) (g_ p.2) au
def PS:∀p:Po,Wx p=L->0<=Iz I aw p->False
 |(.ofNat _,l),h,_=>nomatch h
 |(.negSucc n,l),h,k=>by replace k:0<=Int.negSucc n+Wr (ĕ I aw) l 0:=k;rw[Ww l 0 h] at k;show absurd k<|Ad.mpr<|Int.negSucc_lt_zero n
abbrev shR(ae:Nat)(a:List Po):Nat->Nat:=qA (λs=>s) (λ_ _ c s=>c<|s/ae) a
abbrev Wy(ae:Nat)(a:List Po)(e:DN):Nat->Bool:=qA (λ_=>L) (λc _ d s=>cond (Wx<|Oo ae (c++a) s) (d<|shR ae (c++a) s) au) e
def g!{ae:Nat}{a:List Po}(j:Wu I aw a)(cs:DN):∀s,Wy ae a cs s=L->¬J3 I aw cs:=by
 induction cs with
 |nil=>show λ_ _ k=>k.elim λ_ k=>nomatch k.1
 |cons c cs g=>
  intro s h ⟨m,d,f⟩;replace h:cond (Wx<|Oo ae (c++a) s) (Wy ae a cs<|shR ae (c++a) s) au=L:=h
  induction k:Wx (Oo ae (c++a) s) with
  |false=>rw[k] at h;cases h
  |true=>
   rw[k] at h;refine(aS.mp d).elim (λe=>?_) λd=>g _ h (m,d,f);show PS _ k (Wv _ _ λp i=>(cy.mp i).elim (λq=>f p<|e▸q) (j p))
abbrev g?(n:Nat):List Po:=mK [] (λi l=>ė (.l 0 i)::l) n
def h_(n:Nat):Wu I aw (g? n):=by
 induction n with|zero=>show λp h=>nomatch h|succ n a=>show λp h=>(aS.mp h).elim (λe=>e▸(IA (I:=I) (aw:=aw)<|.l 0 n).symm▸so _) (a p)
abbrev vaR(I:List Int)(aw:List Nat)(x y:Tq):Nat->Int:=fun
 |0=>((tV I aw x).natAbs:Nat)|1=>((tV I aw x).toNat:Nat)|2=>(zk aw x-zk aw y:Nat)
 |3=>(min (zk aw x) (zk aw y):Nat)|4=>min (tV I aw x) (tV I aw y)|k+5=>(zk aw x/(k+1):Nat)
abbrev VT(a b c d:Tq):Tq:=.b 1 (.b 0 a b)<|.b 0 c d
abbrev faR(z x y:Tq):Nat->Tq
 |0=>VT (.b 6 (.l 1 0) x) (.b 8 z x) (.b 7 x<|.l 1 0)<|.b 8 z<|.b 3 x x
 |1=>VT (.b 6 (.l 1 0) x) (.b 8 z x) (.b 7 x<|.l 1 0)<|.b 8 z<|.l 1 0
 |2=>VT (.b 3 y x) (.b 8 (.b 0 z<|.b 2 y y)<|.b 2 x x) (.b 4 x y)<|.b 8 z<|.l 1 0
 |3=>VT (.b 3 x y) (.b 8 z<|.b 2 x x) (.b 4 y x)<|.b 8 z<|.b 2 y y
 |4=>VT (.b 6 x y) (.b 8 z x) (.b 7 y x)<|.b 8 z y
 |k+5=>.b 0 (.b 6 (.b (2*(k+1)+5) z z)<|.b 2 x x)<|.b 7 (.b 2 x x)<|.b 0 (.b (2*(k+1)+5) z z)<|.l 1<|k+1
def h!{x y z:Tq}:∀k,tV I aw z=vaR I aw x y k->dFm I aw P (faR z x y k)
 |0,h=>by show(((0:Nat):Int)<=tV I aw x/\tV I aw z=tV I aw x)\/(tV I aw x<((0:Nat):Int)/\tV I aw z= -tV I aw x);rw[h];show(_/\((tV I aw x).natAbs:Int)=_)\/(_/\((tV I aw x).natAbs:Int)=_);show(Bx (tV I aw x) 0).elim (λk=>.inr (k,Int.ofNat_natAbs_of_nonpos<|ik k)) λk=>.inl (k,Int.natAbs_of_nonneg k)
 |1,h=>by show(((0:Nat):Int)<=tV I aw x/\tV I aw z=tV I aw x)\/(tV I aw x<((0:Nat):Int)/\tV I aw z=((0:Nat):Int));rw[h];show(_/\((tV I aw x).toNat:Int)=_)\/(_/\((tV I aw x).toNat:Int)=_);show(Bx (tV I aw x) 0).elim (λk=>.inr (k,congrArg _<|Int.toNat_of_nonpos<|ik k)) λk=>.inl (k,rn k)
 |2,h=>by show(zk aw y<=zk aw x/\tV I aw z+(zk aw y:Int)=(zk aw x:Int))\/(zk aw x<zk aw y/\tV I aw z=((0:Nat):Int));rw[h];show(_/\((zk aw x-zk aw y:Nat):Int)+_=_)\/(_/\((zk aw x-zk aw y:Nat):Int)=_);show(oe (zk aw x)<|zk aw y).elim (λk=>.inr (k,congrArg _<|Nat.sub_eq_zero_of_le<|kc k)) λk=>.inl (k,congrArg Int.ofNat<|Nat.sub_add_cancel k)
 |3,h=>by show(zk aw x<=zk aw y/\tV I aw z=(zk aw x:Int))\/(zk aw y<zk aw x/\tV I aw z=(zk aw y:Int));rw[h];show(oe (zk aw y)<|zk aw x).elim (λk=>.inr (k,congrArg _<|Nat.min_eq_right<|kc k)) λk=>.inl (k,congrArg _<|Nat.min_eq_left k)
 |4,h=>by show(tV I aw x<=tV I aw y/\tV I aw z=tV I aw x)\/(tV I aw y<tV I aw x/\tV I aw z=tV I aw y);rw[h];show(Bx (tV I aw y)<|tV I aw x).elim (λk=>.inr (k,jQ<|ik k)) λk=>.inl (k,ku k)
 |k+5,h=>by show(cond (RG<|2*(k+3)+1) _ _:Int)<=(zk aw x:Int)/\(zk aw x:Int)<cond (RG<|2*(k+3)+1) _ _+((k+1:Nat):Int);rw[(Oj<|k+3).1];show((RF (2*(k+1)+1):Nat):Int)*tV I aw z<=_/\_<((RF (2*(k+1)+1):Nat):Int)*tV I aw z+_;rw[(Oj<|k+1).2,h];show(we.mpr<|Nat.mul_div_le _ _,rH.mpr<|Nat.lt_mul_div_succ (zk aw x)<|ei k)
end
abbrev ã:=Nat×Tq×Tq×Tq
@[ext]abbrev deR(I:List Int)(aw:List Nat)(a:List ã):Prop:=a.map (λd=>tV I aw d.2.1)=a.map λd=>vaR I aw d.2.2.1 d.2.2.2 d.1
abbrev allR(d:DN)(c:List ã):DN:=qA d (λf _ a=>xh (dnf<|faR f.2.1 f.2.2.1 f.2.2.2 f.1).1 a) c
abbrev PT(I:List Int)(aw:List Nat)(P:List Prop)(a:List ã)(x:Tq×Nat):Prop:=
 cond (Wy (B1 16 [2,3,6]<|x.2%4) (g? aw.length) (allR (dnf x.1).2 a)<|x.2/4) (dFm I aw P x.1) True
def i_{I:List Int}{aw:List Nat}{P:List Prop}{d:DN}(j:J3 I aw d)(a:List ã)(h:∀e∈a,tV I aw e.2.1=vaR I aw e.2.2.1 e.2.2.2 e.1):J3 I aw (allR d a):=by
 induction a with|nil=>show j|cons e a c=>show J3.x ((RZ (P:=P) _).1 (h! _<|h e<|aQ ..)) (c λe f=>h e<|dG _ f)
def qQ{I:List Int}{aw:List Nat}{P:List Prop}{x:Tq×Nat}(a:List ã)(h:deR I aw a):PT I aw P a x:=by
 show cond _ _ _
 induction k:Wy (B1 16 [2,3,6]<|x.2%4) (g? aw.length) (allR (dnf x.1).2 a) (x.2/4) with|false=>trivial|true=>show iX λj=>g! (h_ _) _ _ k<|i_ (P:=P) ((RZ x.1).2 j) a<|List.map_inj_left.mp h
abbrev lgR(s:Nat):Nat×Nat:=(s/17%16^(s%17),s/17/16^(s%17))
abbrev cnR(s:Nat):Nat×Nat:=cond (gX (s%8) 7) (lgR<|s/8) (s%8,s/8)
abbrev ę(a:Nat->Nat->Tq×Nat)(o m s:Nat):Tq×Nat:=(a m s).casesOn λx s=>(a m s).casesOn λy s=>bG (.b o x y) s
abbrev R0(a:Nat->Nat->Tq×Nat)(o m s:Nat):Tq×Nat:=(a m s).casesOn λx s=>bG (.b o x<|.l 0 0) s
abbrev fmR(a:Nat->Nat->Tq×Nat)(d s:Nat):Tq×Nat:=
 cond (wc d 6) (ę a (d+3) (cond (wc d 3) 2 1) s) (cond (wc d 9) (ę a (d-6) 0 s)<|cond (gX d 9) (R0 a 2 0 s) (.l (d-10)<|s%8,s/8))
abbrev tiR(a:Nat->Nat->Tq×Nat)(i d s:Nat):Tq×Nat:=
 cond (wc d i) (.l 0 d,s) (B1 ((cnR s).casesOn λk s=>R0 a (k+4) 1 s) [(cnR s).casesOn λk s=>bG (.l 1 k) s,ę a 0 1 s,ę a 1 1 s,R0 a 2 2 s,R0 a 3 1 s]<|d-i)
abbrev tnR(a:Nat->Nat->Tq×Nat)(i d s:Nat):Tq×Nat:=
 cond (wc d i) (.l 0 d,s) (B1 ((cnR s).casesOn λk s=>R0 a (k+4) 2 s) [(cnR s).casesOn λk s=>bG (.l 1 k) s,ę a 0 2 s]<|d-i)
abbrev ME(i n f:Nat):Nat->Nat->Tq×Nat:=mK (λ_ s=>bG (.l 0 0) s)
 (λ_ a m s=>mK (fmR a (s%12)<|s/12) (λm _=>mK (tiR a i (s%(i+6))<|s/(i+6)) (λ_ _=>tnR a n (s%(n+3))<|s/(n+3)) m) m) f
abbrev rdD(i n f:Nat):Nat->List ã×Nat:=mK (λs=>bG [] s) (λ_ a s=>(ME i n 64 1<|s/16).casesOn λz t=>(ME i n 64 (B1 2 [1,1,2,2,1]<|s%16) t).casesOn λx t=>(ME i n 64 (B1 2 [1,1,2,2,1]<|s%16) t).casesOn λy t=>
 (a t).casesOn λl t=>bG ((s%16,z,x,y)::l) t) f
def rl(I:List Int)(aw:List Nat)(s:Nat){Q:Prop}(h:PT I aw [] [] (ME (s%8) (s/8%16) 64 0<|s/128)=Q):Q:=h▸qQ [] rfl
def fe{a}(s){Q}(h:PT [a] [] [] [] (ME 1 0 64 0 s)=Q):Q:=h▸qQ [] rfl
def fy{k}(s){Q}(h:PT [] [k] [] [] (ME 0 1 64 0 s)=Q):Q:=h▸qQ [] rfl
def gZ{k l}(s){Q}(h:PT [] [k,l] [] [] (ME 0 2 64 0 s)=Q):Q:=h▸qQ [] rfl
def iE{k l m}(s){Q}(h:PT [] [k,l,m] [] [] (ME 0 3 64 0 s)=Q):Q:=h▸qQ [] rfl
def jE{a b c}(s){Q}(h:PT [a,b,c] [] [] [] (ME 3 0 64 0 s)=Q):Q:=h▸qQ [] rfl
def jJ{a b}(s){Q}(h:PT [a,b] [] [] [] (ME 2 0 64 0 s)=Q):Q:=h▸qQ [] rfl
def ll{k l m n}(s){Q}(h:PT [] [k,l,m,n] [] [] (ME 0 4 64 0 s)=Q):Q:=h▸qQ [] rfl
def qR{a b c d}(s){Q}(h:PT [a,b,c,d] [] [] [] (ME 4 0 64 0 s)=Q):Q:=h▸qQ [] rfl
def B2{k l m n o}(s){Q}(h:PT [] [k,l,m,n,o] [] [] (ME 0 5 64 0 s)=Q):Q:=h▸qQ [] rfl
def DF{a k}(s){Q}(h:PT [a] [k] [] [] (ME 1 1 64 0 s)=Q):Q:=h▸qQ [] rfl
def rL(I:List Int)(aw:List Nat)(P:List Prop)(s:Nat){Q:Prop}(h:((rdD (s%8) (s/8%16) (s/128%8)<|s/1024).casesOn λa t=>PT I aw P a<|ME (s%8) (s/8%16) 64 0 t)=Q)(hd:deR I aw (rdD (s%8) (s/8%16) (s/128%8)<|s/1024).1):Q:=
 h▸qQ _ hd
end
section
variable{a b c d e f g i j a1 b1 c1 d1 e1:Int}{k l m n o p q r s t u k1 l1 m1:Nat}{P Q ae hv T1 T2:Prop}
def Y0:a<3->a<4:=fe 3324132056 ()
def Y2:0<=a->0<=a+1:=fe 1264006138940 ()
def Y3:a<3->a+1<4:=fe 1303229674712 ()
def Y5:k<=100000->k<=1000000:=fy 0x18ad585f56ff4baea948 ()
def Y7:0<=a->4-((4:Nat):Int)<=a:=fe 3770685475388 ()
def Y8:1<a->((aT a:Nat):Int)=a:=rL [a] [(aT a)] [] 0x307b54cc3d0740720089 ⋯ ⋯
def Y9:a-(b+1)<=d->d<c->a-b<=c:=qR 0x30e1b4b0fc7c18d4c ()
def Oq:c=d->a-((k+1:Nat):Int)<=c->d<b->a-(k:Int)<=b:=rl [_,_,_,_] [_] 0x387c45d5782bf025404720c ()
def Zp:c=d->a-c<=((k+1:Nat):Int)->d<b->a-b<=(k:Int):=rl [_,_,_,_] [_] 0x386b7d7422ab0aea69c720c ()
def Zq:k=1->(k:Int)=1:=rl [] [k] 0xa3538c9b008 ⋯
def VU:c<=b->a<c->a≠b:=jE 70047363048380 ()
def RH:a+1≠a:=fe 11120613 ()
def MF:k<=k+l:=gZ 91680 ()
def Zr:a<=104->bk (a-101)<4:=rL [a] [(bk<|a-101)] [] 0x6e2b74fe0735992b89dcc0489 ⋯ ⋯
def ä:a=c->d<=b->c<d->a<=b:=qR 0x5c888ee8fcab0e4 ()
def i!:k<=m+1->m<=l->k<=l+1:=iE 0x60766138912748 ()
def å:1<a->¬(a<0):=fe 38296638776 ()
def æ:a-((0:Nat):Int)<=b->a<=b:=jJ 131862869612 ()
def VV:n=(2*l)+2->k+n<=m->k+l<=m:=ll 0x1a22b163a983cd1660 ()
def ç:n=(2*l)+2->k+n<=m->(k+l)+l<=m:=ll 0xe7611e5e9ae8331660 ()
def i?:0<a->((aT a:Nat):Int)=a:=rL [a] [(aT a)] [] 0x307b54cc3cdd0bf20089 ⋯ ⋯
def Ě:l=k->l<=1000000->k<=16777216:=gZ 0xe52b61228982b47f61f4ffc70 ()
def ě:0<=a->4-a<=((4:Nat):Int):=fe 3910886050364 ()
def è:a≠0->0<((aT a:Nat):Int):=rL [a] [(aT a)] [] 0x128ee541f441a277120089 ⋯ ⋯
def Ĝ:a<((4:Nat):Int)->a<((5:Nat):Int):=fe 30228670136 ()
def ĝ:k<=70000->k+((2*((2*((2*((2*0)+2))+2))+2))+2)<=80000:=fy 0xb80ba980d910826fd76edb8711b612948 ()
def Ğ:0<a->¬(a<0):=fe 38296637768 ()
def Zt:a≠a+1:=fe 22524837 ()
def Y35:0<k->(k-1)+1=k:=rL [] [k,(k-1)] [] 0xab149a759bbd801b8c890 ⋯ ⋯
def Y38:a<=((bk a:Nat):Int):=rL [a] [(bk a)] [] 724171916706953 ⋯ ⋯
def R3:k<=m->m<=l->k<=l:=iE 328945744232 ()
def ğ:1<a->aT a≠1:=rL [a] [(aT a)] [] 0x2fe05e901090720089 ⋯ ⋯
def Y43:k<=1000->k<=100000:=fy 0x170ac279770aae5948 ()
def Y44:(0<=a/\a<4)->a=0\/(a=1\/(a=2\/a=3)):=fe 0x12ec2c52f193ee824559ccfaf4aaa28e7a3944d3c8f478c0 ()
def Zu:a<=b->a+((bk (b-a):Nat):Int)=b:=rL [a,b] [(bk<|b-a)] [] 0xf6eae73e8722b02061448a ⋯ ⋯
def Y46:k<=1000->k<=1000000:=fy 0x18ad585f570aae5948 ()
def Kg:k<=l->k<=l+m:=iE 2288011112 ()
def é:c=d->a<=c->d<b->a<=b:=qR 0x5c8ca618e4f78e4 ()
def Y52:k<=4->k<=4000:=fy 25581976004168 ()
def Y54:(0<=a/\a<b)->a≠b:=jJ 0xe4912fc60f80 ()
def j_:k≠l->k<l+1->k<l:=rl [] [k,l] 0x6b32c94e85b2a10 ⋯
def Y58:k<=l->k<l+1:=gZ 2631532328 ()
def Ġ:k<=1000000->k<=16777216:=fy 0x16fabb000e2d40f4c3a948 ()
def Y60:m=k-l->l<k->k-(l+1)<m:=rL [] [m,k,l,(k-l),(k-(l+1))] [] 0x224e2e67a4f840cfdfe42550f03e16d14928 ⋯ ⋯
def ê:((aT (k:Int):Nat):Int)=(k:Int):=rL [] [k,(aT (k:Int))] [] 0xe90709e9449c8c090 ⋯ ⋯
def Y63:c-a<=((0:Nat):Int)->b<c->a≠b:=jE 87118614693243116 ()
def Y64:a-b<=((0:Nat):Int)->a<=b:=jJ 131861431916 ()
def Y65: -a=-b->a=b:=jJ 96092486564 ()
def Y66:(0:Int)<=1:=rl [] [] 14598528 ()
def Y67:k<=k+1:=fy 102240 ()
def Y69:k<=l->l<=90000->k<=100000:=gZ 0x72d8c96117110ec294a6558 ()
def Y70:m=(2*l)+2->k+m<=80000->(k+l)+l<=90000:=iE 0x66cd98cecc893b157ec529368485660 ()
def ë:a<=c->c<=b->a<=b:=jE 3732533889020 ()
def Y72:0<=a->a<4->a=0\/(a=1\/(a=2\/a=3)):=fe 0x12ec2c52f193ee824559ccfaf4aaa28e7a3944d3c8fb54bc ()
def Y73:101<=a->a<=104->a=101\/(a=102\/(a=103\/a=104)):=fe 0x1b395dc465a8a10aeb43d9a607fb6354a62874ca74f72906c72e214f64a189a0cc ()
def ġ:(b<=a/\a<c)->0<=b->0<=a:=jE 0x4765ae92c5e358c0 ()
def ì:(c<=a/\a<b)->a<b:=jE 3205344478400 ()
def Y76:(a=1\/a=-1)->((aT a:Nat):Int)=1:=rL [a] [(aT a)] [] 0x191dd405a5f54c82c721b07357ffd20089 ⋯ ⋯
def Y79:c-((0:Nat):Int)<=b->a<c->a<b:=jE 7234038882920924 ()
def Y80:c=d->a<=c->d<=b->a<=b:=qR 0x5c8ca60f9feb8e4 ()
def Y81:l=((2*m)+n)+1->o+l<=80000->k<=(o+m)+m->k<=100000:=B2 0xbe807ce43b4b4bbfee2c43a9891c14eefdd320 ()
def j!:k<=l->l<=3900->k<=100000:=gZ 0x72d8c961176c137a9b558 ()
def Y83:k<=90000->k<=100000:=fy 0x170ac27976fe90ea2948 ()
def Y84:4=a->a<3->¬(0<=a):=fe 0xcc84448b85c94 ()
def Y85:k<=3900->k<=4000:=fy 0x18b888e140d7f948 ()
def Y86:k<=400->k<=3900:=fy 0x18aca0d4ff799948 ()
def Y87:a<4->bk a<4:=rL [a] [(bk a)] [] 0x3fbb6c9e106f20489 ⋯ ⋯
def í:0<=a->((bk a:Nat):Int)=a:=rL [a] [(bk a)] [] 0x307b54cc3cdc8b520489 ⋯ ⋯
def Y89:k=l->l<=100->k<=1000000:=gZ 0xd8761b28fe4d0628ed70 ()
def Y90:k<=100->a<(k:Int)->a<0x8000000000000000:=DF 0x479ba2b360000000027f31dab39ef148 ()
def Y91:k<=l->k<=l+1:=gZ 2631528728 ()
def î:k<l+1->k<=l:=gZ 2635331780 ()
def Y93:(k+(l+1))+1<=m+1->(k+l)+1<=m:=iE 0xd62773545f06bb4c8 ()
def Y94:(k+1)-(l+1)=k-l:=rL [] [k,l,((k+1)-(l+1)),(k-l)] [] 0x10a962765737943878d70ad48a4cdf332e7c920 ⋯ ⋯
def Y96:k<l+(m+1)->k<(l+1)+m:=iE 0xa9369be6d9fd4 ()
def Y97:m=l-1->k<=m->0<l->k<l:=rL [] [m,l,k,(l-1)] [] 0x5fedca3851f9d1beee3f848a0 ⋯ ⋯
def Y98:k<l->k<0+l:=gZ 2638012340 ()
def Ģ:k+(l+1)=(k+1)+l:=rl [] [k,l] 34786298232080 ⋯
def j?:k+(l+1)<=m->(k+1)+l<=m:=iE 0xa93959539cdc8 ()
def ģ:k<=1000->k<=16777216:=fy 0x16fabb000e2d0aae5948 ()
def k_:k=m->m<=l->k<=l:=iE 607573883264 ()
def Ĥ:k<=l->l<=k->k=l:=rl [] [k,l] 330551816694800 ⋯
def ĥ:k=l->l<=4000->k<4096:=gZ 0xd4d18756e2a979d6d570 ()
def Ħ:k<=4000->(k:Int)<0x8000000000000000:=fy 0xd650d800000000001105adeb61948 ()
def Wz:k≠1->(k:Int)≠1:=rl [] [k] 996269165398536 ⋯
def ħ:0<=b->b<a->4-a<=((3:Nat):Int):=jJ 0x28708b876cf014c ()
def Ĩ:0<=b->b<a->4-a<=((4:Nat):Int):=jJ 0x289e1b876cf014c ()
def ĩ:a<0->¬(-a<0):=fe 268097801384 ()
def PU:(-1)*a=-a:=qV a
def Ī:1*a=a:=fe 395465 ()
def ī:a<=(k:Int)->a<=((k+1:Nat):Int):=DF 103334474924 ()
def Ĭ:a<=(k:Int)+1->a<=((k+1:Nat):Int)+1:=DF 0x38573716278a4c ()
def k!:k<=1000000->(k:Int)<0x8000000000000000:=fy 0xd650d800000000001105adcf4c3a948 ()
def k?:¬((k:Int)<0):=fy 1991145 ()
def ĭ: -a≠-b->a≠b:=jJ 0xa364333cbc4 ()
def Į:1<=a->0<=a:=fe 3187224620 ()
def į:k<=16->k<=1000000:=fy 0x18ad585f56fcd5148 ()
def İ:a≠c->b<=a->b<=c->bk (a-b)≠bk (c-b):=rL [a,c,b] [(bk<|a-b),(bk<|c-b)] [] 0x13763cfb44951258983629fbf4c75fc53c3f71f8d9bbbc350ce0513 ⋯ ⋯
def ı:k<4->k=0\/(k=1\/(k=2\/k=3)):=rl [] [k] 0x53822b2bda49249249381b5b8af1792fa22356f2a08 ⋯
def Ĳ:0<=a->a<(k:Int)->bk a<k:=rL [a] [k,(bk a)] [] 0x10bc82aa125192f280491 ⋯ ⋯
def ĳ:(k:Int)=(l:Int)->¬(k<l):=gZ 11293512980 ()
def Ĵ:0=a->¬(1<=a):=fe 76540609364 ()
def WA:k<=l->l<=3900->k<=4000:=gZ 0x7672fbeb9e9d7a9b558 ()
def ĵ:m=n+2->k<=o+1->o<=l+n->k<=l+m:=B2 0x401cb64a7192434b57df20 ()
def Ķ:l+m<=80000->k<=l->k<=100000:=iE 0x9e1406d292dfdc68cc1eb5a08 ()
def ķ:l=(2*m)+2->n+l<=80000->k<=(n+m)+m->k<=100000:=ll 0xef4f381d730d3fb8f1791f3b8bd62e29660 ()
def ĸ:m=(2*l)+2->((k+l)+l)+1<=k+m:=iE 0x8afc30e884745660 ()
def Ĺ:k<=(l+m)+m->k<=l+(2*m):=iE 62469785875976 ()
def ĺ:a<b->a≠b:=jJ 1709947064 ()
def Ļ:l=m+n->o+l<=80000->k<=o+m->k<=100000:=B2 0x5f403e721da5b3fc658875312382a7f20 ()
def ļ:m=(2*l)+2->k+l<=k+m:=iE 0xc8df731c45660 ()
def Ľ:k<=l+m->k<=l+(2*m):=iE 3964296938696 ()
def ľ:n=((2*l)+o)+1->k+n<=m->(k+l)+l<=m:=B2 0x9452fff188c14eefdd320 ()
def Ŀ:o=((2*l)+m)+1->k+o<=n->((k+l)+l)+m<=n:=B2 0x6b535003988c14eefdd320 ()
def ŀ:a-(k:Int)<=a:=DF 1385367 ()
def Ł:n=((2*l)+m)+1->((k+l)+l)+m<=k+n:=ll 0x2194395fe39f604110 ()
def ł:c=a->c<=b->a<=b:=jE 7436871549716 ()
def Ń:k≠4->(k:Int)≠4:=rl [] [k] 998030381042184 ⋯
def WB:(l+m)+1<=3900->k<=l->k<=4000:=iE 0xb38a2b36b1f2b3861801a48 ()
def ń:b=c->c<a->¬(a<=b):=jE 82562801642708 ()
def Ņ:b<a->0<=a-b:=jJ 43571728568 ()
def ņ:0<=a->4-a<=1000000:=fe 0x14d8d66a552d9ea3c ()
def Ň:0<=a->bk (4-a)=4-(bk a):=rL [a] [(bk<|4-a),(bk a),(4-(bk a))] [] 0xeef23c4786e85fa4d83e0588d7d366dbc2b5835330d7caa82ad553da33cbe4a413c55b21a00599 ⋯ ⋯
def ň:a<4->bk a<=4:=rL [a] [(bk a)] [] 0x3fbb6c0a58af20489 ⋯ ⋯
def ŉ:b<a->0<=(a-b)-1:=jJ 22555728793784 ()
def Ŋ:0<=b->a<=4->(a-b)-1<=1000000:=jJ 0x1d337a145bd03f338f3814c ()
def ŋ(J:a<b)(h:0<=a):bk ((b-a)-1)=((bk b)-(bk a))-1:=by let(n,rfl):=ve h;let(m,rfl):=ve<|og h<|ik J;show(congrArg bk<|Int.sub_sub m n 1).trans ((Int.toNat_sub m<|n+1).trans (Nat.sub_sub m n 1).symm)
def Ō:0<=a->a<b->bk a<bk b:=rL [a,b] [(bk a),(bk b)] [] 0x25ad370e0df4b3dcdc81b36254a14512 ⋯ ⋯
def ō:m=(2*n)+2->k<=o+1->o<=(l+n)+n->k<=l+m:=B2 0x401cb6415aee490d2d5f7b720 ()
def Ŏ:k<=4->k<64:=fy 1509427768904 ()
def ŏ:k+17=((k+1)+4)+12:=rl [] [k] 0x8c98c259d85aeed08 ⋯
def PV:0<=(k:Int):=fy 167619 ()
def Ő:k<=l->l<=3900->(k:Int)<0x8000000000000000:=gZ 0x346ce61a5e00000001d383064eda9b558 ()
def ő:a<3->4≠a:=fe 38476164440 ()
def Œ:a<3->4≠a+1:=fe 0xdcba5522d58 ()
def l_:1<a->0<a:=fe 3187281080 ()
def œ:1<a->0<1*a:=fe 179462192312 ()
def Ŕ:a<3->a+1<((4:Nat):Int):=fe 3911013475544 ()
def ŕ:k<=40000->m<=k->l<m->k+l<=100000:=iE 0x166a71cf740d50c87f93c0eb9fe8 ()
def Ŗ:b≠a+1->a<b->a+1<b:=jJ 0x1e9da7d8ea3895544 ()
def ŗ:(P/\b<a)->¬(a<=b):=rL [_,_] [] [_] 0x4475ebc7a0002 () ⋯
def Ř:(¬(P)/\(a=b/\(k≠1/\Q)))->¬(¬(a<=b+1)):=rL [a,b] [k] [P,Q] 0x1c3a3743840422c4112d7e800a ⋯ ⋯
def ř:k<=40000->m<=3900->n<=m->l<n->k+l<=100000:=ll 0x4808d318e9fb70d609112ea90c8373eb62b8 ()
def Ś:k<=40000->k<=90000:=fy 0x17061bd4c726b136148 ()
def xi:b<a->a≠b:=jJ 1021180088 ()
def ś:k<=70000->k<=100000:=fy 0x170ac27976fd1b612948 ()
def Ŝ:k<=70000->k+1<=90000:=fy 0xb830dea64a2111b612948 ()
def ŝ:k<=3800->k<=3900:=fy 0x18aca0d53ef9d948 ()
def Ş:2*k<=2*(k+1):=fy 104729364 ()
def ş:k<=2*l->m<=1800->n<=m->l<n->k<=3800:=ll 0x3219c909dddf35de2d8fc286691f8 ()
def Š:k<=n+1->n<=l+m->k<=l+(m+1):=ll 0x1083ddaba6a279f598 ()
def š:a<c->c<b->a<b:=jE 3732670077896 ()
def Ţ:(P/\(b<c/\0<a))->((aT a:Nat):Int)=a:=rL [b,c,a] [(aT a)] [P] 0xd3448bbf2e7f9ed6a7d3506808b ⋯ ⋯
def ţ:aT a=1->0<a->a=1:=rL [a] [(aT a)] [] 0x18b2e1901778668dc7ed320089 ⋯ ⋯
def l!:b<=a->0<=a-b:=jJ 43571728556 ()
def l?:a<=a+(k:Int):=DF 1399611 ()
def Ť:k<4->101+(k:Int)<=104:=fy 0xef4f4ade662ade54 ()
def ť:k<4->k<=1000:=fy 24138086852180 ()
def m_:((aT (2+(k:Int)):Nat):Int)=2+(k:Int):=rL [] [k,(aT<|2+(k:Int))] [] 0x126ece88af38e6a175c090 ⋯ ⋯
def Ŧ:0<k->0<(k:Int):=fy 3089572004 ()
def m?:0<=b->a<=a+b:=jJ 43565506892 ()
def ŧ:a<4->101+a<=104:=fe 0x15370c9d6204c17e8 ()
def Ũ:a<3->bk a<3:=rL [a] [(bk a)] [] 0x3fbafdc1c97720489 ⋯ ⋯
def ũ:a+(b-a)=b:=jJ 38151209 ()
def adD:k<=l-1->0<l->k+1<=l:=rL [] [k,l,(l-1)] [] 0x837cb7c463b01ecaf2c898 ⋯ ⋯
def adE:k-1<=l->k<=l+1:=rL [] [k,l,(k-1)] [] 0x1ed4c06c14d62e9c898 ⋯ ⋯
def adF:(4*((5*k)+1))+1=((4*k)+1)*5:=rl [] [k] 0x134521791c0d46cb3370f508 ⋯
def adG:((4*k)+l)+l=(2*(2*k))+(2*l):=rl [] [k,l] 0xd2bbd177cf96a710 ⋯
def adH:((5*(2*k))+1)%2=1:=by rw[By];show wO 2 (5*k) 1
def adI:((2*k)+1)%2=1:=wO 2 k 1
def adJ(v:k%2=0):k=(k/2)+(k/2):=by let h:=DW k 2;rw[v,Nat.two_mul] at h;show h.symm
def adK(v:¬((k%2)=0)):((k/2)+(k/2))+1=k:=by let h:=DW k 2;rw[(Nat.mod_two_eq_zero_or_one k).resolve_left v,Nat.two_mul] at h;show h
def adL(h:k%2=0)(J:k%2=1):False:=nomatch h.symm.trans J
def adM:k+k=k*2:=rl [] [k] 253529352 ⋯
def adN:k=o->(k+l)+(m+n)=(l+n)+(o+m):=rl [] [k,o,l,m,n] 0x43d25c8b41188db65028 ⋯
def adO:(4*l)+1=k->k=(2*(2*l))+1:=rl [] [l,k] 0x1010e501e1e4a7ba4010 ⋯
def adP:(4*k)+1=(2*(2*k))+1:=rl [] [k] 72357666517742856 ⋯
def adQ:k<l->k+(l-k)=l:=rL [] [k,l,(l-k)] [] 0xdbcf1537c17f50dcc898 ⋯ ⋯
def adR:l<k->0<k-l:=rL [] [l,k,(k-l)] [] 0x313f7bf523dcc898 ⋯ ⋯
def adS:l<k->¬(k<=l-m):=rL [] [l,k,m,(l-m)] [] 0x349756539d99ca48a0 ⋯ ⋯
def adT:¬(k+1<=k):=fy 1191465 ()
def adU:k<l->13+k<(l-1)+15:=rL [] [k,l,(l-1)] [] 0x4230d0c663433caf6c072c898 ⋯ ⋯
def adV:l-k<=0->k<=l->k=l:=rL [] [l,k,(l-k)] [] 0x3a4594ea4783ba270759c898 ⋯ ⋯
def adW:l<=m->k<l->(k+l)/2<m:=rL [] [_,_,_,_] [] 0x4445770368e87c67d8a0 () ⋯
def adX:k<l->((k+l)/2)+1<=l:=rL [] [_,_,_] [] 0x36fe4253791d53d898 () ⋯
def adY:k-l<=m+1->k-(((l+k)/2)+1)<=m:=rL [] [k,l,m,(k-l),((l+k)/2),(k-(((l+k)/2)+1))] [] 0x15b267153b8368f87bbac214321c8ef5df4eb75ecbe324ae7c9b0 ⋯ ⋯
def adZ:k<m->m<l->k<l:=iE 328972680308 ()
def ad0:k<l->k<=(k+l)/2:=rL [] [_,_,_] [] 0x326dc7a31d53d898 () ⋯
def uG:k<l->k<=l:=gZ 13176740 ()
def ad1:l-k<=m+1->((k+l)/2)-k<=m:=rL [] [l,k,m,(l-k),((k+l)/2),(((k+l)/2)-k)] [] 0x89254f895e70ffdf4dd0c259375bcfd4541870cc515ae7c9b0 ⋯ ⋯
def ad3:¬(l<k)->k<=l:=gZ 156047300 ()
def n_:l≠k->k<=l->k<l:=rl [] [l,k] 0xdd58e8358aa10 ⋯
def ad4:¬(m<k)->m<l->k<=l:=iE 3951210554756 ()
def ad5:¬(k<l)->k<=l->k=l:=rl [] [k,l] 4707149017408016 ⋯
def ad6:k-0<=k:=rL [] [k,(k-0)] [] 0xe3aabf1d4890 ⋯ ⋯
def ad7:m<=n->n<m->k<=l:=ll 365040439352 ()
def Ū:m<=n->n<m->k=l:=rl [] [m,n,k,l] 5802404871740448 ⋯
def ū:m<m->k=l:=rl [] [m,k,l] 37943233048 ⋯
def ad8:l<0->k=0:=rl [] [l,k] 5308910164496 ⋯
def ad9:k≠l->k<=l->k<l:=rl [] [k,l] 0x8936c5a90aa10 ⋯
def n!:k*5<l*3->k<=l:=gZ 848943479876996 ()
def aea:l*5<k*3->¬(k+1<=l):=gZ 0x1c45de23ae6cad84 ()
def aeb:k+1<=0->P/\Q:=rL [] [k] [P,Q] 0x392e85a538a008 ⋯ ⋯
def aec:l<k+0->¬(k<=l):=gZ 31214201780 ()
def aed:(k+l)-k<=l:=rL [] [k,l,((k+l)-k)] [] 5592779970037912 ⋯ ⋯
def aee:k-k<=l:=rL [] [k,l,(k-k)] [] 6239639816344 ⋯ ⋯
def aef:10*(m+1)<=l->k<=9->((10*0)+k)+1<=l:=iE 0x33ef6baff8405df27cea15b52d27df778 ()
def aeg:10*(k+1)<=l->m<=9->10*k<=l-(m+1):=rL [] [k,l,m,(l-(m+1))] [] 0x38484c45ce40e9e3c0735e2e4cc107a4c8a0 ⋯ ⋯
def WC:k+m<=l->k<=l:=iE 3574290824 ()
def aeh:m<l->(k+1)+(l-1)=k+l:=rL [] [m,l,k,(l-1)] [] 0x767310712138ff0de354b0848a0 ⋯ ⋯
def aei:(k+1)+l=(k+l)+1:=rl [] [k,l] 34733500251920 ⋯
def aej:k*5<l*3->k+1<=l:=gZ 0x25b38dba2aa6d84 ()
def aek:(k+l)*5<m->n<k->((k-1)+(l+1))*5<m:=rL [] [k,l,m,n,(k-1)] [] 0x4a942f390cb542b8b77469da4dcd5487464e6c8a8 ⋯ ⋯
def ael:(k+1)+l=k+(l+1):=rl [] [k,l] 34735804251920 ⋯
def aem:k<=k:=fy 768 ()
def aen:60<=k+64:=fy 45618264342108 ()
def aeo:¬(k<0):=fy 221781 ()
def aep:l≠k->k≠l:=rl [] [l,k] 0xbce27b00a10 ⋯
def aeq:k<l+0->l<=k->(m<=n->P):=rL [] [_,_,_,_] [_] 0x8e4dd8e892e7c5020 () ⋯
def aer:0<((k+l)+1)-k:=rL [] [k,l,(((k+l)+1)-k)] [] 0xb44360a32ca7c898 ⋯ ⋯
def aes:0<(k+1)-k:=rL [] [k,((k+1)-k)] [] 0x65fe973d54890 ⋯ ⋯
def aet:l+1=k->¬(k<=l):=gZ 51950329664 ()
def aeu:k*4<=m->m<l->k<=l-1:=rL [] [k,m,l,(l-1)] [] 0x24ca229567221c9c6de58eee34a2c8a0 ⋯ ⋯
def aev:k*4<=m->8<=l->m<l->k*5<(l-1)*3:=rL [] [k,m,l,(l-1)] [] 0x4bd9a1199129391250d36c961630c74e6710f1b4a2c8a0 ⋯ ⋯
def aew:k<10000->¬(50000<k+1):=fy 0x8b027f5c0ba3a2c5e154 ()
def aex:k<10000->(k+1)*4<0x1000000000000000:=fy 0x552370b000000000020376c370422c5e154 ()
def aey:¬(l<=k)->k<l:=gZ 156090356 ()
def aez:k<=0->k=0:=rl [] [k] 434983478280 ⋯
def aeA:k<=l+1->k-1<=l:=rL [] [k,l,(k-1)] [] 0x1f354dd0775bae9c898 ⋯ ⋯
def aeB:k+n<=m->l<=n->k+l<=m:=ll 0x7144757d456c8 ()
def aeC:k+(8*n)<=m->l<=n->k+(8*l)<=m:=ll 0x14d1b974574961997244f548 ()
def aeD:k+(l+1)<=m->k+l<=m:=iE 0x966518fcdc8 ()
def aeE:k+(8*(l+1))<=m->(k+1)+(8*l)<=m:=iE 0x6b6ddf4a2d97f03cfc9e08 ()
def aeF:k+(8*(l+1))<=m->(k+3)+(8*l)<=m:=iE 0x6b6ddf4f064af93cfc9e08 ()
def aeG:k+l<=999->k<1000:=gZ 0xcd40f1b0226a7fe58 ()
def aeH:k+l<=9800->k+90<9900:=gZ 0xa9d0973e0cd00b9eb2686f58 ()
def aeI:k+1<l->k+0<l:=gZ 527498809652 ()
def aeJ:l=k->l<=m+1->m<=500->k<=16777216+1:=iE 0x92de17d6628aaaaab6fb544c3558580 ()
def aeK:k+90<l->k+1<l:=gZ 0x82c2dd0034014 ()
def Ŭ:m=l->k<m->k<l:=iE 606302662784 ()
def aeL:0<=a->-0x8000000000000000<=a:=fe 0x58cf591800000000010b92d83c ()
def aeM:k=l->k<=1000->bk a<l->a<0x8000000000000000:=rL [a] [k,l,(bk a)] [] 0x155067b7ea4cb6e17800014ff4dd404e7d63d184e4e0499 ⋯ ⋯
def aeN:l<k->0<(k:Int)-(l:Int):=gZ 135605160740 ()
def aeO:a+((k+1:Nat):Int)=(a+(k:Int))+1:=rl [a] [k] 0xa621b3f87da89 ⋯
def aeP:a-((k+1:Nat):Int)=(a-(k:Int))-1:=rl [a] [k] 0xa621bc027e089 ⋯
def aeQ:k=l->l<=4000->k<10000:=gZ 0xd52fcd69706479d6d570 ()
def ŭ:k=l+1->l=m->m<=4000->k<=16777216:=iE 0xe6578fb029e365b1b4f414203e760 ()
def aeR:(k:Int)+1≠0:=fy 955642101 ()
def Ů:k=l+1->k-1=l:=rL [] [k,l,(k-1)] [] 0x1ed7e0869fe93048ade9c898 ⋯ ⋯
def ů:l=k+1->l=m->m<=4000->k<=16777216:=iE 0xeaafd430bb644e5346a4135336760 ()
def aeS:0<k->k≠0:=fy 4088088740 ()
def aeT:(aT a=1/\b=c)->a≠0:=rL [a,b,c] [(aT a)] [] 0x1a18323ef087abf33874808b ⋯ ⋯
def aeU:(aT a≠1/\(1<((aT a:Nat):Int)/\P))->a≠0:=rL [a] [(aT a)] [P] 0x1eb59b19699ef4aaa894486b1320089 ⋯ ⋯
def Ű:a=b->a<=b:=jJ 142471364 ()
def aeV:a=c->c<b->a<=b:=jE 6906282674900 ()
def aeW:a=4->0<=a:=fe 6373629428 ()
def aeX:c=d->e<=c->d<e->a=1\/a=b:=rl [_,_,_,_,_] [] 0x17f3fc261e1718f51a7a519a05 ()
def aeY:b=a->c-b<=((0:Nat):Int)->a<c->¬(0<=a):=jE 0x32d429d16c59e8f6714 ()
def aeZ:¬(0<a)->aT a=1->a<0:=rL [a] [(aT a)] [] 0x246f6f10414940353920089 ⋯ ⋯
def ű:c<=a->b<c->a≠b:=jE 44814102209468 ()
def Ų:¬(b<a)->c=a->b<=c->a=b:=jE 0x249a9fa251a95ce74 ()
def ae0:(a-c<=b/\a-c<=d)->a-b<=c:=qR 0x457b371bfde3ad80 ()
def ae1:(a-c<=d/\a-c<=b)->a-b<=c:=qR 0x53542bc40693ad80 ()
def ae2:a≠b->-a≠-b:=jJ 0xa3798a6a944 ()
def ae3: -a=b->0<a->0<b->P:=rL [_,_] [] [_] 0x77d9630d860c9e9002 () ⋯
def ae4:0<a->0<b->a=-b->P:=rL [_,_] [] [_] 0x3c0ce648e80c056002 () ⋯
def ų:a=-b->a<0->b<0->a=b:=jJ 0x1ed643dae12a5f3f44 ()
def Ŵ:a=-b->¬(a<0)->¬(b<0)->a=b:=jJ 0x4dc76d6831fd23c8abf44 ()
def ae5(h:((aT a:Nat):Int)=((aT b:Nat):Int))(M:a<0↔b<0):a=b:=
 (Int.natAbs_eq_natAbs_iff.mp<|Ho h).elim id λe=>(wg<|b<0).elim (λq=>ų e (M.mpr q) q) λq=>Ŵ e (λz=>q<|M.mp z) q
def ae6:a+b=((c+b)-c)+a:=jE 503203489289 ()
def ae7:a+((b-c)+d)=((a+b)-c)+d:=qR 0x34871f6d6dbbb1 ()
def ae8:a=(b+a)-b:=jJ 38150789 ()
def ae9:a+(b-c)=(a+b)-c:=jE 511940829365 ()
def afa:a<=(l:Int)+1->l<=k->a<=(k:Int)+1:=rl [_] [_,_] 0xb350c50d14017e611 ()
def afb:a<=(l:Int)->l<=k->a<=(k:Int):=rl [_] [_,_] 0x4ceddc3353611 ()
def afc:a=0->b<=0->(a+(0+0))+b<=0:=jJ 0x62c82abc2bde6f38944 ()
def afd:d=c->a+b<=d->(a+(1+1))+b<=(c+1)+1:=qR 0xabd555a8a40d770af404a4e4 ()
def afe:d=c->a+b<=d->(a+(0+1))+b<=c+1:=qR 0x36fc81c60a2a27fb24a4e4 ()
def aff:d=c->a+b<=d->(a+(1+0))+b<=c+1:=qR 0x36fc81aac25635ae04a4e4 ()
def afg:a+b<=c->(a+(0+0))+b<=c:=jE 0x54db11f00589b0c ()
def afh:k=m->m=n->n<=o+1->o<=l->k<=l+1:=B2 0x2327d42f893c8bb4bdcc4a0 ()
def Ew:a<b->a<=b:=jJ 85848248 ()
def ŵ(h:a≠b):(-1)*a≠(-1)*b:=λe=>h<|Int.neg_inj.mp<|PU.symm.trans<|e.trans PU
def Ŷ:a≠b->1*a≠1*b:=jJ 485041257949508 ()
def afi:c=b->a<=c->a<=b:=jE 6894825874196 ()
def afj:k=l->k<=l:=gZ 21816752 ()
def ŷ:k<64->k<=16777216:=fy 0x16fabb000e2d0b2d154 ()
def afk:k=m->m<l->k<l:=iE 607600819328 ()
def afl:m=k->m<=l->k<=l:=iE 654333646208 ()
def afm:m=k->m<l->k<l:=iE 654360582272 ()
def afn:l=k->l<=1000000->(k:Int)<0x8000000000000000:=gZ 0x67ee57e36e00000001d3a0928ca1f4ffc70 ()
def afo:k=l->l<=4->¬(7*3<=(0+k)*5):=gZ 0x5de9adeffc3c00421c4270 ()
def afp:k=l->l=m->m<=4->k<=16777216:=iE 0xc0b456bee1c9ed6e6ab1f80 ()
def afq:k=l->l<=4->k*5<7*3:=gZ 0xa0523f03e5704582270 ()
def afr:k+1<l->(k+0)+0<l:=gZ 0x5ff2de4e7b34 ()
def afs:k+1<l->(k+0)+1<l:=gZ 0x602528e8eb34 ()
def aft:0<=a->¬(a<0):=fe 38296637756 ()
def n?:b<a->¬(a<=b):=jJ 1020958904 ()
def afu:k+l<=9800->k+64<9900:=gZ 0xa9d0973dd1c474dc52686f58 ()
def Ÿ:min k l<=l:=rL [] [k,l,(min k l)] [] 47371119086744 ⋯ ⋯
def afv:(0<=a/\a<=1)->a<0x8000000000000000:=fe 0x162dcb318c00000000e64c506bcac0 ()
def Ź:(0<=a/\a<=b)->-0x8000000000000000<=a:=jJ 0x2877c6000000000000403cc2b88f80 ()
def afw:(0<=a/\a<=(k:Int))->k<=l->l<=1000->a<0x8000000000000000:=rl [_] [_,_] 0xdfd4002310eb4be001d88c04c41401ee901cd56011 ()
def afx:k=l->l<=1000->k<=16777216:=gZ 0xd4d18627c97d7d47f0d1570 ()
def afy:¬(b<a)->b<=a->a=b:=jJ 0x830210a278b4 ()
def afz:b<=a->a<b+(k:Int)->bk (a-b)<k:=rL [b,a] [k,(bk<|a-b)] [] 0x553d024d28ab75c287b4492 ⋯ ⋯
def afA:a<=1000000000->k<=1000000->(k:Int)<0x7fffffffffffffff-a:=DF 0x72c0384749cfffffffff20eda824fafc3a2cc402d4a90c ()
def R4:¬(b<a)->a<=b:=jJ 1020889268 ()
def afB:a<=(k:Int)+1->k<=90000->a<=1000000000:=DF 0x6c9f2cf31617cb6ee278b2d35a44c ()
def afC:k<=90000->1<a->bk (((k:Int)+2)-a)<=1000000:=rL [a] [k,(bk<|((k:Int)+2)-a)] [] 0x2a10e956ac75cbb15715b3835652c03f624491 ⋯ ⋯
def afD:a<=b+1->a+((bk ((b+2)-a):Nat):Int)≠a:=rL [a,b] [(bk<|(b+2)-a)] [] 0x5d57199679b8d604122e1448a ⋯ ⋯
def afE:a+((bk ((c+2)-a):Nat):Int)<=c->¬(a<=b):=rL [a,c,b] [(bk<|(c+2)-a)] [] 0x9a59d9c4ec53128f818848b ⋯ ⋯
def afF:k<=l+1->l<=m->m<=90000->k<=100000:=iE 0x4146884cb320f4dbe3f9ac7e12748 ()
def afG:k<=l+1->l<=m+1->m<=n->n<=90000->k<=100000:=ll 0x67d07b85c816aa5ef2df6686d6fccaab598 ()
def ź:min (min a b) c<=a:=rL [a,b,c,(min a b),(min (min a b) c)] [] [] 0x6dc90892e4eebdd21105 ⋯ ⋯
def afH:min (min a b) c<=b:=rL [a,b,c,(min a b),(min (min a b) c)] [] [] 0x6c94038d09e87b221105 ⋯ ⋯
def Ż:min a b<=b:=rL [a,b,(min a b)] [] [] 7942515757187 ⋯ ⋯
def afI:a-((k+1:Nat):Int)<=b->a-((k+1:Nat):Int)<=c->a-((k+1:Nat):Int)<=d->a-((k:Int)+1)<=min (min b c) d:=rL [a,b,c,d,(min b c),(min (min b c) d)] [k] [] 0x36e210a4d2747a31fee8af3f094c049cb4339f06b5e62e0c110e ⋯ ⋯
def ż:a<=b->a<=c->a<=d->a<=min (min b c) d:=rL [a,b,c,d,(min b c),(min (min b c) d)] [] [] 0x79e00955f8b6bc256e41eb90b62e0c1106 ⋯ ⋯
def afJ:l=(2*m)+2->n+l<=80000->k<=((n+m)+m)+1->k<=100000:=ll 0x16e714ded182d6840ff07a0ac8e0bd62e29660 ()
def afK:m=(2*l)+2->(((k+l)+l)+1)+1<=k+m:=iE 0x9c5bb661f370f45660 ()
def afL:l<=4->k+8=((k+(4-l))+l)+4:=rL [] [l,k,(4-l)] [] 0xa6441452f118b6c682c0575f6c898 ⋯ ⋯
def Ž:0<=a->((aT a:Nat):Int)=a:=rL [a] [(aT a)] [] 0x307b54cc3cdc8b520089 ⋯ ⋯
def afM:¬(0<=a)->((aT a:Nat):Int)=-a:=rL [a] [(aT a)] [] 0x1fdbdd3d0543f05c120089 ⋯ ⋯
def afN:2*a=d->2*b=e->2*c=f+g->d=f->e=g->a+b=c:=rl [_,_,_,_,_,_,_] [] 0x4561c15e350c5fe23ec8d0ab451165bd6b2c30a07 ()
def afO:l<=k->(k-l)+l=k:=rL [] [l,k,(k-l)] [] 0xdbcf1537796a71acc898 ⋯ ⋯
def afP:a<0->a<=-1:=fe 22594046888 ()
def ž:a=b->a<=-c->0<=b->1<=c->False:=jE 0x1a07f11c07c4719dd714 ()
def afQ(y:a=b)(M:a<=(-1)*c)(v:0<=b)(h:1<=c):False:=ž y (PU▸M) v h
def afR:16<a->17<=a:=fe 0xd69387d70b5358 ()
def afS(v:17*a<=b)(J:b=c)(M:c<=16)(h:1<=a):False:=absurd (show(17*1:Int)<=16 from og (Int.mul_le_mul_of_nonneg_left h (by decide:(0:Int)<=17)) (og v<|J▸M)) ∅
def afT:a<16->a<0x8000000000000000:=fe 0xdf56b1180000000011c16152c618 ()
def afU:a<16->bk a<16:=rL [a] [(bk a)] [] 0x47f0c049656c36751720489 ⋯ ⋯
def afV:a+(b+c)=b+(a+c):=jE 511634009789 ()
def afW:(a=101\/(a=102\/(a=103\/a=104)))->101<=a/\a<=104:=fe 0x249a781fca9a469fe503b97e8d1b531528d66a0eb152b7ac ()
def afX:l=m->m=k->k=l:=rl [] [l,m,k] 0x8d00984c1fc018 ⋯
def afY:k=m->l=m->k<=l:=iE 1164826553216 ()
def afZ:l-k=0->k<=l->k=l:=rL [] [l,k,(l-k)] [] 0x3880a32adf3356a2725b9c898 ⋯ ⋯
def af0:l-k=m+1->k<l:=rL [] [l,k,m,(l-k)] [] 0x6f3e8028906fbe6c8a0 ⋯ ⋯
def af1:k-l=m+1->k-(l+1)=m:=rL [] [k,l,m,(k-l),(k-(l+1))] [] 0x226941366222c8ad6941b030b08cd928b95a8edf516654928 ⋯ ⋯
def af2:n+(l+1)<=m->k<=n+1->k+l<=m:=ll 0x10947dab4bcc15b0c8 ()
def af3:k<=n+m->n<=l+1->k<=l+(m+1):=ll 0x10837dc74cf24c19a8 ()
def af4:k=m->m<=n->n<l->k<l:=ll 0x5571b18f588390 ()
def af5:0+k=k:=rl [] [k] 62924040 ⋯
def ſ:l<k->k=(k-1)+1:=rL [] [l,k,(k-1)] [] 0x34478abcba4d6f66872c898 ⋯ ⋯
def af6:k+m<l->k<l:=iE 3574477460 ()
def af7:k<=1000->k<=1001:=fy 0x175375f40aae5948 ()
def af8:k<=l+1->l<=1000->k<=1001:=gZ 0x5a333d4e61612c23876b8 ()
def af9:k<=1001->k<=1000000:=fy 0x18ad585f570ab32148 ()
def aga:k<=l->l<=1000->k<=1000000:=gZ 0x765af9487e3d91f0d1558 ()
def agb:k<l->(k:Int)≠(l:Int):=gZ 9472972340 ()
def agc:a<((0:Nat):Int)->¬(0<=a):=fe 114741571448 ()
def agd:a<((0:Nat):Int)->0<=a->(0<=b->(b<((0:Nat):Int)->(k=l->a=b))):=rl [a,b] [k,l] 0x4f58e543e77d2980027ba5ef5c12 ⋯
def age:0<=a->a<((0:Nat):Int)->¬(P)/\(k≠l/\Q):=rL [a] [k,l] [P,Q] 0x25c0e18a0b63eea4fab2f011 ⋯ ⋯
def agf:a<((k+1:Nat):Int)->a=(k:Int)\/(a<(k:Int)/\a≠(k:Int)):=rl [a] [k] 0x387f4d0a3605cd2af220c09 ⋯
def agg:c=d->a+b<=c->0<=a->0<=b->d<=0->a=0/\b<=0:=qR 0x2e6319456c4394a7a15303494b79917e4e4 ()
def agh:b=1+a->c=0->b<=c->¬(0<=a):=jE 0x23212ad7564d30aae1c4 ()
def agi:b=a+1->c=0->b<=c->¬(0<=a):=jE 0x23212ad7564d30af54d4 ()
def agj:1<a->1<b->1<min a b:=rL [_,_,_] [] [] 0x905ccc499479f3522d083 () ⋯
def agk:min a b≠a->min a b=b:=rL [_,_,_] [] [] 0xd741434961da57e9a4dd083 () ⋯
def agl:d=c->a+b<=d->(a-(1+1))+b<=(c-1)-1:=qR 0xabd556079ad89426ef72a4e4 ()
def agm:d=c->a+b<=d->(a-(0+1))+b<=c-1:=qR 0x36fc8a681ca3393692a4e4 ()
def agn:d=c->a+b<=d->(a-(1+0))+b<=c-1:=qR 0x36fc8a4cd4cf46e972a4e4 ()
def ago:a+b<=c->(a-(0+0))+b<=c:=jE 0x54db11f066d8fcc ()
def agp:1+a<=c->0<=a->c+d<=e->0<=d->1<=e:=qR 0x350f4a25274bba7e7ed8a45bc ()
def agq:1+1<=b->b+c<=a->0<=c->1<=a-1:=jE 0x538e6465aefeeaae2f2452c ()
def agr:a+1<=c->0<=a->c+d<=e->0<=d->1<=e:=qR 0x350f4a25274bba7e7ed8d0a7c ()
def ags:k=m->m=n->n<=o->o<=l->k<=l:=B2 0x8cb57b8a0833dcc4a0 ()
def agt:b<=c->min a b<=c:=rL [b,c,a,(min a b)] [] [] 0xd8028e06abdd084 ⋯ ⋯
def Α:k<4->k<=1000000:=fy 6537406597015124 ()
def agu:a<4->a<5:=fe 3357330536 ()
def agv:a≠b->¬(b<a)->a<b:=jJ 0x3e018d3f3f944 ()
def agw:c=a->min a b<=c:=rL [c,a,b,(min a b)] [] [] 0x34154b35d65d5084 ⋯ ⋯
def agx:0<=a->0<=b->0<=min a b:=rL [_,_,_] [] [] 0x905cc27438c01d673d083 () ⋯
def agy:a<c->min a b<c:=rL [a,c,b,(min a b)] [] [] 0xdfce21b8522d084 ⋯ ⋯
def agz:a≠c->¬(c<a)->min a b<c:=rL [a,c,b,(min a b)] [] [] 0x3115ffcdcc1368d3f39ad084 ⋯ ⋯
def agA:d=b->a-((k+1:Nat):Int)<=c->a-((k+1:Nat):Int)<=d->a-((k:Int)+1)<=min b c:=rL [d,b,a,c,(min b c)] [k] [] 0x48c183bd318d89eb284d185035b06bcf5908d ⋯ ⋯
def agB:d=b->a<=c->a<=d->a<=min b c:=rL [_,_,_,_,_] [] [] 0x5b54c04499bc2f5bc7f59085 () ⋯
def Β:n=((2*l)+o)+1->k+n<=m->k+l<=m:=B2 0x61d4e2888c14eefdd320 ()
def agC:m=((2*n)+o)+1->k<=p+1->p<=(l+n)+n->k<=l+m:=rl [] [_,_,_,_,_,_] 0x389d8f69f37590aee8c54e7a7c6830 ()
def agD:m=((2*l)+n)+1->k+m<=80000->(k+l)+l<=90000:=ll 0x28c2038e3a465ad901baa89134fa2bc110 ()
def agE:m=((2*l)+n)+1->((k+l)+l)+1<=k+m:=ll 0x3d6b2b8ce7996a23110 ()
def agF:(a=1\/a=-1)->aT a=1:=rL [a] [(aT a)] [] 0x20ce2499a9bdc732e60598571ffd20089 ⋯ ⋯
def Δ:k<=l->k<=(l+m)+1:=iE 654671020904 ()
def Ε:k<=n+1->n<=l->k<=(l+m)+1:=ll 0xb82b3c4780e95598 ()
def agG:a=c->0<=c->c<b->0<=a/\a<b:=jE 0x321bfaf0464256d024514 ()
def agH:n=(2*l)+2->(k+n)+1<=m->((k+1)+l)+1<=m:=ll 0x5dd6069e8efe7e413cd4d660 ()
def agI:n=(2*l)+2->(k+n)+1<=m->((((k+1)+l)+1)+l)+1<=m:=ll 0x4f827866b6fc6b7cd12c614d660 ()
def agJ:m=(2*n)+2->k<=((((l+1)+n)+1)+n)+1->k<=(l+m)+1:=ll 0x4f2500e6aa96ca02ed0babed660 ()
def agK:k+7=((k+2)+4)+1:=rl [] [k] 0x809a8cdd2aed08 ⋯
def agL:((k+2)+4)+1=k+7:=rl [] [k] 0x82557684f6fd08 ⋯
def agM:m=n->n<=l->k<m->k<l:=ll 0x55623a1d164390 ()
def agN:k<=l->l<4->k<=4000:=gZ 0x6f7b477431d8318 ()
def Ζ:aT a=1->a=1\/a=-1:=rL [a] [(aT a)] [] 0xace3f12184d0faa59ace1702752d320089 ⋯ ⋯
def PW:a<=a:=fe 2355 ()
def Η:a<0->((aT a:Nat):Int)=-a:=rL [a] [(aT a)] [] 0x2a7a7c515c5cdf8f20089 ⋯ ⋯
def agO:a<=b->b<a->¬(k<l):=rl [_,_] [_,_] 477710792152594 ()
def agP:a=b->b<a->¬(k<l):=rl [_,_] [_,_] 790813908034066 ()
def agQ:k<=4->(k:Int)<=4:=fy 3185778248 ()
def agR:l=m->k<=n->m<=4->n<l->k<=1000000:=ll 0x5241666467a689b4c38268f90 ()
def agS:l=m->k<=l->m<=4->k<=1000000:=iE 0x6a4710be69ca87282ed80 ()
def agT:l=m->k<=n+1->m<=4->n<=l->k<=1000000:=ll 0x7df424c9beb6ffed5249aa29590 ()
def agU:l<=4->0<=(k:Int)+(4-(l:Int)):=gZ 725386005606248 ()
def agV:k<l->(k:Int)+a<(l:Int)+a:=rl [_] [_,_] 0xb22eff243211 ()
def agW:m=l->k<m->(k:Int)+(a-(l:Int))<a:=rl [_] [_,_,_] 0x7e416085e9d04019 ()
def agX:k+11=((k+5)+4)+2:=rl [] [k] 0x816725e05aed08 ⋯
def agY:((k+5)+4)+2=k+11:=rl [] [k] 0x83ed76e53efd08 ⋯
def agZ:m=l->l<=4->k<m->0<=(k:Int)+(4-(l:Int))/\(k:Int)+(4-(l:Int))<=4:=rl [] [m,l,k] 0x374ea76e1ff2d7f7e21332a1ada8c018 ⋯
def s9:b=c->a<=c->a<=b:=jE 7409105817620 ()
def ag0:a=c->c<=b->a<=b:=jE 6906282534932 ()
def ag1:k<=l->m<=4->l<m->k<=4000:=iE 0x37690f4ba65113eb568 ()
def ag2:k+9=((k+1)+4)+4:=rl [] [k] 0x82fe59dec2ed08 ⋯
def ag3:k<=70000->k+(((2*(((2*(((2*(((2*0)+0)+1))+((2*0)+2))+1))+((2*((2*0)+2))+2))+1))+((2*((2*((2*0)+2))+2))+2))+1)<=80000:=fy 0xb80ba980cab8826fd76dd5e137eb7571be5230fd1188c43ef11b612948 ()
def ag4:a=1->0<a:=fe 6373664708 ()
def ag5:k<=l->l<=m->m<=n->n<=3900->k<=4000:=ll 0x2c97116068df9423d809bab6778 ()
def ag6:m=n->k<=o->n<=l->o<=m->k<=l:=B2 0x497135d19c238fa4a0 ()
def ag7:a+f<=e->c+d<=b+f->((a-b)+c)+d<=e:=rl [_,_,_,_,_,_] [] 0x4d4192ee616b0e7433d68e06 ()
def ag8:b=0->c+a<=b+d->0<=c->d<=0->a<=0:=qR 0x6829d85eba559cd75b8f84ec4 ()
def ag9:c=e->a+f<=e->b<=f+d->a+b<=c+d:=rl [_,_,_,_,_,_] [] 0x149f1cdce8a0e3d0f60b18206 ()
def aha:a+d<=c->b<=d+0->a+b<=c:=qR 0x30be4ca9f4442fc3c ()
def ahb:a<=b+0->b<=0->a<=0:=jJ 0xd4ddb5bce271ac ()
def ahc:c<=a->b+1<c->a≠b:=jE 0x672b4e2944c6bc ()
def ahd:a<=c->c<b->a<b:=jE 3732670077884 ()
def ahe:a≠0->¬(a<0)->-a<0:=fe 0x24117115f7002a84 ()
def ahf:a=b->b<=(k:Int)->a<=((k+1:Nat):Int):=rl [_,_] [_] 0xc60cddc023a620a ()
def ahg:a<3->a+1≠4:=fe 25631234381144 ()
def ahh(M:b≠c):(-1)*b≠(-1)*c:=ŵ M
def ahi:b=4->a<3->a+1<b:=jJ 0x1a966a4a4819944 ()
def ahj:a<3->a≠4:=fe 65381539160 ()
def ahk:b=c->d=a+1->d<c->a<b:=qR 0x240e976274025936e4 ()
def ahl:a≠c->(b=c\/b=c+1)->(d=c\/d=c+1)->a<d->a<b:=qR 0x146fa44a6c3e76d84824420d1a55e1ae76e1e33d4ac4 ()
def ahm:1<a->a≠0:=fe 38297316152 ()
def ahn:a<0->-((aT a:Nat):Int)=a:=rL [a] [(aT a)] [] 0x2f0b716f25c4cc8f20089 ⋯ ⋯
def Θ:¬(a<0)->((aT a:Nat):Int)=a:=rL [a] [(aT a)] [] 0x245c7f992dc0f7f920089 ⋯ ⋯
def aho:(a=101\/(a=102\/(a=103\/a=104)))->¬(a<101):=fe 0x2334f44be07aee6262a010818d66a0eb152b7ac ()
def ahp:a<3->a<101:=fe 0xd0704d82cd8 ()
def ahq:a<3->a+1<101:=fe 5614928675554520 ()
def ahr:¬(a+1<a):=fe 11120601 ()
def ahs:((aT (a-(a+1)):Nat):Int)=1:=rL [a] [(aT<|a-(a+1))] [] 0x12b7bf91975415440089 ⋯ ⋯
def aht:a<3->a<((4:Nat):Int):=fe 9976641752 ()
def WD:¬(a<a):=fe 28281 ()
def ahu:4=a+1->¬(a<3):=fe 25473159827348 ()
def ahv:k+l<=k+(l+1):=gZ 156867336 ()
def o_:k<=l->l<=m->m<=3900->k<=4000:=iE 0x3adfa0406ad42dc02d53968 ()
def ahw:a=b->a<b->¬(P):=rL [_,_] [] [_] 0x89629e7931002 () ⋯
def ahx:b<c->¬(a<0/\b=c):=jE 458496255602648 ()
def ahy:b=a->¬(a+1<b):=jJ 870595348676 ()
def ahz:b+1<a->a≠b:=jJ 522844269032 ()
def ahA:c=1+d->0<=b->0<=d->c<=a->0<a+b:=qR 0x69f2cea52c0cb7d7d5edd23e4 ()
def ahB:c=1+1->0<=b->c<=a->0<a+(b+(-1)):=jE 0x5ddf7c3ae5b7701852aeed44 ()
def ahC:c=0+1->0<=b->c<=a->0<a+(b+0):=jE 0xa6b3151b3d1974b12ad5334 ()
def ahD:k<=l+1->l<=3900->k<=4000:=gZ 0x5c89d4d013eb07c9576b8 ()
def ahE:k<=80000->k<=90000:=fy 0x17061bd4c6fdd625a948 ()
def ahF:k<=70000->k<=80000:=fy 0x1701753016fd1b612948 ()
def ahG:k<=70000->k+1<=80000:=fy 0xb80ba980ca2111b612948 ()
def ahH:a+(b-a)<=b:=jJ 12985383 ()
def ahI:((((a+b)+((d+(-a))+(-b)))-(e+f))+e)+f=d:=rl [_,_,_,_,_] [] 0xa7167f17e55f87b048085 ()
def ahJ:(a<0/\b=c)->¬(0<a):=jE 0xcfdbdb39886d0 ()
def ahK:k<=40000->k<=70000:=fy 0x16fcce8b6726b136148 ()
def ahL:k<=l+1->l<=3800->k<=3900:=gZ 0x5c75df2042d2aed5476b8 ()
def ahM:k<=40000->k+2<=70000:=fy 0xb7e6745b587bab136148 ()
def ahN:k<=m+1->m<=l+1->k<=l+2:=iE 0x6d005565c3072748 ()
def ahO:k<=l->l<=m->m<=1800->k<=4000:=iE 0x3adfa04061fe7cb7c553968 ()
def ahP:k+(3*l)<=k+(3*(l+1)):=gZ 0x41f9c0815e60d8 ()
def ahQ:k<=20000->m<=1800->n<=m->l<n->k+(3*l)<=40000:=ll 0x45dfdf7cbe951f0866fbf283798e59e1fbf7d2b8 ()
def ahR:k<=m+1->m<=n+1->n<=2*l->k<=2*(l+1):=ll 0x7973ff827d299d888d2b598 ()
def ahS:k<=m+2->m<=2*l->k<=2*(l+1):=iE 0x3642cb8b87eb70048 ()
def ahT:l+k<=m->n<=1900->m<n->k<=4000:=ll 0x16b6eccc81c76befcbc002e2c8 ()
def ahU:k+n<=m->l<=n+1->k+l<=m+1:=ll 0x10837c8e2ebeea68c8 ()
def ahV:k+l<=m->n<=1900->m<n->k<=4000:=ll 0xc90e07e4396dac9dc6002e2c8 ()
def ahW:n+l<=m->k<=n+1->k+l<=m+1:=ll 0x1083796a85a6f6a7c8 ()
def ahX:l=m->n+m<=3900->k<=n+o->o<l->k<=4000:=B2 0x14c3dd26364cfbd8c8dae5f8d4ea4a0 ()
def ahY:k<=l+m->k<=l+(m+1):=iE 0x945c231e4c8 ()
def ahZ:l+m<=3900->k<=l+n->n<m->k<=4000:=ll 0x76729d3496c7688985405b5b98 ()
def ah0:b=a->¬(a<b):=jJ 1700546756 ()
def ah1:a=b->a≠b+1:=jJ 1572427774148 ()
def ah2:c≠b->a=c->a≠b:=jE 0x75b997f51f4f04 ()
def ah3:k<=400->k<=90000:=fy 0x17061bd4c6ff799948 ()
def ah4:k<=400->k<=40000:=fy 0x1805e9b8bff799948 ()
def ah5:k<=400->l<=k->k+l<=40000:=gZ 0x16ff6ade7ca29a326e0198 ()
def ah6:k<=400->k<=1800:=fy 0x17b297d8ff799948 ()
def ah7:k<=400->l<=k->m<=k->(k+l)+m<=20000:=iE 0x13fa3ac14d822a034d6b83d19de8 ()
def ah8:k<=400->6*k<=3900:=fy 0x1743d5fcace1b1799948 ()
def ah9:l<=k->m<=k->((k+l)+m)+(3*m)<=6*k:=iE 0x12cf9e4da563952c3ec568 ()
def aia:k<=2*l->l<=m->m<=400->k<=4000:=iE 0x260341ff9895014167ffb3828 ()
def aib:k<=400->6*k<=100000:=fy 0x170c56742230e1b1799948 ()
def aic:k<=l->l<=400->k<=1900:=gZ 0x745a778a011c4fe5558 ()
def aid:k+m<=n->l<=2*n->n<=o->o<=400->k+l<=3900:=B2 0x22cd0d78464a3a112ad50a3c2fc3befa6768 ()
def aie:m+k<=n->l<=o->n<=o->o<=400->k+l<=3900:=B2 0x1a43f376c5cfcb0f75428f0bf517a6768 ()
def aif:k<=1000->k+1<=100000:=fy 0xb85613cbca21eae5948 ()
def aih:¬(0<a)->((aT a:Nat):Int)=-a:=rL [a] [(aT a)] [] 0x34ccb2926a64bca9763920089 ⋯ ⋯
def aii:a<=104->bk (a-101)=0\/(bk (a-101)=1\/(bk (a-101)=2\/bk (a-101)=3)):=rL [a] [(bk<|a-101)] [] 0x4cd77bdbc17abd5eaf60358e58b5a4d26936927d84a3ab064d545c3f1f8fc7ec7bb5b35bd17ed3384b2eaf28426fd2b89dcc0489 ⋯ ⋯
def aij:a<=104->a-101<=1000000:=fe 0x1788ca0e0ca8ebd5b80d20c ()
def aik:(a=1\/(a=2\/(a=4\/a=8)))->a≠0:=fe 0xce4ffe1f3bc60db03d88365f2c ()
def ail:(a=1\/(a=2\/(a=4\/a=8)))->aT a<1073741824:=rL [a] [(aT a)] [] 0x1565618296b85ce10acf3991d71f01abeb2ccac06cc1fd20089 ⋯ ⋯
def aim:a=b->c-a<=(k:Int)->b<c->k-1<k:=rL [a,b,c] [k,(k-1)] [] 0x9a844df25f53b969f667558893 ⋯ ⋯
def ain:c=d->a-c<=(k:Int)->d<b->a-b<=((k-1:Nat):Int):=rL [c,d,a,b] [k,(k-1)] [] 0x1b775da3cd49f8cffd02059449c894 ⋯ ⋯
def Ι:0<=(a+(k:Int))-a:=DF 543060015 ()
def aio:k<=4->(a+(k:Int))-a<=1000000:=DF 0xa6c6b352a6681de48 ()
def aip:(101:Int)<=104:=rl [] [] 295383268777344 ()
def aiq:k<16->(k:Int)<16:=fy 0xced37a098d5154 ()
def air:k<=4->k<=1000000:=fy 6537406597015112 ()
def ais:b<=a->a<b+1->a=b:=jJ 7081051226776748 ()
def ait:a<=a+1:=fe 955083 ()
def aiu:(k:Int)<((k+1:Nat):Int):=fy 3681544 ()
def aiv:k<4->k+1<=1000:=fy 0xafa0b0cd4e654 ()
def aiw:1<2+(k:Int):=fy 48315532 ()
def aix:k<4->(a+(k:Int))-a<=1000000:=DF 0xa6c6b352a6681de54 ()
def aiy:bk ((a+(k:Int))-a)=k:=rL [a] [k,(bk<|(a+(k:Int))-a)] [] 0x60678c2df49faaac491 ⋯ ⋯
def aiz:a+b<=c->a+(b+1)<=c+1:=jE 0x5468559b094578c ()
def aiA:a+b<=c->a+(b+0)<=c:=jE 589362233291468 ()
def aiB:a<=0->a+0<=0:=fe 1250953104284 ()
def aiC:0<=a->0<=a+0:=fe 1250995100732 ()
def aiD:0<a->0<a+1:=fe 1264006195400 ()
def aiE:0<a->0<a+0:=fe 1250995157192 ()
def aiF:0<=a->0<a+1:=fe 1264006195388 ()
def aiG:0<k->(k:Int)≠0:=fy 36701005988 ()
def aiH:0<=b->0<=(a+b)-a:=jJ 22502250013004 ()
def aiI:b<4->(a+b)-a<=1000000:=jJ 0x1739bc95f85cddf938 ()
def aiJ:k<=l->l<=3000->k<=100000:=gZ 0x72d8c9611754fe0939558 ()
def aiK:k<=100->k<=1000000:=fy 0x18ad585f5715ef148 ()
def aiL:k<=2000->k+49<=3000:=fy 0xce2c7f93a70b315b9948 ()
def aiM(J:k<=6):10+(49*k)<=2000:=bP (ro (ze 49 J) 10) ∅
def aiN:k=4+l->0<k:=gZ 96786225392 ()
def aiO:k=4+l->l<=6->k<=100:=gZ 0x9d78f0a429515c70 ()
def aiP:(k+(49*l))+49<=k+(49*(l+1)):=gZ 0x36c39f134e46a210e4f3c ()
def aiQ:k=l+m->k+1=l+(m+1):=rl [] [k,l,m] 0x22db6f7535c937018 ⋯
def aiR(h:k<=6):10+(49*k)<=310:=bP (ro (ze 49 h) 10) ∅
def aiS:0<=a->a<3->0<=a+1/\(a+1<4/\a=a):=fe 0x6d2a48f8e245ab0fef31338cbc ()
def aiT:c=b->0<=a->a<3->0<=a/\(a<4/\b=c):=jE 0x67114ce94ca87fb6c1514c950d14 ()
def aiU:0<=a->a<b->0<=a/\(a<b/\a=a):=jJ 0x2c3e61fdfe4943a4f014c ()
def Κ:a<=104->a-101<4:=fe 0x156ab3e53da25520c ()
def aiV:63<k->63<(k:Int):=fy 0xd010069f2b8264 ()
def aiW:k<=63->k<=1000:=fy 0x175357790ae0948 ()
def aiX:k+l<=m->0<l->(k+1)+(l-1)<=m:=rL [] [k,l,m,(l-1)] [] 0x346238d86ba671804679d848a0 ⋯ ⋯
def Λ:k+l<=m->k+((k+l)-k)<=m:=rL [] [k,l,m,((k+l)-k)] [] 0x399214747e16460f048a0 ⋯ ⋯
def Μ:k<l+1->k+(k-k)<=l:=rL [] [k,l,(k-k)] [] 0x1e276be678c653c898 ⋯ ⋯
def aiY:¬(m<=k)->m=l->k<l:=iE 6180558899444 ()
def Ν:n<=m->l<(n+1)-k->k+l<=m:=rL [] [n,m,l,k,((n+1)-k)] [] 0x30c56a8fa0733fb32674ec8a8 ⋯ ⋯
def aiZ:0<=c->c<0->(0<=a/\a<b)/\k=l:=rl [c,a,b] [k,l] 0x1dd4704b075585157038aee13 ⋯
def o!:a<0->-a=((aT a:Nat):Int):=rL [a] [(aT a)] [] 0x2f0b7173b10bd48f20089 ⋯ ⋯
def Ξ:¬(a<0)->a=((aT a:Nat):Int):=rL [a] [(aT a)] [] 0x245cfcdfcdbe17f920089 ⋯ ⋯
def ai0:b<a->a-b=((bk (a-b):Nat):Int):=rL [b,a] [(bk<|a-b)] [] 0xf6ee39c3d3e2e02061448a ⋯ ⋯
def ai1:¬(b<a)->0=((bk (a-b):Nat):Int):=rL [b,a] [(bk<|a-b)] [] 0x335de87a604a2d02061448a ⋯ ⋯
def ai2:¬(a<0)->1<((aT a:Nat):Int)->-a<0:=rL [a] [(aT a)] [] 0xe11ec1c75aa7e44ef920089 ⋯ ⋯
def o?:0<=b->a<=c->a<=b+c:=jE 0x897f6242df7dc ()
def ai3(h:a<0):(-1)*a=((((aT a):Nat)):Int):=PU.trans<|o! h
def ai4:¬(a<0)->1*a=((aT a:Nat):Int):=rL [a] [(aT a)] [] 0x7f45750f64daebbf920089 ⋯ ⋯
def ai5:a=b->b<=(k:Int)+1->a<=((k+1:Nat):Int):=rl [_,_] [_] 0x18c19bb7f7a83a620a ()
def Ο:(0<=a/\a<=1)->(0<=b/\b<=(k:Int))->0<=a+b/\a+b<=((k+1:Nat):Int):=rl [a,b] [k] 0x472afc0d1fe9e47e6ade02f196447c00a ⋯
def ai6:k+(8*(m+1))<=n->l<=8->(k+l)+(8*m)<=n:=ll 0xf3893d6d57e318782dbac8f4f548 ()
def ai7:a=1-c->b=(k:Int)-d->a+b=((k+1:Nat):Int)-(c+d):=rl [a,c,b,d] [k] 0x168f666a053d087ed824974c20c ⋯
def ai8:(a+b)+(c+d)=(a+c)+(b+d):=qR 0x3480bcad524b39 ()
def ai9:(b<=a/\a<=c)->0<=a-b:=jE 0x61837352a1100 ()
def aja:(101<=a/\a<=104)->a-101<4:=fe 0x2660d43c5618b777757d8980 ()
def ajb:a-b=c->a=b+c:=jE 0xc76dcf022d4 ()
def ajc:(c<=a/\a<b)->0<=d->d<c->0<=a/\a<b:=qR 0x173ddf89640bc05722b0a0580 ()
def ajd:(b<=a/\a<4)->0<=b->a=0\/(a=1\/(a=2\/a=3)):=jJ 0xcafdb4f8187962c58b162f696094af19bb476bf9b259de49b9f3800 ()
def aje:a<=16->bk a<17:=rL [a] [(bk a)] [] 0x47f0c431f40ab66d0d20489 ⋯ ⋯
def Ρ:1<((aT a:Nat):Int)->a≠1:=rL [a] [(aT a)] [] 0x8404ad7af62d4720089 ⋯ ⋯
def ajf:1<((aT a:Nat):Int)->a≠-1:=rL [a] [(aT a)] [] 0x494a99851b57d4720089 ⋯ ⋯
def Τ:(c<=a/\a<b)->0<=c->0<=a/\a<b:=jE 0xa8c8d44def72f2b8d8c0 ()
def ajg:(c=a\/c=a+1)->a+1<c->a+1<b:=jE 0x761e8953951e8fc8ed6eac ()
def ajh:(c=a\/c=a+1)->d=a+1->d<c->a<b:=qR 0x2b5984863b57a5ded49384dac ()
def aji:k<=l->l<=m->m<=3900->k<=100000:=iE 0x3a05ce7d110fc78dc02d53968 ()
def Υ:1<=a->0<a:=fe 3187281068 ()
def ajj:k=l->l<=m->m<=n->n<=3900->k<=100000:=ll 0x5717177d23048f014e9e09bab6790 ()
def ajk:0<a->a=((aT a:Nat):Int):=rL [a] [(aT a)] [] 0x307bfbd5122e8bf20089 ⋯ ⋯
def ajl:k<=l+1->l<=m->m<=n->n<=3900->k<=4000:=ll 0x4447529ba0965ad6e2cee5e78d598 ()
def ajm:l<=k->¬((k:Int)-(l:Int)<0):=gZ 1612740532328 ()
def ajn:0<a->0<((aT a:Nat):Int):=rL [a] [(aT a)] [] 0x19047739b61ff20089 ⋯ ⋯
def Φ:4-a<=((k+1:Nat):Int)->3-(k:Int)<=a:=DF 0x37c4d08714630c ()
def WE:c=3-b->c<a->4-a<=b:=jE 0x2b4383fb5ef0e4f4 ()
def ajo:a=3-(k:Int)->a<4:=DF 2733293377652 ()
def ajp:¬(4-c<=d/\4-c<=a)->d≠b->b=3-c->b<=a->b<=d->a=b:=qR 0x5557408c2542801590e70a819dc849a93640e6ddb85f614 ()
def ajq:l<k->k=((k-l)-1)+l+1:=rL [] [l,k,(k-l),((k-l)-1)] [] 0x98457c900f33155536e5ad6515a1c81ac0ccfcb4920 ⋯ ⋯
def ajr:a<=1000000000->-0x8000000000000000<=0x7fffffffffffffff-a:=fe 0x99852dfac4bffffffffd501df3080000000011c4c3b84402d4a90c ()
def ajs:1<=a->0x7fffffffffffffff-a<0x8000000000000000:=fe 0x155fcbf2cc00000001b304873f7fffffffffffe705cac ()
end
open PySem PySem.W PySem.Calls PyProof.Rows
section
set_option backward.match.sparseCases false
abbrev pw:=PySem.Challenge.pw_md0009_01
@[ext]abbrev dX:Expr:=.Tuple [] 0 default
abbrev Zv(s:fz):Str×Arguments×List fz×sq×Pos×List Expr×Expr×Expr:=match s with
 |.FunctionDef n a b _ _ _ c _ _ p=>(n,a,b,c,p,[],dX,dX)
 |.ClassDef (body:=b) .. =>(ah "",default,b,default,default,[],dX,dX)
 |.Assign t e p=>(ah "",default,[],default,p,t,e,dX)
 |.For t i b _ p=>(ah "",default,b,default,p,[],t,i)
 |.Return e p=>(ah "",default,[],default,p,[],e.getD dX,dX)
 |_=>(ah "",default,[],default,default,[],dX,dX)
abbrev Zw(e:Expr):List Expr×Nat×Pos×Expr×Expr×List Comprehension×sq×List (Option Expr):=match e with
 |.ListComp a g s p=>([],0,p,a,a,g,s,[])
 |.SetComp a g s p=>([],0,p,a,a,g,s,[])
 |.DictComp a v g s p=>([],0,p,a,v,g,s,[])
 |.Tuple l k p=>(l,k,p,dX,dX,[],default,[])
 |.Call f l _ p=>(l,0,p,f,dX,[],default,[])
 |.Compare a _ _ p=>([],0,p,a,dX,[],default,[])
 |.Set l _ p=>(l,0,p,dX,dX,[],default,[])
 |.Dict ks l p=>(l,0,p,dX,dX,[],default,ks)
 |.Subscript o s p=>([],0,p,o,s,[],default,[])
 |.Slice _ u _ p=>([],0,p,u.getD dX,dX,[],default,[])
 |.Constant _ c p=>([],c,p,dX,dX,[],default,[])
 |_=>([],0,default,dX,dX,[],default,[])
def sN(s:fz):=(Zv s).1
def sA(s:fz):=(Zv s).2.1
def sB(s:fz):=(Zv s).2.2.1
def sC(s:fz):=(Zv s).2.2.2.1
def sP(s:fz):=(Zv s).2.2.2.2.1
def sL(s:fz):=(Zv s).2.2.2.2.2.1
def sE(s:fz):=(Zv s).2.2.2.2.2.2.1
def sF(s:fz):=(Zv s).2.2.2.2.2.2.2
def xL(e:Expr):=(Zw e).1
def xK(e:Expr):=(Zw e).2.1
def xP(e:Expr):=(Zw e).2.2.1
def xE(e:Expr):=(Zw e).2.2.2.1
def xF(e:Expr):=(Zw e).2.2.2.2.1
def xG(e:Expr):=(Zw e).2.2.2.2.2.1
def xS(e:Expr):=(Zw e).2.2.2.2.2.2.1
def xD(e:Expr):=(Zw e).2.2.2.2.2.2.2
abbrev noO:Obj:=(.none,R,.plain, #[])
abbrev ajt:List fz:=(pw.main.body.drop 2).head?.elim [] sB
abbrev WG(l:List fz)(i:Nat):Option fz:=(l.drop i).head?
def cS(i:Nat):=WG ajt i
def tS(i:Nat):=WG pw.main.body i
abbrev fO(s:Option fz)(q:String)(c d a:Value)(an:Option aW:=R):Obj:=s.elim noO λs=>(.type "function",R,.func {name:=sN s,qualname:=ah q,params:=sA s,body:=.stmts<|sB s,scope:=sC s,globals:=3,closure:=[],defaults:=d,kwdefaults:=.none,pyModule:=a,annotations:=an,code:=c}, #[])
abbrev vS(s:String)(t:Nat):Value:=.str (ah s) t
abbrev vI(i:Int):Value:=.int i 0
abbrev vN:Value:=.none
abbrev dE(P:Params)(s:String)(t:Nat)(v:Value):rW:={hash:=PyData.keyHash P<|ah s,key:=.str (ah s) t,val:=v}
abbrev cO(s:Option fz)(q:String)(a t ak k:Nat)(b:Bool)(e:Nat):Obj:=s.elim noO λs=>(.type "code",R,.fields #[.str (sN s) t,vS q<|t+1,vS "/claim/cut.py" (t+2),vI ak,vI k,vI 0,vI 0,vI 3,.ref<|a-cond b 5 3,.bool L,vI 181,.ref<|a-cond b 4 2,vN,cond b (!(a-3)) vN,cond b (!(a-2)) vN,.ref<|a-1,vI e,vI ak,vS "/claim/cut.py" (e+1)], #[])
abbrev kF(s:Option fz)(m:Value)(q:String)(a t ak k:Nat)(b:Bool)(e:Nat)(d:Value)(an:Option aW)(r:wi):wi:=(a,cO s q a t ak k b e)::(a+1,fO s q (!a) d m an)::r
def kC(i:Nat)(q:String)(a t ak k:Nat)(b:Bool)(e:Nat)(d:Value)(r:wi)(an:Option aW:=R):=kF (cS i) (vS "dd.bdd" 194) q a t ak k b e d an r
def kD(i:Nat)(q:String)(a t ak k:Nat)(b:Bool)(e:Nat)(d:Value)(r:wi):=kF (tS i) (vS "dd.bdd" 194) q a t ak k b e d R r
def kL(i:Nat)(q:String)(a t ak k:Nat)(b:Bool)(e:Nat)(d:Value)(r:wi):=kF (tS i) (vS "law_md0009_01" 940) q a t ak k b e d R r
abbrev kE(a:aW)(o:Obj)(r:wi):wi:=(a,o)::r
def Kt(P:Params):=
 kE 2 (vN,R,.dict #[] 0, #[])<|
 kE 3 ((.type "dict"),R,.dict #[dE P "__name__" 165 (vS "law_md0009_01" 940),dE P "__doc__" 166 vN,dE P "__package__" 167 vN,dE P "__loader__" 168 (.builtin "__main__.__loader__#opaque"),dE P "__spec__" 169 vN,dE P "__annotations__" 170 !6,dE P "__builtins__" 171 !4,dE P "__file__" 173 (vS "/claim/cut.py" 172),dE P "__cached__" 174 vN,dE P "_wall" 193 !21,dE P "BDD" 929 !493,dE P "_assert_valid_ordering" 939 !504,dE P "_law_bits" 947 !509,dE P "_law_whole" 953 !514,dE P "_law_walk" 968 !521,dE P "_law_fits" 974 !526,dE P "law" 980 !531] 17, #[])<|
 kE 29 ((.type "tuple"),R,.seq #[vN] 0, #[])<|
 kC 0 "BDD.__init__" 35 208 7 2 L 215 (!29)<|
 kC 2 "BDD.__len__" 49 226 36 1 L 230 vN<|
 kC 3 "BDD.__contains__" 56 233 39 2 L 238 vN<|
 kC 7 "BDD._init_terminal" 85 264 52 2 L 272 vN<|
 kC 8 "BDD.succ" 92 275 61 2 L 280 vN<|
 kC 9 "BDD.incref" 99 283 64 2 L 288 vN<|
 kC 10 "BDD.decref" 106 291 67 2 L 297 vN<|
 kE 122 ((.type "tuple"),R,.seq #[vN] 0, #[])<|
 kC 13 "BDD.add_var" 128 316 79 3 L 322 (!122)<|
 kC 14 "BDD._check_var" 135 325 88 3 L 332 vN<|
 kC 15 "BDD._next_free_level" 142 335 98 3 L 342 vN<|
 kC 16 "BDD.var" 149 345 108 2 L 352 vN<|
 kC 17 "BDD.var_at_level" 156 355 115 2 L 360 vN<|
 kC 18 "BDD.level_of_var" 163 363 120 2 L 368 vN<|
 kC 20 "BDD._map_to_level" 176 379 129 2 au 382 vN<|
 kE 220 ((.type "tuple"),R,.seq #[(.bool au)] 0, #[])<|
 kC 27 "BDD.support" 224 442 189 3 au 445 (!220)<|
 kC 28 "BDD._support" 231 448 197 4 L 459 vN<|
 kC 30 "BDD._levels" 244 476 226 1 au 479 vN<|
 kC 34 "BDD.compose" 270 506 244 3 au 509 vN<|
 kC 35 "BDD._compose" 277 512 254 5 L 533 vN<|
 kC 38 "BDD._top_cofactor" 298 562 312 3 L 571 vN<|
 kC 39 "BDD.cofactor" 305 574 328 3 L 584 vN<|
 kC 40 "BDD._cofactor" 312 587 337 6 L 604 vN<|
 kE 314 ((.type "tuple"),R,.seq #[(.bool au)] 0, #[])<|
 kC 41 "BDD.quantify" 320 607 371 4 L 617 (!314)<|
 kC 42 "BDD._quantify" 327 620 378 7 L 637 vN<|
 kC 43 "BDD.forall" 334 640 410 3 L 646 vN<|
 kC 44 "BDD.exist" 341 649 413 3 L 655 vN<|
 kC 45 "BDD.ite" 348 658 416 4 L 665 vN<|
 kC 46 "BDD._ite" 355 668 419 4 L 686 vN<|
 kC 47 "BDD.find_or_add" 362 689 438 4 L 699 vN<|
 kC 48 "BDD._next_free_int" 369 702 471 2 L 708 vN<|
 kE 371 ((.type "tuple"),R,.seq #[vN] 0, #[])<|
 kC 49 "BDD.collect_garbage" 377 711 479 2 L 728 (!371)<|
 kE 386 ((.type "tuple"),R,.seq #[vN] 0, #[])<|
 kC 51 "BDD.swap" 392 738 523 4 L 771 (!386)<|
 kC 52 "BDD._low_high" 399 774 664 2 L 782 vN<|
 kC 53 "BDD._swap_cofactor" 406 785 674 3 L 794 vN<|
 kE 408 ((.type "tuple"),R,.seq #[vN] 0, #[])<|
 kC 54 "BDD.count" 412 797 684 3 au 800 (!408)<|
 kC 55 "BDD._assert_int" 419 803 707 1 L 807 vN (an:=Y 423)<|
 kE 422 ((.type "staticmethod"),Y 421,.fields #[!420,(.bool au)], #[])<|
 kC 56 "BDD._sat_len" 429 822 713 4 L 838 vN<|
 kE 453 ((.type "tuple"),R,.seq #[vN,vN] 0, #[])<|
 kC 60 "BDD.apply" 459 867 750 5 L 876 (!453)<|
 kE 492 ((.type "dict"),R,.dict #[dE P "__module__" 203 (vS "dd.bdd" 194),dE P "__firstlineno__" 207 (.int 5 206),dE P "__init__" 217 !36,dE P "__copy__" 225 !43,dE P "__len__" 232 !50,dE P "__contains__" 240 !57,dE P "__iter__" 247 !64,dE P "configure" 255 !71,dE P "ordering" 263 !79,dE P "_init_terminal" 274 !86,dE P "succ" 282 !93,dE P "incref" 290 !100,dE P "decref" 299 !107,dE P "ref" 307 !114,dE P "declare" 315 !121,dE P "add_var" 324 !129,dE P "_check_var" 334 !136,dE P "_next_free_level" 344 !143,dE P "var" 354 !150,dE P "var_at_level" 362 !157,dE P "level_of_var" 370 !164,dE P "var_levels" 378 !172,dE P "_map_to_level" 384 !177,dE P "_assert_keys_are_levels" 398 !184,dE P "_top_var" 406 !191,dE P "copy" 415 !198,dE P "descendants" 423 !205,dE P "_descendants" 432 !212,dE P "is_essential" 441 !219,dE P "support" 447 !225,dE P "_support" 461 !232,dE P "levels" 475 !240,dE P "_levels" 481 !245,dE P "reduction" 488 !252,dE P "undeclare_vars" 496 !259,dE P "let" 505 !266,dE P "compose" 511 !271,dE P "_compose" 535 !278,dE P "_vector_compose" 552 !285,dE P "rename" 561 !292,dE P "_top_cofactor" 573 !299,dE P "cofactor" 586 !306,dE P "_cofactor" 606 !313,dE P "quantify" 619 !321,dE P "_quantify" 639 !328,dE P "forall" 648 !335,dE P "exist" 657 !342,dE P "ite" 667 !349,dE P "_ite" 688 !356,dE P "find_or_add" 701 !363,dE P "_next_free_int" 710 !370,dE P "collect_garbage" 730 !378,dE P "update_predecessors" 737 !385,dE P "swap" 773 !393,dE P "_low_high" 784 !400,dE P "_swap_cofactor" 796 !407,dE P "count" 802 !413,dE P "_assert_int" 821 !422,dE P "_sat_len" 840 !430,dE P "pick_iter" 849 !438,dE P "_sat_iter" 859 !445,dE P "assert_consistent" 866 !452,dE P "apply" 878 !460,dE P "_add_int" 886 !467,dE P "cube" 894 !474,dE P "false" 902 !482,dE P "true" 910 !490,dE P "__static_attributes__" 922 !491,dE P "__dict__" 924 !494,dE P "__weakref__" 926 !495,dE P "__doc__" 927 vN] 4, #[])<|
 kE 493 (.type "type",R,.cls {name:=ah "BDD",bases:=[.type "object"],mro:=[.ref 493,.type "object"],ns:=492,qualname:=ah "BDD"}, #[R,R,Y<|vS "BDD" 196,Y<|vS "BDD" 204,Y<|.builtin "object.__new__",Y<|.bool L])<|
 kD 3 "_assert_valid_ordering" 503 930 798 1 L 937 vN<|
 kL 7 "_law_walk" 520 954 811 3 L 966 vN<|
 kL 8 "_law_fits" 525 969 822 2 au 972 vN<|
 kL 9 "law" 530 975 836 1 au 978 vN<|
 []
def Ka:=[2,3,29,35,36,49,50,56,57,85,86,92,93,99,100,106,107,122,128,129,135,136,142,143,149,150,156,157,163,164,176,177,220,224,225,231,232,244,245,270,271,277,278,298,299,305,306,312,313,314,320,321,327,328,334,335,341,342,348,349,355,356,362,363,369,370,371,377,378,386,392,393,399,400,406,407,408,412,413,419,420,422,429,430,453,459,460,492,493,503,504,520,521,525,526,530,531]
def Χ:∀P,Ka=(Kt P).map (·.1):=λ_=>by rfl
end
def qw:={pw with main:={pw.main with body:=[0,2,3,5,6,7,8,9].filterMap λi=>pw.main.body[i]?}}
abbrev lo:=[ah "BDD"]
abbrev s0(P:Params)(os:OsState):aZ:=(boot_heap P,.mk [],boot_drawn,boot_toks,os)
abbrev HK:=kmHook Kt Ka Χ [373,179]
abbrev XtK:=λs=>xlAt qw [] s&&recOk (RowW.records PySem.Challenge.rw_md0009_01.row.toRowW) s
def WH{p q:mL}{loose:List Str}{Xt:aZ->Bool}{a:Type}{Yf:aZ->a}{Ya:cC->a}{aw:Nat}(e:opening p=plainProg p.main.scope.names)(k:Es 600 aw=L)(f:∀s,fenceModules? p s=Y s) (h:∀w os,(topFrom treeTable p w aw<|s0 w.params os).map (λs=>bG (openSeen q loose (mM p.main.body) Xt L s)<|Yf s)=Y (openGood q loose,Ya w)):LeftO p q loose Xt Yf Ya aw:=λw=>by let(s,J,M):=cM.mp<|boot_open e k f w;unfold openEnds;rw[J];simp only[Hp] at M;let(j,e2,i,g):=M;let(c,d,drawn,toks,os):=s;dsimp only at j e2 i g;subst j e2 i g;show h w os
def p_{p:mL}{w:cC}{aw:Nat}{c:aZ}(h:(c.heap.isNs dt&&c.gens.size==0)=L){e:Type}{F:aZ->e}{a:e} (M:((iq mr p w ↥c (c.heap.nsMap dt "__annotations__") aw c (topStub p)).bind λd=>(match staticsOk (mM p.main.body) c.heap d.heap&&namesBound p d.heap&&gensDone d&&laidKept c.heap d.heap with |true=>Y d |false=>R).map F)=Y a):(topFrom treeTable p w aw c).map F=Y a:=by unfold topFrom;rw[h,zw,zx];rw[<-M];dsimp only;generalize iq _ _ _ _ _ _ _ _=x;cases x<;>rfl
def WI:∀w os,((iq mr pw w 11 ((s0 w.params os).heap.nsMap dt "__annotations__") 6188 (s0 w.params os)<|topStub pw).bind λs=>(match staticsOk (mM pw.main.body) (s0 w.params os).heap s.heap&&namesBound pw s.heap&&gensDone s&&laidKept (s0 w.params os).heap s.heap with |true=>Y s |false=>R).map λs=>bG (Ae qw lo (mM pw.main.body) XtK L s)<|HK.obs s)=Y (openGood qw lo,HK.val w):=by intro w os;kernel_rfl
section
set_option backward.match.sparseCases false
def left:LeftO pw qw lo XtK HK.obs HK.val 6188:=
 WH ⋯ ∅ (λs=>()) λw os=>p_ ⋯ (by rw[Af];show WI w os)
abbrev p!(s:Option fz):DefRec:=s.elim (ah "",default,[],default,default) λs=>(sN s,sA s,sB s,sC s,sP s)
def PX:=p!<|tS 9
def WJ:defOf qw (ah "law")=Y (PX,[]):=⋯
def WK:pw.theDef (ah "law")=Y (PX.params,PX.body,PX.scope):=⋯
abbrev PY:=PySem.Challenge.rw_md0009_01.row.prog
def lw1:(sreFenced PY.main&&((moduleNames PY.main.body).isEmpty||lookedIntoSs (moduleNames PY.main.body) PY.main.body))=L:=by lk
def lw2:namesResolve PY=L:=by lk
def lw3:(PY.boundNames.all<|λn=> not (worldNames.contains n))=L:=by lk
def lw4:noRoadLSs {strict:=not ((mM PY.main.body).all cThrough.contains),foot:=R,bare:=(["vars","dir","locals"]:List Str).filter (readsOut PY PY.main.body)} PY.main.body=L:=by lk
def lw5:(namesMeet PY PY.main.body λ_ n=>attrL n)=L:=by lk
def lwL:looksOpen PY=L:=Cy (Cy (Cy (Cy lw1 lw2) lw3) lw4) lw5
def R5:PySem.Challenge.rw_md0009_01.wellSaid=L:=by
 delta OpenLaw.wellSaid OpenRow.wellSaid OpenRow.partSaid
 rw[lwL];decide+kernel
def p?:(chainsOk qw&&opensWell PySem.Challenge.rw_md0009_01.row.prog&&(frees PySem.Challenge.rw_md0009_01.row.toRowW&&PySem.Challenge.rw_md0009_01.row.within.isEmpty))=L:=by lk
def R6:pw.bare:=(rfl,rfl,rfl,rfl,rfl,by lk)
def WL:PySem.Challenge.rw_md0009_01.row.toRowW.promised:=([.list [.int 3,.int 1]],by lk,by lk)
def hd(call:WalkO qw lo (XL qw []) HK.says PySem.Challenge.rw_md0009_01.row.toRowW PX [] λf vs=>Og f vs):PySem.Challenge.rw_md0009_01.Holds:=by refine holds_law R5 λa=>?_;show W.holds_open (r:=PySem.Challenge.rw_md0009_01.row) (q:=qw) (loose:=lo) (Xt:=XtK) (XP:=XL qw []) (Yf:=HK.obs) (Ya:=HK.val) (YP:=HK.says) (N:=6188) left HK.of HK.keeps (λs e=>xl_of s (ba.mp e).1) XL.keeps WJ WK ⋯ (λs e=>recFacts_of (ba.mp e).2) () a p? R6 WL call
end
section
variable{s:aZ}{c:Prop}[Decidable c]
def PZ{x y:Sem a}{Q:a->aZ->Prop}(h:c)(k:aN h2 A x Q az s):aN h2 A (if c then x else y) Q az s:=by rw[bj h];show k
def Ax{x y:Sem a}{Q:a->aZ->Prop}(h:¬c)(k:aN h2 A y Q az s):aN h2 A (if c then x else y) Q az s:=by rw[aK h];show k
end
inductive AV where
 |int(i:Int)
 |str(s:Str)
 |raw(v:Value)
 |tup(l:List AV)
 |lst(l:List AV)
 |obj(o:Obj)
@[ext]abbrev AV.none:AV:=.raw .none
@[ext]abbrev AV.bool(b:Bool):AV:=.raw<|.bool b
@[ext]abbrev AV.ref(a:aW):AV:=.raw<|!a
abbrev Fz:=aW->Option Obj
mutual
inductive cH(U:Fz):AV->Value->Prop where
 |int (i:Int) (t:Tok):cH U ⇑i (.int i t)
 |str (s:Str) (t:Tok):cH U (.str s) (.str s t)
 |raw (v:Value):cH U (.raw v) v
 |tup {a:aW} {aH:Array Value} {n:Nat} {l:List AV}:U a=Y {cls:=.type "tuple",data:=.seq aH n}->ck U l aH.toList->cH U (.tup l) (!a)
 |lst {a:aW} {aH:Array Value} {n:Nat} {l:List AV}:U a=Y {cls:=.type "list",data:=.seq aH n}->ck U l aH.toList->cH U (.lst l) (!a)
 |obj {a:aW} {o:Obj}:U a=Y o->cH U (.obj o) (!a)
inductive ck(U:Fz):List AV->List Value->Prop where
 |nil:ck U [] []
 |cons {a:AV} {v:Value} {l:List AV} {vs:List Value}:cH U a v->ck U l vs->ck U (a::l) (v::vs)
end
def cH.mono(hU:∀a o,U a=Y o->d a=Y o)(h:cH U a v):cH d a v:=
 cH.rec (motive_1:=λa v _=>cH d a v) (motive_2:=λl vs _=>ck d l vs) .int .str .raw (λh _ c=>.tup (hU _ _ h) c) (λh _ c=>.lst (hU _ _ h) c) (λh=>.obj<|hU _ _ h) .nil (λ_ _ a b=>.cons a b) h
def ck.mono(hU:∀a o,U a=Y o->d a=Y o)(h:ck U l vs):ck d l vs:=
 ck.rec (motive_1:=λa v _=>cH d a v) (motive_2:=λl vs _=>ck d l vs) .int .str .raw (λh _ c=>.tup (hU _ _ h) c) (λh _ c=>.lst (hU _ _ h) c) (λh=>.obj<|hU _ _ h) .nil (λ_ _ a b=>.cons a b) h
def ck.ind{P:List AV->List Value->Prop}(h:ck U l vs)(d:P [] [])(J:∀{a v l vs},cH U a v->ck U l vs->P l vs->P (a::l) (v::vs)):P l vs:=
 ck.rec (motive_1:=λ_ _ _=>True) (motive_2:=λl vs _=>P l vs) (λ_ _=>trivial) (λ_ _=>trivial) (λ_=>trivial) (λ_ _ _=>trivial) (λ_ _ _=>trivial) (λ_=>trivial) d (λa b _ c=>J a b c) h
abbrev cH.inv(U:Fz)(v:Value):AV->Prop
 |.int i=>∃t,v=.int i t
 |.str s=>∃t,v=.str s t
 |.raw u=>v=u
 |.tup l=>∃a aH n,v=.ref a/\U a=Y {cls:=.type "tuple",data:=.seq aH n}/\ck U l aH.toList
 |.lst l=>∃a aH n,v=.ref a/\U a=Y {cls:=.type "list",data:=.seq aH n}/\ck U l aH.toList
 |.obj o=>∃a,v=.ref a/\U a=Y o
def cH.vE(h:cH U a v):cH.inv U v a:=
 cH.casesOn (motive_1:=λa v _=>cH.inv U v a) h (λ_ _=>(_,rfl)) (λ_ _=>(_,rfl)) (λ_=>rfl) (λa b=>(_,_,_,rfl,a,b)) (λa b=>(_,_,_,rfl,a,b)) (λa=>(_,rfl,a))
abbrev ck.inv(U:Fz)(vs:List Value):List AV->Prop
 |[]=>vs=[]
 |a::l=>∃v c,vs=v::c/\cH U a v/\ck U l c
def ck.vE(h:ck U l vs):ck.inv U vs l:=h.ind (P:=λl vs=>ck.inv U vs l) rfl λa b _=>(_,_,rfl,a,b)
def ck.length(h:ck U l vs):l.length=vs.length:=h.ind (P:=λl vs=>l.length=vs.length) rfl λ_ _=>congrArg Me
def ck.append(h:ck U l vs)(e:ck U c d):ck U (l++c) (vs++d):=h.ind (P:=λl vs=>ck U (l++c)<|vs++d) e λa _=>.cons a
def ck.get(h:ck U l vs):∀{i:Nat} {a:AV},l[i]?=Y a->∃v,vs[i]?=Y v/\cH U a v:=
 h.ind (P:=λl vs=>∀{i:Nat} {a:AV},l[i]?=Y a->∃v,vs[i]?=Y v/\cH U a v) (λh=>nomatch h) fun{_ v _ _} r _ c i _ h=>by
  induction i using cV with|zero=>show(aC v rfl<|ax h▸r)|succ i=>show c (i:=i) h
def cH.int_inv(h:cH U ⇑i v):∃t,v=.int i t:=h.vE
def cH.str_inv(h:cH U (.str i) v):∃t,v=.str i t:=h.vE
def cH.bU(h:cH U (.raw u) v):v=u:=h.vE
def cH.vF(h:cH U (.tup l) v):∃a aH n,v=.ref a/\U a=Y {cls:=.type "tuple",data:=.seq aH n}/\ck U l aH.toList:=h.vE
def cH.lst_inv(h:cH U (.lst l) v):∃a aH n,v=.ref a/\U a=Y {cls:=.type "list",data:=.seq aH n}/\ck U l aH.toList:=h.vE
def cH.Ay(h:cH U (.obj o) v):∃a,v=.ref a/\U a=Y o:=h.vE
set_option genInjectivity true in
set_option genCtorIdx true in
inductive K0 where
 |int(i:Int)
 |str(s:Str)
 |none
 deriving DecidableEq
abbrev R7:Value->Option K0
 |.int i _=>Y ⇑i
 |.str s _=>Y<|.str s
 |.none=>Y .none
 |_=>R
def K0.is(k:K0)(v:Value):=decide (R7 v=Y k)
def Az:R7 (.int i t)=Y ⇑i:=rfl
def K0.isI:K0.is ⇑i (.int i t)=L:=decide_eq_true rfl
def K0.of(h:K0.is k v=L):R7 v=Y k:=of_decide_eq_true h
abbrev K0.sh(v:Value):K0->Prop
 |.int i=>∃t,v=.int i t
 |.str s=>∃t,v=.str s t
 |.none=>v=.none
def K0.shp(h:K0.is k v=L):K0.sh v k:=by let h:=K0.of h;cases v<;>first|exact ax h▸(_,rfl)|exact ax h▸rfl|exact nomatch h
def K0.vG(h:K0.is ⇑i v=L):∃t,v=.int i t:=K0.shp h
def K0.xj(h:K0.is (.str i) v=L):∃t,v=.str i t:=K0.shp h
def K0.is_none(h:K0.is .none v=L):v=.none:=K0.shp h
abbrev K0.hash(w:cC):K0->Int
 |.int i=>qf i
 |.str s=>hashStr w s
 |.none=>reduceHash 0xFCA86420
section
variable{prog:mL}{w:cC}{s:aZ}
def Kh(h:Q (K0.hash w .none) {s with toks:=s.toks+1}):aN (bw prog w) A (pyHash .none) Q az s:=
 pyHash_slot (T:="NoneType") rfl F.slot_NoneType_hash F.entry_NoneType_hash (F.args_NoneType_hash_1 _) (beq_builtin_none _) (.inl rfl)
  (af<|aj<|af<|Dw<|aj<|jo _ _ rfl h)
def rP(f:(u==v)=au)(c:wj u v=eD [u,v] (if(u==v)=L then(do rule "eq-bool.same-object";return L) else Dz .Eq u v>>=truthOfDropped))(d:aN (bw prog w) A (compareOp .Eq u v) (λr a=>r=.bool b/\a=s) az s)(h:Q b s):aN (bw prog w) A (wj u v) Q az s:=by rw[c,f];show aJ (af<|aG (show aN (bw prog w) A (Dz .Eq u v) (λr a=>r=.bool b/\a=s) az s from d) (λr a e=>by rw[e.1,e.2];show oh h) λ_ _ e=>e)
def K0.eqBool(d:K0.is a u=L)(c:K0.is b v=L)(h:Q (decide (a=b)) s):aN (bw prog w) A (wj u v) Q az s:=by
 cases a with
 |int i=>
  let(t,rfl):=K0.vG d;cases b with
  |int j=>
   let(t',rfl):=K0.vG c;calc wpAny_eqBool_int;let e:decide (K0.int i=K0.int j)=decide (i=j):=decide_eq_decide.mpr (K0.int.inj,congrArg _);show show Q (decide (i=j)) s from e▸h
  |str y=>
   let(t',rfl):=K0.xj c;show rP rfl rfl (EqMixed.eq_int_str (rfl,rfl)) h
  |none=>
   let rfl:=K0.is_none c;show rP rfl rfl (EqNone.eq_int_none (rfl,rfl)) h
 |str x=>
  let(t,rfl):=K0.xj d;cases b with
  |int j=>
   let(t',rfl):=K0.vG c;show rP rfl rfl (EqMixed.eq_str_int (rfl,rfl)) h
  |str y=>
   let(t',rfl):=K0.xj c;calc Cz;let e:decide (K0.str x=K0.str y)=decide (x=y):=decide_eq_decide.mpr (K0.str.inj,congrArg _);show show Q (decide (x=y)) s from e▸h
  |none=>
   let rfl:=K0.is_none c;show rP rfl rfl (EqNone.eq_str_none (rfl,rfl)) h
 |none=>
  let rfl:=K0.is_none d;cases b with
  |int j=>
   let(t',rfl):=K0.vG c;show rP rfl rfl (EqNone.eq_none_int (rfl,rfl)) h
  |str y=>
   let(t',rfl):=K0.xj c;show rP rfl rfl (EqNone.eq_none_str (rfl,rfl)) h
  |none=>
   let rfl:=K0.is_none c
   delta wj
   calc aJ;show aN _ _ (if(gk==gk)=L then _ else _) Q az s;rw[bj ()];show af<|mW<|aj h
end
def K0.inj(d:K0.is a v=L)(c:K0.is b v=L):a=b:=ax<|(K0.of d).symm.trans (K0.of c)
def K0.Ω(h:K0.is k v=L):carriedByValue v=L:=by
 cases k with|int i=>show(K0.vG h).elim λ_ e=>e▸rfl|str i=>show(K0.xj h).elim λ_ e=>e▸rfl|none=>show K0.is_none h▸rfl
def K0.strs(h:K0.is k (.str x t)=L):K0.is k v=v.isStr x:=by
 let rfl:K0.str x=k:=ax<|K0.of h;let k:∀s:Str,decide (Y (K0.str s)=Y (K0.str x))=(s==x):=λs=>by by_cases e:s=x<;>simp[e]
 cases v<;>first|exact k _|rfl
def K0.pyH(S:K0.is k v=L)(h:Q (K0.hash w k) {s with toks:=s.toks+1}):aN (bw prog w) A (PySem.pyHash v) Q az s:=by
 cases k with|int i=>show(K0.vG S).elim λ_ e=>e▸lV h|str x=>show(K0.xj S).elim λ_ e=>e▸wpAny_pyHash_str h|none=>show K0.is_none S▸Kh h
abbrev cW(prog:mL)(w:cC):KeyKind prog w K0 where
 is:=K0.is
 hash:=K0.hash w
 inj:=λ_ _ _=>K0.inj
 byValue:=λ_ _=>K0.Ω
 pyHash:=λS h=>K0.pyH S h
 eqBool:=λa S h=>K0.eqBool a S h
 «strs»:=λ_ _ _ _ h=>K0.strs h
def WM:∀(n:Nat) (l:List Nat),(∀i,i<n->i∈l)->n<=l.length:=by
 intro d
 induction d with
 |zero=>
  intro _ _;show fj _
 |succ n e=>
  intro l h;let a:=h n<|eE n;let J:=e (l.erase n) λi c=>(List.mem_erase_of_ne<|bX c).mpr (h i<|oj c);rw[uc a] at J;have:=List.length_pos_of_mem a;show adD J this
def P0:∀(n:Nat) (l:List Nat),l.Nodup->(∀x∈l,x<n)->l.length<=n:=by
 intro g
 induction g with
 |zero=>
  intro l _ h
  induction l using bB with|nil=>simp|cons x l=>show absurd (h x<|.head _) (qW _)
 |succ n d=>
  intro l a h;by_cases f:n∈l
  .let J:=d (l.erase n) (a.erase n) λx T=>by let c:=(List.Nodup.mem_erase_iff a).mp T;have:=h x c.2;have:=c.1;show j_ this ∎
   rw[uc f] at J;show adE J
  .let J:=d l a λx T=>by have:=h x T;have:x≠n:=λe=>f<|e▸T;show j_ this ∎
   show Y91 J
abbrev D8:Nat->Nat
 |0=>0
 |n+1=>5*D8 n+1
def IB(n:Nat):4*D8 n+1=5^n:=by
 induction n with|zero=>rfl|succ n a=>show 4*(5*D8 n+1)+1=_;rw[jl,<-a];show adF
def Ot(m n:Nat):D8 (m+n)=5^n*D8 m+D8 n:=by
 induction n with
 |zero=>show(yb _).symm
 |succ n a=>
  show 5*D8 (m+n)+1=_*_+(5*D8 n+1);rw[a,jl,tI,<-jw,ke 5<|5^n,zy]
def Ey(n:Nat):∃c,D8 (n+n)=2*D8 n*(2*c+1):=by refine(D8 n,?_);rw[Ot,<-IB];generalize D8 n=x;rw[DA,jw,tI,Nat.mul_one,yb,jw 2 x,By x 2 x];show adG
def WN(n:Nat):D8 (n+n+1)%2=1:=by let(c,a):=Ey n;rw[D8,a,jw];show adH
def IC(k:Nat)(h:2^k∣a*(2*b+1)):2^k∣a:=by
 have:Nat.Coprime (2^k) (2*b+1):=by apply Nat.Coprime.pow_left;show Nat.gcd 2 (2*b+1)=1;rw[Nat.gcd_rec,show(2*b+1)%2=1 from adI];rfl
 show this.dvd_of_dvd_mul_right h
def WO:∀(k d:Nat),2^k∣D8 d->2^k∣d:=by
 intro a
 induction a with
 |zero=>
  intro d _;simp
 |succ k f=>
  intro d h;let M:D8 d%2=0:=Nat.mod_eq_zero_of_dvd (Nat.dvd_trans (2^k,by rw[jl,ke]) h)
  let hd:∃n,d=n+n:=by
   by_cases e:d%2=0
   .show(d/2,by show adJ e)
   .have:=WN<|d/2;rw[show d/2+d/2+1=d from adK e] at this;show(adL M this).elim
  clear M;let(n,rfl):=hd;let(c,g):=Ey n;rw[g,jl,ke (2^k) 2,jw] at h;let i:=Nat.dvd_of_mul_dvd_mul_left (by decide:0<2) h;rw[jl,show n+n=n*2 from adM];show Nat.mul_dvd_mul_right (f n<|IC k i) 2
def MG(x:Nat)(n:Nat):=5^n*x+D8 n
def R8(x n:Nat):MG x (n+1)=5*MG x n+1:=by delta MG;rw[D8,jl,tI,ke (5^n) 5,jw,zy]
def WQ(x i d:Nat):MG x (i+d)=MG x i+5^i*(D8 d*(4*x+1)):=by
 delta MG
 rw[Nat.add_comm i d,Ot,Nat.pow_add,<-IB d];generalize 5^i=p;generalize D8 d=y;generalize D8 i=z;rw[DA,yb,DA,tI y,Nat.mul_one,tI p]
 have:4*y*p*x=p*(y*(4*x)):=by rw[ke (4*y) p,jw p,ke 4 y,jw y]
 show adN this
def R9(i:Nat):∃c,5^i=2*c+1:=(2*D8 i,by have:=IB i;show adO this)
def WR(k x i d:Nat)(h:MG x (i+d)%2^k=MG x i%2^k):2^k∣d:=by
 rw[WQ] at h
 let J:2^k∣5^i*(D8 d*(4*x+1)):=by let M:=Nat.sub_mod_eq_zero_of_mod_eq h;rw[Nat.add_sub_cancel_left] at M;show Nat.dvd_of_mod_eq_zero M
 let(c,a):=R9 i;rw[a,ke] at J;let M:=IC k J;rw[show 4*x+1=2*(2*x)+1 from adP] at M;show WO k d<|IC k M
def P4(k x r:Nat)(c:r<2^k):∃n,n<2^k/\MG x n%2^k=r:=by
 by_cases a:r∈(bO<|2^k).map λn=>MG x n%2^k
 .let(n,g,e):=cG.mp a;show aC n (dS.mp g) e
 .exfalso;let f:((bO<|2^k).map λn=>MG x n%2^k).Nodup:=by rw[List.Nodup,List.pairwise_map];refine Hq ?_ kf;intro i j o h d e;have:=WR k x i (j-i) (by rw[show i+(j-i)=j from adQ d];show e.symm);let m:=dS.mp h;have:=Nat.le_of_dvd (adR d) this;show adS m this
  have:=P0 (2^k) (r::(bO<|2^k).map λn=>MG x n%2^k) (dj.mpr (a,f)) λy hy=>by
   clear a;rcases aS.mp hy with rfl|hy
   .show c
   .clear c;let(n,_,rfl):=cG.mp hy;show lI _<|mN k
  simp at this;show adT this
abbrev ki(mask:Nat)(i p:Nat):Nat->Nat×Nat
 |0=>(i,p)
 |n+1=>gu mask (ki mask i p n).1 (ki mask i p n).2
def P5(mask i p:Nat):∀n,(ki mask i p n).2=p/32^n:=by
 intro a
 induction a with
 |zero=>show(Nat.div_one p).symm
 |succ n c=>
  show(ki mask i p n).2/32=_;rw[c,wk,jl]
def MH(k i p:Nat)(d:p<2^64)(g:i<2^k):∀n,(ki (2^k-1) i p<|13+n).1=MG (ki (2^k-1) i p 13).1 n%2^k:=by
 intro a
 induction a with
 |zero=>
  simp only[MG,D8,Bz,Nat.pow_zero,yb];show(ki (2^k-1) i p 13).1=_;show(_%(2^k-1+1))=(_%(2^k-1+1))%_;rw[show 2^k-1+1=2^k from Y35<|mN k,Nat.mod_mod]
 |succ n c=>
  let e:=mN k
  let f:(ki (2^k-1) i p<|13+n).2/32=0:=by
   rw[P5,wk,<-jl];refine Nat.div_eq_of_lt<|Ag d ?_
   calc 2^64<=32^13:=by decide
    _<=32^(13+n).succ:=qB ∅ (tJ<|Nat.le_add_right 13 n)
  show((ki (2^k-1) i p<|13+n).1*5+1+(ki (2^k-1) i p<|13+n).2/32)%(2^k-1+1)=_;rw[f,c,show 2^k-1+1=2^k from Y35 e,R8];generalize MG _ n=y;rw[Bz,ke,Nat.add_mod,Nat.mul_mod,Nat.mod_mod,<-Nat.mul_mod,<-Nat.add_mod]
def CU(k i p r:Nat)(c:p<2^64)(f:i<2^k)(a:r<2^k):∃n,n<gC (2^k-1)/\(ki (2^k-1) i p n).1=r:=by
 let(n,d,e):=P4 k (ki (2^k-1) i p 13).1 r a;refine(aC (13+n) ?_<|by rw[MH k i p c f,e])
 delta gC;show adU d
def DG(xs:Array Nat):=xs.toList.Pairwise (· <·)
def DG.lt{k:Nat}(h:DG xs)(a:i<k)(T:xs[i]?=Y x)(c:xs[k]?=Y y):x<y:=by rw[<-bA] at T c;let(J,rfl):=aL.mp T;let(M,rfl):=aL.mp c;show lZ.mp h i k J M a
def DG.nodup(h:DG xs):xs.toList.Nodup:=PQ (λh=>bX h) h
structure Bel(xs:Array Nat)(j p:Nat):Prop where
 le:p<=xs.size
 lo:∀i x,i<p->xs[i]?=Y x->x<j
 hi:∀i x,p<=i->xs[i]?=Y x->j<=x
def Sb(h:DG xs)(j:Nat):∀(fuel lo hi:Nat),lo<=hi->hi<=xs.size->hi-lo<=fuel->(∀i x,i<lo->xs[i]?=Y x->x<j)->(∀i x,hi<=i->xs[i]?=Y x->j<=x)->Bel xs j (BA xs j fuel lo hi):=by
 intro p
 induction p with
 |zero=>
  intro lo hi J M k g f;have:lo=hi:=adV k J
  subst this;show(M,g,f)
 |succ fuel o=>
  intro lo hi J M k g f;rw[show BA xs j (fuel+1) lo hi=ite _ _ _ from rfl];by_cases d:lo<hi
  .rw[bj d];dsimp only;let m:(lo+hi)/2<xs.size:=by show adW M d
   let T:xs[(lo+hi)/2]?=Y xs[(lo+hi)/2]:=cB m;let q:xs.getD ((lo+hi)/2) j=xs[(lo+hi)/2]:=by simp[pH,m]
   rw[q];by_cases c:xs[(lo+hi)/2]<j
   .rw[bj c];refine o _ _ (adX d) M (adY k) (λi x n a=>?_) f;by_cases e:i=(lo+hi)/2
    .subst e;rw[T] at a;cases a;show c
    .have:=h.lt (show i<(lo+hi)/2 from j_ e n) a T;show adZ this c
   .rw[aK c];refine o _ _ (ad0 d) (uG m) (ad1 k) g (λi x n a=>?_);by_cases e:i=(lo+hi)/2
    .subst e;rw[T] at a;cases a;show ad3 c
    .have:=h.lt (show(lo+hi)/2<i from n_ e n) T a;show ad4 c this
  .rw[aK d];have:lo=hi:=ad5 d J;subst this;show(M,g,f)
def yG(h:DG xs)(j:Nat):Bel xs j (bZ xs j):=
 Sb h j _ _ _ (fj _) (dH _) ad6 (λi x a=>absurd a<|qW _) (λi x a T=>by have:=(su.mp T).1;show ad7 a this)
def below_at(h:DG xs)(T:xs[i]?=Y j):bZ xs j=i:=by
 let b:=yG h j;rcases BB (bZ xs j) i with c|e|hgt
 .let d:bZ xs j<xs.size:=d7 c (su.mp T).1;let a:xs[bZ xs j]?=Y xs[bZ xs j]:=cB d;let M:=h.lt c a T;show Ū (b.hi _ _ (dH _) a) M
 .show e
 .have:=b.lo _ _ hgt T;show ū this
def MI(h:DG xs)(T:xs[i]?=Y j):bZ xs (j+1)=i+1:=by
 let b:=yG h<|j+1;rcases BB (bZ xs<|j+1) (i+1) with d|e|hgt
 .let J:=b.hi _ _ (î d) T;show ū J
 .show e
 .let c:i+1<xs.size:=by have:=b.le;show R3 hgt this
  let a:xs[i+1]?=Y xs[i+1]:=cB c;let M:=h.lt (eE i) T a;show Ū M (b.lo _ _ hgt a)
def MJ(h:DG xs):bZ xs 0=0:=by
 let b:=yG h 0;rcases Nat.eq_zero_or_pos (bZ xs 0) with e|hp
 .show e
 .let a:0<xs.size:=by have:=b.le;show R3 hp this
  have:=b.lo 0 _ hp<|cB a;show ad8 this
def AA(h:DG xs)(j:Nat):(xs[bZ xs j]?==Y j)=decide (j∈xs.toList):=by
 by_cases a:j∈xs.toList
 .let(i,c,e):=qC.mp a;let T:xs[i]?=Y j:=by rw[<-bA,b9 c,e]
  rw[below_at h T,T];simp[a]
 .have:¬xs[bZ xs j]?=Y j:=λe=>a (by rw[<-bA] at e;show bo e);simp[this,a]
def D9(h:DG xs)(j:Nat):BC xs j=decide (j∈xs.toList):=AA h j
def Hz{t:jm}(h:DG t.place)(a:j∈t.place.toList):t.slot j=.live (bZ t.place j):=by delta zz;simp only;rw[AA h,bj<|by simp[a]]
def MK{t:jm}(h:DG t.place)(hd:DG t.dummies)(a:j∉t.place.toList)(c:j∈t.dummies.toList):t.slot j=.dummy:=by delta zz;simp only;rw[AA h,aK (by simp[a]),D9 hd,bj<|by simp[c]]
def EA{t:jm}(h:DG t.place)(hd:DG t.dummies)(a:j∉t.place.toList)(c:j∉t.dummies.toList):t.slot j=.empty:=by delta zz;simp only;rw[AA h,aK (by simp[a]),D9 hd,aK<|by simp[c]]
def toList_eraseAt(xs:Array a)(p:Nat):(dT xs p).toList=xs.toList.eraseIdx p:=by
 delta dT
 rw[Array.toList_append,yc,yc,ej];simp[List.extract,om]
def vH(h:DG xs)(d:j∉xs.toList):DG (dJ xs (bZ xs j) j):=by
 let b:=yG h j
 delta DG
 rw[SetTable.toList_insertAt,List.pairwise_append]
 let key:∀i x,xs.toList[i]?=Y x->(i<bZ xs j->x<j)/\(bZ xs j<=i->j<x):=λi x T=>by rw[bA] at T;refine(λhi=>b.lo i x hi T,λhi=>?_);have:j≠x:=λe=>d (by rw[<-bA] at T;show e▸bo T);show ad9 this<|b.hi i x hi T
 let mZ:∀x∈xs.toList.drop (bZ xs j),j<x:=λx T=>by let(i,hi):=w5.mp T;rw[sx] at hi;show(key _ _ hi).2 MF
 let c:∀x∈xs.toList.take (bZ xs j),x<j:=λx T=>by
  let(i,hi):=w5.mp T;rw[Ah] at hi;split at hi
  .show(key _ _ hi).1 ∎
  .show nomatch hi
 refine bt (iR (BD ..) h) (List.pairwise_cons.mpr (mZ,iR (List.drop_sublist ..) h)) (λx T y hy=>?_);let a:=c x T;rcases aS.mp hy with rfl|hy
 .show a
 .show d7 a<|mZ y hy
def CV(h:DG xs)(p:Nat):DG (dT xs p):=by delta DG;rw[toList_eraseAt];show iR (o5 ..) h
def nH(xs:Array c)(a:p<xs.size):(dT xs p).size=xs.size-1:=by rw[<-aD,toList_eraseAt,sy a,aD]
def jq(xs:Array a)(p:Nat)(x:a):(dJ xs p x).size=xs.size+1:=by rw[<-aD,(oq xs p x).length_eq];simp
structure Pre(t:jm)(n:Nat):Prop where
 sz:t.place.size=n
 sp:DG t.place
 sd:DG t.dummies
 ï:∀x∈t.place.toList,x<=t.mask
 ε:∀x∈t.dummies.toList,x<=t.mask
 q_:∀x∈t.dummies.toList,x∉t.place.toList
 pow:∃k,3<=k/\t.mask=2^k-1
structure Tab(t:jm)(n:Nat):Prop extends Pre t n where
 aA:t.fill*5<t.mask*3
def Tab.fits(h:Tab t n):t.fits n=L:=by have:=h.aA;simp[zA,h.sz];show n! this
def Tab.fresh(led:Bool):Tab (.fresh 0 0 led) 0:=
 ((rfl,.nil,.nil,λx T=>(by cases T),λx T=>(by cases T),λx T=>(by cases T),(aC 3 ∅ rfl)),by show(0:Nat)*5<7*3;decide)
def Tab.empty(h:Tab t n):∃r,r<=t.mask/\t.slot r=.empty:=by
 by_cases a:∀i,i<t.mask+1->i∈t.place.toList++t.dummies.toList
 .have:=WM _ _ a;let d:=h.aA;simp[qg] at this d;show(aea d this).elim
 .simp only[yd] at a;let(i,e,c):=a;simp only[cy,not_or] at c;show aC i (î e)<|EA h.sp h.sd c.1 c.2
def P6:∀(a fuel j i p:Nat) (d:Option Nat),10*0+a+1<=fuel->ot t (λ_=>h+1) h fuel (j,a,i,p,d)=R->t.slot j≠.empty/\∃f,ot t (λ_=>h+1) h (fuel-(a+1)) ((gu t.mask i p).1,eY t.mask (gu t.mask i p).1-(gu t.mask i p).1,(gu t.mask i p).1,(gu t.mask i p).2,f)=R:=by
 intro a fuel
 induction fuel generalizing a with
 |zero=>intro j i p d g _;show aeb g
 |succ fuel o=>
  intro j i p d g c
  induction a using cV with
  |zero=>
   replace c:iI (λ_=>Option wm) (t.slot j) _ _ _=_:=c;let m:((h+1:Int)==h)=au:=beq_eq_false_iff_ne.mpr RH
   induction e:t.slot j with|empty=>rw[e] at c;cases c|dummy=>rw[e] at c;show(by simp,Y j,by simpa [iA] using c)|live k=>rw[e] at c;replace c:ite (((h+1:Int)==h)=L) _ _=_:=c;rw[m] at c;show(by simp,d,by simpa [iA] using c)
  |succ a=>
   replace c:iI (λ_=>Option wm) (t.slot j) _ _ _=_:=c;let m:((h+1:Int)==h)=au:=beq_eq_false_iff_ne.mpr RH
   induction e:t.slot j with
   |empty=>rw[e] at c;cases c
   |dummy=>
    rw[e] at c;refine(by simp,?_);let(_,f,n):=o a (j+1) i p (Y j) (Y93 g) (by simpa [iA] using c);show(f,by rw[show fuel+1-(a+1+1)=fuel-(a+1) from Y94];show n)
   |live k=>
    rw[e] at c;replace c:ite (((h+1:Int)==h)=L) _ _=_:=c;rw[m] at c;refine(by simp,?_);let(_,f,n):=o a (j+1) i p d (Y93 g) (by simpa [iA] using c);show(f,by rw[show fuel+1-(a+1+1)=fuel-(a+1) from Y94];show n)
def ML:∀(K:Nat) (fuel s:Nat) (d:Option Nat),10*K<=fuel->ot t (λ_=>h+1) h fuel ((ki t.mask i p s).1,eY t.mask (ki t.mask i p s).1-(ki t.mask i p s).1,(ki t.mask i p s).1,(ki t.mask i p s).2,d)=R->∀k,s<=k->k<s+K->t.slot (ki t.mask i p k).1≠.empty:=by
 intro f
 induction f with
 |zero=>
  intro fuel s d _ _ k J M;show(aec M J).elim
 |succ K g=>
  intro fuel s d c j k J M;let a:eY t.mask (ki t.mask i p s).1-(ki t.mask i p s).1<=9:=by delta eY;split<;>(first|exact aed|exact aee)
  let(m,n,o):=P6 _ fuel _ _ _ d (aef c a) j;by_cases e:k=s
  .subst e;show m
  .show g _ (s+1) n (aeg c a) o k (n_ e J)<|Y96 M
def Sd{t:jm}(h:p.j+p.more<=t.mask):(t.advance p).j+(t.advance p).more<=t.mask:=by
 delta iA
 split
 .show p.j+1+(p.more-1)<=_;show aiX h ∎
 .show(gu t.mask p.i p.perturb).1+(eY t.mask (gu t.mask p.i p.perturb).1-(gu t.mask p.i p.perturb).1)<=_;have:(gu t.mask p.i p.perturb).1<t.mask+1:=lI _<|ei _;delta eY;split<;>(first|exact Λ ∎|exact Μ this)
def P7:∀(fuel:Nat) (p:SetTable.Probe) (r:wm),ot t (λ_=>h+1) h fuel p=Y r->p.j+p.more<=t.mask->(∀d,p.dummy=Y d->t.slot d=.dummy/\d<=t.mask)->∃j d,r=.empty j d/\(t.slot j=.empty/\j<=t.mask)/\∀x,d=Y x->t.slot x=.dummy/\x<=t.mask:=by
 intro i
 induction i with
 |zero=>
  intro p r a _ _;cases a
 |succ fuel g=>
  intro p r a f hd;replace a:iI (λ_=>Option wm) (t.slot p.j) _ _ _=_:=a;let m:((h+1:Int)==h)=au:=beq_eq_false_iff_ne.mpr RH
  induction c:t.slot p.j with
  |empty=>rw[c] at a;cases a;show(fX _ _ rfl (c,WC f) hd)
  |dummy=>
   rw[c] at a;refine g _ r a (Sd (p:={p with dummy:=Y p.j}) f) λd e=>?_;have:d=p.j:=by unfold iA at e;split at e<;>simpa using e.symm
   rw[this];show(c,WC f)
  |live k=>
   rw[c] at a;replace a:ite (((h+1:Int)==h)=L) _ _=_:=a;rw[m] at a;refine g _ r a (Sd f) λd e=>hd d ?_;unfold iA at e;split at e<;>exact e
def Ou(h:Int):cu h<2^64:=(Int.toNat_lt<|Int.emod_nonneg h ∅).mpr (Int.emod_lt_of_pos h ∅)
def empty_le(hx:Tab t n):∃j c,t.freeSlot h=Y (j,c)/\j<=t.mask/\(c=au->t.slot j=.empty)/\(c=L->t.slot j=.dummy):=by
 let(k,z,o):=hx.pow;let(r,v,f):=hx.empty;let g:=mN k
 induction a:t.probe (λ_=>h+1) h (t.probeStart h) with
 |none=>
  exfalso;let y:cu h%(t.mask+1)<2^k:=by rw[o,show 2^k-1+1=2^k from Y35 g];show lI _ g
  let(s,q,e):=CU k (cu h%(t.mask+1)) (cu h) r (Ou h) y<|Y97 o v g;rw[<-o] at q e;refine ML (i:=cu h%(t.mask+1)) (p:=cu h) (gC t.mask) (10*gC t.mask) 0 R (dH _) a s (fj _) (Y98 q) (by rw[e];show f)
 |some u=>
  let m:(t.probeStart h).j+(t.probeStart h).more<=t.mask:=by
   have:cu h%(t.mask+1)<t.mask+1:=lI _<|ei _;show cu h%(t.mask+1)+(eY t.mask (cu h%(t.mask+1))-cu h%(t.mask+1))<=_
   delta eY;split<;>(first|exact Λ ∎|exact Μ this)
  let(j,d,rfl,J,M):=P7 _ _ _ a m (λd e=>by cases e)
  induction d with|none=>show(nE j au (by delta BE;rw[a];rfl) J.2 (λ_=>J.1)<|λe=>by cases e)|some d=>show(nE d L (by delta BE;rw[a];rfl) ((M d rfl).2) (λe=>(by cases e))<|λ_=>(M d rfl).1)
structure P8(t t':jm):Prop where
 plain:t'.plain=t.plain
 led:t'.led=t.led
def AB{xs:Array a}{x y:a}:y∈(dJ xs p x).toList↔y=x\/y∈xs.toList:=by rw[(oq xs p x).mem_iff];simp[or_comm]
def AD(h:DG xs)(d:j∈xs.toList):y∈(dT xs<|bZ xs j).toList↔y≠j/\y∈xs.toList:=by
 rw[toList_eraseAt];let(i,f,e):=qC.mp d;let T:xs[i]?=Y j:=by rw[<-bA,b9 f,e]
 rw[below_at h T];let a:xs.toList=xs.toList.take i++j::xs.toList.drop (i+1):=by rw[<-e,kg,eO]
 let c:=h.nodup;rw[ej];rw[a] at c;let J:=(jS.nodup_iff).mp c;rw[dj] at J;constructor
 .intro hy;refine(λe'=>J.1<|e'▸hy,?_);rw[a];simp only[cy,aS] at hy⊢;rcases hy with hy|hy
  .show .inl hy
  .show .inr<|.inr hy
 .intro g;let(k,hy):=g;rw[a] at hy;simp only[cy,aS] at hy⊢;rcases hy with hy|hy|hy
  .show .inl hy
  .show(k hy).elim
  .show .inr hy
def WS(hx:Pre t n)(g:j<=t.mask)(a:j∉t.place.toList):Pre (t.put j).1 (n+1)/\(t.put j).1.mask=t.mask/\P8 t (t.put j).1/\(j∉t.dummies.toList->(t.put j).1.fill=t.fill+1)/\(j∈t.dummies.toList->(t.put j).1.fill=t.fill):=by
 delta SetTable.put
 let c:∀y,y∈(dJ t.place (bZ t.place j) j).toList↔y=j\/y∈t.place.toList:=λy=>AB;by_cases hd:j∈t.dummies.toList
 .let hh:BC t.dummies j=L:=by rw[D9 hx.sd];simp[hd]
  simp only[hh,if_true];let d:∀y,y∈(dT t.dummies<|bZ t.dummies j).toList↔y≠j/\y∈t.dummies.toList:=λy=>AD hx.sd hd;refine(tA (by rw[jq,hx.sz],vH hx.sp a,CV hx.sd _,λx T=>?_,λx T=>hx.ε x ((d x).mp T).2,λx T f=>?_,hx.pow) trivial (rfl,rfl) (λh=>absurd hd h)<|λ_=>?_)
  .clear a hd hh d;rcases(c x).mp T with rfl|h
   .show g
   .show hx.ï x h
  .let J:=(d x).mp T;rcases(c x).mp f with h|h
   .show J.1 h
   .show hx.q_ x J.2 h
  .let m:bZ t.dummies j<t.dummies.size:=by
    let(i,k,e):=qC.mp hd;let T:t.dummies[i]?=Y j:=by rw[<-bA,b9 k,e]
    rw[below_at hx.sd T];show k
   simp only[qg,jq,nH _ m];show aeh m
 .let hh:BC t.dummies j=au:=by rw[D9 hx.sd];simp[hd]
  simp only[hh,e9,if_false];refine(tA (by rw[jq,hx.sz],vH hx.sp a,hx.sd,λx T=>?_,hx.ε,λx T f=>?_,hx.pow) trivial (rfl,rfl) (λ_=>?_)<|λh=>absurd h hd)
  .clear a hd hh;rcases(c x).mp T with rfl|h
   .show g
   .show hx.ï x h
  .clear g a hh;rcases(c x).mp f with rfl|h
   .show hd T
   .show hx.q_ x T h
  .simp only[qg,jq];show aei
def EB(hx:Pre t n)(h:t.slot j=.empty):j∉t.place.toList/\j∉t.dummies.toList:=by
 refine(λa=>?_,λa=>?_)
 .rw[Hz hx.sp a] at h;cases h
 .rw[MK hx.sp hx.sd (hx.q_ j a) a] at h;cases h
def xk(hx:Pre t n)(h:t.slot j=.dummy):j∉t.place.toList/\j∈t.dummies.toList:=by
 by_cases a:j∈t.place.toList
 .rw[Hz hx.sp a] at h;cases h
 .refine(a,?_);by_cases hd:j∈t.dummies.toList
  .show hd
  .rw[EA hx.sp hx.sd a hd] at h;cases h
def WT(hx:Tab t es.size)(h:Int)(x:Value):∃p t' a,Gs t es h x=(dJ es p (h,x),t',a,au)/\Pre t' (es.size+1)/\t'.mask=t.mask/\P8 t t'/\t'.fill<=t'.mask/\(a=L->t'.fill=t.fill):=by
 let(j,a,g,s,h0,J):=empty_le hx (h:=h)
 let q:j∉t.place.toList:=by
  clear h g;induction a with|false=>show(EB hx.toPre<|h0 rfl).1|true=>show(xk hx.toPre<|J rfl).1
 let(f,c,o,d,k):=WS hx.toPre s q;let m:=hx.aA
 let i:(t.put j).1.fill<=t.mask:=by
  by_cases hd:j∈t.dummies.toList
  .rw[k hd];show n! m
  .rw[d hd];show aej m
 let n:(t.put j).1.fits (es.size+1)=L:=by rw[zA,bW,beq_iff_eq,decide_eq_true_eq];show(f.sz,by rw[c];show i)
 refine Kd ((t.put j).2) ((t.put j).1) a ?_ f c o (qP c i) (λe=>k (xk hx.toPre<|J e).2)
 delta Gs
 rw[g];simp only[jq,SetTable.orStandIn,n,if_true,zB]
def Ki(hx:Tab t (n+1))(j:i<n+1):Tab (t.drop i) n/\P8 t (t.drop i):=by
 let c:i<t.place.size:=by rw[hx.sz];show j
 let T:t.place[i]?=Y t.place[i]:=cB c;let d:t.place[i]∈t.place.toList:=by simp
 let g:t.place[i]∉t.dummies.toList:=λh=>hx.q_ _ h d
 delta SetTable.drop
 rw[T];dsimp only;let k:=below_at hx.sp T
 let a:∀y,y∈(dT t.place i).toList↔y≠t.place[i]/\y∈t.place.toList:=λy=>by have:=AD hx.sp d (y:=y);rw[k] at this;show this
 let e:∀y,y∈(dJ t.dummies (bZ t.dummies t.place[i]) t.place[i]).toList↔y=t.place[i]\/y∈t.dummies.toList:=λy=>AB;refine(((by rw[nH _ c,hx.sz];rfl,CV hx.sp _,vH hx.sd g,λx T=>hx.ï x ((a x).mp T).2,λx T=>?_,λx T f=>?_,hx.pow),?_),(rfl,rfl))
 .rcases(e x).mp T with rfl|h
  .show hx.ï _ d
  .show hx.ε x h
 .let M:=(a x).mp f;rcases(e x).mp T with h|h
  .show M.1 h
  .show hx.q_ x h M.2
 .have:=hx.aA;simp only[qg,jq,nH _ c] at this⊢;show aek this c
def ID(n:Nat):∀(fuel a k:Nat),a=2^k->3<=k->∃c,3<=c/\w6 n fuel a=2^c/\(n<2^(k+fuel)->n<2^c):=by
 intro f
 induction f with
 |zero=>
  intro a k h d;show dc k d h (λe=>e)
 |succ fuel g=>
  intro a k h d;rw[show w6 n (fuel+1) a=ite _ _ _ from rfl];split
  .let(c,J,M,i):=g (a*2) (k+1) (by rw[h,jl])<|Y91 d;show(dc c J M<|λe=>i<|by rw[show k+1+fuel=k+(fuel+1) from ael];show e)
  .show(dc k d h<|λ_=>by show aiY ∎ h)
def EC(h:n<2^60):∃k,3<=k/\d8 n=2^k/\n<2^k:=by let(k,J,M,h3):=ID n 64 8 3 rfl aem;show dc k J M<|h3<|Ag h<|qB ∅ aen
structure Own(mask:Nat)(dF:Array (Option Nat))(m:Nat):Prop where
 sz:dF.size=mask+1
 perm:((bO<|mask+1).filterMap λj=>dF.getD j R).Perm (bO m)
def GV{f:Nat->Option Nat}(o:f j=R)(p:d j=Y m)(h:∀i,i≠j->d i=f i):∀aw,j<aw->((bO aw).filterMap d).Perm (m::(bO aw).filterMap f):=by
 intro n
 induction n with
 |zero=>
  intro g;show(aeo g).elim
 |succ aw c=>
  intro g;rw[hH,o6,o6];by_cases e:j=aw
  .clear g;subst e;let J:(bO j).filterMap d=(bO j).filterMap f:=by
    have:∀l:List Nat,(∀i∈l,i≠j)->l.filterMap d=l.filterMap f:=by
     intro l
     induction l with|nil=>intro _;rfl|cons a l c=>intro hl;rw[l9,l9,h a<|hl a<|.head _,c λi k=>hl i<|.tail _ k]
    show this _ λi k=>bX<|dS.mp k
   rw[J];simp only[l9,o,p,Ai,wQ];show sD ..
  .let c:=c<|j_ e g;let M:d aw=f aw:=h aw<|aep e;simp only[l9,Ai,M];show c.append_right _
nonrec def P9(A:Own mask a m)(O:m<=mask)(k:Nat)(T:3<=k)(u:mask=2^k-1)(h:Int):∃j,fD mask a (gC mask) (cu h%(mask+1)) (cu h)=Y j/\j<=mask/\a.getD j R=R:=by
 let t:=mN k
 let ED:∀(fuel i p j:Nat),i<=mask->fD mask a fuel i p=Y j->j<=mask/\a.getD j R=R:=by
  intro fuel
  induction fuel with
  |zero=>intro i p j _ h;cases h
  |succ fuel g=>
   intro i p j o h;replace h:w7 (λ_=>Option Nat) _ _ _=_:=h;split at h
   .rename_i c q;cases h;let J:=List.find?_some q;let M:=List.mem_of_find?_eq_some q;rw[dS] at M;let d:i+c<=mask:=by unfold eY at M;split at M<;>(first|exact Ν ∎ M|exact Ν o M)
    refine(d,?_);let n:i+c<a.size:=by rw[A.sz];show Y58 d
    simp only[pH,n,dif_pos] at J⊢;simpa using J
   .show g _ _ j (Nat.le_of_lt_succ<|lI _<|ei _) h
 let Q:∀(fuel i p s:Nat),fD mask a fuel (ki mask i p s).1 (ki mask i p s).2=R->∀r,s<=r->r<s+fuel->((ki mask i p r).1<=mask->a.getD (ki mask i p r).1 R≠R):=by
  intro fuel
  induction fuel with
  |zero=>intro i p s _ r J M;show aeq M J
  |succ fuel g=>
   intro i p s h r J M d;replace h:w7 (λ_=>Option Nat) _ _ _=_:=h;split at h
   .cases h
   .rename_i q;by_cases e:r=s
    .clear fuel g J M h;subst e;let v:=Aj.mp q 0 (dS.mpr<|by unfold eY;split<;>(first|exact aer|exact aes));let n:(ki mask i p r).1<a.size:=by rw[A.sz];show Y58 d
     simp only[Bz,pH,n,dif_pos] at v⊢;intro e;rw[e] at v;simp at v
    .show g i p (s+1) h r (n_ e J) (Y96 M) d
 induction E:fD mask a (gC mask) (cu h%(mask+1)) (cu h) with
 |some j=>
  let o:cu h%(mask+1)<mask+1:=lI _<|ei _;show aC j rfl<|ED _ _ _ j (î o) E
 |none=>
  exfalso
  let I:∀r,r<=mask->a.getD r R≠R:=λr C=>by
   let o:cu h%(mask+1)<2^k:=by rw[u,show 2^k-1+1=2^k from Y35 t];show lI _ t
   let(s,n,e):=CU k (cu h%(mask+1)) (cu h) r (Ou h) o<|Y97 u C t;rw[<-u] at n e;have:=Q (gC mask) (cu h%(mask+1)) (cu h) 0 E s (fj _) (Y98 n) (by rw[e];show C);rwa [e] at this
  let z:=A.perm.length_eq
  have:((bO<|mask+1).filterMap λj=>a.getD j R).length=mask+1:=by
   let key:∀aw,aw<=mask+1->((bO aw).filterMap λj=>a.getD j R).length=aw:=by
    intro aw
    induction aw with
    |zero=>intro _;rfl
    |succ aw g=>
     intro G;rw[hH,o6,List.length_append,g<|uG G];have:=I aw<|î G
     induction D:a.getD aw R with
     |none=>show(this D).elim
     |some y=>
      let H:List.filterMap (λj=>a.getD j R) [aw]=[y]:=eT (f:=λj=>a.getD j R) (l:=[]) D;rw[H];rfl
   show key _<|dH _
  rw[this] at z;simp at z;show aet z O
def HA(k:Nat)(y:3<=k)(u:mask=2^k-1)(a:Array Int)(t:a.size<=mask):∃c,BF mask a=Y c/\Own mask c a.size:=by
 let key:∀(l:List Int) (c:Array (Option Nat)) (m:Nat),Own mask c m->m+l.length<=mask->∃g,(l.foldl (λie h=>do
   let bG c k<-ie
   let j<-fD mask c (gC mask) (cu h%(mask+1)) (cu h)
   pure (c.setIfInBounds j<|Y k,k+1))<|Y (c,m))=Y (g,m+l.length)/\Own mask g (m+l.length):=by
  intro l
  induction l with
  |nil=>intro c m d _;show(aC c rfl d)
  |cons h l s=>
   intro c m d n;simp only[jT] at n;let(j,p,e,o):=P9 d (WC n) k y u h
   let A:Own mask (c.setIfInBounds j<|Y m) (m+1):=by
    refine(by simp[d.sz],?_);let q:j<c.size:=by calc qP d.sz;show Y58 e
    refine(GV (f:=λj=>c.getD j R) (j:=j) (m:=m) o ?_ (λi v=>?_) (mask+1)<|Y58 e).trans ?_
    .simp[pH,q]
    .show(c.setIfInBounds j<|Y m).getD i R=c.getD i R;rw[rI,rI,Array.getElem?_setIfInBounds_ne<|aE v]
    .show(ye m d.perm).trans (qP hH<|(sD ..).symm)
   let(g,J,M):=s _ (m+1) A<|j? n;refine(aC g ?_<|by rw[jT,show m+(l.length+1)=m+1+l.length from Ģ];show M);rw[List.foldl_cons]
   have:(do
    let bG c k<-(Y (c,m):Option (Array (Option Nat)×Nat))
    let j<-fD mask c (gC mask) (cu h%(mask+1)) (cu h)
    pure (bG (c.setIfInBounds j<|Y k)<|k+1))=Y (c.setIfInBounds j<|Y m,m+1):=by simp[p]
   rw[this,J,jT,show m+(l.length+1)=m+1+l.length from Ģ]
 let z:Own mask (DX (mask+1) R) 0:=by
  refine(by simp,?_)
  have:((bO<|mask+1).filterMap λj=>(DX (mask+1) (R:Option Nat)).getD j R)=[]:=by rw[List.filterMap_eq_nil_iff];intro j p;simp[pH,dS.mp p]
  rw[this];show .rfl
 let(c,J,M):=key a.toList _ 0 z (by simpa using t);refine(aC c ?_<|by simpa using M)
 delta BF
 rw[<-Array.foldl_toList,J];rfl
def Kj(c:Array (Option Nat))(l:List Nat):(l.filterMap λj=>(c.getD j R).map λk=>bG j k).map (·.2)=l.filterMap λj=>c.getD j R:=by
 induction l with
 |nil=>rfl
 |cons a l e=>
  induction d:c.getD a R with
  |none=>
   rw[my (f:=λj=>(c.getD j R).map λk=>bG j k) (by rw[d];rfl),my (f:=λj=>c.getD j R) d];show e
  |some y=>
   rw[eT (f:=λj=>(c.getD j R).map λk=>bG j k) (b:=(a,y)) (by rw[d];rfl),eT (f:=λj=>c.getD j R) d,cj,e]
def Kk(c:Array (Option Nat))(l:List Nat):((l.filterMap λj=>(c.getD j R).map λk=>bG j k).map (·.1)).Sublist l:=by
 induction l with
 |nil=>show .slnil
 |cons a l d=>
  induction e:c.getD a R with
  |none=>
   rw[my (f:=λj=>(c.getD j R).map λk=>bG j k) (by rw[e];rfl)];show d.cons _
  |some y=>
   rw[eT (f:=λj=>(c.getD j R).map λk=>bG j k) (b:=(a,y)) (by rw[e];rfl),cj];show d.cons_cons _
def MM(u:wanted<2^60)(g:es.size*4<=wanted):∃es' t',relayAll t es wanted=(es',t',au)/\es'.toList.Perm es.toList/\Tab t' es.size/\P8 t t':=by
 let(k,d,c,i):=EC u;let y:8<=2^k:=qB (n:=2) ∅ d;let(z,v,o):=HA (mask:=d8 wanted-1) k d (by rw[c]) (es.map (·.1)) (by rw[sG,c];show aeu g i)
 rw[sG] at o;let a:=relayAll_perm t es wanted;unfold relayAll at a⊢;generalize f:((bO<|d8 wanted-1+1).filterMap λj=>(z.getD j R).map λk=>bG j k)=live
 let p:t.relaid (es.map (·.1)) wanted=Y (({mask:=d8 wanted-1,place:=(live.map (·.1)).toArray,dummies:= #[],finger:=t.finger,led:=t.led,moves:=t.movedTo<|d8 wanted-1,plain:=t.plain}:jm),(live.map (·.2)).toArray):=by
  delta SetTable.relaid ud
  rw[v,<-f];rfl
 rw[p] at a⊢;dsimp only at a⊢;let e:(live.map (·.2)).Perm (bO es.size):=by rw[<-f,Kj];show o.perm
 let m:live.length=es.size:=by have:=e.length_eq;simpa using this
 let q:coversAll (live.map (·.2)).toArray es.size=L:=by delta coversAll;show wR.mpr e
 let Se:(live.map (·.1)).Sublist (bO<|d8 wanted-1+1):=by rw[<-f];show Kk ..
 let h:Tab ({mask:=d8 wanted-1,place:=(live.map (·.1)).toArray,dummies:= #[],finger:=t.finger,led:=t.led,moves:=t.movedTo<|d8 wanted-1,plain:=t.plain}:jm) es.size:=by
  refine((by simpa using m,iR Se kf,.nil,λx T=>?_,λx T=>(by cases T),λx T=>(by cases T),(aC k d<|by rw[c])),?_)
  .have:=dS.mp<|Se.mem T;show x<=d8 wanted-1;show î this
  .show((live.map (·.1)).toArray.size+(#[]:Array Nat).size)*5<(d8 wanted-1)*3;rw[c];simp[m];show aev g y i
 let s:((live.map (·.2)).toArray.filterMap (es[·]?)).size=es.size:=by rw[<-aD,wo,(e.filterMap _).length_eq,filterMap_getElem?_range,aD]
 rw[s,q,h.fits] at a⊢;simp only[Bool.and_self,if_true] at a⊢;show nE _ _ rfl a h (rfl,rfl)
def Sf(hx:Tab t es.size)(o:es.size<10000)(h:Int)(x:Value):∃c a d,Gs t es h x=(c,a,d,au)/\c.toList.Perm (es.push (h,x)).toList/\P8 t a/\a.fits c.size=L/\c.size=es.size+1/\((not d&&a.tooFull)=L->∃f g,relayAll a c (sH c.size)=(f,g,au)/\f.toList.Perm (es.push (h,x)).toList/\Tab g f.size/\P8 t g)/\((not d&&a.tooFull)=au->Tab a c.size):=by
 let(p,t',d,q,n,v,m,y,k):=WT hx h x;let e:(dJ es p (h,x)).size=es.size+1:=jq ..;let j:=oq es p (h,x);refine Iw _ t' d q j m ?_ e (λi=>?_) (λi=>?_)
 .rw[zA,bW,beq_iff_eq,decide_eq_true_eq];show(by rw[e];show n.sz,y)
 .let s:sH (dJ es p (h,x)).size=(dJ es p (h,x)).size*4:=by delta sH;rw[aK (by rw[e];show aew o)]
  let(f,g,J,M,A,u):=MM (t:=t') (es:=dJ es p (h,x)) (wanted:=sH (dJ es p (h,x)).size) (by rw[s,e];show aex o)<|qP s<|dH _;let z:f.size=(dJ es p (h,x)).size:=by have:=M.length_eq;show this
  show nE f g J (M.trans j) (qP z A) (u.plain.trans m.plain,u.led.trans m.led)
 .refine(by rw[e];show n,?_);clear h x p q e j;induction d with
  |true=>rw[k rfl,v];show hx.aA
  |false=>
   rw[yf,zC,SetTable.tooFull,decide_eq_false_iff_not] at i;show aey i
nonrec def WU(next:Nat->Nat):∀(fuel k:Nat) (left:List d) (out:Array d),left.length<=fuel->(pickOrder.go next fuel k left out).toList.Perm (out.toList++left):=by
 intro fuel
 induction fuel with
 |zero=>
  intro k left out h;have:left=[]:=nj.mp<|aez h;clear h;subst this;show(out.toList.Perm _);simp
 |succ fuel c=>
  intro k left out h;show(Mf (λ_=>Array d) (left[next k%left.length]?) _ _).toList.Perm _;split
  .rename_i x T;let e:=(aL.mp T).1;refine(c (k+1) _ _<|by rw[sy e];show aeA h).trans ?_;rw[ou,ow];calc List.Perm.append_left _;rw[ej];let f:left=left.take (next k%left.length)++x::left.drop (next k%left.length+1):=by rw[<-((aL.mp T).2),kg,eO]
   conv=>rhs;rw[f]
   show pS List.singleton_append<|(jS).symm
  .rename_i T;let hz:left=[]:=by
    clear c h;induction left using bB with|nil=>rfl|cons a l=>show absurd (l3.mp T) (Nat.not_le.mpr<|lI _<|ei _)
   clear c h T;subst hz;simp
def Qb(next:Nat->Nat)(xs:Array a):(vg next xs).toList.Perm xs.toList:=by
 have:=WU next xs.size 0 xs.toList #[] (dH _)
 simpa [vg] using this
def cA{x:Option Z}{v:Z}{p:Prop}(J:x=R)(M:x=Y v):p:=nomatch J.symm.trans M
def qm{c:Type}{f:c->Option Z}{a b:c}(J:f a=R)(M:f b=Y g):a≠b:=λe=>cA (show f b=R from e▸J) M
def eB{c:Type}{f:c->Option Z}{a b:c}(J:f a=Y g)(M:f b=R):a≠b:=λe=>cA M<|show f b=Y g from e▸J
section
variable{κ Z:Type}[DecidableEq κ]
def N(l:List (κ×Z))(k:κ):=(l.find? λx=>decide (x.1=k)).map (·.2)
def bl(l:List (κ×Z))(k:κ)(v:Z):=
 if(N l k).isSome then l.map (λx=>if x.1=k then(x.1,v) else x) else l++[(k,v)]
def dz(l:List (κ×Z))(k:κ):=l.filter λx=>decide (x.1≠k)
end
inductive jd{κ:Type}(U:Fz):List (κ×AV)->List (κ×Value)->Prop where
 |nil:jd U [] []
 |cons {k:κ} {a:AV} {v:Value} {l:List (κ×AV)} {l':List (κ×Value)}:cH U a v->jd U l l'->jd U ((k,a)::l) ((k,v)::l')
def jd.mono{l':List (f×Value)}(d:∀a o,U a=Y o->e a=Y o)(h:jd U l l'):jd e l l':=by
 induction h with|nil=>show .nil|cons h _ c=>show .cons (h.mono d) c
set_option genCtorIdx true in
inductive bD where
 |dict(bJ:List (K0×AV))
 |dg(bJ:List (List K0×AV))
 |list(vs:List AV)
 |set(xs:List Int)
 |ns(bJ:List (Str×AV))
 |cell(v:Option AV)
 |raw(o:Obj)
inductive iW:List (Int×Value)->List Int->Prop where
 |nil:iW [] []
 |cons {i:Int} {t:Tok} {es:List (Int×Value)} {ns:List Int}:iW es ns->iW ((qf i,.int i t)::es) (i::ns)
def iF(w:cC):=w.params.followText "set-order"
structure Ow(w:cC)(t:jm)(n:Nat):Prop where
 tab:Tab t n
 plain:t.plain=L
 led:t.led= not (iF w)
def jr(w:cC)(o:Obj)(xs:List Int):=
 o.ExactSet/\∃es ep t ns,o.data=.set es ep t/\iW es.toList ns/\ns.Nodup/\ns.Perm xs/\Ow w t es.size
def Kl(prog:mL)(w:cC)(U:Fz)(ks:List K0)(a:aW):=
 ∃aH n,U a=Y {cls:=.type "tuple",data:=.seq aH n}/\ItemsAre (cW prog w) ks aH.toList
inductive kW(w:cC)(U:Fz):List (Str×AV)->List rW->Prop where
 |nil:kW w U [] []
 |cons {x:Str} {a:AV} {v:Value} {t:Tok} {h:Int} {l:List (Str×AV)} {es:List rW}:cH U a v->kW w U l es->kW w U ((x,a)::l) ((h,.str x t,v)::es)
def kW.mono(d:∀a o,U a=Y o->e a=Y o)(h:kW w U l es):kW w e l es:=by
 induction h with|nil=>show .nil|cons h _ c=>show .cons (h.mono d) c
abbrev Km(U:Fz):Option AV->Option Value->Prop
 |none,R=>True
 |some a,Y v=>cH U a v
 |_,_=>False
def Km.mono(c:∀a o,U a=Y o->d a=Y o)(h:Km U x y):Km d x y:=by cases x<;>cases y<;>first|exact h|exact cH.mono c h
abbrev kl(prog:mL)(w:cC)(U:Fz):bD->Obj->Prop
 |.dict bJ,o=>∃dN,o.IsDictOf (cW prog w) dN/\jd U bJ dN
 |.dg bJ,o=>∃es ep xs,o.ExactDict/\o.data=.dict es ep/\es.toList=xs.map (entryOfKey<|pJ<|cW prog w)/\(∀x∈xs,Kl prog w U x.1 x.2.1)/\(xs.map (·.1)).Nodup/\jd U bJ (zD xs)
 |.list vs,o=>∃aH n,o=listOf aH n/\ck U vs aH.toList
 |.set xs,o=>jr w o xs
 |.ns bJ,o=>∃es ep,o={cls:=.type "dict",data:=.dict es ep}/\kW w U bJ es.toList/\(bJ.map (·.1)).Nodup
 |.cell v,o=>∃a,o={cls:=.type "cell",data:=.cell a}/\Km U v a
 |.raw c,o=>o=c
def Kl.mono(c:∀a o,U a=Y o->d a=Y o)(h:Kl prog w U ks a):Kl prog w d ks a:=by let(aH,n,J,M):=h;show(aH,n,c _ _ J,M)
def kl.mono(c:∀a o,U a=Y o->k a=Y o)(h:kl prog w U g o):kl prog w k g o:=by
 induction g with|dict bJ=>let(dN,J,M):=h;show(dN,J,M.mono c)|dg bJ=>let(es,ep,xs,J,M,d,j,i,f):=h;show(es,ep,xs,J,M,d,λx T=>(j x T).mono c,i,f.mono c)|list vs=>let(aH,n,J,M):=h;show(aH,n,J,M.mono c)|set xs=>show h|ns bJ=>let(es,ep,J,M,d):=h;show(es,ep,J,M.mono c,d)|cell v=>let(e,J,M):=h;show(e,J,M.mono c)|raw m=>show h
abbrev bf:=aW->Option bD
structure Bs where
 prog:mL
 w:cC
 K:wi
 B:Fz
 wC:∀a o,K.lookup a=Y o->B a=Y o
 lim:∃o es ep,B cStatics=Y o/\o.data=.dict es ep/\BG es/\Gu es "sys.recursionlimit"=R
 glob:∃o es ep,B dt=Y o/\o.data=.dict es ep/\BG es
 blt:∃o es ep,B jx=Y o/\o.data=.dict es ep/\BG es/\∀x:Str,x≠"__name__"->Gu es x=lW x
 mods:∃o,B wt=Y o
structure St(Z:Bs)(U:Fz)(O:bf)(s:aZ):Prop where
 base:∀a o,Z.B a=Y o->U a=Y o
 bC:∀a o,U a=Y o->s.heap.get? a=Y o/\O a=R
 own:∀a g,O a=Y g->∃o,s.heap.get? a=Y o/\kl Z.prog Z.w U g o
 gens:s.gens= #[]
def St.jG(h:St Z U O s)(d:O a=Y g):(a==wt)=au:=by let(o,c):=Z.mods;refine beq_eq_false_iff_ne.mpr λe=>?_;subst e;have:=(h.bC _ _<|h.base _ _ c).2;rw[d] at this;cases this
structure bV(U:Fz)(O:bf)(s:aZ)(U':Fz)(bq:bf)(s':aZ):Prop where
 bC:∀a o,U a=Y o->U' a=Y o
 keep:∀a o,s.heap.get? a=Y o->U a=R->O a=R->s'.heap.get? a=Y o/\U' a=R/\bq a=R
 os:s'.os=s.os
def bV.refl:bV U O s U O s:=(λ_ _ h=>h,λ_ _ J M a=>(bt J M a),rfl)
def bV.trans(a:bV U O s i f c)(b:bV i f c g e s2):bV U O s g e s2:=
 (λx o h=>b.bC x o<|a.bC x o h,λx o J M d=>by let(p,q,r):=a.keep x o J M d;show b.keep x o p q r,b.os.trans a.os)
def St.toks(h:St Z U O s)(tk:Nat):St Z U O {s with toks:=tk}:=(h.base,h.bC,h.own,h.gens)
def bV.toks(tk:Nat):bV U O s U O {s with toks:=tk}:=(λ_ _ h=>h,λ_ _ J M a=>(bt J M a),rfl)
structure fV(n:Nat)(A:iJ):Prop where
 depth:A.depth+n<=999
 units:A.units+8*n<=9800
 handled:A.handled=R
def fV.le(h:fV n A)(a:k<=n):fV k A:=(by have:=h.depth;show aeB this a,by have:=h.units;show aeC this a,h.handled)
def fV.in1(h:fV (n+1) A):fV n A.in1:=(by have:=h.depth;simp;show aeD this,by have:=h.units;simp;show aeE this,h.handled)
def fV.deeper(h:fV (n+1) A):fV n (A.deeper E):=(by have:=h.depth;simp[Around.deeper];show j? this,by have:=h.units;simp;show aeF this,h.handled)
def fV.lt(h:fV n A):A.depth<recursionLimit:=by have:=h.depth;simp[recursionLimit];show aeG this
def fV.cl(h:fV n A):A.units+90<cLine:=by have:=h.units;simp[cLine];show aeH this
inductive dh(Z:Bs)(U:Fz)(O:bf)(s:aZ)(Q:AV->bf->Prop)(v:Value)(s':aZ):Prop
 |mk (U':Fz) (a:AV) (bq:bf) (g:bV U O s U' bq s') (hv:St Z U' bq s') (r:cH U' a v) (q:Q a bq):dh Z U O s Q v s'
inductive tB{α:Type}(Z:Bs)(U:Fz)(O:bf)(s:aZ)(Q:α->bf->Prop)(v:α)(s':aZ):Prop
 |mk (U':Fz) (bq:bf) (g:bV U O s U' bq s') (hv:St Z U' bq s') (q:Q v bq):tB Z U O s Q v s'
inductive CW(Z:Bs)(U:Fz)(O:bf)(s:aZ)(Q:bf->Prop)(s':aZ):Prop
 |mk (U':Fz) (bq:bf) (g:bV U O s U' bq s') (hv:St Z U' bq s') (q:Q bq):CW Z U O s Q s'
inductive Ox(Z:Bs)(U:Fz)(O:bf)(s:aZ)(Q:List AV->bf->Prop)(v:List Value)(s':aZ):Prop
 |mk (U':Fz) (a:List AV) (bq:bf) (g:bV U O s U' bq s') (hv:St Z U' bq s') (r:ck U' a v) (q:Q a bq):Ox Z U O s Q v s'
abbrev mj:Value->aZ->Prop:=λ_ _=>False
abbrev Loc:=List<|Str×AV
def HB(E:Env)(a:aW):=a=E.locals\/∃x,E.cells.lookup x=Y a
def ò(E:Env)(a:aW):=a=E.locals\/∃x,E.cells.lookup x=Y a/\(E.func.isSome=L\/E.locals<a)
def ò.fr(h:ò E a):HB E a:=h.imp id λc=>by let(x,h,_):=c;show(x,h)
structure cb(U:Fz)(O:bf)(E:Env)(m:Loc)(s:aZ):Prop where
 loc:U E.locals=R/\O E.locals=R/\∃m',s.heap.Ns E.locals m'/\∀x a,E.kindOf x=Y .local->m.lookup x=Y a->∃v,m' x=Y v/\cH U a v
 vJ:∀x c,E.cells.lookup x=Y c->U c=R/\O c=R/\c≠E.locals/\∃v',s.heap.IsCell c v'/\∀a,m.lookup x=Y a->∃v,v'=Y v/\cH U a v
 inj:∀x y c,E.cells.lookup x=Y c->E.cells.lookup y=Y c->x=y
def cb.grow(h:cb U O E m s)(g:bV U O s z y s'):cb z y E m s':=by
 refine(?_,λx c n=>?_,h.inj)
 .let(J,M,j,(o,es,ep,k,r),f):=h.loc;let(p,q,d):=g.keep E.locals o k J M;show(q,d,j,(o,es,ep,p,r),λx a T e=>by let(v,S,hr):=f x a T e;show aC v S<|hr.mono g.bC)
 .let(J,M,u,i,(oc,f,hd),t):=h.vJ x c n;let(p,q,d):=g.keep c _ f J M;show(q,d,u,i,(oc,p,hd),λa e=>by let(v,S,hr):=t a e;show aC v S<|hr.mono g.bC)
def Ev(Z:Bs)(n:Nat)(E:Env)(e:Expr)(O:bf)(m:Loc)(Q:AV->bf->Prop):=
 ∀U s A,fV n A->St Z U O s->cb U O E m s->aN (~~~Z) A (eval e E) (dh Z U O s Q) mj s
inductive Fl where
 |next|brk|cont|ret(v:AV)
abbrev Oy(U:Fz):Fl->Flow->Prop
 |.next,.next=>True
 |.brk,.brk=>True
 |.cont,.cont=>True
 |.ret a,.ret v=>cH U a v
 |_,_=>False
structure kX(E:Env)(U:Fz)(O:bf)(s:aZ)(U':Fz)(bq:bf)(s':aZ):Prop where
 bC:∀a o,U a=Y o->U' a=Y o
 keep:∀a o,¬ò E a->s.heap.get? a=Y o->U a=R->O a=R->s'.heap.get? a=Y o/\U' a=R/\bq a=R
 os:s'.os=s.os
inductive xm(Z:Bs)(E:Env)(U:Fz)(O:bf)(s:aZ)(Q:Fl->bf->Loc->Prop)(f:Flow)(s':aZ):Prop
 |mk (U':Fz) (fl:Fl) (bq:bf) (m':Loc) (g:kX E U O s U' bq s') (hv:St Z U' bq s') (F:cb U' bq E m' s') (r:Oy U' fl f) (q:Q fl bq m'):xm Z E U O s Q f s'
inductive AG(Z:Bs)(E:Env)(U:Fz)(O:bf)(s:aZ)(Q:bf->Loc->Prop)(s':aZ):Prop
 |mk (U':Fz) (bq:bf) (m':Loc) (g:kX E U O s U' bq s') (hv:St Z U' bq s') (F:cb U' bq E m' s') (q:Q bq m'):AG Z E U O s Q s'
def AG.after(g:kX E U O s p m f)(h:AG Z E p m f Q s2):AG Z E U O s Q s2:=by let(n,k,i,c,t,u,q):=h;show(n,k,i,(λa o e=>c.bC _ _<|g.bC _ _ e,λa o d J M j=>by let(x,y,z):=g.keep a o d J M j;show c.keep a o d x y z,c.os.trans g.os),t,u,q)
def tB.after{c:Fz}{a:aZ}{Q:k->bf->Prop}(g:bV U O s c f a)(h:tB Z c f a Q v s2):tB Z U O s Q v s2:=by let(i,e,d,j,q):=h;show(i,e,g.trans d,j,q)
def bV.b(g:bV U O s e d s'):kX E U O s e d s':=(g.bC,λa o _ J M c=>g.keep a o J M c,g.os)
def kX.trans(a:kX E U O s i f c)(b:kX E i f c g e s2):kX E U O s g e s2:=
 (λx o h=>b.bC x o<|a.bC x o h,λx o T J M d=>by let(p,q,r):=a.keep x o T J M d;show b.keep x o T p q r,b.os.trans a.os)
def Ex(Z:Bs)(n:Nat)(E:Env)(ss:List fz)(O:bf)(m:Loc)(Q:Fl->bf->Loc->Prop):=
 ∀U s A,fV n A->St Z U O s->cb U O E m s->aN (~~~Z) A (Gv ss E) (xm Z E U O s Q) mj s
def xo(Z:Bs)(n:Nat)(E:Env)(ss:fz)(O:bf)(m:Loc)(Q:Fl->bf->Loc->Prop):=
 ∀U s A,fV n A->St Z U O s->cb U O E m s->aN (~~~Z) A (exec ss E) (xm Z E U O s Q) mj s
def Tt(Z:Bs)(n:Nat)(E:Env)(e:Expr)(O:bf)(m:Loc)(Q:Bool->bf->Prop):=
 ∀U s A,fV n A->St Z U O s->cb U O E m s->aN (~~~Z) A (wu e E<|eval e E) (tB Z U O s Q) mj s
section
variable{Z:Bs}{U:Fz}{O:bf}{s:aZ}{A:iJ}{α:Type}
def fw{K:AV->bf->Prop}(h:aN h2 A t (dh Z U O s K) mj s)(k:∀u c f a d,bV U O s f d c->St Z f d c->cH f a u->K a d->P u c):aN h2 A t P az s:=
 aG h (λu c j=>by let(f,a,d,g,i,r,q):=j;show k u c f a d g i r q) λ_ _ e=>e.elim
def Qc{K:List AV->bf->Prop}(h:aN h2 A t (Ox Z U O s K) mj s)(k:∀u c f a d,bV U O s f d c->St Z f d c->ck f a u->K a d->P u c):aN h2 A t P az s:=
 aG h (λu c j=>by let(f,a,d,g,i,r,q):=j;show k u c f a d g i r q) λ_ _ e=>e.elim
def Kn{K:α->bf->Prop}(h:aN h2 A t (tB Z U O s K) mj s)(k:∀u a d c,bV U O s d c a->St Z d c a->K u c->P u a):aN h2 A t P az s:=
 aG h (λu a i=>by let(d,c,g,f,q):=i;show k u a d c g f q) λ_ _ e=>e.elim
def q?{K:bf->Prop}{P:α->aZ->Prop}(h:aN h2 A t (λ_ f=>CW Z U O s K f) mj s)(k:∀u a d c,bV U O s d c a->St Z d c a->K c->P u a):aN h2 A t P az s:=
 aG h (λu a j=>by let(d,c,g,i,q):=j;show k u a d c g i q) λ_ _ e=>e.elim
def Ko{t:Sem α}{K:bf->Loc->Prop}(h:aN h2 A t (λ_ i=>AG Z E U O s K i) mj s)(k:∀u a d c f,kX E U O s d c a->St Z d c a->cb d c E f a->K c f->P u a):aN h2 A t P az s:=
 aG h (λu a m=>by let(d,c,f,g,j,F,q):=m;show k u a d c f g j F q) λ_ _ e=>e.elim
def MN{K:Fl->bf->Loc->Prop}(h:aN h2 A t (xm Z E U O s K) mj s)(k:∀f a d j c i,kX E U O s d c a->St Z d c a->cb d c E i a->Oy d j f->K j c i->P f a):aN h2 A t P az s:=
 aG h (λf a n=>by let(d,j,c,i,g,m,F,r,q):=n;show k f a d j c i g m F r q) λ_ _ e=>e.elim
end
section
variable{Z:Bs}{n:Nat}{E:Env}{O:bf}{m:Loc}
def dh.toks(H:St Z U O s)(S:cH U a v)(h:Q a O)(tk:Nat):dh Z U O s Q v {s with toks:=tk}:=
 (U,a,O,.toks _,H.toks _,S,h)
def dh.now(H:St Z U O s)(S:cH U a v)(h:Q a O):dh Z U O s Q v s:=
 (U,a,O,.refl,H,S,h)
def dh.after(g:bV U O s k i c)(h:dh Z k i c Q v s2):dh Z U O s Q v s2:=by let(j,a,f,e,H,S,d):=h;show(j,a,f,g.trans e,H,S,d)
def Ev.mono(h:Ev Z n E e O m Q)(f:∀a c,Q a c->Q' a c):Ev Z n E e O m Q':=
 λU s A i H k=>aG (h U s A i H k) (λ_ _ o=>by let(p,a,c,g,d,S,j):=o;show(p,a,c,g,d,S,f _ _ j)) λ_ _ e=>e
def Sg(h:Q ⇑i O):Ev Z n E (.Constant ⇑i k pos) O m Q:=
 λ_ _ _ _ H _=>Dw<|dh.toks H (.int _ _) h _
def r_(h:Q (.str i) O):Ev Z n E (.Constant (.str i) k pos) O m Q:=
 λ_ _ _ _ H _=>wpAny_mkText<|dh.toks H (.str _ _) h _
def WV(h:Q .none O):Ev Z n E (.Constant .none k pos) O m Q:=
 λ_ _ _ _ H _=>aj<|dh.now H (.raw _) h
def WW(h:Q (.bool b) O):Ev Z n E (.Constant (.bool b) k pos) O m Q:=
 λ_ _ _ _ H _=>aj<|dh.now H (.raw _) h
def isVar(E:Env)(x:Str):=E.scope.kind==.function&&(not (x==("__debug__":Str))&&(not (x==("__classdict__":Str))&&(E.kindOf x==Y .local||(E.cells.lookup x).isSome&&(E.kindOf x==Y .cell||E.kindOf x==Y .free))))
def HC(h:isVar E x=L):E.scope.kind=.function/\(x==("__debug__":Str))=au/\(x==("__classdict__":Str))=au/\(E.kindOf x=Y .local\/(E.cells.lookup x).isSome=L/\(E.kindOf x=Y .cell\/E.kindOf x=Y .free)):=by simpa only[isVar,bW,qX,fE,beq_iff_eq] using h
def Oz(o:cb U O E m s)(T:isVar E x=L)(k:m.lookup x=Y a)(h:∀v,cH U a v->Q v s):aN (~~~Z) A (loadName E x) Q az s:=by
 let(g,_,p,T):=HC T;rcases T with d|⟨T,d⟩
 .let(_,_,C,t,u):=o.loc;let(v,S,f):=u x a d k;show wpAny_loadName_local g d t S<|h v f
 .let(c,i):=bp.mp T;let(_,_,_,z,j,y):=o.vJ x c i;let(v,e,f):=y a k;rw[e] at j;show d.elim (λq=>wpAny_loadName_cell g q i j<|h v f) λq=>wpAny_loadName_free g q i j (h v f) p
def r!(T:isVar E x=L)(c:m.lookup x=Y a)(h:Q a O):Ev Z n E (.Name x pos) O m Q:=λU s A _ H d=>by show Gw (Oz d T c λv S=>dh.now H S h)<|(HC T).2.1
def vK(E:Env)(x:Str):=E.scope.kind==.function&&(not (x==("__debug__":Str))&&(E.globals==dt&&(E.builtins==jx&&E.kindOf x==Y .globalImplicit)))
def zJ(h:vK E x=L):E.scope.kind=.function/\(x==("__debug__":Str))=au/\E.globals=dt/\E.builtins=jx/\E.kindOf x=Y .globalImplicit:=by simpa only[vK,bW,fE,beq_iff_eq] using h
def St.wC(H:St Z U O s):Z.K.In s.heap:=λa o h=>(H.bC a o<|H.base a o<|Z.wC a o h).1
def St.ofB(H:St Z U O s)(h:Z.B a=Y o):s.heap.get? a=Y o:=(H.bC a o<|H.base a o h).1
def St.lim(H:St Z U O s):s.heap.NoLimit:=by let(o,es,ep,J,M,c,a):=Z.lim;show(_,(o,es,ep,H.ofB J,M,c,λ_=>rfl),a)
def St.kNs(H:St Z U O s):∃a,s.heap.Ns jx a/\∀x:Str,x≠"__name__"->a x=lW x:=by let(o,es,ep,J,M,d,c):=Z.blt;show aC _ (o,es,ep,H.ofB J,M,d,λ_=>rfl) c
def CX(T:vK E x=L)(h:aN (~~~Z) A (Gx E x) Q az s):aN (~~~Z) A (loadName E x) Q az s:=by let(c,_,_,_,a):=zJ T;show loadName_read c a▸h
def WY(T:vK E x=L)(S:nsIn Z.K dt x=Y (Y v))(h:Q (.raw v) O):Ev Z n E (.Name x pos) O m Q:=λU s A _ H c=>by
 let(_,hd,a,_,_):=zJ T;refine Gw (CX T ?_) hd
 delta Gx
 rw[a];show af<|(looks_nsIn (M:=bw Z.prog Z.w) H.wC S).here (aj<|dh.now H (.raw v) h)
def r?(T:vK E x=L)(S:nsIn Z.K dt x=Y R)(e:x≠"__name__")(g:lW x=Y v)(h:Q (.raw v) O):Ev Z n E (.Name x pos) O m Q:=λU s A _ H j=>by
 let(_,hd,f,c,_):=zJ T;let(i,d,a):=H.kNs;refine Gw (CX T ?_) hd
 delta Gx
 rw[f,c];refine af<|(looks_nsIn (M:=bw Z.prog Z.w) H.wC S).here ?_;refine af<|wpAny_nsGet d ?_;rw[a x e,g];show aj<|dh.now H (.raw v) h
def AH(Z:Bs)(n:Nat)(op:sI)(a b:AV)(O:bf)(Q:AV->bf->Prop):=
 ∀U s A u v,fV n A->St Z U O s->cH U a u->cH U b v->aN (~~~Z) A (binaryOp op u v) (dh Z U O s Q) mj s
def Sh(h:Ev Z n E l O m λa i=>Ev Z n E r i m λb g=>AH Z n op a b g Q):Ev Z n E (.BinOp l op r pos) O m Q:=λU s A c H hF=>by show aN _ _ (do let a<-eval l E;let b<-eD [a] (eval r E);cN pos;BH [a,b] (binaryOp op a b)) _ _ _;refine af (fw (h U s A c H hF) λu k z a i f t o J=>?_);refine af (aJ<|fw (J z k A c t<|hF.grow f) λv j y b g d q S M=>?_);refine af<|aR<|ja ?_;show aG (M y j A u v c q (o.mono d.bC) S) (λ_ _ p=>(p.after d).after f) λ_ _ e=>e
section
variable{a b:Int}{Q:AV->bf->Prop}
def WZ(h:Q ⇑(a+b) O):AH Z n .Add ⇑a ⇑b O Q:=λU s A u v _ H c S=>by let(t,rfl):=c.int_inv;let(t',rfl):=S.int_inv;show PySem.P.add_int<|dh.toks H (.int _ _) h _
def W3(h:Q ⇑(a-b) O):AH Z n .Sub ⇑a ⇑b O Q:=λU s A u v _ H c S=>by let(t,rfl):=c.int_inv;let(t',rfl):=S.int_inv;show PySem.P.sub_int<|dh.toks H (.int _ _) h _
def vL(d:IntMulOk a b)(h:Q ⇑(a*b) O):AH Z n .Mult ⇑a ⇑b O Q:=λU s A u v _ H c S=>by let(t,rfl):=c.int_inv;let(t',rfl):=S.int_inv;show PySem.P.mul_int (dh.toks H (.int _ _) h _) d
def yH(e:b≠0)(d:b.natAbs<1073741824)(h:Q ⇑(a.fdiv b) O):AH Z n .FloorDiv ⇑a ⇑b O Q:=λU s A u v _ H c S=>by let(t,rfl):=c.int_inv;let(t',rfl):=S.int_inv;show floordiv_int e (dh.toks H (.int _ _) h _)<|.inl<|PyProof.noPylong_small d
def pW(d:b≠0)(h:Q ⇑(a.fmod b) O):AH Z n .Mod ⇑a ⇑b O Q:=λU s A u v _ H c S=>by let(t,rfl):=c.int_inv;let(t',rfl):=S.int_inv;show mod_int' d<|dh.toks H (.int _ _) h _
def pX(e:0<=b)(c:b<=1000000)(f:a.natAbs<2^64)(h:Q ⇑(a^b.toNat) O):AH Z n .Pow ⇑a ⇑b O Q:=λU s A u v _ H d S=>by let(t,rfl):=d.int_inv;let(t',rfl):=S.int_inv;show pow_int_small e c f<|dh.toks H (.int _ _) h _
def Eb(h:Q ⇑(ox a b) O):AH Z n .BitXor ⇑a ⇑b O Q:=λU s A u v _ H c S=>by let(t,rfl):=c.int_inv;let(t',rfl):=S.int_inv;show xor_int<|dh.toks H (.int _ _) h _
def Si(h:Q ⇑(zE a b) O):AH Z n .BitOr ⇑a ⇑b O Q:=λU s A u v _ H c S=>by let(t,rfl):=c.int_inv;let(t',rfl):=S.int_inv;show or_int<|dh.toks H (.int _ _) h _
def OA(h:Q ⇑(yg a b) O):AH Z n .BitAnd ⇑a ⇑b O Q:=λU s A u v _ H c S=>by let(t,rfl):=c.int_inv;let(t',rfl):=S.int_inv;show and_int<|dh.toks H (.int _ _) h _
end
def W4(h:Ev Z n E e O m λa c=>∃i,a=.int i/\Q ⇑(-i) c):Ev Z n E (.UnaryOp .USub e pos) O m Q:=λU s A j H k=>by show aN _ _ (do let v<-eval e E;cN pos;eD [v] (unaryOp .USub v)) _ _ _;refine af (fw (h U s A j H k) λu q y a c o p f d=>?_);let(i,g,J):=d;subst g;let(t,rfl):=f.int_inv;show af<|aR<|aJ<|PySem.P.neg_int<|(dh.toks p (.int _ _) J _).after o
def pb(Z:Bs)(n:Nat)(op:Gy)(a b:AV)(O:bf)(Q:AV->bf->Prop):=
 ∀U s A u v,fV n A->St Z U O s->cH U a u->cH U b v->aN (~~~Z) A (compareOp op u v) (dh Z U O s Q) mj s
section
variable{a b:Int}{Q:AV->bf->Prop}
def s_(h:Q (.bool<|decide (a=b)) O):pb Z n .Eq ⇑a ⇑b O Q:=λU s A u v _ H c S=>by
 let(t,rfl):=c.int_inv;let(t',rfl):=S.int_inv;refine PySem.P.eq_int<|dh.now H (.raw _) ?_;have:(a==b)=decide (a=b):=by by_cases e:a=b<;>simp[e]
 rw[this];show h
def s?(h:Q (.bool<|decide (a≠b)) O):pb Z n .NotEq ⇑a ⇑b O Q:=λU s A u v _ H c S=>by
 let(t,rfl):=c.int_inv;let(t',rfl):=S.int_inv;refine PySem.P.ne_int<|dh.now H (.raw _) ?_;have:(a !=b)=decide (a≠b):=by by_cases e:a=b<;>simp[e]
 rw[this];show h
def t_(h:Q (.bool<|decide (a<b)) O):pb Z n .Lt ⇑a ⇑b O Q:=λU s A u v _ H c S=>by let(t,rfl):=c.int_inv;let(t',rfl):=S.int_inv;show PySem.P.lt_int<|dh.now H (.raw _) h
def t!(h:Q (.bool<|decide (a<=b)) O):pb Z n .LtE ⇑a ⇑b O Q:=λU s A u v _ H c S=>by let(t,rfl):=c.int_inv;let(t',rfl):=S.int_inv;show PySem.P.le_int<|dh.now H (.raw _) h
def t?(h:Q (.bool<|decide (a>b)) O):pb Z n .Gt ⇑a ⇑b O Q:=λU s A u v _ H c S=>by let(t,rfl):=c.int_inv;let(t',rfl):=S.int_inv;show PySem.P.gt_int<|dh.now H (.raw _) h
def u!(h:Q (.bool<|decide (a>=b)) O):pb Z n .GtE ⇑a ⇑b O Q:=λU s A u v _ H c S=>by let(t,rfl):=c.int_inv;let(t',rfl):=S.int_inv;show PySem.P.ge_int<|dh.now H (.raw _) h
end
abbrev AV.isNone:AV->Bool
 |.raw v=>v==.none
 |_=>au
def cH.isNone(h:cH U a v):(v==.none)=a.isNone:=
 cH.casesOn (motive_1:=λa v _=>(v==.none)=a.isNone) h (λ_ _=>rfl) (λ_ _=>rfl) (λ_=>rfl) (λ_ _=>rfl) (λ_ _=>rfl) λ_=>rfl
abbrev AV.plain:AV->Bool
 |.raw v=>PySem.plainIs v .none&&BI v
 |_=>L
def vM(h:cH U a v)(c:a.plain=L):plainIs v .none=L/\BI v=L:=
 cH.casesOn (motive_1:=λa v _=>a.plain=L->plainIs v .none=L/\BI v=L) h (λ_ _ _=>(rfl,rfl)) (λ_ _ _=>(rfl,rfl)) (λ_ h=>ba.mp h) (λ_ _ _=>(rfl,rfl)) (λ_ _ _=>(rfl,rfl)) (λ_ _=>(rfl,rfl)) c
def EG(d:a.plain=L)(h:Q (.bool a.isNone) O):pb Z n .Is a .none O Q:=λU s A u v _ H c S=>by let rfl:=S.bU;refine wpAny_is_plain (vM c d).1<|dh.now H (.raw _) ?_;rw[c.isNone];show h
def Kp(d:a.plain=L)(h:Q (.bool<|not a.isNone) O):pb Z n .IsNot a .none O Q:=λU s A u v _ H c S=>by let rfl:=S.bU;refine wpAny_isNot_plain (vM c d).1<|dh.now H (.raw _) ?_;rw[c.isNone];show h
def dZ(op:Gy)(e:Expr):=not (behindInMarks op e)
def MO(q:dZ op r=L)(h:Ev Z n E l O m λa i=>Ev Z n E r i m λb g=>pb Z n op a b g Q):Ev Z n E (.Compare l [op] [r] pos) O m Q:=λU s A c H hF=>by
 show aN _ _ (do compareChain pos (<-eval l E) [op] [markedBehindIn op r<|eval r E]) _ _ _;let t:markedBehindIn op r (eval r E)=eval r E:=by delta markedBehindIn;rw[show qh op r=au by simpa [dZ] using q]
 rw[t];refine af (fw (h U s A c H hF) λu k D a i f z o J=>?_);refine af (aJ<|fw (J D k A c z<|hF.grow f) λv j C b g d y S M=>?_);refine af<|aR<|ja ?_;show aG (M C j A u v c y (o.mono d.bC) S) (λ_ _ p=>(p.after d).after f) λ_ _ e=>e
def nK(Z:Bs)(n:Nat)(a:AV)(O:bf)(Q:Bool->bf->Prop):=
 ∀U s A u,fV n A->St Z U O s->cH U a u->aN (~~~Z) A (truthy u) (tB Z U O s Q) mj s
def MP(h:Q b O):nK Z n (.bool b) O Q:=λU s A u _ H a=>by let rfl:=a.bU;show oh (U,O,.refl,H,h)
def MQ(C:dZ op r=L)(h:Ev Z n E l O m λa k=>Ev Z n E r k m λb j=>pb Z n op a b j λc f=>nK Z n c f Q):Tt Z n E (.Compare l [op] [r] pos) O m Q:=λU s A d H hF=>by
 show aN _ _ (do testChain pos (<-eval l E) [op] [markedBehindIn op r<|eval r E]) _ _ _;let D:markedBehindIn op r (eval r E)=eval r E:=by delta markedBehindIn;rw[show qh op r=au by simpa [dZ] using C]
 rw[D];refine af (fw (h U s A d H hF) λu q U1 a k i eg z J=>?_);refine af (aJ<|fw (J U1 q A d eg<|hF.grow i) λv p U2 b j g fY S M=>?_);refine af<|aR<|af<|ja ?_;refine fw (M U2 p A u v d fY (z.mono g.bC) S) λc o U3 c' f g3 t G T=>aJ (aG (T U3 o A c d t G) (λb s4 ec=>by let(U4,y,g4,EH,I):=ec;show(U4,y,((i.trans g).trans g3).trans g4,EH,I)) λ_ _ e=>e)
def Sj(i:wu e E (eval e E)=(do let v<-eval e E;cN e.pos;eD [v] (truthy v)))(h:Ev Z n E e O m λa d=>nK Z n a d Q):Tt Z n E e O m Q:=λU s A c H j=>by rw[i];refine af (fw (h U s A c H j) λu f q a d k o g J=>?_);refine af (aR<|aJ<|aG (J q f A u c o g) (λ_ _ p=>p.after k) λ_ _ e=>e)
def u?(h:Tt Z n E e O m λb a=>Q (not b) a):Tt Z n E (.UnaryOp .Not e pos) O m Q:=λU s A c H d=>by show aN _ _ (do return (not (<-wu e E (eval e E)))) _ _ _;show af (aG (h U s A c H d) (λb j x=>aj (by let(g,a,f,i,q):=x;show(g,a,f,i,q))) λ_ _ e=>e)
def AI(op:BoolOp)(x:Expr)(a:List Expr)(E:Env):allTrue op (x::a) E=(do
  match op,<-wu x E (eval x E) with
  |.And,au=>pure au
  |.Or,L=>pure L
  |_,_=>allTrue op a E):=rfl
def Tl(Z:Bs)(n:Nat)(E:Env)(op:BoolOp)(es:List Expr)(O:bf)(m:Loc)(Q:Bool->bf->Prop):=
 ∀U s A,fV n A->St Z U O s->cb U O E m s->aN (~~~Z) A (allTrue op es E) (tB Z U O s Q) mj s
def Qd(h:Tl Z n E op es O m Q):Tt Z n E (.BoolOp op es pos) O m Q:=h
def v_(h:Q (op==.And) O):Tl Z n E op [] O m Q:=λU s A a H c=>aj (U,O,.refl,H,h)
def v!(h:Tt Z n E e O m λb a=>if b=L then Tl Z n E .And es a m Q else Q au a):Tl Z n E .And (e::es) O m Q:=λU s A d H hF=>by
 rw[AI];refine af (Kn (h U s A d H hF) λb i g a c f J=>?_)
 induction b with|false=>show aj (g,a,c,f,J)|true=>show aG (J g i A d f<|hF.grow c) (λ_ _ p=>p.after c) λ_ _ e=>e
def ν(h:Tt Z n E e O m λb a=>if b=L then Q L a else Tl Z n E .Or es a m Q):Tl Z n E .Or (e::es) O m Q:=λU s A d H hF=>by
 rw[AI];refine af (Kn (h U s A d H hF) λb i g a c f J=>?_)
 induction b with|true=>show aj (g,a,c,f,J)|false=>show aG (J g i A d f<|hF.grow c) (λ_ _ p=>p.after c) λ_ _ e=>e
def Sk(h:Tt Z n E t O m λc f=>if c=L then Ev Z n E b f m Q else Ev Z n E o f m Q):Ev Z n E (.IfExp t b o pos) O m Q:=λU s A d H hF=>by
 show aN _ _ (do if<-wu t E (eval t E) then eval b E else eval o E) _ _ _;refine af (Kn (h U s A d H hF) λc g j f a i J=>?_)
 induction c with|true=>show aG (J j g A d i<|hF.grow a) (λ_ _ p=>p.after a) λ_ _ e=>e|false=>show aG (J j g A d i<|hF.grow a) (λ_ _ p=>p.after a) λ_ _ e=>e
def v?(h:Q .next O m):Ex Z n E [] O m Q:=λU s A _ H a=>aj (U,.next,O,m,bV.refl.b,H,a,trivial,h)
def xm.after(g:kX E U O s o j a)(h:xm Z E o j a Q f s2):xm Z E U O s Q f s2:=by let(k,e,i,c,d,p,t,r,q):=h;show(k,e,i,c,g.trans d,p,t,r,q)
def W5{st:fz}(h:xo Z n E st O m λq d c=>match q with|.next=>Ex Z n E ss d c Q|f=>Q f d c):Ex Z n E (st::ss) O m Q:=λU s A t H v=>by
 show aN _ _ (do match<-exec st E with|.next=>Gv ss E|f=>pure f) _ _ _;refine af (MN (h U s A t H v) λf u o q d c j k i g J=>?_)
 induction q with
 |next=>cases f<;>first|exact g.elim|exact aG (J o u A t k i) (λ_ _ p=>p.after j) λ_ _ e=>e
 |brk=>cases f<;>first|exact g.elim|exact aj (o,.brk,d,c,j,k,i,trivial,J)
 |cont=>cases f<;>first|exact g.elim|exact aj (o,.cont,d,c,j,k,i,trivial,J)
 |ret a=>cases f<;>first|exact g.elim|exact aj (o,.ret a,d,c,j,k,i,g,J)
def Qe(h:Ev Z n E e O m λa c=>Q (.ret a) c m):xo Z n E (.Return (Y e) pos) O m Q:=λU s A i H d=>by show aN _ _ (do cN pos;return Mg (<-eval e E)) _ _ _;refine af (aR<|af<|fw (h U s A i H d) λu o k a c f j g J=>?_);show aj (k,.ret a,c,m,f.b,j,d.grow f,g,J)
def MR(h:Q (.ret .none) O m):xo Z n E (.Return R pos) O m Q:=λU s A c H a=>by show aN _ _ (do cN pos;return Mg gk) _ _ _;show af<|aR<|aj (U,.ret .none,O,m,bV.refl.b,H,a,.raw _,h)
def Sl(h:Q .brk O m):xo Z n E (.Break pos) O m Q:=λU s A c H a=>
 af (aR<|aj (U,.brk,O,m,bV.refl.b,H,a,trivial,h))
def Kq(h:Q .cont O m):xo Z n E (.Continue pos) O m Q:=λU s A c H a=>
 af (aR<|aj (U,.cont,O,m,bV.refl.b,H,a,trivial,h))
def ξ(h:Tt Z n E t O m λc f=>if c=L then Ex Z n E b f m Q else Ex Z n E o f m Q):xo Z n E (.If t b o pos) O m Q:=λU s A d H hF=>by
 show aN _ _ (do cN pos;if<-wu t E (eval t E) then Gv b E else Gv o E) _ _ _;refine af (aR<|af<|Kn (h U s A d H hF) λc g j f a i J=>?_)
 induction c with|true=>show aG (J j g A d i<|hF.grow a) (λ_ _ p=>p.after a.b) λ_ _ e=>e|false=>show aG (J j g A d i<|hF.grow a) (λ_ _ p=>p.after a.b) λ_ _ e=>e
end
section
variable{Z:Bs}{n:Nat}{E:Env}{O:bf}{m:Loc}
abbrev aB(O:bf)(a:aW)(g:bD):bf:=λb=>if b=a then Y g else O b
abbrev mP(U:Fz)(a:aW)(o:Obj):Fz:=λb=>if b=a then Y o else U b
def ar:aB O a g a=Y g:=bj rfl
def aq(h:b≠a):aB O a g b=O b:=aK h
def bQ:aB (aB O a g) a g'=aB O a g':=by funext b;by_cases h:b=a<;>simp[aB,h]
def gf(h:a≠b):aB (aB O a g) b g'=aB (aB O b g') a g:=by
 funext c;delta aB;by_cases J:c=b
 .subst J;rw[bj rfl,aK<|aE h,bj rfl]
 .rw[aK J,aK J]
def eh(h:O a=Y g):aB O a g=O:=by
 funext c;delta aB;by_cases J:c=a
 .subst J;rw[bj rfl,h]
 .rw[aK J]
def St.keeps(H:St Z U O s)(c:∀b o,s.heap.get? b=Y o->f.get? b=Y o)(tk:Nat):St Z U O {s with heap:=f,toks:=tk}:=
 (H.base,λa o h=>(c a o (H.bC a o h).1,(H.bC a o h).2),λa g h=>by let(o,d,e):=H.own a g h;show aC o (c a o d) e,H.gens)
def bV.keeps(c:∀b o,s.heap.get? b=Y o->e.get? b=Y o)(tk:Nat):bV U O s U O {s with heap:=e,toks:=tk}:=
 (λ_ _ h=>h,λa o J M d=>(bt (c a o J) M d),rfl)
def AJ(x:qE h.objs.size h a):∀b o,h.get? b=Y o->a.get? b=Y o:=λb o e=>x b o (bX<|aU e) e
def St.fm(H:St Z U O s)(hd:O d=Y g₀)(c:cQ d s.heap i)(k:i.get? d=Y f)(p:kl Z.prog Z.w U g' f)(tk:Nat):St Z U (aB O d g') {s with heap:=i,toks:=tk}:=by
 refine(H.base,λa o h=>?_,λa g h=>?_,H.gens)
 .let(J,M):=H.bC a o h;let j:a≠d:=qm M hd;show((c.2 a j).trans J,by rw[aq j];show M)
 .by_cases e:a=d
  .clear g₀ hd c;subst e;rw[ar] at h;cases h;show aC f k p
  .rw[aq e] at h;let(o,J,M):=H.own a g h;show aC o ((c.2 a e).trans J) M
def bV.fm(hd:O d=Y g₀)(f:cQ d s.heap g)(tk:Nat):bV U O s U (aB O d g') {s with heap:=g,toks:=tk}:=by refine(λ_ _ h=>h,λa o J M c=>?_,rfl);let e:a≠d:=qm c hd;show bt ((f.2 a e).trans J) M<|pS (aq e) c
def Above(O:bf)(D:aW):=∀b g,O b=Y g->b<D
def Above.none(h:Above O D):O D=R:=by
 induction q:O D with|none=>rfl|some g=>show absurd (h D g q) (dA _)
def St.above(H:St Z U O s):Above O ↥s:=λb g h=>by let(_,a,_):=H.own b g h;show aU a
def St.bY(H:St Z U O s):U ↥s=R/\O ↥s=R:=by
 constructor
 .induction h:U ↥s with
  |none=>rfl
  |some o=>show absurd (aU (H.bC _ _ h).1) (dA _)
 .induction h:O ↥s with
  |none=>rfl
  |some g=>let(o,a,_):=H.own _ _ h;show absurd (aU a)<|dA _
def St.j9(H:St Z U O s)(f:o.isFreed=au)(d:kl Z.prog Z.w U g o)(tk:Nat):St Z U (aB O ↥s g) {s with heap:=s.heap.push o,toks:=tk}:=by
 refine(H.base,λa c h=>?_,λa g' h=>?_,H.gens)
 .let(J,M):=H.bC a c h;let i:a≠↥s:=eB h (H.bY).1;show(aF _ J,by rw[aq i];show M)
 .by_cases e:a=↥s
  .subst e;rw[ar] at h;cases h;show aC o (aO _ f) d
  .rw[aq e] at h;let(o,J,M):=H.own a g' h;show aC o (aF _ J) M
def bV.j9(tk:Nat):bV U O s U (aB O ↥s g) {s with heap:=s.heap.push o,toks:=tk}:=by refine(λ_ _ h=>h,λa d J M c=>(bt (aF _ J) M ?_),rfl);rw[aq (bX<|aU J)];show c
def pY(h:U a=R):∀b o',U b=Y o'->mP U a o b=Y o':=λb o' c=>by have:b≠a:=eB c h;simp[mP,this,c]
def St.EI(H:St Z U O s)(f:o.isFreed=au)(tk:Nat):St Z (mP U ↥s o) O {s with heap:=s.heap.push o,toks:=tk}:=by
 let(d,g):=H.bY;refine(λa c h=>pY d a c<|H.base a c h,λa c h=>?_,λa g' h=>?_,H.gens)
 .by_cases e:a=↥s
  .subst e;simp only[mP,if_true] at h;cases h;show(aO _ f,g)
  .simp only[mP,aK e] at h;let(J,M):=H.bC a c h;show(aF _ J,M)
 .let(o,J,M):=H.own a g' h;show aC o (aF _ J)<|M.mono<|pY d
def bV.EI(H:St Z U O s)(tk:Nat):bV U O s (mP U ↥s o) O {s with heap:=s.heap.push o,toks:=tk}:=by refine(pY H.bY.1,λa d J M c=>(bt (aF _ J) ?_ c),rfl);rw[mP,aK<|bX<|aU J];show M
def AK(E:Env)(x:Str):=E.scope.kind==.function&&(E.kindOf x==Y .local||(E.kindOf x==Y .cell&&((E.cells.lookup x).isSome&&E.func.isSome)))
def Kr(h:AK E x=L):E.scope.kind=.function/\(E.kindOf x=Y .local\/E.kindOf x=Y .cell/\(E.cells.lookup x).isSome=L/\E.func.isSome=L):=by simpa only[AK,bW,qX,beq_iff_eq] using h
def St.same(H:St Z U O s)(J:U d=R)(M:O d=R)(a:cQ d s.heap c):St Z U O {s with heap:=c,toks:=tk}:=
 (H.base,λb o e=>((a.2 b λq=>nomatch (q▸J).symm.trans e).trans (H.bC b o e).1,(H.bC b o e).2),
  λb g e=>(H.own b g e).elim λo r=>(aC o ((a.2 b λq=>nomatch (q▸M).symm.trans e).trans r.1) r.2),H.gens)
def kX.same(hd:ò E d)(a:cQ d s.heap f):kX E U O s U O {s with heap:=f,toks:=tk}:=
 (λ_ _ e=>e,λb o c h e2 g=>(bt ((a.2 b λq=>c<|q▸hd).trans h) e2 g),rfl)
def et:((x,a)::m).lookup y=if y=x then Y a else m.lookup y:=by
 rw[cq];by_cases h:y=x
 .rw[bj h,beq_iff_eq.mpr h]
 .rw[aK h,beq_eq_false_iff_ne.mpr h]
def je(e:((x,a)::m).lookup y=Y b):y=x/\a=b\/y≠x/\m.lookup y=Y b:=by
 rw[et] at e;by_cases q:y=x
 .rw[bj q] at e;show .inl (q,ax e)
 .rw[aK q] at e;show .inr (q,e)
def AL(H:St Z U O s)(hF:cb U O E m s)(T:AK E x=L)(S:cH U a v)(uD:E.cells.lookup x≠R->E.kindOf x≠Y .local)(h:∀j,kX E U O s U O j->St Z U O j->cb U O E ((x,a)::m) j->Q cF j):aN (~~~Z) A (yU E x v) Q az s:=by
 let(I,T):=Kr T;let(J,M,m',D,G):=hF.loc;rcases T with g|⟨g,T,GJ⟩
 .refine wpAny_storeName_local g D (λh' Mp f=>h _ (kX.same (.inl rfl) f) (H.same J M f) ((bt J M<|aC _ Mp<|λy b k e=>?_),λy c d=>?_,hF.inj)) (by rw[I];rfl)
  .rcases je e with⟨q,e⟩|⟨q,e⟩
   .show aC v (bj q)<|e▸S
   .show(G y b k e).elim λw r=>(aC w ((aK q).trans r.1) r.2)
  .let(p,o,i,C,(oc,c4,c5),c6):=hF.vJ y c d;refine ek p o i (aC C (oc,(f.2 c i).trans c4,c5)<|λb e=>?_);rcases je e with⟨q,e⟩|⟨q,e⟩
   .show absurd g (uD λr=>nomatch (q▸d).symm.trans r)
   .show c6 b e
 .let(c,d):=bp.mp T;let(p,o,i,C,uH,c6):=hF.vJ x c d;refine yh I g d uH λh' vB f=>h _ (kX.same (.inr<|aC x d<|.inl GJ) f) (H.same p o f) ((bt J M<|aC m' (D.sameBut f<|aE i)<|λy b k e=>?_),λy u t=>?_,hF.inj)
  .rcases je e with⟨q,e⟩|⟨q,e⟩
   .show nomatch (q▸k).symm.trans g
   .show G y b k e
  .by_cases q:y=x
   .rw[q] at t;rw[<-ax (d.symm.trans t)];show ek p o i (aC (Y v) vB<|λb e=>(je e).elim (λr=>(aC v rfl<|r.2▸S)) λr=>absurd q r.1)
   .let(d1,d2,d3,w',hw,d6):=hF.vJ y u t;let de:u≠c:=λz=>q<|hF.inj y x u t<|z▸d;show ek d1 d2 d3 (aC w' (hw.sameBut f de)<|λb e=>(je e).elim (λr=>absurd r.1 q) λr=>d6 b r.2)
def As(Z:Bs)(n:Nat)(E:Env)(t:Expr)(a:AV)(O:bf)(m:Loc)(Q:bf->Loc->Prop):=
 ∀U s A v,fV n A->St Z U O s->cb U O E m s->cH U a v->aN (~~~Z) A (CA t E v) (λ_ c=>AG Z E U O s Q c) mj s
def ο(Z:Bs)(n:Nat)(E:Env)(a:List Expr)(as:List AV)(O:bf)(m:Loc)(Q:bf->Loc->Prop):=
 ∀U s A vs,fV n A->St Z U O s->cb U O E m s->ck U as vs->aN (~~~Z) A (qi ((pK a E).map (·.2)) vs) (λ_ c=>AG Z E U O s Q c) mj s
def eF(E:Env)(x:Str):=AK E x&&((E.cells.lookup x).isNone||not (E.kindOf x==Y .local))
def lO(h:eF E x=L):AK E x=L/\(E.cells.lookup x≠R->E.kindOf x≠Y .local):=by let(J,M):=ba.mp h;show(J,λp q=>(ma.mp M).elim (λr=>p<|l4.mp r) λr=>by rw[q] at r;show nomatch r)
def bindVar(T:eF E x=L)(h:Q O ((x,a)::m))(H:St Z U O s)(e:cb U O E m s)(S:cH U a v):aN (~~~Z) A (BJ E x v) (λ_ c=>AG Z E U O s Q c) mj s:=
 wpAny_bindName (AL H e (lO T).1 S (lO T).2 λc g d f=>(U,O,_,g,d,f,h))
def vO(T:eF E x=L)(h:Q O ((x,a)::m)):As Z n E (.Name x pos) a O m Q:=λU s A v d H c S=>by show aN _ _ (do cN pos;BJ E x v) _ _ _;show af<|aR<|bindVar T h H c S
def OB(h:Q O m):ο Z n E [] [] O m Q:=λU s A vs _ H a S=>by let rfl:vs=[]:=S.vE;show aj (U,O,m,bV.refl.b,H,a,h)
def cn(e:Expr):=not (gX e.ctorIdx 22)
def mE(h:cn t=L):pK (t::a) E=(au,CA t E)::pK a E:=by
 let K:∀{z},L=L->z=z:=fun{z:List (Bool×(Value->Sem Unit))} _=>rfl
 revert h
 refine fF t ?_ ?_ ?_ ?_ ?_ ?_ ?_ ?_ ?_ ?_ ?_ ?_ ?_ ?_ ?_ ?_ ?_ ?_ ?_ ?_ ?_ ?_ ?_ ?_ ?_ ?_ ?_<;>first|exact λ_ _=>K|exact λ_ _ _=>K|exact λ_ _ _ _=>K|exact λ_ _ _ _ _=>K|exact λ_ _ h=>(aI h).elim
def EJ(u:cn t=L)(h:As Z n E t a O m λj f=>ο Z n E d as j f Q):ο Z n E (t::d) (a::as) O m Q:=λU s A vs g H y S=>by
 let(v,c,rfl,J,M):=S.vE;rw[mE u];show aN _ _ (do eD c (CA t E v);qi ((pK d E).map (·.2)) c) _ _ _
 refine af (aJ<|Ko (h U s A v g H y J) λ_ o C j f i z k q=>?_);show aG (q C o A c g z k<|M.mono i.bC) (λ_ _ p=>p.after i) λ_ _ e=>e
def EK(a:List Expr):(pK a E).length=a.length:=by
 induction a with|nil=>rfl|cons t a c=>refine fF t ?_ ?_ ?_ ?_ ?_ ?_ ?_ ?_ ?_ ?_ ?_ ?_ ?_ ?_ ?_ ?_ ?_ ?_ ?_ ?_ ?_ ?_ ?_ ?_ ?_ ?_ ?_<;>intros<;>exact congrArg Me c
def Ks(o:(c.all cn)=L)(g:l.length=c.length)(h:ο Z n E c l O m Q):As Z n E (.Tuple c k pos) (.tup l) O m Q:=λU s A v i H z S=>by
 let(a,aH,G,rfl,u,d):=S.vF;let j:=d.length;let y:s.heap.IsTuple a aH:=(_,(H.bC _ _ u).1,rfl,_,rfl);refine wpAny_assign_Tuple i.handled y ?_ ?_ λC T=>?_
 .rw[EK,Oh,<-j];show g.symm
 .rw[iY];clear h g d j;induction c with
  |nil=>show λx T=>nomatch T
  |cons t c q=>
   let(J,M):=ba.mp o;rw[mE J];show ez.mpr (rfl,q M)
 .let f:=AJ T;refine aG (h U (s<*C) A aH.toList i (H.keeps f s.toks) (z.grow<|bV.keeps f s.toks) d) (λ_ D p=>p.after (bV.keeps f s.toks).b) λ_ _ e=>e
def CZ:exec (.Assign a v pos) E=(do
  cN pos
  if<-ue a v pos.line E then do
   yi v E λv=>assignAll v ((pK a E).map (·.2))
   pure .next
  else do
   let x<-eval v E
   assignStores E x (<-kH a v E) ((pK a E).map (·.2))):=rfl
def Qf(J:ue [t] v pos.line E=pure au)(M:kH [t] v E=pure R)(p:cn t=L)(h:Ev Z n E v O m λa i=>As Z n E t a i m λd c=>Q .next d c):xo Z n E (.Assign [t] v pos) O m Q:=λU s A e H f=>by rw[CZ,J,M,mE p];refine af<|aR<|af<|aj ?_;show aN _ _ (eval v E>>=_) _ _ _;refine af (fw (h U s A e H f) λu k G a i g C o q=>?_);refine af<|aj ?_;show aN _ _ (do CA t E u;pure vh) _ _ _;refine af (Ko (q G k A u e C (f.grow g) o) λ_ I D d c y z j r=>?_);show aj (D,.next,d,c,g.b.trans y,z,j,trivial,r)
def GX(J:ue [.Tuple C k tp] v pos.line E=pure au)(M:kH [.Tuple C k tp] v E=pure (Y [x,y]))(T:eF E x=L)(D:eF E y=L)(h:Ev Z n E v O m λa t=>∃b c,a=.tup [b,c]/\Q .next t ((x,b)::(y,c)::m)):xo Z n E (.Assign [.Tuple C k tp] v pos) O m Q:=λU s A G H I=>by
 rw[CZ,J,M];refine af<|aR<|af<|aj ?_;show aN _ _ (eval v E>>=_) _ _ _;refine af (fw (h U s A G H I) λu f U1 a t g1 eg hu rh=>?_);let(b,c,ha,q):=rh;subst ha;refine af<|aj ?_
 show aN _ _ (do
  rule "assign.swapped-stores"
  let aH<-DB u [x,y].length R
  qi ([x,y].reverse.map λn=>BJ E n) aH.reverse
  pure vh) _ _ _
 refine af<|mW ?_;let(d,aH,k',rfl,hU,g):=hu.vF;let hT:f.heap.IsTuple d aH:=(_,(eg.bC _ _ hU).1,rfl,_,rfl);let(j,_,e1,hb,g):=g.vE;let(vc,_,e2,hc,g):=g.vE;rw[show _=[] from g.vE] at e2;rw[e2] at e1;let BS:=wpAny_unpackItems_tuple (prog:=Z.prog) (w:=Z.w) (A:=A) (E:=mj) (Q:=λvs s'=>vs=aH.toList/\∃i,(∀b o,f.heap.get? b=Y o->i.get? b=Y o)/\s'=(f<*i)) G.handled hT (λi T=>(rfl,(aC i (AJ T) rfl)));rw[Oh,e1] at BS;refine af (aG BS (λvs s2 hq=>?_) λ_ _ e=>e);let(z,i,p,W6):=hq;rw[z,W6];let fY:=eg.keeps p f.toks;let zK:=(I.grow g1).grow (bV.keeps p f.toks);calc af;
 show aN _ _ (do
  eD [j] (do eD [vc] Gz;yU E y vc;Gz)
  (do eD [] (do eD [j] Gz;yU E x j;Gz);pure cF)) _ _ _
 refine af (aJ<|af<|aJ<|nk<|af<|AL fY zK (lO D).1 hc (lO D).2 λs3 g3 oZ BU=>nk ?_);refine af (aJ<|af<|aJ<|nk<|af<|AL oZ BU (lO T).1 hb (lO T).2 λs4 g4 EH Zy=>nk ?_);show aj<|aj (U1,.next,t,_,(g1.trans<|bV.keeps p f.toks).b.trans (g3.trans g4),EH,Zy,trivial,q)
end
section
set_option backward.match.sparseCases false
variable{Z:Bs}{n:Nat}{E:Env}{O:bf}{m:Loc}
def Cl(Z:Bs)(n:Nat)(f:Value)(args:List AV)(a:List (Str×AV))(O:bf)(Q:AV->bf->Prop):=
 ∀U s A vs bJ,fV n A->St Z U O s->ck U args vs->bJ.map (·.1)=a.map (·.1)->ck U (a.map (·.2)) (bJ.map (·.2))->
  aN (~~~Z) A (call f vs bJ) (dh Z U O s Q) mj s
abbrev Sm:Value->Bool
 |.builtin _=>L
 |.type _=>L
 |_=>au
def kK(K:wi)(f:Value):=Sm f||keepIn K f
def GY(h:Sm f=L):keeperOf f=pure .machine:=by cases f<;>first|rfl|exact nomatch h
def IG{K:wi}(a:kK K f=L)(h:oX)(ay:K.In h):∃k,(k=Keeper.frame\/k=Keeper.machine\/k=Keeper.boundFrame)/\Looks h2 h (keeperOf f) k:=
 (ma.mp a).elim (λe=>(aC (.machine) (.inr<|.inl rfl)<|GY e▸.now)) λe=>keeps_K e h ay
section
variable{A:iJ}{az:Value->aZ->Prop}{s:aZ}
def nM(k:args.any (·.1)=au)(g:a.all (·.1.isSome)=L)(h:aN h2 A (spliced args) (λvs i=>aN h2 A (evalAll (a.map (·.2))) (λks j=>Q (vs,(a.filterMap (·.1)).zip ks) j) az i) az s):aN h2 A (evalArgs f L args a) Q az s:=by
 induction args using bB with
 |nil=>show evalArgs_kw_nil g λd p c=>h d p c d p c
 |cons x e=>
  let(b,t):=x
  induction b with|true=>simp at k|false=>show evalArgs_kw g h
def nQ{K:wi}(g:kK K f=L)(i:args.any (·.1)=au)(d:a.all (·.1.isSome)=L)(h:aN h2 A (evalArgs f L args a) (λx c=>K.In c.heap/\aN h2 A (call f (first++x.pos) x.kw) Q az c) az s):aN h2 A (callWith pos f first args a) Q az s:=
 callWith_of (by rw[i,Bool.false_or,tK];show λy e q=>nomatch (l4.mp q▸ct.mp d y e:(R:Option Str).isSome=L)) (IG g) h
end
def Qg(Z:Bs)(n:Nat)(E:Env)(es:List Expr)(O:bf)(m:Loc)(Q:List AV->bf->Prop):=
 ∀U s A pos,fV n A->St Z U O s->cb U O E m s->aN (~~~Z) A (spliced<|uf pos<|kz es E) (Ox Z U O s Q) mj s
def IH(h:Q [] O):Qg Z n E [] O m Q:=λU s A pos a H c=>spliced_nil (U,[],O,.refl,H,.nil,h)
def tW(h:cn e=L):kz (e::es) E=(au,eval e E)::kz es E:=by
 let K:∀{z:List (Bool×Sem Value)},L=L->z=z:=λ_=>rfl
 revert h
 refine fF e ?_ ?_ ?_ ?_ ?_ ?_ ?_ ?_ ?_ ?_ ?_ ?_ ?_ ?_ ?_ ?_ ?_ ?_ ?_ ?_ ?_ ?_ ?_ ?_ ?_ ?_ ?_<;>first|exact λ_ _=>K|exact λ_ _ _=>K|exact λ_ _ _ _=>K|exact λ_ _ _ _ _=>K|exact λ_ _ h=>(aI h).elim
def Ku(p:cn e=L)(h:Ev Z n E e O m λa i=>Qg Z n E es i m λas c=>Q (a::as) c):Qg Z n E (e::es) O m Q:=λU s A pos d H hF=>by rw[tW p];refine spliced_cons (fw (h U s A d H hF) λu j z a i g t o J=>?_);show aG (J z j A pos d t<|hF.grow g) (λvs C v=>by let(y,as,c,f,q,k,M):=v;show(y,a::as,c,g.trans f,q,.cons (o.mono f.bC) k,M)) λ_ _ e=>e
def eV(h:es.all cn=L)(pos:Pos):(uf pos<|kz es E).any (·.1)=au:=by
 induction es with
 |nil=>rfl
 |cons e es a=>
  simp only[ug,bW] at h;rw[tW h.1];show(au||(uf pos<|kz es E).any (·.1))=au
  rw[a h.2];rfl
def VZ(Z:Bs)(n:Nat)(E:Env)(ks:List qj)(O:bf)(m:Loc)(Q:List AV->bf->Prop):=
 ∀U s A pos,fV n A->St Z U O s->cb U O E m s->aN (~~~Z) A (evalAll ((qG pos<|j6 ks E).map (·.2))) (Ox Z U O s Q) mj s
def Ec(h:Q [] O):VZ Z n E [] O m Q:=λU s A pos a H c=>tL (U,[],O,.refl,H,.nil,h)
def Sn(h:Ev Z n E e O m λa i=>VZ Z n E es i m λas c=>Q (a::as) c):VZ Z n E ((x,e,p)::es) O m Q:=λU s A pos d H hF=>by refine wpAny_evalAll_cons (x:=do let v<-eval e E;cN pos;pure v) (af<|fw (h U s A d H hF) λu j C a i g t o J=>?_);refine af<|aR<|aj ?_;show aG (J C j A pos d t<|hF.grow g) (λvs D y=>by let(z,as,c,f,q,k,M):=y;show(z,a::as,c,g.trans f,q,.cons (o.mono f.bC) k,M)) λ_ _ e=>e
def lP(ks:List qj):=ks.filterMap (·.arg)
def r0(pos:Pos)(ks:List qj):(qG pos<|j6 ks E).filterMap (·.1)=lP ks:=by
 induction ks with
 |nil=>rfl
 |cons k ks a=>
  let(x,e,p):=k
  induction x with|none=>show a|some x=>show congrArg (x::·) a
def eW(pos:Pos)(h:ks.all (·.arg.isSome)=L):(qG pos<|j6 ks E).all (·.1.isSome)=L:=by
 induction ks with
 |nil=>rfl
 |cons k ks a=>
  let(x,e,p):=k;simp only[ug,bW] at h;show(x.isSome&&(qG pos<|j6 ks E).all (·.1.isSome))=L
  rw[a h.2,h.1];rfl
def ck.w_:∀{names:List Str} {as:List AV} {vs:List Value},ck U as vs->((names.zip vs).map (·.1)=(names.zip as).map (·.1))/\ck U ((names.zip as).map (·.2)) ((names.zip vs).map (·.2)):=by
 intro names
 induction names with
 |nil=>show λ_=>(rfl,.nil)
 |cons x names a=>
  intro as vs h;cases h with|nil=>show(rfl,.nil)|cons h c=>show(congrArg (x::·) (a c).1,.cons h (a c).2)
def iZ(e:Expr):=not (gX e.ctorIdx 20)
def yI(a:iZ f=L):eval (.Call f args c pos) E=(do callWith pos (<-eval f E) [] (uf pos<|kz args E) (qG pos<|j6 c E)):=by
 let K:∀{z:Sem Value},L=L->z=z:=λ_=>rfl
 revert a
 refine fF f ?_ ?_ ?_ ?_ ?_ ?_ ?_ ?_ ?_ ?_ ?_ ?_ ?_ ?_ ?_ ?_ ?_ ?_ ?_ ?_ ?_ ?_ ?_ ?_ ?_ ?_ ?_<;>first|exact λ_ _=>K|exact λ_ _ _=>K|exact λ_ _ _ _=>K|exact λ_ _ _ _ _=>K|exact λ_ _ _ h=>(aI h).elim
def OC(hf:iZ f=L)(q:args.all cn=L)(o:d.all (·.arg.isSome)=L)(h:Ev Z n E f O m λfv z=>∃g,fv=.raw g/\kK Z.K g=L/\Qg Z n E args z m λas y=>VZ Z n E d y m λks k=>Cl Z n g as ((lP d).zip ks) k Q):Ev Z n E (.Call f args d pos) O m Q:=λU s A c H hF=>by rw[yI hf];refine af (fw (h U s A c H hF) λu s1 U1 a z i eg hu rh=>?_);let(g,hg,So,J):=rh;subst hg;let rfl:=hu.bU;refine nQ (K:=Z.K) So (eV q pos) (eW pos o)<|nM (eV q pos) (eW pos o) ?_;refine Qc (J U1 s1 A pos c eg<|hF.grow i) λvs T U2 as y v fY ri M=>aG (M U2 T A pos c fY<|(hF.grow i).grow v) (λbJ I G=>?_) λ_ _ e=>e;let(U3,ks,k,t,j,Sq,h3):=G;refine(j.wC,?_);rw[r0];let(D,C):=Sq.w_ (names:=lP d);show aG (h3 U3 I A vs _ c j (ri.mono t.bC) D C) (λ_ _ p=>((p.after t).after v).after i) λ_ _ e=>e
def J5(Z:Bs)(O:bf)(c:AV)(name:Str)(f:Value):=
 ∀U s A v a (Q:Value×List Value->aZ->Prop) (az:Value->aZ->Prop),St Z U O s->cH U c v->Q (f,[v]) s->aN (~~~Z) A (getMethod v name a) Q az s
abbrev kG:Expr->Bool
 |.Call f as ks _=> not (gX f.ctorIdx 23&&(as.isEmpty&&ks.isEmpty))
 |_=>L
def l5(h:kG o=L)(name:Str)(t:Sem Value):uh o name E t=t:=by
 let K:L=L->t=t:=λ_=>rfl
 revert h
 refine fF o ?_ ?_ ?_ ?_ ?_ ?_ ?_ ?_ ?_ ?_ ?_ ?_ ?_ ?_ ?_ ?_ ?_ ?_ ?_ ?_ ?_ ?_ ?_ ?_ ?_ ?_ ?_<;>first|exact λ_ _=>K|exact λ_ _ _=>K|exact λ_ _ _ _=>K|exact λ_ _ _ _ _=>K|skip
 intro f as ks p;refine fF f ?_ ?_ ?_ ?_ ?_ ?_ ?_ ?_ ?_ ?_ ?_ ?_ ?_ ?_ ?_ ?_ ?_ ?_ ?_ ?_ ?_ ?_ ?_ ?_ ?_ ?_ ?_<;>first|exact λ_ _=>K|exact λ_ _ _=>K|exact λ_ _ _ _=>K|exact λ_ _ _ _ _=>K|exact λ_ _=>bB as (bB ks (λh=>(aI h).elim) λ_ _=>K) λ_ _=>K
def OD(hb:kG o=L)(j:args.all cn=L)(i:a.all (·.arg.isSome)=L)(EL:args.length+a.length+1<30)(hl:(f.endLine==pos.line)=L)(h:Ev Z n E o O m λc v=>∃g,J5 Z v c name g/\kK Z.K g=L/\Qg Z n E args v m λas I=>VZ Z n E a I m λks C=>Cl Z n g (c::as) ((lP a).zip ks) C Q):Ev Z n E (.Call (.Attribute o name f) args a pos) O m Q:=λU s A d H hF=>by
 show aN _ _ (do
  let c<-uh o name E (eval o E)
  cN f.atName
  methodCall o name f pos E c (args.length+a.length) (uf pos<|kz args E) (qG pos<|j6 a E)) _ _ _
 rw[l5 hb];refine af (fw (h U s A d H hF) λu y U1 c v t G D rh=>?_);let(g,hg,So,J):=rh;refine af<|aR ?_
 let Sr:sJ (args.length+a.length) (uf pos<|kz args E) (qG pos<|j6 a E)=L:=by
  delta sJ
  rw[eW pos i]
  let J:(uf pos<|kz args E).all (λx=> not x.1)=L:=by rw[ct];intro x T;have:=tK.mp (eV (E:=E) j pos) x T;simpa using this
  rw[J];simp only[zC,decide_eq_true_eq];split<;>(first|exact aeI EL|exact EL)
 delta methodCall
 rw[Sr];refine af<|aJ ?_
 delta calleeOf
 rw[bj rfl];calc hg U1 y A u _ _ _ G D;let rx:ui L o E f pos=pure pos:=by delta ui;simp[hl]
 refine af<|fU rx ?_;refine nQ (K:=Z.K) So (eV j pos) (eW pos i)<|nM (eV j pos) (eW pos i) ?_;refine Qc (J U1 y A pos d G<|hF.grow t) λvs s2 U2 as I q fY ri M=>aG (M U2 s2 A pos d fY<|(hF.grow t).grow q) (λbJ s3 xp=>?_) λ_ _ e=>e;let(U3,ks,C,k,z,Sq,h3):=xp;refine(z.wC,?_);rw[r0];let(z1,z2):=Sq.w_ (names:=lP a);show aG (h3 U3 s3 A (u::vs) _ d z (.cons ((D.mono q.bC).mono k.bC)<|ri.mono k.bC) z1 z2) (λ_ _ p=>((p.after k).after q).after t) λ_ _ e=>e
def ry(e:Expr):=not (Es 8 e.ctorIdx&&Es e.ctorIdx 10)
def xq(a:ry e=L):kI e o k E=pure au:=by
 let K:L=L->(pure au:Sem Bool)=pure au:=λ_=>rfl
 revert a
 refine fF e ?_ ?_ ?_ ?_ ?_ ?_ ?_ ?_ ?_ ?_ ?_ ?_ ?_ ?_ ?_ ?_ ?_ ?_ ?_ ?_ ?_ ?_ ?_ ?_ ?_ ?_ ?_<;>first|exact λ_ _=>K|exact λ_ _ _=>K|exact λ_ _ _ _=>K|exact λ_ _ _ _ _=>K|exact λ_ _ _ _ h=>(aI h).elim|exact λ_ _ _ _ _ h=>(aI h).elim
def W8(g:interactive E=au)(i:ry e=L)(h:Ev Z n E e O m λ_ c=>Q .next c m):xo Z n E (.Expr e pos) O m Q:=λU s A j H d=>by
 show aN _ _ (do
  cN pos
  if interactive E then printExpr (eval e E)
  else if<-kI e R pos.line E then do yi e E λ_=>Gz;pure .next
  else do dropValue e pos (<-eval e E)) _ _ _
 refine af<|aR ?_;rw[g];show aN _ _ (do if<-kI e R pos.line E then do yi e E λ_=>Gz;pure .next else do dropValue e pos (<-eval e E)) _ _ _;refine af<|fU (xq i) ?_;refine af (fw (h U s A j H d) λu p o a c f k q J=>?_);show wpAny_dropValue (o,.next,c,m,f.b,k,d.grow f,trivial,J)
def Kv(H:St Z U O s)(S:ck U as vs)(hz:as.length<=1000)(h:Q (.tup as) O):aN (~~~Z) A (newTuple vs) (dh Z U O s Q) mj s:=by
 let a:vs.length<=oy:=by rw[<-S.length,dw];show ģ hz
 refine cR ?_ (by show vs.toArray.size<=oy;rw[tN];show a);refine(mP U ↥s _,.tup as,O,bV.EI H s.toks,H.EI () s.toks,.tup (aH:=vs.toArray) (n:=0) ?_ ?_,h)
 .simp[mP]
 .show S.mono<|pY H.bY.1
def Su(f:es.length<=1000)(h:Qg Z n E es O m λas c=>as.length=es.length/\Q (.tup as) c):Ev Z n E (.Tuple es k pos) O m Q:=λU s A g H i=>by refine Tuple_ (Qc (h U s A pos g H i) λvs q t as c j o d a=>?_);show aG (Kv o d (k_ a.1 f) a.2) (λ_ _ p=>p.after j) λ_ _ e=>e
def Kw(H:St Z U O s)(S:ck U as vs)(hz:as.length<=1000)(h:∀a,O a=R->Q (!a) (aB O a<|.list as)):aN (~~~Z) A (newList vs) (dh Z U O s Q) mj s:=by
 let c:vs.length<=oy:=by rw[<-S.length,dw];show ģ hz
 refine cR ?_ (by show vs.toArray.size<=oy;rw[tN];show c);show(U,.ref ↥s,aB O ↥s (.list as),bV.j9 s.toks,H.j9 (g:=.list as) () (show kl Z.prog Z.w U (.list as) _ from(vs.toArray,0,rfl,S)) s.toks,.raw _,h _ H.bY.2)
def W9(g:es.length<=1000)(h:Qg Z n E es O m λas c=>as.length=es.length/\∀a,c a=R->Q (!a) (aB c a<|.list as)):Ev Z n E (.List es pos) O m Q:=λU s A i H j=>by refine List_ (Qc (h U s A pos i H j) λvs q t as c k o f d=>?_);show aG (Kw o f (k_ d.1 g) d.2) (λ_ _ p=>p.after k) λ_ _ e=>e
def Ed(Z:Bs)(n:Nat)(o i:AV)(O:bf)(Q:AV->bf->Prop):=
 ∀U s A u v,fV n A->St Z U O s->cH U o u->cH U i v->(∃hx id,Ak (.type hx) "__getitem__"=pure (Y<|.builtin id)/\s.TypeIs u hx)/\aN (~~~Z) A (Et u v) (dh Z U O s Q) mj s
abbrev jt:Expr->Bool
 |.Slice _ _ R _=>au
 |_=>L
def AM(h:jt a=L)(o i:Value):subscripted a au o i=BH [o,i] (Et o i):=by
 let K:L=L->BH [o,i] (Et o i)=BH [o,i] (Et o i):=λ_=>rfl
 revert h
 refine fF a ?_ ?_ ?_ ?_ ?_ ?_ ?_ ?_ ?_ ?_ ?_ ?_ ?_ ?_ ?_ ?_ ?_ ?_ ?_ ?_ ?_ ?_ ?_ ?_ ?_ ?_ ?_<;>first|exact λ_ _=>K|exact λ_ _ _=>K|exact λ_ _ _ _=>K|exact λ_ _ _ _ _=>K|exact λ_ _ s _=>GA s (λh=>(aI h).elim) λ_=>K
def EM(c:jt i=L)(u v a:Value):augStore i u v a=(do eD [a,u,v] (setItem u v a);release [a,u,v] [];pure .next):=by
 let K:∀{z:Sem Flow},L=L->z=z:=λ_=>rfl
 revert c
 refine fF i ?_ ?_ ?_ ?_ ?_ ?_ ?_ ?_ ?_ ?_ ?_ ?_ ?_ ?_ ?_ ?_ ?_ ?_ ?_ ?_ ?_ ?_ ?_ ?_ ?_ ?_ ?_<;>first|exact λ_ _=>K|exact λ_ _ _=>K|exact λ_ _ _ _=>K|exact λ_ _ _ _ _=>K|exact λ_ _ s _=>GA s (λh=>(aI h).elim) λ_=>K
def II(C:jt i=L)(h:Ev Z n E o O m λa k=>Ev Z n E i k m λb j=>Ed Z n a b j Q):Ev Z n E (.Subscript o i pos) O m Q:=λU s A d H hF=>by
 show aN _ _ (do
  let c<-eval o E
  let y<-eD [c] (eval i E)
  cN pos
  let r<-subscripted i (<-getitemInPython c) c y
  sM o c r
  pure r) _ _ _
 refine af (fw (h U s A d H hF) λu t U1 a k g eg z J=>?_);refine af (aJ<|fw (J U1 t A d eg<|hF.grow g) λv q U2 b j f T S M=>?_);refine af<|aR ?_;let((hx,id,D,G),I):=M U2 q A u v d T (z.mono f.bC) S;calc af;
 delta getitemInPython
 refine af<|kA G D ?_;calc aj;rw[AM C];refine af (ja<|aG I (λr s3 p=>?_) λ_ _ e=>e);show af<|yj<|aj<|(p.after f).after g
def IJ(Z:Bs)(n:Nat)(o i x:AV)(O:bf)(Q:bf->Prop):=
 ∀U s A u v y,fV n A->St Z U O s->cH U o u->cH U i v->cH U x y->aN (~~~Z) A (setItem u v y) (λ_ a=>CW Z U O s Q a) mj s
def IK(h:Ev Z n E o O m λb p=>Ev Z n E i p m λc k=>IJ Z n b c a k λd=>Q d m):As Z n E (.Subscript o i pos) a O m Q:=λU s A y e H hF C=>by rw[arm_assign_Subscript];refine af (aJ<|fw (h U s A e H hF) λu t U1 b p g eg D J=>?_);refine af (aJ<|fw (J U1 t A e eg<|hF.grow g) λv q U2 c k f T S M=>?_);refine af (aR<|af<|aJ<|q? (M U2 q A u v y e T (D.mono f.bC) S<|(C.mono g.bC).mono f.bC) λ_ s3 U3 d I z G=>?_);let j:=(g.trans f).trans I;show zF (U3,d,m,j.b,z,hF.grow j,G)
def RJ(Z:Bs)(n:Nat)(op:sI)(a b:AV)(O:bf)(Q:AV->bf->Prop):=
 ∀U s A u v,fV n A->St Z U O s->cH U a u->cH U b v->aN (~~~Z) A (inplaceOp op u v) (dh Z U O s Q) mj s
def Xa(h:Q ⇑(a+b) O):RJ Z n .Add ⇑a ⇑b O Q:=λU s A u v _ H c S=>by let(t,rfl):=c.int_inv;let(t',rfl):=S.int_inv;show PySem.P.iadd_int<|dh.toks H (.int _ _) h _
def Xb(h:Q ⇑(a-b) O):RJ Z n .Sub ⇑a ⇑b O Q:=λU s A u v _ H c S=>by let(t,rfl):=c.int_inv;let(t',rfl):=S.int_inv;show PySem.P.isub_int<|dh.toks H (.int _ _) h _
def Qh(hs:jt i=L)(h:Ev Z n E o O m λa bh=>Ev Z n E i bh m λb bu=>Ed Z n a b bu λg G=>Ev Z n E e G m λc D=>RJ Z n op g c D λnew IL=>IJ Z n a b new IL λz=>Q .next z m):xo Z n E (.AugAssign (.Subscript o i C) op e pos) O m Q:=λU s A k H hF=>by
 show aN _ _ (do
  cN pos
  let p<-eval o E
  let q<-eD [p] (eval i E)
  let new<-eD [p,q] do
   cN C
   let g<-Et p q
   let v<-eD [g] (eval e E)
   cN pos
   BH [g,v] (inplaceOp op g v)
  cN C
  augStore i p q new) _ _ _
 refine af<|aR ?_;refine af (fw (h U s A k H hF) λu s1 U1 a bh y eg hu J=>?_);refine af (aJ<|fw (J U1 s1 A k eg<|hF.grow y) λv s2 U2 b bu t fY S M=>?_);let V0:=hu.mono t.bC;refine af (aJ<|af<|aR<|af<|aG (M U2 s2 A u v k fY V0 S).2 (λg s3 xp=>?_) λ_ _ e=>e);let(U3,c,G,g3,oZ,hc,h3):=xp;refine af (aJ<|fw (h3 U3 s3 A k oZ<|hF.grow<|(y.trans t).trans g3) λx s4 U4 d D g4 EH T h4=>?_);refine af (aR<|ja<|fw (h4 U4 s4 A g x k EH (hc.mono g4.bC) T) λnw s5 U5 f IL g5 Ms ó h5=>?_);let j:=(g3.trans g4).trans g5;refine af<|aR ?_;rw[EM hs];refine af (aJ<|q? (h5 U5 s5 A u v nw k Ms (V0.mono j.bC) (S.mono j.bC) ó) λ_ s6 U6 z g6 w! h6=>?_);let I:=((y.trans t).trans j).trans g6;show af<|zF<|aj (U6,.next,z,m,I.b,w!,hF.grow I,trivial,h6)
def MS(T:isVar E x=L)(z:eF E x=L)(hm:m.lookup x=Y a)(h:Ev Z n E e O m λc t=>RJ Z n op a c t λnew q=>Q .next q ((x,new)::m)):xo Z n E (.AugAssign (.Name x j) op e pos) O m Q:=λU s A k H i=>by
 show aN _ _ (do
  cN j
  let d<-loadName E x
  let v<-eD [d] (eval e E)
  cN pos
  let new<-BH [d,v] (inplaceOp op d v)
  cN j
  BJ E x new
  pure vh) _ _ _
 refine af (aR<|af<|Oz i T hm λd g=>?_);refine af (aJ<|fw (h U s A k H i) λv y U1 c t p eg S J=>?_);refine af (aR<|af<|ja<|fw (J U1 y A d v k eg (g.mono p.bC) S) λnw s2 U2 f q g2 fY u M=>?_);refine af<|aR ?_;let o:=p.trans g2;refine af (Ko (bindVar (Z:=Z) (A:=A) (Q:=λbq G=>Q .next bq G) z M fY (i.grow o) u) λ_ s3 U3 I D g3 C BU h3=>?_);show aj (U3,.next,I,D,o.b.trans g3,C,BU,trivial,h3)
end
section
variable{Z:Bs}{n:Nat}{O:bf}{m:Loc}
abbrev m7:Fl->AV
 |.ret a=>a
 |_=>.none
inductive Kx(U:Fz):Loc->List (Str×Value)->Prop where
 |nil:Kx U [] []
 |cons {x:Str} {a:AV} {v:Value} {m:Loc} {b:List (Str×Value)}:cH U a v->Kx U m b->Kx U ((x,a)::m) ((x,v)::b)
def Kx.lookup(h:Kx U m b)(e:m.lookup x=Y a):∃v,b.lookup x=Y v/\cH U a v:=by
 induction h with
 |nil=>cases e
 | @cons y c v m b S _ d=>
  simp only[cq] at e⊢
  induction f:x==y with|true=>rw[f] at e;simp only[tO] at e;clear d;subst e;show(aC v rfl S)|false=>rw[f] at e;show d e
def Binds(Z:Bs)(fd:qH)(args:List AV)(a:List (Str×AV))(m₀:Loc):=
 ∀U s vs bJ,Z.K.In s.heap->ck U args vs->bJ.map (·.1)=a.map (·.1)->ck U (a.map (·.2)) (bJ.map (·.2))->
  ∃binds,BindsTo s fd (vs,bJ) binds/\Kx U m₀ binds.reverse
def plainDef(fd:qH):=fd.scope.isCoroutine==au&&fd.scope.isGenerator==au&&fd.scope.kind==.function&&fd.closure.isEmpty&&fd.scope.names.all λx=> not (x.2==.cell)
def r4(fd:qH)(m₀:Loc):=m₀.all λx=>fd.scope.names.lookup x.1==Y .local
def Kx.names(h:Kx U m b):∀x∈b,∃y∈m,y.1=x.1:=by
 induction h with
 |nil=>intro x T;cases T
 |cons S _ a=>
  intro x T;rcases aS.mp T with rfl|T
  .show aC _ (.head _) rfl
  .let(y,c,e):=a x T;show aC y (.tail _ c) e
abbrev ajB:Flow->Value
 |.ret v=>v
 |_=>.none
def EN(g0:bV U O s U O v)(y:U ak=R/\O ak=R/\∀o,s.heap.get? ak≠Y o)(u:∀x c,E.cells.lookup x=Y c->∀o,s.heap.get? c≠Y o)(t:E.locals=ak)(g:kX E U O v j d s')(H:St Z j d s')(k:Oy j i f)(h:Q (m7 i) d):dh Z U O s Q (ajB f) s':=by
 refine(j,m7 i,d,(λa o e=>g.bC a o<|g0.bC a o e,λa o J M z=>?_,g.os.trans g0.os),H,?_,h)
 .let(p,q,r):=g0.keep a o J M z;refine g.keep a o (λT=>?_) p q r;rcases T with T|⟨x,T⟩
  .show y.2.2 o (by rw[<-t,<-T];show J)
  .show u x a T.1 o J
 .clear d Q g H h;cases i<;>cases f<;>first|exact k.elim|exact .raw _|exact k
def OE(ho:Z.K.lookup f=Y (oc,od,.func fd,osl))(wD:CB Z.K fd.code fd.qualname=L)(uI:fd.body=.stmts body)(D:plainDef fd=L)(hb:Binds Z fd args z m₀)(hn:r4 fd m₀=L)(h:∀ak,Ex Z n (k6 fd ak f) body O m₀ λk bq _=>Q (m7 k) bq):∀U s A vs bJ,fV (n+1) A->St Z U O s->ck U args vs->bJ.map (·.1)=z.map (·.1)->ck U (z.map (·.2)) (bJ.map (·.2))->codeAny (~~~Z) A (.call (!f) (vs,bJ)) (λr j=>match r with|.ok (.ret v)=>dh Z U O s Q v j|.ok _=>False|.error e=>mj e j) s:=λU s A vs bJ G H S kY lY=>by
 let(binds,Sw,u):=hb U s vs bJ H.wC S kY lY;simp only[plainDef,bW,beq_iff_eq,CD,ct,fE] at D;let((((WX,Sx),M),Sy),uH):=D
 let x_:∀x∈binds,fd.scope.names.lookup x.1=Y .local:=λx T=>by let(y,hy,e):=u.names x<|gm.mpr T;have:=ct.mp hn y hy;rw[<-e];show beq_iff_eq.mp this
 refine(CF (fd:=fd) (body:=body) (binds:=binds) G.lt (H.wC _ _ ho) rfl H.lim (codeRec_of H.wC wD) uI Sw
  (λx T e=>by have:=uH x T;rw[e] at this;show nomatch this) x_ (λg uC E=>?_) WX Sx M)
 let g0:bV U O s U O {s with heap:=g,toks:=s.toks+binds.length}:=bV.keeps E _;let i:=H.bY;let Xc:∀o,s.heap.get? ↥s≠Y o:=λo e=>absurd (aU e)<|dA _;let p:(k6 fd ↥s f).cells=[]:=by show fd.closure=[];show Sy
 refine MN (h ↥s U _ (A.deeper _) G.deeper (H.keeps E _) ((bt i.1 i.2<|aC _ uC<|λx a T e=>?_),λx c d=>?_,λx y c d=>?_)) λk j U1 Ky bh m1 I J xc t C=>?_
 .let(v,S,hr):=u.lookup e;show aC v S hr
 .rw[p] at d;show nomatch d
 .rw[p] at d;show nomatch d
 .let q:=EN (ak:=↥s) g0 (bt i.1 i.2 Xc) (λx c d=>by rw[p] at d;show nomatch d) rfl I J t C;clear U1 Ky I J xc t C;cases k<;>exact q
def Xd(j:Z.K.lookup f=Y (oc,od,.func fd,osl))(a:CB Z.K fd.code fd.qualname=L)(c:fd.body=.stmts body)(i:plainDef fd=L)(o:Binds Z fd args e m₀)(k:r4 fd m₀=L)(h:∀ak,Ex Z n (k6 fd ak f) body O m₀ λq t _=>Q (m7 q) t):Cl Z (n+1) (!f) args e O Q:=λU s A vs bJ p H S g d=>pL<|OE j a c i o k h U s A vs bJ p H S g d
def IM(fd:qH):=fd.scope.isCoroutine==au&&fd.scope.isGenerator==au&&fd.scope.kind==.function&&fd.closure.isEmpty
def EP(fd:qH)(m₀:Loc):=m₀.all λx=>fd.scope.names.lookup x.1==Y .local||(fd.scope.names.lookup x.1==Y .cell&&((jb 0 fd.scope.names []).lookup x.1).isSome)
def uJ(x:Str):∀(l:List (Str×NameKind)) (k j:Nat) (ie a:List (Str×aW)),((ie.lookup x).isSome=(a.lookup x).isSome)->((jb k l ie).lookup x).isSome=((jb j l a).lookup x).isSome:=by
 intro l
 induction l with
 |nil=>show λ_ _ _ _ h=>h
 |cons d l c=>
  let(y,e):=d;intro k j ie a h;unfold jb;split
  .refine c _ _ _ _ ?_;simp only[cq];cases x==y<;>simp[h]
  .show c _ _ _ _ h
def IP(kindOf:Str->Option NameKind)(x:Str)(T:kindOf x=Y .local):∀(b:List (Str×Value)) (m:Str->Option Value),bindL kindOf b m x=(b.reverse.lookup x).or (m x):=by
 intro b
 induction b with
 |nil=>intro m;simp[bindL]
 |cons a b c=>
  let(y,v):=a;intro m;unfold bindL;rw[c,k7,Al];by_cases e:x=y
  .subst e;rw[bj T];simp[cq]
  .have:(x==y)=au:=beq_eq_false_iff_ne.mpr e;split<;>simp[cq,this,e]
def IQ(kindOf:Str->Option NameKind)(x:Str)(T:kindOf x≠Y .local):∀(b:List (Str×Value)) (m:Str->Option Value),bindC kindOf b m x=(b.reverse.lookup x).or (m x):=by
 intro b
 induction b with
 |nil=>intro m;simp[bindC]
 |cons a b c=>
  let(y,v):=a;intro m;unfold bindC;rw[c,k7,Al];by_cases e:x=y
  .subst e;rw[aK T];simp[cq]
  .have:(x==y)=au:=beq_eq_false_iff_ne.mpr e;split<;>simp[cq,this,e]
def KA(D:Z.K.lookup f=Y (oc,od,.func fd,osl))(wD:CB Z.K fd.code fd.qualname=L)(uI:fd.body=.stmts body)(hp:IM fd=L)(hb:Binds Z fd args kw m₀)(hn:EP fd m₀=L)(GZ:((jb 0 fd.scope.names []).all λx=>fd.scope.names.lookup x.1==Y .cell)=L)(h:∀ak,Ex Z n (mA fd ak f) body O m₀ λG bq _=>Q (m7 G) bq):Cl Z (n+1) (!f) args kw O Q:=λU s A vs bJ hR H S kY lY=>by
 let(binds,Sw,k):=hb U s vs bJ H.wC S kY lY;simp only[IM,bW,beq_iff_eq,CD] at hp;let(((WX,Sx),zm),Sy):=hp
 let Ar:∀x∈binds,fd.scope.names.lookup x.1=Y .local\/(fd.scope.names.lookup x.1=Y .cell/\((jb (↥s+1) fd.scope.names []).lookup x.1).isSome=L):=λx T=>by
  let(y,u,e):=k.names x<|gm.mpr T;have:=ct.mp hn y u;rw[<-e];simp only[qX,bW,beq_iff_eq] at this;rcases this with q|⟨t,p⟩
  .show .inl q
  .show .inr (t,by rw[uJ y.1 fd.scope.names (↥s+1) 0 [] [] rfl];show p)
 refine pL<|codeAny_call_function hR.lt (H.wC _ _ D) rfl WX Sx uI (codeRec_of H.wC wD)<|Sw _ _ _ _ ?_;rw[Sy];refine wpAny_newFunctionEnv_cells zm Ar λI he s1 x=>?_;let w?:I=mA fd ↥s f:=he;clear he;subst w?;let(DH,tk,rfl):=x.toInCall.same;let E:=x.toInCall.keep;refine(H.lim.keeps E,codeAny_func ?_);let g0:bV U O s U O {s with heap:=DH,toks:=tk}:=bV.keeps E _;let i:=H.bY;let Xc:∀o,s.heap.get? ↥s≠Y o:=λo e=>absurd (aU e)<|dA _
 let ES:∀c,↥s<=c->U c=R/\O c=R/\∀o,s.heap.get? c≠Y o:=λc d=>by
  let hn:∀o,s.heap.get? c≠Y o:=λo e=>absurd (aU e)<|jy.mpr d;refine bt ?_ ?_ hn
  .induction q:U c with
   |none=>rfl
   |some o=>show absurd (H.bC _ _ q).1 (hn o)
  .induction q:O c with
   |none=>rfl
   |some g=>let(o,D,_):=H.own _ _ q;show absurd D<|hn o
 let GK:∀y c,(mA fd ↥s f).cells.lookup y=Y c->↥s<c:=λy c d=>x.above y c<|mem_of_lookup d
 let x?:∀y c,(mA fd ↥s f).cells.lookup y=Y c->(mA fd ↥s f).kindOf y≠Y .local:=λy c d e=>by
  let J:((jb (↥s+1) fd.scope.names []).lookup y).isSome=L:=by have:(mA fd ↥s f).cells=jb (↥s+1) fd.scope.names []:=rfl;rw[<-this,d];rfl
  rw[uJ y fd.scope.names _ 0 [] [] rfl] at J;let(c',j):=bp.mp J;have:=ct.mp GZ _<|mem_of_lookup j;let e':fd.scope.names.lookup y=Y .local:=e;rw[e'] at this;cases this
 refine MN (h ↥s U _ (A.deeper _) hR.deeper (H.keeps E _) ((bt i.1 i.2<|aC _ x.toInCall.ns<|λy a u e=>?_),λy c d=>?_,λy z c d j=>?_)) λG s' U1 Ky bh m1 g1 eg xc M hq=>?_
 .let(v,S,C):=k.lookup e;refine aC v ?_ C;rw[IP _ _ u,S];rfl
 .let(t,p,q3):=ES c<|kc<|GK y c d;refine ek t p (kh<|GK y c d) (aC _ (x.cell y c d)<|λa e=>?_);let(v,S,C):=k.lookup e;refine aC v ?_ C;rw[IQ _ _ (x? y c d),S];rfl
 .show name_of_addr x.apart (mem_of_lookup d)<|mem_of_lookup j
 .let q:=EN (ak:=↥s) g0 (bt i.1 i.2 Xc) (λy c d=>(ES c<|kc<|GK y c d).2.2) rfl g1 eg M hq;clear U1 Ky g1 eg xc M hq;cases G<;>exact q
def OF(Z:Bs)(n:Nat)(o:AV)(name:Str)(O:bf)(Q:AV->bf->Prop):=
 ∀U s A v,fV n A->St Z U O s->cH U o v->aN (~~~Z) A (getAttr v name L) (dh Z U O s Q) mj s
def Xe(i:kG o=L)(h:Ev Z n E o O m λa d=>OF Z n a name d Q):Ev Z n E (.Attribute o name pos) O m Q:=λU s A c H j=>by
 show aN _ _ (do
  let x<-uh o name E (eval o E)
  cN pos.atName
  let r<-eD [x] (getAttr x name L)
  sM o x r
  pure r) _ _ _
 rw[l5 i];refine af (fw (h U s A c H j) λu f t a d k q g J=>?_);refine af (aR<|af<|aJ<|aG (J t f A u c q g) (λr v p=>?_) λ_ _ e=>e);show af<|yj<|aj<|p.after k
def lQ(K:wi)(C:aW):=jz K (!C) "__getattribute__"==Y (Y<|.builtin "object.__getattribute__")&&jz K (!C) "__getattr__"==Y R&&(clsIn K C).any (·.hasDict)&&
 jz K (!C) "__setattr__"==Y (Y<|.builtin "object.__setattr__")&&plainOver K C
def kW.find(h:kW w U bJ es)(e:bJ.lookup x=Y a):∃g,es.find? (·.key.isStr x)=Y g/\cH U a g.val:=by
 induction h with
 |nil=>show nomatch e
 | @cons y c v t hh l es S _ f=>
  simp only[cq] at e;rw[qY,show(JY hh (.str y t) v).key.isStr x=(y==x) from rfl]
  induction d:x==y with
  |true=>
   rw[d] at e;simp only[tO] at e;clear f;subst e;have:(y==x)=L:=by rw[beq_iff_eq] at d⊢;show d.symm
   rw[this];show aC _ rfl S
  |false=>
   rw[d] at e;have:(y==x)=au:=by rw[beq_eq_false_iff_ne] at d⊢;show aE d
   rw[this];show f e
def kW.find_none(h:kW w U bJ es)(e:bJ.lookup x=R):es.find? (·.key.isStr x)=R:=by
 induction h with
 |nil=>rfl
 | @cons y c v t hh l es S _ d=>
  simp only[cq] at e;rw[qY,show(JY hh (.str y t) v).key.isStr x=(y==x) from rfl]
  induction a:x==y with
  |true=>rw[a] at e;cases e
  |false=>
   rw[a] at e;have:(y==x)=au:=by rw[beq_eq_false_iff_ne] at a⊢;show aE a
   rw[this];show d e
def kW.noRef(h:kW w U bJ es):es.any (·.refKey)=au:=by
 induction h with|nil=>rfl|cons S _ a=>rw[Hr,a];rfl
def Qi(h:kW w U bJ es.toList)(e:bJ.lookup x=Y a):∃v,lookIn x {cls:=.type "dict",data:=.dict es ep}=Y (Y v)/\cH U a v:=by let(c,J,M):=h.find e;show(aC c.val (by delta lookIn;dsimp only;rw[J]) M)
def xu(h:kW w U bJ es.toList)(e:bJ.lookup x=R):lookIn x {cls:=.type "dict",data:=.dict es ep}=Y R:=by delta lookIn;dsimp only;rw[h.find_none e,h.noRef];rfl
def cH.handed(h:cH U a v)(c:a.plain=L):BI v=L:=by show(vM h c).2
structure Inst(O:bf)(x C dx:aW)(bJ:List (Str×AV)):Prop where
 obj:O x=Y (.raw<|k8 C dx)
 ns:O dx=Y (.ns bJ)
 kind:C≠dx
def St.inst(H:St Z U O s)(I:Inst O x C dx bJ):∃es ep,s.heap.get? dx=Y {cls:=.type "dict",data:=.dict es ep}/\kW Z.w U bJ es.toList/\InstAt s.heap x (k8 C dx) C (Y {cls:=.type "dict",data:=.dict es ep}):=by let(o,J,M):=H.own _ _ I.obj;let M:o=k8 C dx:=M;subst M;let(od,a,es,ep,rfl,c,d):=H.own _ _ I.ns;show fX es ep a c (J,rfl,rfl,a)
def iG(I:Inst O x C t bJ)(e:lQ Z.K C=L)(i:jz Z.K (!C) name=Y R)(j:bJ.lookup name=Y a)(g:a.plain=L)(h:Q a O):OF Z n (!x) name O Q:=λU s A v q H S=>by
 let rfl:=S.bU;let(es,ep,J,M,k):=H.inst I;let(v,S,d):=Qi (ep:=ep) M j;simp only[lQ,bW,beq_iff_eq] at e;let((((p,D),o),z),y):=e;let(u,f,c):=any_some o;refine get_value H.wC k p ?_ (d.handed g)<|dh.toks H d h _
 delta findObj
 rw[f,pM,i,pM];rw[pM,pM]
 delta W.ownOf
 rw[c,bj rfl];dsimp only;rw[S];rfl
def Sz(I:Inst O x C o bJ)(a:lQ Z.K C=L)(e:jz Z.K (!C) name=Y (Y !f))(c:wx Z.K (!f)=Y (.type "function"))(d:bJ.lookup name=R):J5 Z O (!x) name (!f):=λU s A v k Q az H S h=>by
 let rfl:=S.bU;let(es,ep,J,M,g):=H.inst I;simp only[lQ,bW,beq_iff_eq] at a;let((((j,i),t),q),p):=a;refine method_fn H.wC g j i e c ?_ h
 delta shadowIn
 dsimp only;rw[xu M d];rfl
def lz(l:List (Str×AV))(k:Str)(v:AV):=
 if(l.lookup k).isSome then l.map (λx=>if x.1=k then(x.1,v) else x) else l++[(k,v)]
def kW.put(h:kW w U bJ es)(d:(bJ.map (·.1)).Nodup)(S:cH U a v):kW w U (lz bJ x a) (match es.findIdx? (·.key.isStr x) with|some i=>es.modify i λe=>{e with val:=v}|none=>es++[(hh,.str x t,v)]):=by
 delta lz
 induction j:bJ.lookup x with
 |none=>
  let s:=h.find_none j
  have:es.findIdx? (·.key.isStr x)=R:=by rw[iY];intro y A;simpa using(Aj.mp s) y A
  rw[this];clear s this j d
  induction h with|nil=>show .cons S .nil|cons J _ k=>show .cons J k
 |some b=>
  let key:∀(bJ:List (Str×AV)) (es:List rW),kW w U bJ es->(bJ.map (·.1)).Nodup->(bJ.lookup x).isSome=L->
    kW w U (bJ.map<|λy=>if y.1=x then(y.1,a) else y) (match es.findIdx? (·.key.isStr x) with|some i=>es.modify i λe=>{e with val:=v}|none=>es++[(hh,.str x t,v)]):=by
   intro bJ es h;clear b j;induction h with
   |nil=>intro _ f;cases f
   | @cons y c o t' g l es u C k=>
    intro d f;rw[cj,dj] at d;by_cases e:y=x
    .subst e;have:zG (λe:rW=>e.key.isStr y) ((g,.str y t',o)::es)=Y 0:=(sO ..).trans (bj<|beq_self_eq_true y);rw[this];simp only[List.modify_zero_cons,cj,if_true];calc .cons S;
     have:l.map (λz=>if z.1=y then(z.1,a) else z)=l:=by
      have:∀z∈l,(if z.1=y then(z.1,a) else z)=z:=λz hz=>by rw[aK];intro q;show d.1<|cG.mpr<|aC z hz q
      rw[cJ this];simp
     rw[this];show C
    .let G:(y==x)=au:=beq_eq_false_iff_ne.mpr e;let E:(l.lookup x).isSome=L:=by simp only[cq] at f;have:(x==y)=au:=beq_eq_false_iff_ne.mpr<|aE e;rw[this] at f;show f
     have:=k d.2 E;let D:((g,.str y t',o):rW).key.isStr x=au:=G;simp only[sO,D,e9,if_false,cj,aK e]
     induction p:es.findIdx? (·.key.isStr x) with|none=>rw[p] at this;simp only[DY];show .cons u this|some i=>rw[p] at this;simp only[Option.map_some,List.modify_succ_cons];show .cons u this
  show key bJ es h d (by rw[j];rfl)
def kW.length(h:kW w U bJ es):bJ.length=es.length:=by
 induction h with|nil=>rfl|cons _ _ a=>simp[a]
nonrec def MT(c:(l.map (·.1)).Nodup):((lz l k v).map (·.1)).Nodup:=by
 delta lz
 split
 .have:(l.map<|λx=>if x.1=k then(x.1,v) else x).map (·.1)=l.map (·.1):=by rw[fH];refine cJ λx _=>?_;by_cases h:x.1=k<;>simp[h]
  rw[this];show c
 .rename_i d;rw[hO,eM];refine(bt c (by simp)<|λa g b f=>?_);rw[cj,BK,aV] at f;subst f;intro e;subst e;apply d;let(x,T,rfl):=cG.mp g;clear g c d;induction l with
  |nil=>cases T
  |cons y l j=>
   let(i,p):=y;simp only[cq]
   induction o:x.1==i with
   |true=>rfl
   |false=>
    rcases aS.mp T with rfl|T
    .simp at o
    .show j T
def IS:(lz l k v).length<=l.length+1:=by delta lz;split<;>simp
def Xf(h:Ev Z n E o O m λb bh=>∃x C d bJ,b=.ref x/\Inst bh x C d bJ/\lQ Z.K C=L/\takerIn Z.K C name=Y R/\bJ.length<=500/\Q (aB bh d<|.ns<|lz bJ name a) m):As Z n E (.Attribute o name pos) a O m Q:=λU s A y hR H hF hy=>by
 rw[arm_assign_Attribute];refine af (aJ<|fw (h U s A hR H hF) λu s1 D b bh g1 g hu rh=>?_);let(x,C,d,bJ,hb,I,hC,htk,cL,hq):=rh;subst hb;let rfl:=hu.bU;refine af<|aR<|af<|aJ ?_;refine hide λ_ G=>?_;let(es,ep,J,M,h3):=g.inst I;let(od,h4,es',V3,e5,h6,h7):=g.own _ _ I.ns;calc G;simp only[lQ,bW,beq_iff_eq] at hC;refine hide λ_ G=>?_;let((((c1,c2),c3),c4),c5):=hC;let(cd,wD,hhd):=any_some c3;refine G<|set_plain g.wC h3 c4 ?_;let aqa:=g.toks<|s1.toks+1;refine osa_open (s:={s1 with toks:=s1.toks+1}) g.wC h3 c5 htk λb=>?_;obtain⟨T,-,-,-⟩:=h3;refine af (aj<|af<|af<|wpAny_loadPart T<|af<|(looks_clsIn (M:=bw Z.prog Z.w) (h:=s1.heap) g.wC wD) _ _ _ _ (λ_ _ e=>e) ?_);rw[hhd];refine aj (a:=Y d)<|af<|aj<|af ?_
 delta nsSet
 refine af<|af<|lX<|aj<|af<|wpAny_mkText<|af<|wpAny_loadPart J ?_;dsimp only
 let c:(not (es.any (·.key.isStr name))&&es.any (·.refKey))=au:=by
  let hq:es.any (·.refKey)=au:=by rw[<-CG];show M.noRef
  rw[hq,Bool.and_false]
 rw[aRefKeyMayBeTheName_at,c];calc Ax aI;generalize hhs:(if name.cps.isEmpty=L then(0:Int) else reduceHash ((~~~Z).w.params.strHash name.cps))=hash
 let ajE:tP name hash (.str name<|s1.toks+1) y {cls:=.type "dict",data:=.dict es ep}=
   (match es.findIdx? (·.key.isStr name) with
    |some i=>{cls:=.type "dict",data:=.dict (es.modify i λe=>{e with val:=y}) ep}
    |none=>{cls:=.type "dict",data:=.dict (es.push (hash,.str name<|s1.toks+1,y)) (ep+1)}):=by
  rw[Obj.putName_eq];delta Obj.putNameByArray;dsimp only;cases es.findIdx? (·.key.isStr name)<;>rfl
 let q:=M.put (x:=name) (a:=a) (v:=y) (t:=s1.toks+1) (hh:=hash) h7<|hy.mono g1.bC
 clear M c;let(f,j,Mt,ς):∃f j,tP name hash (.str name<|s1.toks+1) y {cls:=.type "dict",data:=.dict es ep}={cls:=.type "dict",data:=.dict f j}/\kW Z.w D (lz bJ name a) f.toList:=by
  rw[ajE];let τ:es.findIdx? (·.key.isStr name)=es.toList.findIdx? (·.key.isStr name):=by cases es;simp[List.findIdx?_toArray]
  induction z:es.findIdx? (·.key.isStr name) with|some i=>rw[τ] at z;rw[z] at q;show(jo _ _ rfl<|by simpa using q)|none=>rw[τ] at z;rw[z] at q;show(jo _ _ rfl<|by simpa using q)
 let υ:(s1.heap.update d<|tP name hash (.str name<|s1.toks+1) y).get? d=Y {cls:=.type "dict",data:=.dict f j}:=by have:=iS (tP name hash (.str name<|s1.toks+1) y) J (by rw[Mt];rfl);rw[this,Mt]
 let jC:f.size<=oy+1:=by
  let h8:(lz bJ name a).length=f.size:=by rw[ς.length,aD]
  rw[dw];show aeJ h8 (IS (l:=bJ) (k:=name) (v:=a)) cL
 refine wpAny_updatePart (s:={s1 with toks:=s1.toks+1+1}) J<|af<|wpAny_lookBehind υ (pastItsLine_dict jC) ?_;let p:cQ d s1.heap (s1.heap.update d<|tP name hash (.str name<|s1.toks+1) y):=cY ..;let hg:kl Z.prog Z.w D (.ns<|lz bJ name a) {cls:=.type "dict",data:=.dict f j}:=(f,j,rfl,ς,MT h7);let gg:=g1.trans<|bV.fm (U:=D) (s:=s1) (g':=.ns<|lz bJ name a) I.ns p<|s1.toks+1+1;calc aj;show aN _ _ (release _ _) _ _ _;show zF (D,_,m,gg.b,g.fm I.ns p υ hg _,hF.grow gg,hq)
end
section
variable{P:List Value->Prop}{id:String}
section
variable{κ:Type}[DecidableEq κ]
def eZ{a:d}{l:List (κ×d)}:N ((c,a)::l) k=if c=k then Y a else N l k:=by
 delta N;rw[qY]
 by_cases h:c=k
 .rw[bj h,decide_eq_true h];rfl
 .rw[aK h,decide_eq_false h]
def MU{l:List (κ×Value)}:yV l k=N l k:=rfl
def jd.at(h:jd U l a)(k:κ):Km U (N l k) (yV a k):=by
 calc qP MU;
 induction h with
 |nil=>trivial
 |cons S _ c=>
  rw[eZ,eZ];show iteInduction (motive:=λz=>Km U z _) (λq=>(bj q▸S:Km U (Y _) (if _ then Y _ else _))) λq=>(aK q▸c:Km U (N _ k) (if _ then Y _ else _))
def jd.get_none{l:List (κ×AV)}(h:jd U l a)(e:N l k=R):yV a k=R:=by
 have:=h.at k;rw[e] at this
 induction q:yV a k with|none=>rfl|some v=>rw[q] at this;show this.elim
def jd.get{c:List (κ×Value)}(h:jd U l c)(e:N l k=Y a):∃v,yV c k=Y v/\cH U a v:=by
 have:=h.at k;rw[e] at this
 induction q:yV c k with|none=>rw[q] at this;show this.elim|some v=>rw[q] at this;show(aC v rfl this)
def jd.length{l:List (κ×AV)}(h:jd U l a):l.length=a.length:=by
 induction h with|nil=>rfl|cons _ _ c=>show congrArg Me c
def jd.any(h:jd U l a)(k:κ):(a.any λc=>decide (c.1=k))=(N l k).isSome:=by
 induction h with
 |nil=>rfl
 | @cons d f v l a S _ e=>
  rw[eZ,Hr,e];by_cases q:d=k
  .rw[bj q,decide_eq_true q];rfl
  .rw[aK q,decide_eq_false q];rfl
def jd.map{c:List (κ×Value)}(h:jd U l c)(S:cH U a v):jd U (l.map λx=>if x.1=k then(x.1,a) else x) (c.map λx=>if x.1=k then(x.1,v) else x):=by
 induction h with
 |nil=>show .nil
 | @cons e i g l c f _ d=>
  rw[cj,cj];by_cases q:e=k
  .rw[bj q,bj q];show .cons S d
  .rw[aK q,aK q];show .cons f d
def jd.app{c:List (κ×Value)}(h:jd U l c)(S:cH U a v):jd U (l++[(k,a)]) (c++[(k,v)]):=by
 induction h with|nil=>show .cons S .nil|cons e _ d=>show .cons e d
def jd.put{c:List (κ×Value)}(h:jd U l c)(S:cH U a v):jd U (bl l k a) (stored c k v):=by
 delta bl stored
 rw[h.any];by_cases q:(N l k).isSome=L
 .rw[bj q,bj q];show h.map S
 .rw[aK q,aK q];show h.app S
def jd.del(h:jd U l a)(k:κ):jd U (dz l k) (without a k):=by
 delta dz without
 induction h with
 |nil=>show .nil
 | @cons d g f l a e _ c=>
  rw[gn,gn];by_cases q:d=k
  .rw[aK (by simp[q]),aK<|by simp[q]];show c
  .rw[bj (decide_eq_true q),bj<|decide_eq_true q];show .cons e c
end
abbrev AV.td:AV->Option K0
 |.int i=>Y ⇑i
 |.str s=>Y<|.str s
 |.raw v=>R7 v
 |_=>Mh
abbrev wG:List AV->Option (List K0)
 |[]=>Y []
 |a::l=>a.td.bind λk=>(wG l).map (k::·)
def cH.key{Z:Bs}(h:cH U a v)(e:a.td=Y k):(cW Z.prog Z.w).is k v=L:=
 cH.casesOn (motive_1:=λa v _=>a.td=Y k->K0.is k v=L) h (λ_ _ e=>decide_eq_true e) (λ_ _ e=>decide_eq_true e) (λ_ e=>decide_eq_true e) (λ_ _ e=>nomatch e) (λ_ _ e=>nomatch e) (λ_ e=>nomatch e) e
def ck.keys{Z:Bs}(h:ck U l vs):∀{ks:List K0},wG l=Y ks->ItemsAre (cW Z.prog Z.w) ks vs:=
 h.ind (P:=λl vs=>∀{ks:List K0},wG l=Y ks->ItemsAre (cW Z.prog Z.w) ks vs) (λe=>ax e▸.nil) fun{_ _ _ _} r _ a _ e=>by let(k,f,e2):=jU.mp e;let(ks,d,c):=cM.mp e2;show c▸.cons (r.key f) (a d)
def cH.B4{Z:Bs}(h:cH U (.tup l) v)(e:wG l=Y ks):∃a,v=.ref a/\Kl Z.prog Z.w U ks a:=by let(a,aH,n,rfl,d,c):=h.vF;show(a,rfl,aH,n,d,c.keys e)
def Kl.is(H:St Z U O s)(h:Kl Z.prog Z.w U ks a):(pJ<|cW Z.prog Z.w).is s.heap ks a:=by let(aH,n,d,c):=h;show(_,aH,n,(H.bC _ _ d).1,rfl,rfl,c)
def St.dict(H:St Z U O s)(h:O d=Y (.dict bJ)):∃dN,s.heap.DictOf (cW Z.prog Z.w) d dN/\jd U bJ dN:=by let(o,a,dN,J,M):=H.own _ _ h;show aC dN (wU.mpr<|aC o a J) M
def St.dg(H:St Z U O s)(h:O d=Y (.dg bJ)):∃xs,s.heap.DictOfH (pJ<|cW Z.prog Z.w) d xs/\(∀x∈xs,Kl Z.prog Z.w U x.1 x.2.1)/\jd U bJ (zD xs):=by let(o,c,es,ep,xs,J,M,g,a,f,e):=H.own _ _ h;show dc xs (o,es,ep,c,J,M,g,λx T=>(a x T).is H,f) a e
def St.vP(H:St Z U O s)(h:O d=Y g₀)(c:cQ d s.heap a)(hd:a.DictOf (cW Z.prog Z.w) d dN)(e:jd U bJ dN)(tk:Nat):St Z U (aB O d<|.dict bJ) {s with heap:=a,toks:=tk}:=by let(o,f,g):=wU.mp hd;show H.fm h c f (show kl Z.prog Z.w U (.dict bJ) o from(dN,g,e)) tk
def eQ(hd:O d=Y (.dict bJ))(j:i.td=Y k)(m:N bJ k=Y a)(h:Q a O):Ed Z n (!d) i O Q:=λU s A u v o H e S=>by let rfl:=e.bU;let(dN,c,g):=H.dict hd;let(x,T,f):=g.get m;show((jo ("dict") _ tQ.lookup c.typeIs),CH (S.key j) c.mapOf T<|dh.toks H f h _)
def yJ{Z:Bs}(a:fV n A):(pJ<|cW Z.prog Z.w).room A.in1:=by show A.units+1<cLine;have:=a.cl;show aeK this
def Qj(hd:O d=Y (.dg bJ))(j:wG l=Y ks)(k:N bJ ks=Y a)(h:Q a O):Ed Z n (!d) (.tup l) O Q:=λU s A u v o H f S=>by let rfl:=f.bU;let(b,rfl,m):=S.B4 (Z:=Z) j;let(xs,e,T,i):=H.dg hd;let(x,c,g):=i.get k;rw[qk] at c;let(p,q,rfl):=cM.mp c;show((jo ("dict") _ tQ.lookup e.typeIs),wpAny_getItem_heap (yJ o) (m.is H) e q<|dh.toks H g h _)
def AN(j:0<=i)(hz:l.length<=1000)(f:l[i.toNat]?=Y a)(h:Q a O):Ed Z n (.tup l) ⇑i O Q:=λU s A u v z H o S=>by
 let(b,aH,k,rfl,y,e):=o.vF;let(t,rfl):=S.int_inv;let(x,T,p):=e.get f;let g:IsTup s.heap b aH:=(_,(H.bC _ _ y).1,rfl,_,rfl);let c:=e.length
 let q:i.toNat<aH.size:=by have:=aL.mp f;simp at c;show Ŭ c this.1
 let d:seqIndex? i aH.size=Y i.toNat:=by
  delta seqIndex?
  simp at c;split<;>simp_all<;>exact aiZ j ∎
 let m:aH[i.toNat]?=Y x:=by rw[<-bA];show T
 show((jo ("tuple") _ slot_tuple_getitem.lookup g.typeIs),getItem_tuple g (aeL j) (by simp at c;show aeM c hz q) d m<|dh.now H p h)
def IU(o:0<=i)(hz:i<2^63)(j:l[i.toNat]?=Y a)(h:Q a O):Ed Z n (.lst l) ⇑i O Q:=λU s A u v p H e S=>by
 let(b,aH,k,rfl,m,f):=e.lst_inv;let(t,rfl):=S.int_inv;let(x,T,g):=f.get j;let c:s.heap.IsList b aH:=(_,(H.bC _ _ m).1,rfl,_,rfl);let d:aH[i.toNat]?=Y x:=by rw[<-bA];show T
 show((jo ("list") _ BL.lookup c.typeIs),Am c o hz d<|dh.now H g h)
def ET(hd:O d=Y (.list l))(q:0<=i)(hz:i<2^63)(p:l[i.toNat]?=Y a)(h:Q a O):Ed Z n (!d) ⇑i O Q:=λU s A u v y H f S=>by
 let rfl:=f.bU;let(o,m,aH,k,rfl,g):=H.own _ _ hd;let(t,rfl):=S.int_inv;let(x,T,j):=g.get p;let c:s.heap.IsList d aH:=(_,m,rfl,_,rfl);let e:aH[i.toNat]?=Y x:=by rw[<-bA];show T
 show((jo ("list") _ BL.lookup c.typeIs),Am c q hz e<|dh.now H j h)
def jM(hd:O d=Y (.dict bJ))(j:i.td=Y k)(hz:bJ.length<=1000000)(h:Q (aB O d<|.dict<|bl bJ k a)):IJ Z n (!d) i a O Q:=λU s A u v y p H g S f=>by let rfl:=g.bU;let(dN,m,c):=H.dict hd;show wpAny_setItem_pairs (hsz:=by rw[<-c.length,dw];show Ġ hz) (S.key j) m λq o e=>(U,_,bV.fm hd e _,H.vP hd e o (c.put f) _,h)
def yK(hd:O d=Y (.dg bJ))(q:wG l=Y ks)(hz:bJ.length<=1000000)(h:Q (aB O d<|.dg<|bl bJ ks a)):IJ Z n (!d) (.tup l) a O Q:=λU s A u v y t H p S o=>by
 let rfl:=p.bU;let(b,rfl,f):=S.B4 (Z:=Z) q;let(xs,C,T,e):=H.dg hd
 let D:xs.length<=oy:=by have:=e.length;simp only[zD,cE] at this;calc qP dw;show Ě this hz
 refine wpAny_setItem_heap (hsz:=D) (knd:=pJ<|cW Z.prog Z.w) (yJ t) (f.is H) C λh' i g=>?_;let(m,es',E,M,j,Ea,J,_,I):=i;refine(U,_,bV.fm hd g _,H.fm hd g M (show kl Z.prog Z.w U (.dg<|bl bJ ks a) m from(es',E,storedH xs ks b y,j,Ea,J,λx k=>?_,I,?_)) _,h)
 .rcases mem_storedH k with⟨z,G,c,e2⟩|⟨c,e2⟩
  .rw[c,e2];show T z G
  .rw[c,e2];show f
 .rw[kvsOf_storedH];show e.put o
def IV(hd:O d=Y (.dict bJ))(g:i.td=Y k)(h:Q (.bool (N bJ k).isSome) O):pb Z n .In i (!d) O Q:=λU s A u v m H f S=>by
 let rfl:=S.bU;let(dN,j,c):=H.dict hd;refine wpAny_in_of (f.key g) (H.jG hd) j.mapOf<|dh.toks H (a:=.bool (N bJ k).isSome) ?_ h _
 induction e:N bJ k with|none=>rw[c.get_none e];show .raw _|some a=>let(x,T,_):=c.get e;rw[T];show .raw _
def B5(hd:O d=Y (.dict bJ))(g:i.td=Y k)(h:Q (.bool<|not (N bJ k).isSome) O):pb Z n .NotIn i (!d) O Q:=λU s A u v m H f S=>by
 let rfl:=S.bU;let(dN,j,c):=H.dict hd;refine wpAny_notIn_of (f.key g) (H.jG hd) j.mapOf<|dh.toks H (a:=.bool<|not (N bJ k).isSome) ?_ h _
 induction e:N bJ k with|none=>rw[c.get_none e];show .raw _|some a=>let(x,T,_):=c.get e;rw[T];show .raw _
def OG(hd:O d=Y (.dg bJ))(i:wG l=Y ks)(h:Q (.bool (N bJ ks).isSome) O):pb Z n .In (.tup l) (!d) O Q:=λU s A u v k H g S=>by
 let rfl:=S.bU;let(b,rfl,j):=g.B4 (Z:=Z) i;let(xs,m,T,c):=H.dg hd;refine wpAny_in_heap (yJ k) (j.is H) (H.jG hd) m<|dh.toks H (a:=.bool (N bJ ks).isSome) ?_ h _;let e:(atKey xs ks).isSome=(yV (zD xs) ks).isSome:=by rw[qk];simp
 rw[e]
 induction f:N bJ ks with|none=>rw[c.get_none f];show .raw _|some a=>let(x,T,_):=c.get f;rw[T];show .raw _
def lA(hd:O d=Y (.dict bJ))(a:Slot "dict" name id)(e:typeOf (.builtin id)=pure (.type "method_descriptor")):J5 Z O (!d) name (.builtin id):=λU s A v f Q az H S h=>by let rfl:=S.bU;let(dN,c,g):=H.dict hd;show oz c.typeIs vi a e c.mapOf.noDict h
def yM(hd:O d=Y (.dg bJ))(a:Slot "dict" name id)(e:typeOf (.builtin id)=pure (.type "method_descriptor")):J5 Z O (!d) name (.builtin id):=λU s A v f Q az H S h=>by let rfl:=S.bU;let(xs,c,T,g):=H.dg hd;show oz c.typeIs vi a e (dictOfH_noDict c) h
def uK(h:ck U [a] vs):∃v,vs=[v]/\cH U a v:=by let(v,_,e,J,M):=h.vE;show(aC v (by rw[e,show _=[] from M.vE]) J)
def uL(h:ck U [a,b] vs):∃v w,vs=[v,w]/\cH U a v/\cH U b w:=by let(v,_,e,J,M):=h.vE;let(w,e2,M):=uK M;show(fX v w (by rw[e,e2]) J M)
def nT(h:ck U [a,b,c] vs):∃v w x,vs=[v,w,x]/\cH U a v/\cH U b w/\cH U c x:=by let(v,_,e,J,M):=h.vE;let(w,x,e2,M,d):=uL M;show(yD v w x (by rw[e,e2]) J M d)
def KC(h:ck U [a,b,c,d] vs):∃v w x y,vs=[v,w,x,y]/\cH U a v/\cH U b w/\cH U c x/\cH U d y:=by let(v,_,e,J,M):=h.vE;let(w,x,y,e2,M,g,f):=nT M;show(lj v w x y (by rw[e,e2]) J M g f)
def ig{bJ:List (Str×Value)}(h:bJ.map (·.1)=([]:List (Str×AV)).map (·.1)):bJ=[]:=List.map_eq_nil_iff.mp h
def ck.un(h:ck U (a::l) vs)(k:∀v c,cH U a v->ck U l c->P (v::c)):P vs:=by let(v,c,e,J,M):=h.vE;show e▸k v c J M
def ck.un0(h:ck U [] vs)(k:P []):P vs:=(show vs=[] from h.vE)▸k
def Cl.a1(h:∀U s A v,fV n A->St Z U O s->cH U a v->aN (~~~Z) A (call f [v] []) (dh Z U O s Q) mj s):Cl Z n f [a] [] O Q:=λU s A vs i g H S d _=>by let(v,e,c):=uK S;rw[ig d,e];show h U s A v g H c
def Cl.r1(h:∀U s A,fV n A->St Z U O s->aN (~~~Z) A (call f [x] []) (dh Z U O s Q) mj s):Cl Z n f [.raw x] [] O Q:=
 .a1 λU s A v a H S=>by rw[S.bU];show h U s A a H
def Cl.a2(h:∀U s A v w,fV n A->St Z U O s->cH U a v->cH U b w->aN (~~~Z) A (call f [v,w] []) (dh Z U O s Q) mj s):Cl Z n f [a,b] [] O Q:=λU s A vs j i H S g _=>by let(v,w,e,d,c):=uL S;rw[ig g,e];show h U s A v w i H d c
def Cl.r2(h:∀U s A w,fV n A->St Z U O s->cH U b w->aN (~~~Z) A (call f [x,w] []) (dh Z U O s Q) mj s):Cl Z n f [.raw x,b] [] O Q:=
 .a2 λU s A v w c H S a=>by rw[S.bU];show h U s A w c H a
def y!(hd:O d=Y (.dict bJ))(m:i.td=Y k)(h:Q ((N bJ k).getD .none) O):Cl Z n (.builtin "dict.get") [.ref d,i] [] O Q:=Cl.r2 λU s A w o H g=>by
 let(dN,f,c):=H.dict hd;refine oB iT f.typeIs wy (vj _ _) (meets_dict_get (cW Z.prog Z.w) d (g.key m)<|H.jG hd)<|aC _ f.mapOf ?_;refine dh.toks H ?_ h _
 induction e:N bJ k with|none=>rw[c.get_none e];show .raw _|some a=>let(x,T,j):=c.get e;rw[T];show j
def OH(hd:O d=Y (.dg bJ))(j:wG l=Y ks)(h:Q ((N bJ ks).getD .none) O):Cl Z n (.builtin "dict.get") [.ref d,.tup l] [] O Q:=Cl.r2 λU s A w m H g=>by
 let(b,rfl,k):=g.B4 (Z:=Z) j;let(xs,f,T,c):=H.dg hd;refine oB iT f.typeIs wy (vj _ _) (meetsH_dict_get (pJ<|cW Z.prog Z.w) d b<|H.jG hd) ((yJ m),(fX ks xs (k.is H) f ?_));refine dh.toks H ?_ h _;rw[<-qk]
 induction e:N bJ ks with|none=>rw[c.get_none e];show .raw _|some a=>let(x,T,i):=c.get e;rw[T];show i
def K0.part(h:K0.is k v=L):(keyPart v).isSome=L:=by
 cases k with|int i=>show(K0.vG h).elim λ_ e=>e▸rfl|str i=>show(K0.xj h).elim λ_ e=>e▸rfl|none=>show K0.is_none h▸rfl
def AV.SD(h:cH U a v)(e:a.td=Y k):(keyPart v).isSome=L:=K0.part (k:=k) (decide_eq_true<|cH.casesOn (motive_1:=λa v _=>a.td=Y k->R7 v=Y k) h (λ_ _ e=>e) (λ_ _ e=>e) (λ_ e=>e) (λ_ _ e=>nomatch e) (λ_ _ e=>nomatch e) (λ_ e=>nomatch e) e)
def MV(hd:O d=Y (.dict bJ))(f:i.td=Y k)(hz:bJ.length<=1000000)(o:N bJ k=Y a)(h:Q a (aB O d<|.dict<|dz bJ k)):Cl Z n (.builtin "dict.pop") [.ref d,i] [] O Q:=Cl.r2 λU s A w q H e=>by let(dN,g,c):=H.dict hd;let(x,T,m):=c.get o;refine oB ee g.typeIs oE (vk _ _) (meets_dict_pop_there (cW Z.prog Z.w) d (e.key f) [] (.inl rfl)<|AV.SD e f) (nE dN x g (by rw[<-c.length,dw];show Ġ hz) T<|λt p j=>?_);show(U,a,_,bV.fm hd j _,H.vP hd j p (c.del k) _,m,h)
end
section
abbrev K1(w:cC):=Kt w.params
abbrev KF(w:cC):=Kt w.params
structure cp(w:cC)(B:Fz):Prop where
 wC:∀a o,(KF w).lookup a=Y o->B a=Y o
 lim:∃o es ep,B cStatics=Y o/\o.data=.dict es ep/\BG es/\Gu es "sys.recursionlimit"=R
 glob:∃o es ep,B dt=Y o/\o.data=.dict es ep/\BG es
 blt:∃o es ep,B jx=Y o/\o.data=.dict es ep/\BG es/\∀x:Str,x≠"__name__"->Gu es x=lW x
 mods:∃o,B wt=Y o
@[ext]abbrev bs(w:cC)(B:Fz)(h:cp w B):Bs:={prog:=pw,w:=w,K:=KF w,B:=B,wC:=h.wC,lim:=h.lim,glob:=h.glob,blt:=h.blt,mods:=h.mods}
variable{w:cC}{B:Fz}
def y?(h:Q ⇑i.natAbs O):Cl Z n (.builtin "abs") [.int i] [] O Q:=Cl.a1 λU s A v c H a=>by
 let(t,rfl):=a.int_inv;refine call_abs_int λu tk=>?_;let e:(if i<0 then-i else i)=(aT i:Int):=by split<;>(first|exact o! ∎|exact Ξ ∎)
 rw[e];show dh.toks H (.int _ _) h _
abbrev iy(K:wi)(f:aW):qH:=match K.lookup f with
 |some ⟨_,_,.func fd,_⟩=>fd
 |_=>default
abbrev dB(K:wi)(f:aW):List fz:=match(iy K f).body with
 |.stmts b=>b
 |_=>[]
end
def Qg.mono(h:Qg Z n E es O m Q)(f:∀a c,Q a c->Q' a c):Qg Z n E es O m Q':=
 λU s A pos i H k=>aG (h U s A pos i H k) (λ_ _ o=>by let(p,a,c,g,d,S,j):=o;show(p,a,c,g,d,S,f _ _ j)) λ_ _ e=>e
def Qk(e:Expr):=not (gX e.ctorIdx 25)
def DI(a:ry v=L)(k:Nat):ue [t] v k E=pure au:=by show xq a
def Ql(h:Qk v=L):kH [.Tuple a k p] v E=pure R:=by
 let K:L=L->(pure R:Sem (Option<|List Str))=pure R:=λ_=>rfl
 revert h
 refine fF v ?_ ?_ ?_ ?_ ?_ ?_ ?_ ?_ ?_ ?_ ?_ ?_ ?_ ?_ ?_ ?_ ?_ ?_ ?_ ?_ ?_ ?_ ?_ ?_ ?_ ?_ ?_<;>first|exact λ_ _=>K|exact λ_ _ _=>K|exact λ_ _ _ _=>K|exact λ_ _ _ _ _=>K|exact λ_ _ _ h=>(aI h).elim
def Qm(h:Q (decide (i≠0)) O):nK Z n ⇑i O Q:=λU s A u _ H a=>by
 let(t,rfl):=a.int_inv;refine PySem.P.truthy_int (U,O,.refl,H,?_);have:(i !=0)=decide (i≠0):=by by_cases e:i=0<;>simp[e]
 rw[this];show h
def MW(h:Q au O):nK Z n .none O Q:=λU s A u _ H a=>by let rfl:=a.bU;show truthy_none (U,O,.refl,H,h)
def dh.keeps(H:St Z U O s)(c:∀b o,s.heap.get? b=Y o->d.get? b=Y o)(S:cH U a v)(h:Q a O)(tk:Nat):dh Z U O s Q v {s with heap:=d,toks:=tk}:=
 (U,a,O,bV.keeps c tk,H.keeps c tk,S,h)
def qn(hd:O d=Y (.dict bJ))(hz:bJ.length<=1000000)(h:Q ⇑bJ.length O):Cl Z n (.builtin "len") [.ref d] [] O Q:=Cl.r1 λU s A e H=>by let(dN,c,a):=H.dict hd;calc call_len_dict (H.jG hd) c (by rw[<-a.length];show k! hz);rw[<-a.length];show dh.toks H (.int _ _) h _
def IW(h:Q ⇑(min a b) O):Cl Z n (.builtin "min") [.int a,.int b] [] O Q:=Cl.a2 λU s A v w f H d c=>by
 let(t,rfl):=d.int_inv;let(t',rfl):=c.int_inv;refine min_two_ints f.handled λg tk e=>dh.keeps H e (a:=.int<|min a b) ?_ h tk;split
 .rw[jQ (Ew ∎)];show .int _ _
 .rw[ku (R4 ∎)];show .int _ _
def OI(h:Q ⇑(max a b) O):Cl Z n (.builtin "max") [.int a,.int b] [] O Q:=Cl.a2 λU s A v w f H d c=>by
 let(t,rfl):=d.int_inv;let(t',rfl):=c.int_inv;refine max_two_ints f.handled λg tk e=>dh.keeps H e (a:=.int<|max a b) ?_ h tk;split
 .rw[Int.max_eq_right (Ew ∎)];show .int _ _
 .rw[Int.max_eq_left (R4 ∎)];show .int _ _
def Xg(h:Q ⇑(min (min a b) c) O):Cl Z n (.builtin "min") [.int a,.int b,.int c] [] O Q:=λU s A vs o k H S i f=>by
 clear f;let rfl:=ig i;let(v,w,x,rfl,g,e,m):=nT S;clear S;let(t,rfl):=g.int_inv;let(t',rfl):=e.int_inv;let(d,rfl):=m.int_inv;refine min_three_ints k.handled λp tk j=>dh.keeps H j (a:=.int<|min (min a b) c) ?_ h tk;split
 .split
  .rw[jQ (ik ‹b<a›),jQ<|ik ‹c<b›];show .int _ _
  .rw[jQ (ik ‹b<a›),ku<|iH.mp ‹¬c<b›];show .int _ _
 .split
  .rw[ku (iH.mp ‹¬b<a›),jQ<|ik ‹c<a›];show .int _ _
  .rw[ku (iH.mp ‹¬b<a›),ku<|iH.mp ‹¬c<a›];show .int _ _
def pZ(h:Q (.bool L) O):Cl Z n (.builtin "isinstance") [.int i,.raw<|.type "int"] [] O Q:=Cl.a2 λU s A v w d H c a=>by let(t,rfl):=c.int_inv;let rfl:=a.bU;show rp (Tx:="int") (T:="int") rfl () (by rw[bM];kernel_rfl)<|dh.now H (.raw _) h
section
variable{K:List AV->iD->Prop}
variable{Z:Bs}{n:Nat}{E:Env}{O:bf}{m:Loc}
abbrev cD(O:bf)(a:aW):bf:=λb=>if b=a then R else O b
def di:cD O a a=R:=bj rfl
def cx(h:b≠a):cD O a b=O b:=aK h
def i6:aB (cD O a) a g=aB O a g:=by funext b;by_cases h:b=a<;>simp[aB,cD,h]
def fA(e:a≠b):cD (aB O a g) b=aB (cD O b) a g:=by
 funext c;by_cases h:c=b
 .subst h;simp[aB,cD,aE e]
 .by_cases d:c=a
  .clear e;subst d;simp[aB,cD,h]
  .simp[aB,cD,h,d]
def St.cD(H:St Z U O s)(a:aW):St Z U (cD O a) s:=
 (H.base,λb o h=>((H.bC b o h).1,by by_cases e:b=a;(· subst e;show di);(· rw[cx e];show(H.bC b o h).2)),
  λb g h=>by by_cases e:b=a;(· subst e;show cA di h);(· rw[cx e] at h;show H.own b g h),H.gens)
structure ml(wr:List aW)(U:Fz)(O:bf)(s:aZ)(U':Fz)(bq:bf)(s':aZ):Prop where
 bC:∀a o,U a=Y o->U' a=Y o
 keep:∀a o,a∉wr->s.heap.get? a=Y o->U a=R->O a=R->s'.heap.get? a=Y o/\U' a=R/\bq a=R
 wrs:∀a∈wr,U a=R->U' a=R
 os:s'.os=s.os
inductive Zz(Z:Bs)(wr:List aW)(U:Fz)(O:bf)(s:aZ)(h1:oX->Prop)(a:AV)(v:Value)(s':aZ):Prop
 |mk (U':Fz) (j:h1 s'.heap) (g:ml wr U O s U' O s') (hv:St Z U' O s') (r:cH U' a v):Zz Z wr U O s h1 a v s'
structure OJ(Z:Bs)(uM:Fz)(target:Expr)(it:aW)(aH:List AV)(fp wr:List aW)(h1:Nat->oX->Prop):Prop where
 sub:∀a∈wr,a∈fp
 live:∀k h,h1 k h->∀b∈fp,∃o,h.get? b=Y o
 frame:∀k h h',h1 k h->(∀b∈fp,∀o,h.get? b=Y o->h'.get? b=Y o)->h1 k h'
 again:∀k U O s n A (Q:Value->aZ->Prop) (az:Value->aZ->Prop),fV n A->St Z U O s->h1 k s.heap->Q (!it) s->aN (~~~Z) A (qZ !it) Q az s
 step:∀k a U O s n A,aH[k]?=Y a->fV n A->(∀a o,uM a=Y o->U a=Y o)->St Z U O s->(∀b∈wr,U b=R/\O b=R)->h1 k s.heap->
  aN (~~~Z) A (uj !it) (λr s1=>∃v,r=Y v/\aN (~~~Z) A (ra target (!it) v) (λ_ s2=>Zz Z wr U O s (h1<|k+1) a v s2) mj s1) mj s
 stop:∀U O s n A,fV n A->St Z U O s->(∀b∈wr,U b=R/\O b=R)->h1 aH.length s.heap->aN (~~~Z) A (uj !it) (λr s1=>r=R/\ml wr U O s U O s1/\St Z U O s1) mj s
abbrev iD:=Option<|aW×bD
abbrev iD.out(a:iD)(O:bf):=match a with
 |none=>O
 |some (d,_)=>cD O d
abbrev iD.back(a:iD)(O:bf):=match a with
 |none=>O
 |some (d,g)=>aB O d g
inductive IX(Z:Bs)(target:Expr)(U:Fz)(O:bf)(s:aZ)(K:List AV->iD->Prop)(r:Value)(s':aZ):Prop
 |mk (it:aW) (aH:List AV) (fp wr:List aW) (h1:Nat->oX->Prop) (eu:iD) (U':Fz) (e:r=.ref it) (I:OJ Z U' target it aH fp wr h1) (j:h1 0 s'.heap) (g:bV U O s U' O s') (hv:St Z U' O s')
  (J:∀d g,eu=Y (d,g)->O d=Y g) (M:∀b∈wr,s.heap.get? b=R/\U' b=R/\O b=R) (h3:∀b∈fp,(∃o,U' b=Y o)\/b∈wr\/∃g,eu=Y (b,g)) (k:K aH eu):IX Z target U O s K r s'
def Au(Z:Bs)(n:Nat)(target:Expr)(x:AV)(O:bf)(K:List AV->iD->Prop):=
 ∀U s A v,fV n A->St Z U O s->cH U x v->aN (~~~Z) A (qZ v) (IX Z target U O s K) mj s
def Au.mono(h:Au Z n e x O K)(k:∀aH a,K aH a->K' aH a):Au Z n e x O K':=λU s A v f H S=>
 aG (h U s A v f H S) (λr u h=>h.casesOn λit aH p c o a t e I j g d J M i q=>(it,aH,p,c,o,a,t,e,I,j,g,d,J,M,i,k _ _ q)) λ_ _ e=>e
def Xh(h:aN h2 A t (IX Z target U O s K) mj s)(k:∀it a aH u c p f i,OJ Z i target it aH u c p->p 0 a.heap->bV U O s i O a->St Z i O a->(∀d g,f=Y (d,g)->O d=Y g)->(∀b∈c,s.heap.get? b=R/\i b=R/\O b=R)->(∀b∈u,(∃o,i b=Y o)\/b∈c\/∃g,f=Y (b,g))->K aH f->P (!it) a):aN h2 A t P az s:=
 aG h (λr a h=>h.casesOn λit aH u c p f z e I j g v J M y q=>e▸k it a aH u c p f z I j g v J M y q) λ_ _ e=>e.elim
def KD(I:Nat->bf->Loc->Prop)(SF:Nat)(h0:I SF O m)(h:∀k O m,I k O m->Tt Z n E t O m λc v=>if c=L then Ex Z n E b v m λfl j u=>(match fl with |.next=>∃d,d<k/\I d j u|.cont=>∃d,d<k/\I d j u|.brk=>Q .next j u|.ret a=>Q (.ret a) j u) else Ex Z n E o v m Q):xo Z n E (.While t b o pos) O m Q:=λU s A D H hF=>by
 show aN _ _ (do cN pos;GB (.whileLoop t b o E) E) _ _ _;refine af<|aR ?_
 delta GB
 refine uk<|wpAny_run ?_
 let key:codeAny (~~~Z) A (.whileLoop t b o E) (λr q=>match r with|.ok f=>xm Z E U O s Q f q|.error _=>False) s:=by
  refine codeAny_whileLoop (λk q=>AG Z E U O s (I k) q) (λk s1 xp=>?_) SF (U,O,m,bV.refl.b,H,hF,h0);let(U1,v,m1,g1,eg,xc,hI):=xp;refine Kn (h k v m1 hI U1 s1 A D eg xc) λc s2 U2 j T fY M=>?_;let i:=g1.trans T.b
  induction c with
  |true=>
   simp only[if_true] at M⊢;refine MN (M U2 s2 A D fY<|xc.grow T) λf s3 U3 fl C z g3 y BU wF J=>?_;let g:=i.trans g3
   cases fl<;>cases f<;>first
    |exact wF.elim
    |(let(d,hk,G):=J;show(d,hk,U3,C,z,g,y,BU,G))
    |exact(U3,_,C,z,g,y,BU,trivial,J)
    |exact(U3,_,C,z,g,y,BU,wF,J)
  |false=>
   simp only[e9,if_false] at M⊢;show aG (M U2 s2 A D fY<|xc.grow T) (λf s3 p=>p.after i) λ_ _ e=>e.elim
 refine oG key λr q hr=>?_
 induction r with|ok f=>show hr|error e=>show hr.elim
def cb.OL(h:cb U O E m s)(j:∀a∈t,¬HB E a)(g:ml t U O s G D s'):cb G D E m s':=by
 refine(?_,λx c k=>?_,h.inj)
 .let(J,M,y,(o,es,ep,z,r),i):=h.loc;let(p,q,d):=g.keep E.locals o (λf=>j _ f<|.inl rfl) z J M;show(q,d,y,(o,es,ep,p,r),λx a T e=>by let(v,S,hr):=i x a T e;show aC v S<|hr.mono g.bC)
 .let(J,M,C,u,(oc,i,hd),A):=h.vJ x c k;let(p,q,d):=g.keep c _ (λf=>j _ f<|.inr (x,k)) i J M;show(q,d,C,u,(oc,p,hd),λa e=>by let(v,S,hr):=A a e;show aC v S<|hr.mono g.bC)
structure wH(E:Env)(wr:List aW)(U:Fz)(O:bf)(s:aZ)(U':Fz)(bq:bf)(s':aZ):Prop where
 bC:∀a o,U a=Y o->U' a=Y o
 keep:∀a o,¬ò E a->a∉wr->s.heap.get? a=Y o->U a=R->O a=R->s'.heap.get? a=Y o/\U' a=R/\bq a=R
 os:s'.os=s.os
def wH.refl:wH E c U O s U O s:=(λ_ _ h=>h,λ_ _ _ _ J M a=>(bt J M a),rfl)
def wH.trans(a:wH E c U O s k i e)(b:wH E c k i e j g s2):wH E c U O s j g s2:=
 (λx o h=>b.bC x o<|a.bC x o h,λx o T d J M f=>by let(p,q,r):=a.keep x o T d J M f;show b.keep x o T d p q r,b.os.trans a.os)
def ml.x(g:ml c U O s h f s'):wH E c U O s h f s':=(g.bC,λa o _ d J M e=>g.keep a o d J M e,g.os)
def kX.x(g:kX E U O s e d s'):wH E f U O s e d s':=(g.bC,λa o T _ J M c=>g.keep a o T J M c,g.os)
def EU(E:Env)(c a:List aW)(U:Fz)(O:bf):=(∀b∈c,(∃o,U b=Y o)\/(U b=R/\O b=R/\¬HB E b))/\∀b∈a,U b=R/\O b=R/\¬HB E b
def EU.ZA(h:EU E f i U O)(j:∀b∈f,∃o,s.heap.get? b=Y o)(te:∀a∈i,a∈f)(g:kX E U O s k bq t):EU E f i k bq:=by
 refine(λb d=>?_,λb d=>?_)
 .rcases h.1 b d with⟨o,c⟩|⟨J,M,e⟩
  .show .inl (o,g.bC _ _ c)
  .let(o,c):=j b d;let(p,q,r):=g.keep b o (λq=>e q.fr) c J M;show .inr<|bt q r e
 .let(J,M,e):=h.2 b d;let(o,c):=j b<|te b d;let(p,q,r):=g.keep b o (λq=>e q.fr) c J M;show bt q r e
def OM(h:EU E j t U O)(H:St Z U O s)(e:St Z p k a)(g:kX E U O s p k a):∀b∈j,∀o,s.heap.get? b=Y o->a.heap.get? b=Y o:=λb f o c=>by
 rcases h.1 b f with⟨u,d⟩|⟨J,M,i⟩
 .have:=(H.bC _ _ d).1;rw[c] at this;cases this;show(e.bC _ _<|g.bC _ _ d).1
 .show(g.keep b o (λq=>i q.fr) c J M).1
inductive MX(Z:Bs)(E:Env)(wr:List aW)(U:Fz)(O:bf)(s:aZ)(Q:Fl->bf->Loc->Prop)(f:Flow)(s':aZ):Prop
 |mk (U':Fz) (fl:Fl) (bq:bf) (m':Loc) (g:wH E wr U O s U' bq s') (hv:St Z U' bq s') (F:cb U' bq E m' s') (r:Oy U' fl f) (q:Q fl bq m'):MX Z E wr U O s Q f s'
inductive SG(Z:Bs)(E:Env)(wr:List aW)(U:Fz)(O:bf)(s:aZ)(Q:bf->Loc->Prop)(s':aZ):Prop
 |mk (U':Fz) (bq:bf) (m':Loc) (g:wH E wr U O s U' bq s') (hv:St Z U' bq s') (F:cb U' bq E m' s') (q:Q bq m'):SG Z E wr U O s Q s'
inductive SH(Z:Bs)(E:Env)(len:Nat)(fp wr:List aW)(h1:Nat->oX->Prop)(U:Fz)(O:bf)(s:aZ)(I:Nat->bf->Loc->Prop)(j:Nat)(s':aZ):Prop
 |mk (k:Nat) (U':Fz) (bq:bf) (m':Loc) (e:j=len-k) (le:k<=len) (hj:h1 k s'.heap) (f:EU E fp wr U' bq) (g:wH E wr U O s U' bq s') (hv:St Z U' bq s') (F:cb U' bq E m' s') (q:I k bq m'):SH Z E len fp wr h1 U O s I j s'
def SI(u:OJ Z uM target it aH fp h h1)(I:Nat->bf->Loc->Prop)(qo:∀k a O m,aH[k]?=Y a->I k O m->As Z n E target a O m λbh m1=>Ex Z n E body bh m1 λD bu m2=>(match D with |.next=>I (k+1) bu m2|.cont=>I (k+1) bu m2|.brk=>Q .next bu m2|.ret v=>Q (.ret v) bu m2))(rz:∀O m,I aH.length O m->Ex Z n E c O m Q)(C:fV n A)(H:St Z U O s)(hF:cb U O E m s)(SJ:∀a o,uM a=Y o->U a=Y o)(hJ:h1 0 s.heap)(C0:EU E fp h U O)(h0:I 0 O m):aN (~~~Z) A (GB (.forLoop target (!it) body c E) E) (λf t=>MX Z E h U O s Q f t) mj s:=by
 delta GB
 refine uk<|wpAny_run ?_
 let key:codeAny (~~~Z) A (.forLoop target (!it) body c E) (λr t=>match r with|.ok f=>MX Z E h U O s Q f t|.error _=>False) s:=by
  refine codeAny_forLoop_any (λj t=>SH Z E aH.length fp h h1 U O s I j t)
   (λj s1 q0=>?_) (aH.length-0) (0,U,O,m,rfl,fj _,hJ,C0,.refl,H,hF,h0)
  let(k,U1,bh,m1,hj,hk,z_,d,g1,eg,xc,χ):=q0;let SK:∀b∈h,U1 b=R/\bh b=R:=λb g=>((d.2 b g).1,(d.2 b g).2.1);let V5:∀a∈h,¬HB E a:=λa ha=>(d.2 a ha).2.2;rcases oe k aH.length with fM|IY
  .let z:aH[k]?=Y aH[k]:=b9 fM;refine aG (u.step k _ U1 bh s1 n A z C (λa o e=>g1.bC _ _<|SJ _ _ e) eg SK z_) (λr s2 y=>?_) λ_ _ e=>e.elim;let(v,S,M):=y;subst S;refine aG M (λ_ s3 y=>?_) λ_ _ e=>e.elim;let(U3,ψ,i,T,V4):=y;let SN:EU E fp h U3 bh:=by
    refine(λb g=>?_,λb g=>?_)
    .by_cases G:b∈h
     .show .inr<|bt (i.wrs b G (d.2 b G).1) ((d.2 b G).2.1)<|(d.2 b G).2.2
     .rcases d.1 b g with⟨o,ho⟩|⟨q1,q2,q3⟩
      .show .inl (o,i.bC _ _ ho)
      .let(o,ho):=u.live k _ z_ b g;let(p,q,r):=i.keep b o G ho q1 q2;show .inr<|bt q r q3
    .show bt (i.wrs b g (d.2 b g).1) ((d.2 b g).2.1)<|(d.2 b g).2.2
   refine Ko (qo k _ bh m1 z χ U3 s3 A v C T (xc.OL V5 i) V4) λ_ s4 U4 nr m4 g4 EH Zy h4=>MN (h4 U4 s4 A C EH Zy) λf s5 U5 D IL m5 g5 Ms ω J h5=>?_;let z!:=g4.trans g5;let z?:wH E h U O s U5 IL s5:=(g1.trans i.x).trans z!.x;let hJ5:h1 (k+1) s5.heap:=u.frame _ _ _ ψ<|OM SN T Ms z!
   cases D<;>cases f<;>first
    |exact J.elim
    |exact(aH.length-(k+1),Y60 hj fM,k+1,U5,IL,m5,rfl,fM,hJ5,(SN.ZA (u.live _ _ ψ) u.sub z!),z?,Ms,ω,h5)
    |exact(U5,_,IL,m5,z?,Ms,ω,trivial,h5)
    |exact(U5,_,IL,m5,z?,Ms,ω,J,h5)
  .let hke:k=aH.length:=Ĥ hk IY;clear hj hk IY;subst hke;refine aG (u.stop U1 bh s1 n A C eg SK z_) (λr s2 y=>?_) λ_ _ e=>e.elim;let(hr,g2,fY):=y;subst hr;show MN (rz bh m1 χ U1 s2 A C fY<|xc.OL V5 g2) λf s3 U3 D js m3 i T BU J h3=>(U3,D,js,m3,(g1.trans g2.x).trans i.x,T,BU,J,h3)
 refine oG key λr t hr=>?_
 induction r with|ok f=>show hr|error e=>show hr.elim
def iD.mn(h:O a=R):iD.out c O a=R:=by
 induction c with|none=>show h|some p=>let(d,g):=p;show cD O d a=R;by_cases e:a=d<;>simp[cD,e,h]
def mF(e:Expr):=not (gX e.ctorIdx 7)
def rA(h:mF e=L)(x:Value):oI e E x=pure x:=by
 let K:L=L->(pure x:Sem Value)=pure x:=λ_=>rfl
 revert h
 refine fF e ?_ ?_ ?_ ?_ ?_ ?_ ?_ ?_ ?_ ?_ ?_ ?_ ?_ ?_ ?_ ?_ ?_ ?_ ?_ ?_ ?_ ?_ ?_ ?_ ?_ ?_ ?_<;>first|exact λ_ _=>K|exact λ_ _ _=>K|exact λ_ _ _ _=>K|exact λ_ _ _ _ _=>K|exact λ_ _ _ h=>(aI h).elim
inductive OO(Z:Bs)(E:Env)(target:Expr)(U:Fz)(O:bf)(s:aZ)(K:List AV->iD->bf->Prop)(r:Value)(s':aZ):Prop
 |mk (it:aW) (aH:List AV) (fp wr:List aW) (h1:Nat->oX->Prop) (eu:iD) (U':Fz) (bq:bf) (e:r=.ref it) (I:OJ Z U' target it aH fp wr h1) (j:h1 0 s'.heap) (g:bV U O s U' bq s') (hv:St Z U' bq s')
  (J:∀d g,eu=Y (d,g)->bq d=Y g) (M:∀b∈wr,(∀o,s.heap.get? b=Y o->U b=R->O b=R->False)/\U' b=R/\bq b=R/\¬HB E b) (h3:∀b∈fp,(∃o,U' b=Y o)\/b∈wr\/∃g,eu=Y (b,g)) (k:K aH eu bq):OO Z E target U O s K r s'
def EvI(Z:Bs)(n:Nat)(E:Env)(target iter:Expr)(O:bf)(m:Loc)(K:List AV->iD->bf->Prop):=
 ∀U s A,fV n A->St Z U O s->cb U O E m s->aN (~~~Z) A (do let x<-oI iter E (<-eval iter E);cN iter.pos;eD [x] (qZ x)) (OO Z E target U O s K) mj s
def cb.live(h:cb U O E m s)(d:HB E a):∃o,s.heap.get? a=Y o:=by
 rcases d with rfl|⟨x,T⟩
 .let(_,_,g,(o,es,ep,c,_),_):=h.loc;show(o,c)
 .let(_,_,_,f,(oc,e,_),_):=h.vJ x a T;show(oc,e)
def cb.IZ(h:cb U O E m s)(c:O a=Y g):¬HB E a:=λT=>by
 rcases T with rfl|⟨x,T⟩
 .have:=h.loc.2.1;show cA this c
 .have:=(h.vJ x a T).2.1;show cA this c
def A_{K:List AV->iD->bf->Prop}(y:mF iter=L)(h:Ev Z n E iter O m λx d=>Au Z n target x d λaH i=>K aH i d):EvI Z n E target iter O m K:=λU s A k H p=>by
 refine af (fw (h U s A k H p) λu t U1 x d g eg v J=>?_);rw[rA y];refine af<|aj<|af<|aR<|aJ ?_;refine Xh (J U1 t A u k eg v) λit s2 aH fp q Q i U2 f D g2 fY M c I G=>(it,aH,fp,q,Q,i,U2,d,rfl,f,D,g.trans g2,fY,M,λb a=>(ek ?_ ((c b a).2.1) ((c b a).2.2)<|λT=>?_),I,G)
 .intro o z e j;show cA ((c b a).1)<|(g.keep b o z e j).1
 .let(o,C):=(p.grow g).live T;show cA ((c b a).1) C
def A!(h:EvI Z n E target iter O m λaH t J=>∃I:Nat->bf->Loc->Prop,I 0 (iD.out t J) m/\(∀k a O m,aH[k]?=Y a->I k O m->As Z n E target a O m λJ m1=>Ex Z n E body J m1 λC bu m2=>(match C with |.next=>I (k+1) bu m2|.cont=>I (k+1) bu m2|.brk=>Q .next (iD.back t bu) m2|.ret v=>Q (.ret v) (iD.back t bu) m2))/\(∀O m,I aH.length O m->Ex Z n E i O m λC bu m2=>Q C (iD.back t bu) m2)):xo Z n E (.For target iter body i pos) O m Q:=λU s A hR H hF=>by
 let he:exec (.For target iter body i pos) E=(do
   cN pos
   let it<-(do let x<-oI iter E (<-eval iter E);cN iter.pos;eD [x] (qZ x))
   GB (.forLoop target it body i E) E):=by
  show(do
   cN pos
   let x<-oI iter E (<-eval iter E)
   cN iter.pos
   GB (.forLoop target (<-eD [x] (qZ x)) body i E) E)=_
  simp only[bind_assoc]
 rw[he];refine af<|aR<|af ?_;refine aG (h U s A hR H hF) (λr s2 h=>h.casesOn λit aH fp wr h1 t U2 J hr y hJ g2 fY h5 j h7 q=>?_) λ_ _ e=>e;rw[hr];let(I,V6,qo,rz):=q;let zK:=hF.grow g2
 let M:St Z U2 (iD.out t J) s2:=by
  clear aH fp wr y h5 j h7 I V6 qo rz;induction t with|none=>show fY|some p=>let(d,g):=p;show fY.cD d
 let hFo:cb U2 (iD.out t J) E m s2:=((bt zK.loc.1 (iD.mn zK.loc.2.1) zK.loc.2.2),λx c G=>(bt ((zK.vJ x c G).1) (iD.mn (zK.vJ x c G).2.1)<|(zK.vJ x c G).2.2),zK.inj)
 let C0:EU E fp wr U2 (iD.out t J):=by
  refine(λb hb=>?_,λb hb=>(bt ((j b hb).2.1) (iD.mn (j b hb).2.2.1)<|(j b hb).2.2.2));clear aH y I V6 qo rz M hFo;rcases h7 b hb with q|q|⟨g,q⟩
  .show .inl q
  .show .inr<|bt ((j b q).2.1) (iD.mn (j b q).2.2.1)<|(j b q).2.2.2
  .let u:=h5 b g q;clear fp wr h5 j h7 hb;subst q;refine .inr<|bt ?_ di<|zK.IZ u;induction hU:U2 b with|none=>rfl|some o=>have:=(fY.bC _ _ hU).2;show cA this u
 refine aG (SI (Q:=λC bq m'=>Q C (iD.back t bq) m') y I qo rz hR M hFo (λ_ _ e=>e) hJ C0 V6) (λf s3 xp=>?_) λ_ _ e=>e;let(U3,C,js,m3,z,oZ,D,wF,h3):=xp;clear aH fp y h7 I V6 qo rz M hFo C0;induction ta:t with
 |none=>
  clear h5;subst ta;refine(U3,C,js,m3,(λa o e=>z.bC _ _<|g2.bC _ _ e,λa o T e1 e2 e3=>?_,z.os.trans g2.os),oZ,D,wF,h3);let(p,q,r):=g2.keep a o e1 e2 e3;show z.keep a o T (λhm=>(j a hm).1 o e1 e2 e3) p q r
 |some p=>
  let(d,g):=p;subst ta;let u:=h5 d g rfl;clear h5;let(o,ho,hgo):=fY.own _ _ u
  let ϊ:U2 d=R:=by
   induction hU:U2 d with|none=>rfl|some o=>have:=(fY.bC _ _ hU).2;show cA this u
  let A?:d∉wr:=λhm=>by have:=(j d hm).2.2.1;show cA this u
  let(k1,k2,k3):=z.keep d o (λq=>zK.IZ u q.fr) A? ho ϊ di;let ajN:=hgo.mono z.bC
  let hSb:St Z U3 (aB js d g) s3:=by
   refine(oZ.base,λa o' e=>?_,λa g' e=>?_,oZ.gens)
   .let de:a≠d:=eB e k2;show((oZ.bC _ _ e).1,by rw[aq de];show(oZ.bC _ _ e).2)
   .by_cases q:a=d
    .clear h hJ g2 fY j zK C m3 D wF z h3 u ho ϊ A? k2 k3;clear h hF he;subst q;rw[ar] at e;cases e;show aC o k1 ajN
    .rw[aq q] at e;show oZ.own _ _ e
  let jn:∀a,HB E a->a≠d:=λa T q=>zK.IZ u<|q▸T;let hFb:cb U3 (aB js d g) E m3 s3:=((bt D.loc.1 (pS (aq<|jn _<|.inl rfl) D.loc.2.1) D.loc.2.2),λx c G=>(bt ((D.vJ x c G).1) (pS (aq<|jn _<|.inr (x,G))<|(D.vJ x c G).2.1)<|(D.vJ x c G).2.2),D.inj);refine(U3,C,aB js d g,m3,(λa o e=>z.bC _ _<|g2.bC _ _ e,λa o' T e1 e2 e3=>?_,z.os.trans g2.os),hSb,hFb,wF,h3);let(p,q,r):=g2.keep a o' e1 e2 e3;let de:a≠d:=qm r u;let(p',q',r'):=z.keep a o' T (λhm=>(j a hm).1 o' e1 e2 e3) p q (by show cD J d a=R;rw[cx de];show r);show bt p' q'<|pS (aq de) r'
def m8(f:s.heap.get? it=Y o)(d:∀n,o.cls=.type n->["enumerate","zip","dict_itemiterator","dict_reverseitemiterator","odict_iterator","itertools.zip_longest","itertools.pairwise"].contains n=au)(h:Q cF s):aN (~~~Z) A (ra target (!it) v) Q az s:=by
 let K:aN (~~~Z) A (pure cF) Q az s:=aj h
 let B:∀e p,aN (~~~Z) A (ra (.List e p) (!it) v) Q az s:=λe p=>by
  cases v<;>first
   |exact K
   |(refine af (wpAny_load f ?_)
     clear f;let(cls,i,g):=o;replace d:∀n,cls=.type n->_:=d
     cases cls<;>first
      |exact K
      |(cases g<;>first
       |exact K
       |(dsimp only;rw[d _ rfl];show K)))
 clear f d;refine fF target ?_ ?_ ?_ ?_ ?_ ?_ ?_ ?_ ?_ ?_ ?_ ?_ ?_ ?_ ?_ ?_ ?_ ?_ ?_ ?_ ?_ ?_ ?_ ?_ ?_ ?_ ?_<;>first|exact λ_ _=>K|exact λ_ _ _=>K|exact λ_ _ _ _=>K|exact λ_ _ _ _ _=>K|exact B|exact λa _ c=>B a c
end
def St.qp(H:St Z U O s)(f:U it=R)(j:O it=R)(d:∀b o,b≠it->s.heap.get? b=Y o->h.get? b=Y o)(tk:Nat):St Z U O {s with heap:=h,toks:=tk}:=by
 refine(H.base,λa o e=>?_,λa g e=>?_,H.gens)
 .let c:a≠it:=eB e f;show(d a o c (H.bC a o e).1,(H.bC a o e).2)
 .let c:a≠it:=eB e j;let(o,i,e2):=H.own a g e;show aC o (d a o c i) e2
def ml.same(d:∀b o,b≠it->s.heap.get? b=Y o->f.get? b=Y o)(tk:Nat):ml [it] U O s U O {s with heap:=f,toks:=tk}:=
 (λ_ _ e=>e,λa o c h e2 g=>(bt (d a o (λq=>c<|q▸aV.mpr rfl) h) e2 g),λ_ _ e=>e,rfl)
abbrev EW:K0->AV
 |.int i=>.int i
 |.str s=>.str s
 |.none=>.none
def K0.SO(h:K0.is k v=L):cH U (EW k) v:=by
 cases k with|int i=>let(t,rfl):=K0.vG h;show .int ..|str i=>let(t,rfl):=K0.xj h;show .str ..|none=>let rfl:=K0.is_none h;show .raw _
def KG(S:ck t as aH.toList)(q:l≠it):OJ Z t target it as [it,l] [it] (λk h=>h.IsListIter it l k/\h.IsList l aH) where
 sub:=by simp
 live:=λk h ec b p=>by
  let((y,J,_),(u,M,_)):=ec;simp only[aS,aM,or_false] at p;clear S q;rcases p with rfl|rfl
  .show(y,J)
  .show(u,M)
 frame:=λk h g st m=>(st.1.at λo e=>m it (aQ ..) o e,st.2.at λo e=>m l (by simp) o e)
 again:=λk U O s n A Q az f H st C=>wpAny_pyIter_listiter st.1 C
 step:=λk a U O s n A G f I H d st=>by let(v,T,z):=S.get G;rw[bA] at T;let c:=d it (by simp);refine wpAny_pyNext_list_item st.1 st.2 T λg j i=>(aC v rfl ?_);let(o,D,E,_):=id j;show m8 (s:=(s<*g)) D (λnm e=>by rw[E] at e;injection e with e;subst e;decide) (U,(j,st.2.extBut i.extBut q),ml.same i.extBut s.toks,H.qp c.1 c.2 i.extBut s.toks,z.mono I)
 stop:=λU O s n A f H d st=>by let c:=d it<|aQ ..;show wpAny_pyNext_list_end f.handled st.1 st.2 (by simp[S.length]) λg T=>(bt rfl (ml.same T s.toks)<|H.qp c.1 c.2 T s.toks)
def Qn(S:ck z as aH.toList)(y:l≠it):OJ Z z target it as [it,l] [it] (λk h=>h.IsTupleIter it l k/\h.IsTuple l aH) where
 sub:=by simp
 live:=λk h d b u=>by
  let((g,J,_),(f,M,_)):=d;simp only[aS,aM,or_false] at u;clear S y;rcases u with rfl|rfl
  .show(g,J)
  .show(f,M)
 frame:=λk h m d t=>by let((g,J,r1),(f,M,r2)):=d;show((g,t it (aQ ..) _ J,r1),(f,t l (by simp) _ M,r2))
 again:=λk U O s n A Q az j H st D=>wpAny_pyIter_tupleiter st.1 D
 step:=λk a U O s n A I j hU H i st=>by let(v,T,C):=S.get I;rw[bA] at T;let c:=i it (by simp);refine wpAny_pyNext_tuple_item st.1 st.2 T λm q p=>(aC v rfl ?_);let(o,E,G,_):=id q;show m8 (s:=(s<*m)) E (λnm e=>by rw[G] at e;injection e with e;subst e;decide) (U,(q,st.2.extBut p.extBut y),ml.same p.extBut s.toks,H.qp c.1 c.2 p.extBut s.toks,C.mono hU)
 stop:=λU O s n A j H i st=>by let c:=i it<|aQ ..;show wpAny_pyNext_tuple_end j.handled st.1 st.2 (by simp[S.length]) λm T=>(bt rfl (ml.same T s.toks)<|H.qp c.1 c.2 T s.toks)
def l6(a:Int)(k:Nat):=(bO k).map λi:Nat=>AV.int<|a+i
def Qo:OJ Z v target it (l6 a len) [it] [it] (λk h=>k<=len/\IsRangeIter h it (a+k) (len-k) 1) where
 sub:=by simp
 live:=λk h c b t=>by let(_,J):=c;simp only[aS,aM,or_false] at t;subst t;show(_,J)
 frame:=λk h o c i=>by let(j,J):=c;show(j,i it (aQ ..) _ J)
 again:=λk U O s n A Q az m H st i=>wpAny_pyIter_rangeiter st.2 i
 step:=λk x U O s n A f m y H g c=>by
  let(j,st):=c
  let p:k<len:=by have:=(aL.mp f).1;simpa [l6] using this
  let T:x=.int (a+k):=by rw[l6,bb,jI p] at f;simpa using f.symm
  clear f;subst T;let d:=g it<|aQ ..;refine wpAny_pyNext_range_item st (aeN p) λo q u=>(aC _ rfl ?_);refine m8 (s:={s with heap:=o,toks:=s.toks+1}) q (λnm e=>by injection e with e;subst e;decide) (U,(p,?_),ml.same u.extBut _,H.qp d.1 d.2 u.extBut _,.int ..);rw[show(a+((k+1:Nat):Int))=a+k+1 from aeO,show((len:Int)-((k+1:Nat):Int))=len-k-1 from aeP];show q
 stop:=λU O s n A m H g c=>by let(j,st):=c;let d:=g it<|aQ ..;show wpAny_pyNext_range_end m.handled st (by simp[l6]) λo T=>(bt rfl (ml.same T s.toks)<|H.qp d.1 d.2 T s.toks)
def AO(bJ:List (K0×AV)):=bJ.map λx=>EW x.1
def KH(bJ:List (K0×AV)):=bJ.map λx=>x.2
abbrev nU(bJ:List (K0×AV)):List AV:=bJ.map λx=>.tup [EW x.1,x.2]
def jd.WG{c:List (d×Value)}(h:jd U l c):∀{i:Nat} {k:d} {a:AV},l[i]?=Y (k,a)->∃v,c[i]?=Y (k,v)/\cH U a v:=by
 induction h with
 |nil=>intro i k a e;simp at e
 |cons S _ f=>
  intro i k a e
  induction i using cV with|zero=>simp at e;let(rfl,rfl):=e;show(aC _ rfl S)|succ j=>simpa using f e
def jd.len{a:List (d×Value)}(h:jd U l a):l.length=a.length:=by
 induction h with|nil=>rfl|cons S _ c=>simp[c]
def SP(S:jd z bJ dN)(u:d≠it):OJ Z z target it (AO bJ) [it,d] [it] (λk h=>h.IsKeyIter it d k dN.length ep/\h.DictAt (cW Z.prog Z.w) d dN ep) where
 sub:=by simp
 live:=λk h ec b t=>by
  let((E,J,_),(D,es,M,_)):=ec;simp only[aS,aM,or_false] at t;clear S u;rcases t with rfl|rfl
  .show(E,J)
  .show(D,M)
 frame:=λk h j st q=>(st.1.at λo e=>q it (aQ ..) o e,st.2.at' λo e=>q d (by simp) o e)
 again:=λk U O s n A Q az i H st G=>wpAny_pyIter_keyiter st.1 G
 step:=λk a U O s n A f i hU H g st=>by
  rw[AO,bb] at f
  induction T:bJ[k]? with
  |none=>rw[T] at f;show nomatch f
  |some x=>
   let(x,xa):=x;rw[T] at f;cases f;let(v,C,hr):=S.WG T;let c:=g it<|aQ ..;refine wpAny_pyNext_dict_item st.1 st.2 C λkey j y p m=>(aC key rfl ?_);let(o,I,hc,_):=id p;show m8 (s:=(s<*j)) I (λnm e=>by rw[hc] at e;injection e with e;subst e;decide) (U,(p,st.2.at' λo e=>m.extBut d o u e),ml.same m.extBut s.toks,H.qp c.1 c.2 m.extBut s.toks,K0.SO y)
 stop:=λU O s n A i H g st=>by let c:=g it<|aQ ..;show wpAny_pyNext_dict_end i.handled st.1 st.2 (by simp[AO,S.len]) λj T=>(bt rfl (ml.same T s.toks)<|H.qp c.1 c.2 T s.toks)
def MY(S:jd y bJ dN)(u:d≠it):OJ Z y target it (KH bJ) [it,d] [it] (λk h=>h.IsValIter it d k dN.length ep/\h.DictAt (cW Z.prog Z.w) d dN ep) where
 sub:=by simp
 live:=λk h ec b t=>by
  let((D,J,_),(C,es,M,_)):=ec;simp only[aS,aM,or_false] at t;clear S u;rcases t with rfl|rfl
  .show(D,J)
  .show(C,M)
 frame:=λk h j st q=>(st.1.at λo e=>q it (aQ ..) o e,st.2.at' λo e=>q d (by simp) o e)
 again:=λk U O s n A Q az i H st G=>wpAny_pyIter_valiter st.1 G
 step:=λk a U O s n A f i hU H g st=>by
  rw[KH,bb] at f
  induction T:bJ[k]? with
  |none=>rw[T] at f;show nomatch f
  |some x=>
   let(x,xa):=x;rw[T] at f;cases f;let(v,z,E):=S.WG T;let c:=g it<|aQ ..;refine wpAny_pyNext_values_item st.1 st.2 z λj p m=>(aC _ rfl ?_);let(o,I,hc,_):=id p;show m8 (s:=(s<*j)) I (λnm e=>by rw[hc] at e;injection e with e;subst e;decide) (U,(p,st.2.at' λo e=>m.extBut d o u e),ml.same m.extBut s.toks,H.qp c.1 c.2 m.extBut s.toks,E.mono hU)
 stop:=λU O s n A i H g st=>by let c:=g it<|aQ ..;show wpAny_pyNext_values_end i.handled st.1 st.2 (by simp[KH,S.len]) λj T=>(bt rfl (ml.same T s.toks)<|H.qp c.1 c.2 T s.toks)
def B6:mP U a o a=Y o:=bj rfl
def I0(h:b≠a):mP U a o b=U b:=aK h
def St.ZC{c:List aW}(H:St Z U O s)(k:∀b∈c,U b=R/\O b=R)(fM:∀b∈c,b<↥s)(f:∀b x,b∉c->s.heap.get? b=Y x->i.get? b=Y x)(m:i.get? ↥s=Y o):St Z (mP U ↥s o) O {s with heap:=i,toks:=tk}/\ml c U O s (mP U ↥s o) O {s with heap:=i,toks:=tk}:=by
 let j:=H.bY;let a:=pY (o:=o) j.1;refine((λb x e=>a _ _<|H.base b x e,λb x e=>?_,λb g e=>?_,H.gens),(a,λb x h d e2 n=>(bt (f b x h d) ((I0<|bX<|aU d).trans e2) n),λb h e=>(I0<|bX<|fM b h).trans e,rfl))
 .by_cases q:b=↥s
  .rw[q,B6] at e;rw[<-ax e,q];show(m,j.2)
  .rw[I0 q] at e;show(f b x (λz=>nomatch (k b z).1.symm.trans e) (H.bC _ _ e).1,(H.bC _ _ e).2)
 .let(x,d,e2):=H.own b g e;show aC x (f b x (λz=>nomatch (k b z).2.symm.trans e) d)<|e2.mono a
def Qp{I}(S:jd uM bJ dN)(D:d≠it):OJ Z uM (.Tuple C I pos) it (nU bJ) [it,d] [it] (λk h=>(∃ok g,IsItemIter h it d k dN.length ep ok g)/\h.DictAt (cW Z.prog Z.w) d dN ep) where
 sub:=by simp
 live:=λk h f b c=>by
  let((ok,g,J),(o2,es,M,_)):=f;simp only[aS,aM,or_false] at c;clear D;rcases c with rfl|rfl
  .show(_,J)
  .show(o2,M)
 frame:=λk h u f hk=>by let((ok,g,J),M):=f;show((rY ok g<|hk it (aQ ..) _ J),M.at' λo e=>hk d (by simp) o e)
 again:=λk U O s n A Q az p H f hq=>by let((ok,g,J),M):=f;show kcp_self J hq
 step:=λk a U O s n A i p hU H j f=>by
  let((ok,g,J),M):=f;rw[nU,bb] at i
  induction T:bJ[k]? with
  |none=>rw[T] at i;show nomatch i
  |some x=>
   let(x,xa):=x;rw[T] at i;cases i;let(v,pU,hr):=S.WG T;let m:=j it<|aQ ..;refine vl J M pU λkey u G lR Qq jC gH=>(aC _ rfl ?_);refine wpAny_letOwnedTupleGo_items (s:=(s<*u)) lR λt E Qr=>?_;let z:it<↥s:=aU J;let y:∀b o,b≠it->s.heap.get? b=Y o->t.get? b=Y o:=λb o c e=>Qr.extBut b o c<|gH b o c e;let key:=H.ZC (tk:=s.toks) j (λb c=>aV.mp c▸z) (λb x c=>y b x λq=>c<|aV.mpr q)<|Qr.extBut _ _ (kh z) Qq;show(_,((rY _ _ E),M.at' λo e=>y d o D e),key.2,key.1,.tup B6<|.cons (K0.SO G)<|.cons ((hr.mono hU).mono key.2.bC) .nil)
 stop:=λU O s n A p H j f=>by let((ok,g,J),M):=f;let m:=j it<|aQ ..;show wpAny_pyNext_items_end p.handled J M (by simp[nU,S.len]) λu T=>(bt rfl (ml.same T s.toks)<|H.qp m.1 m.2 T s.toks)
section
variable{K:List AV->iD->Prop}
variable{O:bf}
def Sub(O c:bf):=∀a g,O a=Y g->c a=Y g
def Sub.no(h:Sub O c)(e:c a=R):O a=R:=by
 induction q:O a with|none=>rfl|some g=>show cA e (h a g q)
def Sub.aB(h:O a=R):Sub O (aB O a g):=λb x e=>by
 by_cases q:b=a
 .subst q;show cA h e
 .rw[aq q];show e
def Sub.cD:Sub (cD O a) O:=λb x e=>by
 by_cases q:b=a
 .subst q;show cA di e
 .rw[cx q] at e;show e
def St.sub(h:Sub O c)(H:St Z U c s):St Z U O s:=
 (H.base,λa o e=>((H.bC a o e).1,h.no (H.bC a o e).2),λa g e=>H.own a g<|h a g e,H.gens)
def bV.sub(h:Sub O e)(g:bV U γ0 s f e s'):bV U γ0 s f O s':=
 (g.bC,λa o d e2 c=>by let(p,q,r):=g.keep a o d e2 c;show bt p q<|h.no r,g.os)
def Cl.sub(h:Cl Z n f args m O λa i=>∃c,Sub c i/\Q a c):Cl Z n f args m O Q:=λU s A vs bJ q H S o k=>
 aG (h U s A vs bJ q H S o k) (λr y t=>by let(u,a,i,g,j,v,c,d,p):=t;show(u,a,c,g.sub d,j.sub d,v,p)) λ_ _ e=>e
def Ev.sub(h:Ev Z n E e O m λa f=>∃c,Sub c f/\Q a c):Ev Z n E e O m Q:=λU s A k H o=>
 aG (h U s A k H o) (λr u p=>by let(q,a,f,g,i,t,c,d,j):=p;show(q,a,c,g.sub d,i.sub d,t,j)) λ_ _ e=>e
def Ex.mono(h:Ex Z n E ss O m Q)(i:∀c d a,Q c d a->Q' c d a):Ex Z n E ss O m Q':=λU s A k H o=>
 aG (h U s A k H o) (λr v p=>by let(t,c,d,a,g,f,u,j,q):=p;show(t,c,d,a,g,f,u,j,i _ _ _ q)) λ_ _ e=>e
def Qs{m:Loc}(T:m.lookup x=Y !d)(hd:O d=Y (.list l))(h:Ex Z n E ss (cD O d) ((x,.lst l)::m) Q):Ex Z n E ss O m Q:=λU s A hR H f=>by
 let(o,ho,aH,k,rfl,S):=H.own d _ hd
 let C:U d=R:=by
  induction hU:U d with|none=>rfl|some o=>have:=(H.bC _ _ hU).2;show cA this hd
 let hle:=pY (o:=listOf aH k) C
 let rQ:St Z (mP U d<|listOf aH k) (cD O d) s:=by
  refine(λb o e=>hle _ _<|H.base b o e,λb o e=>?_,λb g e=>?_,H.gens)
  .by_cases q:b=d
   .subst q;simp only[mP,if_true] at e;cases e;show(ho,di)
   .simp only[mP,aK q] at e;show((H.bC _ _ e).1,by rw[cx q];show(H.bC _ _ e).2)
  .let q:b≠d:=eB e di;rw[cx q] at e;let(o,D,e2):=H.own b g e;show aC o D<|e2.mono hle
 let de:∀a,HB E a->a≠d:=λa z q=>f.IZ hd<|q▸z;let J:∀a,HB E a->U a=R->mP U d (listOf aH k) a=R:=λa z e=>by rw[mP,aK<|de a z];show e
 let M:cH (mP U d<|listOf aH k) (.lst l) (!d):=.lst (bj rfl)<|S.mono hle
 let HD:cb (mP U d<|listOf aH k) (cD O d) E ((x,.lst l)::m) s:=by
  refine((bt (J _ (.inl rfl) f.loc.1) (by rw[cx (de _<|.inl rfl)];show f.loc.2.1) ?_),λy c j=>(ek (J _ (.inr (y,j)) (f.vJ y c j).1) (by rw[cx (de _<|.inr (y,j))];show(f.vJ y c j).2.1) ((f.vJ y c j).2.2.1) ?_),f.inj)
  .let(t,u,p):=f.loc.2.2;refine aC t u (λy a G e=>?_);rw[et] at e;by_cases q:y=x
   .subst q;rw[bj rfl] at e;cases e;let(v,i,o4):=p _ _ G T;have:=o4.bU;clear o4;subst this;show aC _ i M
   .rw[aK q] at e;let(v,i,o4):=p _ _ G e;show aC v i<|o4.mono hle
  .let(v',u,p):=(f.vJ y c j).2.2.2;refine aC v' u (λa e=>?_);rw[et] at e;by_cases q:y=x
   .subst q;rw[bj rfl] at e;cases e;let(v,i,o4):=p _ T;have:=o4.bU;clear o4;subst this;show aC _ i M
   .rw[aK q] at e;let(v,i,o4):=p _ e;show aC v i<|o4.mono hle
 refine aG (h _ s A hR rQ HD) (λr s' q0=>?_) λ_ _ e=>e;let(U',fl,bq,t,g,fY,zK,hf,hq):=q0;refine(U',fl,bq,t,(λa o e=>g.bC a o<|hle a o e,λa o T D e2 I=>?_,g.os),fY,zK,hf,hq);let q:a≠d:=qm I hd;show g.keep a o T D (by rw[mP,aK q];show e2) (by rw[cx q];show I)
def oX.m9(h:oX):h.get? h.objs.size=R:=by
 induction e:h.get? h.objs.size with|none=>rfl|some o=>show absurd (aU e) (dA _)
def AQ(h:K l R):Au Z n target (.lst l) O K:=λU s A v q H S=>by
 let(a,aH,k,rfl,p,m):=S.lst_inv;let i:=(H.bC _ _ p).1;let j:s.heap.IsList a aH:=(_,i,rfl,k,rfl);calc tR j;let f:∀b o,s.heap.get? b=Y o->(s.heap.push {cls:=.type "list_iterator",data:=.fields #[.ref a,.int 0 0]}).get? b=Y o:=λb o e=>aF _ e;refine(_,l,[↥s,a],[↥s],_,R,U,rfl,KG m<|bX<|aU i,((_,aO _ rfl,rfl,rfl),j.push _),bV.keeps f s.toks,H.keeps f s.toks,λd g e=>(by cases e),λb c=>?_,λb c=>?_,h)
 .let rfl:=aV.mp c;show(oX.m9 _,H.bY)
 .simp only[aS,aM,or_false] at c⊢;clear l h m S i j f;rcases c with rfl|rfl
  .show .inr<|.inl rfl
  .show .inl (_,p)
def Xi(h:K l R):Au Z n target (.tup l) O K:=λU s A v q H S=>by
 let(a,aH,k,rfl,p,m):=S.vF;let i:=(H.bC _ _ p).1;let j:s.heap.IsTuple a aH:=(_,i,rfl,k,rfl);calc wpAny_pyIter_tuple j;let f:∀b o,s.heap.get? b=Y o->(s.heap.push {cls:=.type "tuple_iterator",data:=.fields #[.ref a,.int 0 0]}).get? b=Y o:=λb o e=>aF _ e;refine(_,l,[↥s,a],[↥s],_,R,U,rfl,Qn m<|bX<|aU i,((_,aO _ rfl,rfl,rfl),j.push _),bV.keeps f s.toks,H.keeps f s.toks,λd g e=>(by cases e),λb c=>?_,λb c=>?_,h)
 .let rfl:=aV.mp c;show(oX.m9 _,H.bY)
 .simp only[aS,aM,or_false] at c⊢;clear l h m S i j f;rcases c with rfl|rfl
  .show .inr<|.inl rfl
  .show .inl (_,p)
def SQ(hd:O d=Y (.list l))(h:K l (Y (d,.list l))):Au Z n target (!d) O K:=λU s A v m H S=>by
 let rfl:=S.bU;clear S;let(o,f,aH,k,rfl,j):=H.own d _ hd;let i:s.heap.IsList d aH:=(_,f,rfl,k,rfl);calc tR i;let c:∀b o,s.heap.get? b=Y o->(s.heap.push {cls:=.type "list_iterator",data:=.fields #[.ref d,.int 0 0]}).get? b=Y o:=λb o e=>aF _ e;refine(_,l,[↥s,d],[↥s],_,Y (d,.list l),U,rfl,KG j<|bX<|aU f,((_,aO _ rfl,rfl,rfl),i.push _),bV.keeps c s.toks,H.keeps c s.toks,λd g e=>by cases e;show hd,λb a=>?_,λb a=>?_,h)
 .let rfl:=aV.mp a;show(oX.m9 _,H.bY)
 .simp only[aS,aM,or_false] at a⊢;rcases a with rfl|rfl
  .show .inr<|.inl rfl
  .show .inr<|.inr (_,rfl)
def KI(hd:O d=Y (.dict l))(h:K (AO l) (Y (d,.dict l))):Au Z n target (!d) O K:=λU s A v m H S=>by
 let rfl:=S.bU;clear S;let(dN,i,j):=H.dict hd;let(ep,f):=i.dictAt;clear i;let(o,es,k,_):=id f;calc tT (H.jG hd) f;let c:∀b o,s.heap.get? b=Y o->(s.heap.push {cls:=.type "dict_keyiterator",data:=.fields #[.ref d,.int 0 0,.int dN.length 0,.int ep 0]}).get? b=Y o:=λb o e=>aF _ e;refine(_,AO l,[↥s,d],[↥s],_,Y (d,.dict l),U,rfl,SP (ep:=ep) j<|bX<|aU k,((_,aO _ rfl,rfl,rfl),f.at' λo e=>c d o e),bV.keeps c s.toks,H.keeps c s.toks,λd g e=>by cases e;show hd,λb a=>?_,λb a=>?_,h)
 .let rfl:=aV.mp a;show(oX.m9 _,H.bY)
 .simp only[aS,aM,or_false] at a⊢;rcases a with rfl|rfl
  .show .inr<|.inl rfl
  .show .inr<|.inr (_,rfl)
@[ext]abbrev pe(d:aW):Obj:={cls:=.type "dict_items",data:=.fields #[.ref d]}
@[ext]abbrev EX(d:aW):Obj:={cls:=.type "dict_values",data:=.fields #[.ref d]}
def Qt{m}(hd:O d=Y (.dict l))(h:K (nU l) (Y (d,.dict l))):Au Z n (.Tuple k m pos) (.obj<|pe d) O K:=λU s A v u H S=>by
 let(a,rfl,t):=S.Ay;clear S;let(dN,j,p):=H.dict hd;let(ep,i):=j.dictAt;clear j;let(o,es,q,_):=id i;calc An (v:=a) (_,(H.bC _ _ t).1,rfl,rfl) i;let f:∀b o,s.heap.get? b=Y o->(s.heap.push {cls:=.type "dict_itemiterator",data:=.fields #[.none,.bool au,.ref d,.int 0 0,.int dN.length 0,.int ep 0,.none,.none]}).get? b=Y o:=λb o e=>aF _ e;refine(_,nU l,[↥s,d],[↥s],_,Y (d,.dict l),U,rfl,Qp (ep:=ep) p<|bX<|aU q,((rY _ _<|aO _ rfl),i.at' λo e=>f d o e),bV.keeps f s.toks,H.keeps f s.toks,λd g e=>by cases e;show hd,λb c=>?_,λb c=>?_,h)
 .let rfl:=aV.mp c;show(oX.m9 _,H.bY)
 .simp only[aS,aM,or_false] at c⊢;rcases c with rfl|rfl
  .show .inr<|.inl rfl
  .show .inr<|.inr (_,rfl)
def M0(hd:O d=Y (.dict l))(h:K (KH l) (Y (d,.dict l))):Au Z n target (.obj<|EX d) O K:=λU s A v q H S=>by
 let(a,rfl,p):=S.Ay;clear S;let(dN,j,k):=H.dict hd;let(ep,i):=j.dictAt;clear j;let(o,es,m,_):=id i;calc wpAny_pyIter_values (v:=a) (_,(H.bC _ _ p).1,rfl,rfl) i;let f:∀b o,s.heap.get? b=Y o->(s.heap.push {cls:=.type "dict_valueiterator",data:=.fields #[.ref d,.int 0 0,.int dN.length 0,.int ep 0]}).get? b=Y o:=λb o e=>aF _ e;refine(_,KH l,[↥s,d],[↥s],_,Y (d,.dict l),U,rfl,MY (ep:=ep) k<|bX<|aU m,((_,aO _ rfl,rfl,rfl),i.at' λo e=>f d o e),bV.keeps f s.toks,H.keeps f s.toks,λd g e=>by cases e;show hd,λb c=>?_,λb c=>?_,h)
 .let rfl:=aV.mp c;show(oX.m9 _,H.bY)
 .simp only[aS,aM,or_false] at c⊢;rcases c with rfl|rfl
  .show .inr<|.inl rfl
  .show .inr<|.inr (_,rfl)
end
abbrev Mu(e:Int×Value):Int:=match e.2 with
 |.int i _=>i
 |_=>0
def ajQ(e:Int×Value):=∃i t,e=(qf i,.int i t)
def eI:iW es ns↔ns=es.map Mu/\∀e∈es,ajQ e:=by
 constructor
 .intro h;induction h with
  |nil=>show(rfl,λe he=>by cases he)
  |cons _ a=>
   refine(by rw[cj,<-a.1];rfl,λe he=>?_);rcases aS.mp he with rfl|he
   .show(_,_,rfl)
   .show a.2 e he
 .rintro ⟨rfl,h⟩;induction es with
  |nil=>show .nil
  |cons e es a=>
   let(i,t,rfl):=h e<|.head _;show .cons (a λe he=>h e<|.tail _ he)
def iW.perm(h:iW es ns)(p:es'.Perm es):∃a,iW es' a/\a.Perm ns:=by let(rfl,M):=eI.mp h;show aC (es'.map Mu) (eI.mpr (rfl,λe c=>M e<|p.mem_iff.mp c))<|p.map _
def iW.push(h:iW es ns)(i:Int)(t:Tok):iW (es++[(qf i,.int i t)]) (ns++[i]):=by
 let(rfl,M):=eI.mp h;refine eI.mpr (by simp[Mu],λe he=>?_);rcases cy.mp he with he|he
 .show M e he
 .rw[aV] at he;clear M h;subst he;show(_,_,rfl)
def iW.len(h:iW es ns):ns.length=es.length:=by let(rfl,_):=eI.mp h;simp
def iW.of(h:iW es ns):ElemsOf (cW prog w) es:=λe a=>by let(i,t,rfl):=(eI.mp h).2 e a;show((aC ⇑i K0.isI rfl),rfl)
def iW.mem(h:iW es ns)(i:Int):(∃e∈es,K0.is ⇑i e.2=L)↔i∈ns:=by
 let(rfl,M):=eI.mp h;constructor
 .intro d;let(e,c,a):=d;let(j,t,rfl):=M e c;simp[K0.is,Mu,Az] at a;subst a;show cG.mpr<|aC _ c rfl
 .intro a;let(e,c,rfl):=cG.mp a;clear a;let(j,t,rfl):=M e c;show(aC _ c<|by simp[K0.is,Mu,Az])
def ff(xs:List Int)(i:Int):=if i∈xs then xs else xs++[i]
section
def rB{h:oX}{a:aW}{xs:List Int}(j:h.get? a=Y o)(c:o.ExactSet)(hd:o.data=.set es ep t)(e:iW es'.toList ns)(f:ns.Nodup)(i:ns.Perm xs)(g:Ow w t' es'.size):∃d,(h.update a<|sQ es' t').get? a=Y d/\jr w d xs:=by
 let k:(h.update a<|sQ es' t').get? a=Y {o with data:=.set es' (ep+1) t'}:=by have:=iS (sQ es' t') j (by rw[CJ es' t' hd];rfl);rw[CJ es' t' hd] at this;show this
 show(_,k,c,es',ep+1,t',ns,rfl,e,f,i,g)
def M1{h:oX}(c:h.get? a=Y o)(hd:o.data=.set es ep t)(es':Array (Int×Value))(t':jm):(h.update a<|sQ es' t').get? a=Y {o with data:=.set es' (ep+1) t'}:=by have:=iS (sQ es' t') c (by rw[CJ es' t' hd];rfl);rw[CJ es' t' hd] at this;show this
def I3(u:s.heap.get? a=Y o)(G:jr w o xs)(hz:xs.length<=4000)(h:∀b J z,cQ a s.heap J->J.get? a=Y z->jr w z (ff xs i)->Q b (s<*J)):aN (bw prog w) A (setAddHashed a (.int i tk)<|qf i) Q az s:=by
 let(n,es,ep,t,ns,hd,p,jn,hp,f):=id G;let g:(Value.int i tk).scannable=L:=rfl;let zL:(cW prog w).is ⇑i (.int i tk)=L:=K0.isI;let v:es.size=xs.length:=by rw[<-hp.length_eq,p.len,aD]
 let C:es.size<scanBound:=by show es.size<4096;show ĥ v hz
 let hf:=f.tab.fits;let B_:ElemsOf (cW prog w) es.toList:=p.of;refine aJ<|af<|dK u hd hf ?_;dsimp only;rw[byScan_of g C B_];refine PZ rfl<|af<|af<|mW ?_;refine af<|CK (knd:=cW prog w) (k:=.int i) zL u hd hf B_ ?_;clear zL;induction c:zG (λe=>(cW prog w).is ⇑i e.2) es.toList with
 |some j=>
  dsimp only;let(hj,ό,_):=nz.mp c;let m:i∈xs:=hp.mem_iff.mp<|(p.mem i).mp (aC (es.toList[j]) (pN hj) ό);refine aj<|aj ?_;let e:s=(s<*s.heap):=by clear a o xs u G hz Q h n hd hp f g v B_ c ό m;cases s;rfl
  show qP e (h _ s.heap o (BN a s.heap) u<|by rw[ff,bj m];show G)
 |none=>
  let m:i∉xs:=λm=>by let(e,he,H):=(p.mem i).mpr (hp.mem_iff.mpr m);have:=iY.mp c e he;rw[show(cW prog w).is ⇑i e.2=L from H] at this;show Bool.noConfusion this
  let hgw:∀(b:Bool) {jK:aZ} {T:Unit->aZ->Prop},T cF jK->aN (bw prog w) A (match b with|true=>rule "set.scan.the-table-gave-way"|false=>pure cF) T az jK:=
   λb jK T hq=>by cases b<;>first|exact aj hq|exact mW hq
  clear c;let(y,d,D,O,kj,ZD,ajS,M,E,Xc):=Sf f.tab (aeQ v hz) (qf i)<|.int i tk;let ύ:Gs t es ((cW prog w).hash ⇑i) (.int i tk)=(y,d,D,au):=O;show aN _ _ (let x:=Gs t es (qf i)<|.int i tk;_) _ _ _;rw[show Gs t es (qf i) (.int i tk)=(y,d,D,au) from O];dsimp only;rw[ou] at kj;clear O ύ;let(ώ,Xj,V7):=(p.push i tk).perm kj;let I:i∉ns:=λq=>m<|hp.mem_iff.mp q;let Ϗ:(ns++[i]).Nodup:=eM.mpr (bt jn (by simp)<|λa ha b C=>by rw[aV] at C;subst C;show λe=>I<|e▸ha);let V8:(ns++[i]).Perm (ff xs i):=by rw[ff,aK m];show hp.append_right _
  refine af<|show aN _ _ (pure cF) _ _ _ from aj ?_;let ϐ:d.plain=L:=ZD.plain.trans f.plain;rw[ϐ];refine PZ rfl<|af ?_;rw[hashByValue_scannable 8 g];calc aj;rw[plainKind,bj rfl];refine af<|lg u hd ?_<|qP dw<|ŭ M v hz;let M3:=M1 u hd y d;let ϑ:=cY s.heap a<|sQ y d
  induction ñ:(not D&&d.tooFull) with
  |true=>
   calc PZ rfl;let(GW,t2,ta,U,ϒ,SV):=E ñ;rw[ta];dsimp only;rw[ou] at U;let(ϓ,Xk,ϔ):=(p.push i tk).perm U;refine af<|show aN _ _ (pure cF) _ _ _ from aj ?_;let B!:GW.size=es.size+1:=by have:=U.length_eq;simpa using this
   refine af<|lg M3 rfl ?_<|qP dw<|ŭ B! v hz;let(z,Ee,J6):=rB (w:=w) (es':=GW) (t':=t2) (xs:=ff xs i) M3 n rfl Xk (ϔ.nodup_iff.mpr Ϗ) (ϔ.trans V8) (ϒ,SV.plain.trans f.plain,SV.led.trans f.led);show aj<|aj<|h _ _ z (ϑ.trans (cY _ a _)) Ee J6
  |false=>show Ax aI (aj<|aj<|h _ _ _ ϑ M3 (n,y,ep+1,d,ώ,rfl,Xj,V7.nodup_iff.mpr Ϗ,V7.trans V8,Xc ñ,ϐ,ZD.led.trans f.led))
end
def r6:Manifest.owners.lookup (String.ofList ['r','o','t','a','r','e','t','i','_','t','e','s'].reverse)=Y Manifest.sig_set_iterator:=⋯
def dC:Slot "set_iterator" "__next__" "set_iterator.__next__":=
 .of (owner:="set_iterator") (n:="__next__") (by rw[eA,cU];kernel_rfl) (by lk) (by lk) (by lk)
  (by first|exact .inl (by lk)|exact .inr (by lk)) (by rw[bM];kernel_rfl)
def lS:lJ ym "set_iterator.__next__"=Y cK.«set_iterator.__next__»:=iB ⋯
def mG(a:Value):mX "set_iterator.__next__" ([a],[]):=by unfold mX;rw[zH (id:="set_iterator.__next__") (n:=['_','_','t','x','e','n','_','_']) (o:=['r','o','t','a','r','e','t','i','_','t','e','s']) ⋯ r6];kernel_rfl
def mH:Slot "set_iterator" "__iter__" "set_iterator.__iter__":=
 .of (owner:="set_iterator") (n:="__iter__") (by rw[eA,cU];kernel_rfl) (by lk) (by lk) (by lk)
  (by first|exact .inl (by lk)|exact .inr (by lk)) (by rw[bM];kernel_rfl)
def uN:lJ ym "set_iterator.__iter__"=Y cK.«dict_keyiterator.__iter__»:=
 oO (id':="dict_keyiterator.__iter__") ⋯ rfl (by lk) ⋯
def wI(a:Value):mX "set_iterator.__iter__" ([a],[]):=by unfold mX;rw[zH (id:="set_iterator.__iter__") (n:=['_','_','r','e','t','i','_','_']) (o:=['r','o','t','a','r','e','t','i','_','t','e','s']) ⋯ r6];kernel_rfl
def xv:lJ ym "set.__iter__"=Y cK.«frozenset.__iter__»:=
 oO (id':="frozenset.__iter__") ⋯ rfl (by lk) ⋯
section
variable{w:cC}
@[ext]abbrev fZ(a k d c ep:Nat):Obj:={cls:=.type "set_iterator",dict:=R,data:=.fields #[eK a,eK k,.ref d,eK c,eK ep],slots:= #[]}
def fW(w:cC)(d ep:Nat)(es:Array (Int×Value)):=if iF w then vg (w.params.setOrder d ep) es else es
def slotAt(w:cC)(t:jm)(k:Nat):=if iF w then 0 else if k=0 then 0 else t.place.getD (k-1) 0+1
def iz(h:Q (iF w) s):aN (bw prog w) A setsByText Q az s:=by delta setsByText;show af<|lX<|aj h
def tC{prog:mL}{az:Value->aZ->Prop}{it d:aW}{o:Obj}{k ep:Nat}{es:Array (Int×Value)}{t:jm}(m:s.heap.get? d=Y o)(hd:o.data=.set es ep t)(hx:Ow w t es.size){Q:Option (Value×Nat)->aZ->Prop} (J:∀e,(fW w d ep es)[k]?=Y e->Q (Y (e.2,slotAt w t<|k+1)) s)(M:(fW w d ep es)[k]?=R->Q R s)(p:k<=es.size):aN (bw prog w) A (setNext d (slotAt w t k) k ep) Q az s:=by
 delta setNext
 refine af<|dK m hd hx.tab.fits ?_;refine af<|iz ?_
 induction c:iF w with
 |true=>
  calc PZ rfl;rw[aK (by simp)];calc af;
  delta setWalk
  refine af<|dK m hd hx.tab.fits ?_;refine af<|iz ?_;rw[c];refine PZ rfl<|af<|lX<|aj ?_;let a:fW w d ep es=vg (w.params.setOrder d ep) es:=by rw[fW,bj c]
  rw[a] at J M;show aN _ _ (pure _) _ _ _;calc aj;show Q (((vg (w.params.setOrder d ep) es)[k]?).map λe=>bG e.2<|slotAt w t k) s
  induction T:(vg (w.params.setOrder d ep) es)[k]? with
  |none=>show M T
  |some e=>
   have:=J e T;let i:∀j,slotAt w t j=0:=λj=>by rw[slotAt,bj c]
   rw[i] at this;show Q (Y (e.2,slotAt w t k)) s;rw[i];show this
 |false=>
  calc Ax aI;let u:(not t.plain&&decide (es.size>1))=au:=by rw[hx.plain];rfl
  let q:t.led=L:=by rw[hx.led,c];rfl
  show aN _ _ (if(not t.plain&&decide (es.size>1))=L then _ else _) _ _ _;rw[u];refine Ax aI (af<|show aN _ _ (if(not t.led&&not es.isEmpty)=L then _ else _) _ _ _ from ?_);rw[q];refine Ax aI<|aj<|aj ?_;let a:fW w d ep es=es:=by rw[fW,aK<|by rw[c];simp]
  rw[a] at J M
  let g:bZ t.place (slotAt w t k)=k:=by
   rw[slotAt,aK<|by rw[c];simp];cases k with
   |zero=>show MJ hx.tab.sp
   |succ k=>
    rw[aK (pO k),Ao];let f:k<t.place.size:=by rw[hx.tab.sz];show p
    let T:t.place[k]?=Y (t.place.getD k 0):=by rw[cB f];simp[pH,f]
    show MI hx.tab.sp T
  rw[g];rcases oe k es.size with f|IY
  .let T:es[k]?=Y es[k]:=cB f;let h:k<t.place.size:=by rw[hx.tab.sz];show f
   let n:t.place[k]?=Y (t.place.getD k 0):=by rw[cB h];simp[pH,h]
   rw[T,n];have:=J _ T;rw[slotAt,aK (by rw[c];simp),aK<|pO k,Ao] at this;show this
  .let T:es[k]?=R:=oP IY;rw[T];show M T
end
section
variable{Q:Option Value->aZ->Prop}{prog:mL}{az:Value->aZ->Prop}
section
def EZ{w:cC}{d:aW}{e:Int×Value}(a:s.heap.get? it=Y (fZ (slotAt w t k) k d es.size ep))(f:s.heap.get? d=Y o)(hd:o.data=.set es ep t)(hx:Ow w t es.size)(T:(fW w d ep es)[k]?=Y e)(j:k<=es.size)(hQ:∀c,c.get? it=Y (fZ (slotAt w t<|k+1) (k+1) d es.size ep)->cQ it s.heap c->Q (Y e.2) (s<*c)):aN (bw prog w) A (uj !it) Q az s:=by
 let g:s.TypeIs (!it) "set_iterator":=(_,a,rfl)
 delta uj
 refine af<|um<|dU (name:=ah "__next__") g dC<|bN dC g lS ?_<|mG _;unfold cK.«set_iterator.__next__»;refine af (m:=qI "__next__" 0 _)<|aj ?_;refine af<|lK a rfl ?_;refine af<|cZ f hd hx.tab.fits ?_;rw[aK (by simp)];refine af (tC (it:=it) f hd hx (λu h=>?_) (λi=>cA i T) j);rw[T] at h;cases h;refine af (iK a (by simp) λJ q Mv=>?_);refine af (iK (s:=(s<*J)) q (by simp) λM p n=>aj<|aC e.2 rfl<|aj<|hQ M ?_<|Mv.trans n);calc pS p;simp[fZ,eK]
def HH{w:cC}{d:aW}(hh:A.handled=R)(c:s.heap.get? it=Y (fZ (slotAt w t k) k d es.size ep))(e:s.heap.get? d=Y o)(hd:o.data=.set es ep t)(hx:Ow w t es.size)(T:(fW w d ep es)[k]?=R)(h:k<=es.size)(hQ:∀g,qE it s.heap g->Q R (s<*g)):aN (bw prog w) A (uj !it) Q az s:=by
 let f:s.TypeIs (!it) "set_iterator":=(_,c,rfl)
 delta uj
 refine af<|um<|dU (name:=ah "__next__") f dC<|bN dC f lS ?_<|mG _;unfold cK.«set_iterator.__next__»;refine af (m:=qI "__next__" 0 _)<|aj ?_;refine af<|lK c rfl ?_
 delta eK
 refine af<|cZ e hd hx.tab.fits ?_;rw[aK (by simp)];refine af (tC (it:=it) e hd hx (λn j=>cA T j) (λ_=>?_) h);refine af (iK c (by simp) λJ p i=>?_);show aN _ _ (GC (.type "StopIteration") []>>=_) _ _ _;refine af (af<|cR ?_<|by size_fits);refine af (m:=iL _ _) (fU (a:=gk) (by first|rfl|(delta iL;rfl)) ?_);refine cR ?_ (by size_fits)
 delta GD
 refine af<|uo ?_;rw[show A.in1.handled=R from hh];refine af<|aj<|yo ?_;refine af<|ed (T:="StopIteration") (b:=L) (_,aO _ rfl,rfl) yp ?_;show aj<|hQ _<|(i.extBut.push _).push _
end
def setItems(l:List Int):=l.map AV.int
def ip:(fW w d ep es).toList.Perm es.toList:=by
 delta fW;split
 .show Qb ..
 .show .rfl
def Xl{E:Fz}{d:aW}(hd:o.data=.set es ep t)(hx:Ow Z.w t es.size)(j:iW (fW Z.w d ep es).toList ns)(C:d≠it):OJ Z E target it (setItems ns) [it,d] [it] (λk h=>k<=es.size/\h.get? it=Y (fZ (slotAt Z.w t k) k d es.size ep)/\h.get? d=Y o) where
 sub:=by simp
 live:=λk h c b y=>by
  let(_,J,M):=c;simp only[aS,aM,or_false] at y;clear ns j C;rcases y with rfl|rfl
  .show(_,J)
  .show(_,M)
 frame:=λk h u c hk=>by let(I,J,M):=c;show(bt I (hk it (aQ ..) _ J)<|hk d (by simp) _ M)
 again:=λk U O s n A Q az q H c G=>by let(_,J,_):=c;let p:s.TypeIs (!it) "set_iterator":=(_,J,rfl);refine fI p mH<|bN mH p uN ?_<|wI _;show aN _ _ (ret !it) _ _ s;show aj<|aC _ rfl<|fX ("set_iterator") _ p dC.lookup G
 step:=λk a U O s n A g q hU H m c=>by
  let(hk,J,M):=c;let(rfl,D):=eI.mp j;rw[setItems,bb,bb] at g
  induction T:(fW Z.w d ep es).toList[k]? with
  |none=>rw[T] at g;cases g
  |some e=>
   rw[T] at g;cases g;let(i,tk,rfl):=D e<|bo T
   let fM:k<es.size:=by let z:=(aL.mp T).1;rw[((ip (w:=Z.w) (d:=d) (ep:=ep) (es:=es)).length_eq),aD] at z;show z
   rw[bA] at T;let f:=m it<|aQ ..;refine EZ J M hd hx T hk λu v gH=>(aC _ rfl ?_);show m8 (s:=(s<*u)) v (λnm e=>by injection e with e;subst e;decide) (U,(bt fM v<|gH.extBut d _ C M),ml.same gH.extBut s.toks,H.qp f.1 f.2 gH.extBut s.toks,.int ..)
 stop:=λU O s n A q H m c=>by
  let(hk,J,M):=c;let f:=m it<|aQ ..;let(rfl,D):=eI.mp j;refine HH q.handled J M hd hx ?_ hk λu T=>?_
  .rw[<-bA];simp[setItems]
  .show bt rfl (ml.same T s.toks)<|H.qp f.1 f.2 T s.toks
def St.set(H:St Z U O s)(h:O d=Y (.set xs)):∃o,s.heap.get? d=Y o/\jr Z.w o xs:=H.own d _ h
def AR{K:List AV->iD->Prop}(hd:O d=Y (.set xs))(h:∀l,l.Perm xs->K (setItems l) (Y (d,.set xs))):Au Z n target (!d) O K:=λU s A v D H S=>by
 let rfl:=S.bU;clear S;let(o,a,i,es,ep,t,ns,f,k,C,p,hx):=H.set hd;let j:s.TypeIs (!d) "set":=(o,a,i.1);let(y,u,HF):=k.perm<|ip (w:=Z.w) (d:=d) (ep:=ep) (es:=es);refine fI j kS<|bN kS j xv ?_<|vm _;unfold cK.«frozenset.__iter__»;calc af;
 delta vn
 refine af (m:=qI "__iter__" 0 _)<|aj ?_;show aN _ _ (pure d) _ _ s;refine aj<|af ?_
 delta jA
 refine af<|cZ a f hx.tab.fits<|aj ?_;calc af;
 delta setDrawn
 refine af<|dK a f hx.tab.fits ?_;refine af<|iz<|aj ?_;let z:(not (iF Z.w)&&(not t.plain&&decide (es.size>1)))=au:=by rw[hx.plain];simp
 show aN _ _ (if(not (iF Z.w)&&(not t.plain&&decide (es.size>1)))=L then _ else _) _ _ _;rw[z];refine Ax aI<|af<|aj ?_;refine af<|tU a f hx.tab.fits ?_;show aN _ _ (do ret (<-newFields "set_iterator" [eK 0,eK 0,.ref d,eK es.size,eK ep])) _ _ s;refine af<|cR<|aj<|aC _ rfl<|fX ("set_iterator") _ (_,aO _ rfl,rfl) dC.lookup ?_;let hk:∀b o',s.heap.get? b=Y o'->(s.heap.push<|fZ 0 0 d es.size ep).get? b=Y o':=λb o' e=>aF _ e;let q:slotAt Z.w t 0=0:=by delta slotAt;simp
 refine(_,setItems y,[↥s,d],[↥s],_,Y (d,.set xs),U,rfl,Xl f hx u<|bX<|aU a,(bt (fj _) ?_<|hk d o a),bV.keeps hk s.toks,H.keeps hk s.toks,λd g e=>by cases e;show hd,λb c=>?_,λb c=>?_,h _<|HF.trans p)
 .rw[q];show aO _ rfl
 .let rfl:=aV.mp c;show(oX.m9 _,H.bY)
 .simp only[aS,aM,or_false] at c⊢;rcases c with rfl|rfl
  .show .inr<|.inl rfl
  .show .inr<|.inr (_,rfl)
end
def jr.typeIs{s:aZ}(a:s.heap.get? d=Y o)(h:jr w o xs):s.TypeIs (!d) "set":=(o,a,h.1.1)
def jr.of{h:oX}(q:h.get? d=Y o)(p:jr w o xs)(hz:xs.length<=4000):h.SetOf (cW prog w) d (λk=>match k with|.int i=>decide (i∈xs)|_=>au) xs.length:=by
 let(g,es,ep,t,ns,hd,a,s,n,hx):=p;let m:es.size=xs.length:=by rw[<-n.length_eq,a.len,aD]
 refine(o,es,ep,t,q,g,hd,a.of,λk=>?_,by show es.size<4096;show ĥ m hz,hx.tab.fits,m);cases k with
 |int i=>show decide (i∈xs)=L↔_;rw[decide_eq_true_eq,<-n.mem_iff,<-a.mem i];rfl
 |str x=>
  refine(λe=>(by cases e),λc=>?_);let(e,j,f):=c;let(i,t,rfl):=(eI.mp a).2 e j;cases f
 |none=>
  refine(λe=>(by cases e),λc=>?_);let(e,j,f):=c;let(i,t,rfl):=(eI.mp a).2 e j;cases f
def St.E0(H:St Z U O s)(h:O d=Y g₀)(e:cQ d s.heap a)(g:a.get? d=Y c)(f:jr Z.w c xs)(tk:Nat):St Z U (aB O d<|.set xs) {s with heap:=a,toks:=tk}:=
 H.fm (g':=.set xs) h e g f tk
def Eg{id:String}(hd:O d=Y (.set xs))(a:Slot "set" name id)(g:typeOf (.builtin id)=pure (.type "method_descriptor")):J5 Z O (!d) name (.builtin id):=λU s A v i Q az H S h=>by let rfl:=S.bU;let(o,f,c):=H.set hd;show oz (c.typeIs f) PySem.F.plainAttrs_set a g (λb e=>by injection e with e;subst e;show aC o f c.1.2.1) h
def I5(hd:O d=Y (.set xs))(hz:xs.length<=4000)(h:Q .none (aB O d<|.set<|ff xs i)):Cl Z n (.builtin "set.add") [.ref d,.int i] [] O Q:=Cl.r2 λU s A w p H g=>by
 let(tk,rfl):=g.int_inv;let(o,c,a):=H.set hd;refine bN qJ (a.typeIs c) PySem.F.entry_set_add ?_<|PySem.F.args_set_add_2 _ _;unfold cK.«set.add» sR;simp only[CL,bind_assoc]
 delta jB setAdd
 refine af<|aj ?_
 try dsimp only
 refine af<|aj ?_
 try dsimp only
 refine af<|aJ<|af<|lV ?_;refine I3 (s:={s with toks:=s.toks+1}) c a hz λb e m f k j=>?_;show aN _ _ (ret gk) _ _ _;show aj (_,rfl,U,.none,_,bV.fm (s:=s) hd (show cQ d s.heap e from f) _,H.E0 hd (show cQ d s.heap e from f) k j _,.raw _,h)
def HJ(hd:O d=Y (.set xs))(hz:xs.length<=4000)(h:Q (.bool<|decide (i∈xs)) O):pb Z n .In ⇑i (!d) O Q:=λU s A u v _ H a S=>by let rfl:=S.bU;let(tk,rfl):=a.int_inv;let(o,e,c):=H.set hd;show wpAny_inSet_of (knd:=cW Z.prog Z.w) (k:=.int i) K0.isI rfl (c.of e hz)<|dh.toks H (.raw _) h _
def M5(hd:O d=Y (.set xs))(hz:xs.length<=4000)(h:Q ⇑xs.length O):Cl Z n (.builtin "len") [.ref d] [] O Q:=Cl.r1 λU s A k H=>by
 let(o,g,a,es,ep,t,ns,i,e,j,f,hx):=H.set hd;let c:es.size=xs.length:=by rw[<-f.length_eq,e.len,aD]
 calc call_len_set g a i hx.tab.fits (by rw[c];show Ħ hz);rw[c];show dh.toks H (.int ..) h _
def noBool_set:Ak (.type "set") "__bool__"=pure R:=by rw[eA,cU];kernel_rfl
def HM(hd:O d=Y (.set xs))(hz:xs.length<=4000)(h:Q (decide (xs≠[])) O):nK Z n (!d) O Q:=λU s A u _ H m=>by
 let rfl:=m.bU;let(o,i,c,es,ep,t,ns,v,k,z,q,hx):=H.set hd;let g:es.size=xs.length:=by rw[<-q.length_eq,k.len,aD]
 let j:s.TypeIs (!d) "set":=(o,i,c.1);let y:((es.size:Int) !=0)=decide (xs≠[]):=by rw[g];cases xs<;>simp<;>exact aeR
 let key:aN (~~~Z) A (runValue<|.builtin "len" ([.ref d],[])) (λr a=>r=.int es.size (s.toks+1)/\a={s with toks:=s.toks+1+1}) mj s:=by
  refine yq<|ib entry_len ?_;rw[fk plain_len _]
  show aG (wpAny_len_body_set (Q:=λr a=>r=.int es.size (s.toks+1)/\a={s with toks:=s.toks+1+1}) i c v hx.tab.fits (by rw[g];show Ħ hz) (rfl,rfl))
   (λfin a f=>by let(r,rfl,p):=f;show p) λ_ _ e=>e
 delta truthy
 refine af<|wpAny_callSpecial?_none (name:=ah "__bool__") j noBool_set ?_;refine af<|kA (name:=ah "__len__") j yr.lookup ?_;refine af (aG key (λr a f=>?_) λ_ _ e=>e);let(rfl,rfl):=f;calc aj;rw[y];show(U,O,bV.toks _,H.toks _,h)
section
variable{w:cC}
@[ext]abbrev cf(w:cC):Obj:={cls:=.type "set",dict:=R,data:=.set #[] 0 (.fresh 0 0<|not (iF w))}
def pf(w:cC):jr w (cf w) []:=((rfl,rfl,rfl), #[],0,_,[],rfl,.nil,.nil,.nil,(Tab.fresh _,rfl,rfl))
def AS(h:Q (!↥s) (s<*s.heap.push (cf w))):aN (bw prog w) A (newSet<|.type "set") Q az s:=by
 delta newSet
 refine af<|iz ?_;show cR h
def G6(h:Q₁ (!↥s) (s<*s.heap.push (cf w)))(a:iC "set.__new__" (.type "set"::args,[])=pure cF):codeAny (bw prog w) A (.call (.builtin "set.__new__") (.type "set"::args,[])) (wants Q₁ az) s:=by
 calc wV;show aN _ A.in1 (do iC "set.__new__" (.type "set"::args,[]);again (.builtin "set.__new__" (.type "set"::args,[]))) _ _ s;refine af<|fU a<|aj (uq w8 _,ib PySem.F.entry_set_new ?_);rw[fk w8 _];unfold cK.«set.__new__» GF;let c:=sub_set_self;let(e,g,d,tk,os):=s
 wp_walk
 refine lX<|aj ?_
 delta newObj
 refine af<|wpAny_alloc<|aj ?_;show aj h
end
def SW(q:s.heap.get? d=Y o)(hr:jr w o xs)(de:xs≠[])(hz:xs.length<=4000)(h:∀v tk y k g,v∈xs->cQ d s.heap y->y.get? d=Y k->jr w k (xs.erase v)->Q (Y<|.int v tk) {s with heap:=y,drawn:=g}):aN (bw prog w) A (setPop d) Q az s:=by
 let(u,es,ep,t,ns,z,D,jn,hp,hx):=id hr;let E:es.size=xs.length:=by rw[<-hp.length_eq,D.len,aD]
 let j:0<es.size:=by rw[E];show List.length_pos_iff.mpr de
 let U:t.place.isEmpty=au:=by
  have:0<t.place.size:=by rw[hx.tab.sz];show j
  simpa [zI] using kh this
 let(rfl,H):=eI.mp D
 let fin:∀(i:Nat) (g:Drawn),i<es.size->aN (bw prog w) A (match es[i]? with
   |some (_,x)=>(do storeSet d (dT es i) (t.popped i);return Y x)
   |_=>unsupported "internal:set.pop") Q az {s with drawn:=g}:=λi g f=>by
  let T:es[i]?=Y es[i]:=cB f;let(v,tk,S):=H es[i] (by simp);rw[T,S];let(nn,wZ):∃nn,es.size=nn+1:=(es.size-1,ſ j);let C:(dT es i).size=nn:=by rw[nH es f];show Ů wZ
  let Tn:Tab t (nn+1):=wZ▸hx.tab;let c:=Ki Tn<|wZ▸f
  let Tp:Tab (t.popped i) nn:=by
   delta wW
   show((c.1.sz,c.1.sp,c.1.sd,c.1.ï,c.1.ε,c.1.q_,c.1.pow),c.1.aA)
  refine af (lg (s:={s with drawn:=g}) q z ?_<|by rw[dw,C];show ů wZ E hz);let I:v∈es.toList.map Mu:=cG.mpr (aC (es[i]) (by simp)<|by rw[S];rfl)
  let kj:(es.toList.eraseIdx i).Perm (es.toList.erase es[i]):=by
   let Mn:es.toList=es.toList.take i++es[i]::es.toList.drop (i+1):=by rw[show es[i]=es.toList[i]'f by simp,kg,eO]
   let J:es.toList.Perm (es[i]::es.toList.eraseIdx i):=by
    rw[ej];conv=>lhs;rw[Mn]
    show jS
   let M:es.toList.Perm (es[i]::es.toList.erase es[i]):=gE (by simp);show(sS _).mp (J.symm.trans M)
  let V7:((es.toList.eraseIdx i).map Mu).Perm (xs.erase v):=by
   let J:(es.toList.map Mu).Perm (v::(es.toList.eraseIdx i).map Mu):=by let M:es.toList.Perm (es[i]::es.toList.eraseIdx i):=(gE (a:=es[i])<|by simp).trans (ye _ kj.symm);have:=M.map Mu;rw[cj,S] at this;show this
   let h3:xs.Perm (v::xs.erase v):=gE<|hp.mem_iff.mp I;show(sS v).mp (J.symm.trans<|hp.trans h3)
  let(k,Ee,J6):=rB (w:=w) (es':=dT es i) (t':=t.popped i) (ns:=(es.toList.eraseIdx i).map Mu) (xs:=xs.erase v) q u z
   (eI.mpr (by rw[toList_eraseAt],λe G=>by rw[toList_eraseAt] at G;show H e<|ur G))
   (jn.sublist<|(o5 ..).map _) V7 (by rw[C];show(Tp,by delta wW;show c.2.plain.trans hx.plain,by delta wW;show c.2.led.trans hx.led))
  show aj<|h v tk _ k g (hp.mem_iff.mp I) (cY ..) Ee J6
 delta setPop
 refine af<|dK q z hx.tab.fits ?_;dsimp only
 let n:∃i,t.popPlace=Y i/\i<es.size:=by
  delta SetTable.popPlace
  rw[U];rw[aK aI];calc aC _ rfl;split
  .rw[<-hx.tab.sz];assumption
  .show j
 let(i,f,fM):=n;rw[f];dsimp only;refine af<|iz ?_;let EY:(not t.plain&&decide (es.size>1))=au:=by rw[hx.plain];rfl
 induction hb:iF w with
 |true=>
  intro O p m;refine(aeS j,?_);show fin _ _ (lI _ j) O p m
 |false=>
  let Qu:t.led=L:=by rw[hx.led,hb];rfl
  show aN _ _ (if(au||(not t.plain&&decide (es.size>1)))=L then _ else _) _ _ _;rw[EY];refine af (show aN _ _ (if(not t.led&&decide (es.size>1))=L then _ else _) _ _ _ from ?_);rw[Qu];show Ax aI<|aj<|af<|aj<|fin i s.drawn fM
section
def yN(p:uu "set" (args,[])=pure cF)(g:iC "set.__new__" (.type "set"::args,[])=pure cF)(hci:∀(D:iJ) (a:aZ) (self:Value) (n:Unit->aZ->Prop),a.TypeIs self "set"->n cF a->aN (bw prog w) D (iC "set.__init__" (self::args,[])) n az a)(t:aN (bw prog w) A.in1.in1 (cK.«set.__init__» (.ref ↥s::args,[])) (λfin j=>fin=.done (.ret .none)/\Q (!↥s) j) az (s<*s.heap.push (cf w))):aN (bw prog w) A (call (.type "set") args) Q az s:=by
 let(c,E,C):=fc.mro;let z:=fc.made;let G:=fc.sub;refine pL<|wV ?_;show aN _ _ (callAny (.type "set") _) _ _ _;refine aj (Code.quiet_builtin _ (by lk),ib PySem.F.entry_type_call ?_);rw[Around.under_plain (weight_type_call_type "set" args []) rfl];let J:=fc.notType;let M:=fc.canCreate
 repeat (any_goals (first|assumption|wp_step))
 refine oG (G6 (az:=az) (Q₁:=λd a=>d=.ref ↥s/\a=(s<*s.heap.push (cf w))) (rfl,rfl) g) λr a f=>?_
 induction r with
 |error e=>show f
 |ok y=>
  induction y with
  |ret d=>
   let(rfl,rfl):=f;let H:(s.heap.push<|cf w).get? ↥s=Y (cf w):=aO _ rfl;let u:gz (s<*s.heap.push (cf w)) (!↥s) "set":=(_,H,rfl);let I:=fc.init.lookup;let q:=fc.init.bind<|!↥s
   repeat (any_goals (first|assumption|wp_step))
   refine oG (yt (R:=wants (λr m=>r=.none/\Q (!↥s) m) az) fc.init.plain PySem.F.entry_set_init<|hci _ _ _ _ u ?_) λh m i=>?_
   .show aG t (λfin j v=>by let(rfl,k):=v;show(rfl,k)) λ_ _ e=>e
   .induction h with
    |error e=>show i
    |ok o=>
     induction o with
     |ret r=>
      let(rfl,k):=i
      repeat (any_goals (first|assumption|wp_step))
     |_=>show i.elim
  |_=>show f.elim
end
def KL(h:∀D,Above O D->Q (!D) (aB O D<|.set [])):Cl Z n (.type "set") [] [] O Q:=λU s A vs i k H S d c=>by
 clear c;let rfl:=ig d;cases S;calc yN PySem.F.typeCall_set_0 PySem.F.newCall_set_0 (λo j self m a e=>check_set_init a e);unfold cK.«set.__init__» Ap;let f:(s.heap.push<|cf Z.w).get? ↥s=Y (cf Z.w):=aO _ rfl;let a:gz (s<*s.heap.push (cf Z.w)) (!↥s) "set":=(_,f,rfl)
 wp_walk
 show(rfl,U,_,_,bV.j9 s.toks,H.j9 (g:=.set []) rfl (pf Z.w) s.toks,.raw _,h _ H.above)
def OP(h:∀D,O D=R->Q (!D) (aB O D<|.set [])):Cl Z n (.type "set") [] [] O Q:=KL λD a=>h D a.none
def Xm(hd:O d=Y (.set xs))(i:xs≠[])(hz:xs.length<=4000)(h:∀v,v∈xs->Q ⇑v (aB O d<|.set<|xs.erase v)):Cl Z n (.builtin "set.pop") [.ref d] [] O Q:=Cl.r1 λU s A p H=>by
 let(o,f,e):=H.set hd;refine bN yu (e.typeIs f) PySem.F.entry_set_pop ?_<|PySem.F.args_set_pop_1 _;unfold cK.«set.pop» Hs
 delta jB
 refine af<|aj ?_;refine af (SW f e i hz λx tk q m t T g k j=>?_);show aN _ _ (ret<|.int x tk) _ _ _;let c:=bV.fm (U:=U) (g':=.set<|xs.erase x) hd g s.toks;let a:=H.E0 hd g k j s.toks;show aj (_,rfl,U,.int x,_,(c.bC,c.keep,c.os),(a.base,a.bC,a.own,a.gens),.int ..,h x T)
def DJ:uu "dict" ([],[])=pure cF:=⋯
def E1:iC "dict.__new__" ([.type "dict"],[])=pure cF:=⋯
def args_dict_init_1(a:Value):mX "dict.__init__" ([a],[]):=by delta mX;rw[zH (id:="dict.__init__") (n:=['_','_','t','i','n','i','_','_']) (o:=['t','c','i','d']) ⋯ PySem.F.owner_dict];kernel_rfl
section
@[ext]abbrev e7:Obj:={cls:=.type "dict",data:=.dict #[]}
def E2(h:Q₁ (!↥s) (s<*s.heap.push e7)):codeAny (bw prog w) A (.call (.builtin "dict.__new__") ([.type "dict"],[])) (wants Q₁ az) s:=by
 refine yt PySem.F.kt_plain_dict_new PySem.F.kt_entry_dict_new<|fU E1 ?_;let c:=PySem.F.kt_sub_dict;let a:=PySem.F.kt_mro_dict;let(e,g,d,tk,os):=s;unfold cK.«dict.__new__»
 wp_walk
 show h
def E3(h:Q (!↥s) (s<*s.heap.push e7)):aN (bw prog w) A (call (.type "dict") []) Q az s:=by
 calc callType_codes (Q₁:=λa c=>a=.ref ↥s/\c=(s<*s.heap.push e7)) PySem.F.kt_called_dict DJ PySem.F.entry_dict_init (E2 (rfl,rfl));intro a c e;let(rfl,rfl):=e;let d:gz (s<*s.heap.push e7) (!↥s) "dict":=(_,aO _ rfl,rfl);calc bt d (args_dict_init_1 _);unfold cK.«dict.__init__»;calc af;
 delta Ht
 refine af<|o7 d ?_;show aN _ _ (pure<|bG ↥s ([]:List Value)) _ _ _;calc aj;show aN _ _ (Hu ↥s []>>=_) _ _ _;show af<|aj<|aj (rfl,h)
end
def pg{Z:Bs}:kl Z.prog Z.w U (.dict []) e7:=([],(wU.mp<|Heap.DictOf.new (knd:=cW Z.prog Z.w) ({}:oX)).elim λo h=>by
 have:o=e7:=by let J:=h.1;rw[aO _ rfl] at J;replace J:=ax J;show J.symm
 show this▸h.2,.nil)
def KN{Z:Bs}:kl Z.prog Z.w U (.dg []) e7:=(#[],0,[],(rfl,rfl,rfl),rfl,rfl,λx T=>(by cases T),.nil,.nil)
def KO(h:∀D,O D=R->Q (!D) (aB O D<|.dict [])):Cl Z n (.type "dict") [] [] O Q:=λU s A vs d e H S c a=>by clear a;let rfl:=ig c;cases S;show E3 (U,_,_,bV.j9 s.toks,H.j9 (g:=.dict []) rfl pg s.toks,.raw _,h _ H.bY.2)
def HN(h:∀D,O D=R->Q (!D) (aB O D<|.dg [])):Cl Z n (.type "dict") [] [] O Q:=λU s A vs d e H S c a=>by clear a;let rfl:=ig c;cases S;show E3 (U,_,_,bV.j9 s.toks,H.j9 (g:=.dg []) rfl KN s.toks,.raw _,h _ H.bY.2)
@[ext]abbrev qq(a b:Int)(t u v:Tok):Obj:={cls:=.type "range",data:=.fields #[.int a t,.int b u,.int 1 v]}
def HO(h:∀t u v,Q (.obj<|qq 0 b t u v) O):Cl Z n (.type "range") [.int b] [] O Q:=Cl.a1 λU s A v c H a=>by let(tk,rfl):=a.int_inv;show call_range_1 (_,.obj<|qq 0 b s.toks tk<|s.toks+1,O,bV.EI H _,H.EI rfl _,.obj<|bj rfl,h _ _ _)
def B7(h:∀t u v,Q (.obj<|qq a b t u v) O):Cl Z n (.type "range") [.int a,.int b] [] O Q:=Cl.a2 λU s A v w f H d c=>by let(tk,rfl):=d.int_inv;obtain⟨e,rfl⟩:=c.int_inv;show call_range_2 (_,.obj<|qq a b tk e s.toks,O,bV.EI H _,H.EI rfl _,.obj<|bj rfl,h _ _ _)
def rR{n:Nat}{K:List AV->iD->Prop}(f:rt a b 1=L)(h:K (l6 a (b-a).toNat) R):Au Z n target (.obj<|qq a b t u v) O K:=λU s A x m H S=>by
 let(r,rfl,k):=S.Ay;calc wpAny_pyIter_range (H.bC _ _ k).1 f;let j:∀c o,s.heap.get? c=Y o->(s.heap.push {cls:=.type "range_iterator",data:=.fields #[eK a,eK<|vo a b 1,eK 1]}).get? c=Y o:=λc o e=>aF _ e;refine(_,l6 a (b-a).toNat,[↥s],[↥s],_,R,U,rfl,Qo,(fj _,?_),bV.keeps j s.toks,H.keeps j s.toks,λd g e=>(by cases e),λc i=>?_,λc i=>.inr<|.inl i,h)
 .have:vo a b 1=((b-a).toNat:Int):=by rw[rangeSize_one];split<;>(first|exact ai0 ∎|exact ai1 ∎)
  rw[this];show Heap.get? _ _=_;calc pS (aO _ rfl);simp[eK]
 .let rfl:=aV.mp i;show(oX.m9 _,H.bY)
def qr(hd:O d=Y (.dict bJ))(h:Q (.obj<|pe d) O):Cl Z n (.builtin "dict.items") [.ref d] [] O Q:=Cl.r1 λU s A e H=>by let(dN,a,c):=H.dict hd;refine oB gY a.typeIs PySem.F.entry_dict_items (PySem.F.args_dict_items_1 _) (meets_dict_items (cW Z.prog Z.w) d<|H.jG hd) ((dN,a),?_);show(_,_,O,bV.EI H s.toks,H.EI rfl s.toks,.obj<|bj rfl,h)
def Qv(hd:O d=Y (.dict bJ))(h:Q (.obj<|EX d) O):Cl Z n (.builtin "dict.values") [.ref d] [] O Q:=Cl.r1 λU s A e H=>by let(dN,a,c):=H.dict hd;refine oB uv a.typeIs PySem.F.entry_dict_values (PySem.F.args_dict_values_1 _) (meets_dict_values (cW Z.prog Z.w) d<|H.jG hd) ((dN,a),?_);show(_,_,O,bV.EI H s.toks,H.EI rfl s.toks,.obj<|bj rfl,h)
def KP{id:String}(hd:O d=Y (.list l))(a:Slot "list" name id)(f:typeOf (.builtin id)=pure (.type "method_descriptor")):J5 Z O (!d) name (.builtin id):=λU s A v i Q az H S h=>by let rfl:=S.bU;let(o,c,aH,k,rfl,j):=H.own d _ hd;let g:s.heap.IsList d aH:=(_,c,rfl,k,rfl);show oz g.typeIs PySem.F.plainAttrs_list a f (λb e=>by injection e with e;subst e;show aC _ c rfl) h
def B8(hd:O d=Y (.list l))(hz:l.length<=1000000)(h:Q .none (aB O d<|.list<|l++[a])):Cl Z n (.builtin "list.append") [.ref d,a] [] O Q:=Cl.r2 λU s A w j H g=>by
 let(o,c,aH,k,rfl,f):=H.own d _ hd;let e:aH.size=l.length:=by rw[f.length,aD]
 let(i,m):=Obj.data_mapSeq (o:=listOf aH k) (xs:=aH) (n:=k) rfl (·.push w)
 refine bN slot_list_append (s:=s) ((_,c,rfl)) entry_list_append ?_<|args_list_append _ _;show aN _ _ (updateSeq d (·.push w)>>=λ_=>ret .none) _ _ s
 refine af (wpAny_updateSeq c rfl (aj (.none,rfl,U,.none,_,bV.fm (s:=s) hd (cY ..) s.toks,H.fm (g':=.list<|l++[a]) hd (cY ..) (iS _ c rfl) (aH.push w,_,rfl,?_) s.toks,.raw _,h)) (by rw[e,dw];show Ġ hz)<|by simp[e,dw];show Ġ hz);rw[ou];show f.append<|.cons g .nil
section
variable{Z:Bs}{n:Nat}{E:Env}{O:bf}{m:Loc}
def Em(Z:Bs)(n:Nat)(E:Env)(t:Sem Unit)(O:bf)(m:Loc)(Q:bf->Prop):=
 ∀U s A,fV n A->St Z U O s->cb U O E m s->aN (~~~Z) A t (λ_ a=>CW Z U O s Q a) mj s
def tY(target:Expr)(p:Pos)(e:Expr)(it ie:Value)(E:Env)(body:Sem Unit):=
 cN p>>=λ_=>uj it>>=λr=>match r with
  |none=>pure<|.done .next
  |some v=>ra target it v>>=λ_=>CA target E v>>=λ_=>body>>=λ_=>again<|.compLoop e 0 it ie E
inductive CE:Expr->Prop
 |l {a b c d}:CE (.ListComp a b c d)
 |s {a b c d}:CE (.SetComp a b c d)
 |d {a b c d e}:CE (.DictComp a b c d e)
def S5(a:CE e):(bw prog w).den (.compLoop e 0 it ie E)=(mB e 0 it ie E).onRaise (λx=>do noteFrame x E;theTreesLotGoes x):=by cases a<;>rfl
def M6{A:iJ}(a:CE e):A.under (.compLoop e 0 it ie E)=A:=by cases a<;>rfl
def zM(a:CE e):(Code.compLoop e 0 it ie E).quiet=L:=by cases a<;>rfl
def Qw(h:OJ Z uM target it aH fp g h1)(hg:CE e)(heq:mB e 0 (!it) ie E=tY target p e (!it) ie E body)(I:Nat->bf->Loc->Prop)(qo:∀k a O m,aH[k]?=Y a->I k O m->As Z n E target a O m λbh u=>Em Z n E body bh u λbu=>I (k+1) bu u)(rz:∀O m,I aH.length O m->Q O m)(C:fV n A)(H:St Z U O s)(hF:cb U O E m s)(SJ:∀a o,uM a=Y o->U a=Y o)(hJ:h1 0 s.heap)(C0:EU E fp g U O)(h0:I 0 O m):codeAny (~~~Z) A (.compLoop e 0 (!it) ie E) (λr T=>match r with |.ok f=>SG Z E g U O s Q T |.error _=>False) s:=by
 refine codeAny_loop (zM hg) (λj T=>SH Z E aH.length fp g h1 U O s I j T)
  (λj s1 q0=>?_) (aH.length-0) (0,U,O,m,rfl,fj _,hJ,C0,.refl,H,hF,h0)
 let(k,D,bh,u,hj,hk,G,c,g1,eg,xc,χ):=q0;rw[S5 hg,M6 hg];calc uk;rw[heq];let SK:∀b∈g,D b=R/\bh b=R:=λb d=>((c.2 b d).1,(c.2 b d).2.1);let V5:∀a∈g,¬HB E a:=λa ha=>(c.2 a ha).2.2;refine af<|aR<|af ?_;rcases oe k aH.length with fM|IY
 .let y:aH[k]?=Y aH[k]:=b9 fM;refine aG (h.step k _ D bh s1 n A y C (λa o e=>g1.bC _ _<|SJ _ _ e) eg SK G) (λr s2 t=>?_) λ_ _ e=>e.elim;let(v,S,M):=t;subst S;refine af (aG M (λ_ s3 t=>?_) λ_ _ e=>e.elim);let(U3,ψ,i,oZ,V4):=t;let SN:EU E fp g U3 bh:=by
   refine(λb d=>?_,λb d=>?_)
   .by_cases z:b∈g
    .show .inr<|bt (i.wrs b z (c.2 b z).1) ((c.2 b z).2.1)<|(c.2 b z).2.2
    .rcases c.1 b d with⟨o,ho⟩|⟨q1,q2,q3⟩
     .show .inl (o,i.bC _ _ ho)
     .let(o,ho):=h.live k _ G b d;let(p,q,r):=i.keep b o z ho q1 q2;show .inr<|bt q r q3
   .show bt (i.wrs b d (c.2 b d).1) ((c.2 b d).2.1)<|(c.2 b d).2.2
  refine af (Ko (qo k _ bh u y χ U3 s3 A v C oZ (xc.OL V5 i) V4) λ_ s4 U4 nr m4 g4 EH Zy h4=>?_);refine af (q? (h4 U4 s4 A C EH Zy) λ_ s5 U5 IL g5 Ms h5=>?_);let J:kX E U3 bh s3 U5 IL s5:=g4.trans g5.b;let hJ5:h1 (k+1) s5.heap:=h.frame _ _ _ ψ<|OM SN oZ Ms J;show aj (rfl,aH.length-(k+1),Y60 hj fM,k+1,U5,IL,m4,rfl,fM,hJ5,(SN.ZA (h.live _ _ ψ) h.sub J),(g1.trans i.x).trans J.x,Ms,Zy.grow g5,h5)
 .let hke:k=aH.length:=Ĥ hk IY;clear hj hk IY;subst hke;refine aG (h.stop D bh s1 n A C eg SK G) (λr s2 t=>?_) λ_ _ e=>e.elim;let(hr,g2,fY):=t;subst hr;show aj (D,bh,u,g1.trans g2.x,fY,xc.OL V5 g2,rz _ _ χ)
end
def cb.weaken(h:cb U O E m s)(hm:∀x a,i.lookup x=Y a->m.lookup x=Y a):cb U O E i s:=
 ((bt h.loc.1 h.loc.2.1<|h.loc.2.2.elim λg J=>(aC g J.1<|λx a T e=>J.2 x a T<|hm x a e)),
  λx c d=>(ek ((h.vJ x c d).1) ((h.vJ x c d).2.1) ((h.vJ x c d).2.2.1)<|(h.vJ x c d).2.2.2.elim λf J=>(aC f J.1<|λa e=>J.2 a<|hm x a e)),h.inj)
def G7(a:CE e):(bw prog w).den (.compStart e 0 it ie E)=(vq e 0 it ie E).onRaise (λx=>do noteFrame x E;cN theWindowsPlace):=by cases a<;>rfl
def DK{A:iJ}(a:CE e):A.under (.compStart e 0 it ie E)=A:=by cases a<;>rfl
def M7(a:CE e)(f:yW e=[(target,iter,g,0)])(h:aN (bw prog w) A (qZ it) (λr c=>r=it/\c=s) mj s)(d:codeAny (bw prog w) A (.compLoop e 0 it ie E) ae s):codeAny (bw prog w) A (.compStart e 0 it ie E) ae s:=by
 calc wV;rw[G7 a,DK a];calc uk;
 delta vq
 rw[f];show aN _ _ (ask>>=_) _ _ s;refine af<|lX<|wpAny_ite ?_;split
 .show aj (zM a,d)
 .refine af<|mW ?_;show aN _ _ (cN iter.pos>>=_) _ _ s;refine af (aR<|af<|aG h (λr c i=>?_) λ_ _ e=>e.elim);clear h;let(rfl,rfl):=i;show aj (zM a,d)
section
variable{ae:aW->bf->Prop}{e target:Expr}{ifs:List Expr}{m m₀:Loc}{n:Nat}{use:Option (Value->Sem Unit)}{p:Pos}{QF:Value->aZ->Prop}
def iD.OQ{c:iD}(h:∀d g,c=Y (d,g)->a≠d):iD.back c O a=O a:=by
 induction c with|none=>rfl|some p=>let(d,g):=p;show aq<|h d g rfl
def r7{b:aW}(h:a<b):a≠b:=bX h
def I6{b:aW}(h:b<a):a≠b:=kh h
def KQ(g:kX E U O s i h f)(H:St Z i h f)(d:cb i h E M f)(T:i C=R)(CY:h C=R)(y:¬HB E C)(j:∀a o,s.heap.get? a=Y o->U a=R->O a=R->a≠C)(t:cQ C f.heap v):kX E U O s i h (f<*v)/\St Z i h (f<*v)/\cb i h E M (f<*v):=by
 calc bt (g.bC,λa o Q A e2 z=>?_,g.os) (H.qp T CY t.extBut f.toks);
 .let(p,q,r):=g.keep a o Q A e2 z;show bt (t.extBut a o (j a o A e2 z) p) q r
 .refine((bt d.loc.1 d.loc.2.1 ?_),λx c k=>(ek ((d.vJ x c k).1) ((d.vJ x c k).2.1) ((d.vJ x c k).2.2.1) ?_),d.inj)
  .let(J,I,u):=d.loc.2.2;show aC J (I.sameBut t<|λq=>y<|.inl q.symm) u
  .let(G,D,u):=(d.vJ x c k).2.2.2;show aC G (D.sameBut t<|λq=>y<|.inr (x,q▸k)) u
def St.AU{a:aW}(H:St Z U O s)(h:↥s<=a):U a=R/\O a=R:=by
 refine(?_,?_)
 .induction q:U a with
  |none=>rfl
  |some o=>show absurd (aU (H.bC _ _ q).1) (jy.mpr h)
 .induction q:O a with
  |none=>rfl
  |some g=>let(o,c,_):=H.own _ _ q;show absurd (aU c)<|jy.mpr h
def St.HP(H:St Z U O s)(h:O d=Y g):U d=R:=by
 induction a:U d with|none=>rfl|some o=>show nomatch h.symm.trans (H.bC _ _ a).2
def St.C_(H:St Z U O s):St Z U (iD.out a O) s:=by
 induction a with|none=>show H|some q=>show H.cD q.1
def St.Ϙ{D:aW}(H:St Z U O s)(i:↥s=D)(c:∀b o,s.heap.get? b=Y o->s4.heap.get? b=Y o)(k:s4.heap.get? D=Y jF)(d:kl Z.prog Z.w U g0 jF)(f:s4.gens=s.gens):St Z U (aB O D g0) s4:=by
 let h:U D=R:=(H.AU<|BO i).1;refine(H.base,λb o a=>(c b o (H.bC b o a).1,?_),λb g a=>?_,f.trans H.gens)
 .rw[aq fun(q:b=D)=>nomatch (q▸h:U b=R).symm.trans a];show(H.bC b o a).2
 .by_cases q:b=D
  .rw[q,ar] at a;rw[<-ax a,q];show aC jF k d
  .rw[aq q] at a;let(o,j,e2):=H.own b g a;show aC o (c b o j) e2
def OR{E:Env}{O:bf}{cl:List (Str×aW)}{g0:bD}{body:Sem Unit}{e2:Env}{C:aW}{aH:List AV}{fp wr:List aW}{h1:Nat->oX->Prop}{j:iD}{I:Nat->bf->Prop}{U1:Fz}{i:bf}{s s1 G s4:aZ}{A:iJ}(hg:CE e)(uD:yW e=[(target,iter,ifs,0)])(heq:mB e 0 (!it) (!D) e2=tY target p e (!it) (!D) e2 body)(hR:fV n A)(hF:cb U O E m s)(g1:bV U O s U1 i s1)(g2:bV U1 i s1 u i G)(fY:St Z u i G)(hit:OJ Z u target it aH fp wr h1)(hJ:h1 0 G.heap)(h5:∀d g,j=Y (d,g)->i d=Y g)(h6:∀b∈wr,s1.heap.get? b=R/\u b=R/\i b=R)(h7:∀b∈fp,(∃o,u b=Y o)\/b∈wr\/∃g,j=Y (b,g))(hD:↥G=D)(GN:D<C)(HQ:s4.gens=G.gens)(hos:s4.os=G.os)(lY:∀b o,G.heap.get? b=Y o->s4.heap.get? b=Y o)(E4:s4.heap.get? D=Y jF)(uO:kl Z.prog Z.w u g0 jF)(x_:e2.locals=C)(hFr:∀b,b<D->HB e2 b->∃x,cl.lookup x=Y b)(hWr:∀b,b<D->¬ò e2 b)(Qx:∀x c,cl.lookup x=Y c->E.cells.lookup x=Y c)(Zy:cb u (aB (iD.out j i) D g0) e2 m₀ s4)(V6:I 0 (aB (iD.out j i) D g0))(qo:∀k a t,aH[k]?=Y a->I k t->As Z n e2 target a t m₀ λjs m1=>(∀x a,m₀.lookup x=Y a->m1.lookup x=Y a)/\Em Z n e2 body js m1 λnr=>I (k+1) nr)(rz:∀t,I aH.length t->ae D (iD.back j t))(B9:∀f s' J H mc,bV U O s J H s'->St Z J H s'->cb J H E m s'->ae D H->s'.heap.Ns C mc->J C=R->H C=R->¬HB E C->(∀a o,s.heap.get? a=Y o->U a=R->O a=R->a≠C)->compPost (~~~Z) A mj use QF (!D) C (.ok f) s'):codeAny (~~~Z) A (.compStart e 0 (!it) (!D) e2) (compPost (~~~Z) A mj use QF (!D) C) s4:=by
 let xc:=hF.grow g1;let zK:=xc.grow g2;let M8:∀b o,G.heap.get? b=Y o->b<D:=λb o eb=>hD▸aU eb;let ZE:∀a,i a=R->a≠D->aB (iD.out j i) D g0 a=R:=λa ha de=>(aq de).trans (iD.mn ha);let uH:∀x c,cl.lookup x=Y c->i c=R/\∃o,s1.heap.get? c=Y o:=λx c hc=>((zK.vJ x c<|Qx x c hc).2.1,xc.live<|.inr (x,Qx x c hc));let Xn:∀d g,j=Y (d,g)->∃o,G.heap.get? d=Y o/\kl Z.prog Z.w u g o:=λd g er=>fY.own _ _<|h5 d g er;let C!:∀d g,j=Y (d,g)->d<D:=λd g er=>(Xn d g er).elim λo h=>M8 d o h.1;let EH:St Z u (aB (iD.out j i) D g0) s4:=fY.C_.Ϙ hD lY E4 uO HQ
 let hwrn:∀b∈wr,u b=R/\aB (iD.out j i) D g0 b=R/\¬HB e2 b:=λb hb=>by let(o,ho):=hit.live 0 _ hJ b<|hit.sub b hb;let(n1,n2,n3):=h6 b hb;refine bt n2 (ZE b n3<|r7<|M8 b o ho) (λT=>?_);let(x,y):=hFr b (M8 b o ho) T;let(o1,M3):=(uH x b y).2;show nomatch n1.symm.trans M3
 let C0:EU e2 fp wr u (aB (iD.out j i) D g0):=by
  refine(λb hb=>?_,hwrn);rcases h7 b hb with q|q|⟨g,q⟩
  .show .inl q
  .show .inr<|hwrn b q
  .let hbD:=C! b g q;refine .inr (bt (fY.HP<|h5 b g q) ?_<|λT=>?_)
   .rw[aq (r7 hbD),q];show di
   .let(x,y):=hFr b hbD T;show nomatch (uH x b y).1.symm.trans (h5 b g q)
 let hJ4:h1 0 s4.heap:=hit.frame 0 _ _ hJ λb hb o eo=>lY b o eo;calc M7 hg uD (hit.again 0 u _ s4 n A _ _ hR EH hJ4 (rfl,rfl));
 refine oG (Qw hit hg heq (λk t m2=>I k t/\∀x a,m₀.lookup x=Y a->m2.lookup x=Y a) (Q:=λt m2=>ae D (iD.back j t)/\∀x a,m₀.lookup x=Y a->m2.lookup x=Y a)
  (λk a t m2 ha hq U5 s5 A5 v5 hR5 Ms ω hv5=>?_) (λt m2 hq=>(rz t hq.1,hq.2)) hR EH Zy (λ_ _ e=>e) hJ4 C0 (V6,λ_ _ e=>e)) λr s' hr=>?_
 .show Ko (qo k a t ha hq.1 U5 s5 A5 v5 hR5 Ms (ω.weaken hq.2) hv5) λ_ s6 U6 Sv m6 g6 w! hF6 rh=>(U6,Sv,m6,g6,w!,hF6,λU7 s7 A7 hR7 hS7 hF7=>aG (rh.2 U7 s7 A7 hR7 hS7 hF7) (λ_ s8 ec=>by obtain⟨U8,C?,g8,hS8,h8'⟩:=ec;show(U8,C?,g8,hS8,h8',rh.1)) λ_ _ e=>e)
 .induction r with
  |error x=>show hr.elim
  |ok f=>
   let(J,H,m',gx,rQ,HD,hRD):=hr
   let nY:∀a o,a∉wr->G.heap.get? a=Y o->u a=R->aB (iD.out j i) D g0 a=R->s'.heap.get? a=Y o/\J a=R/\H a=R:=λa o hw y e2 e3=>
    gx.keep a o (hWr a<|M8 a o y) hw (lY a o y) e2 e3
   let hSb:St Z J (iD.back j H) s':=by
    induction ta:j with
    |none=>show rQ
    |some q=>
     let(d,g):=q;let(o,ho,hgo):=Xn d g ta;let A?:d∉wr:=λhm=>nomatch (h6 d hm).2.2.symm.trans (h5 d g ta);let(k1,k2,k3):=nY d o A? ho (fY.HP<|h5 d g ta) (by rw[aq (r7<|C! d g ta),ta];show di);refine(rQ.base,λa o' v=>?_,λa g' v=>?_,rQ.gens)
     .show((rQ.bC _ _ v).1,(aq (g:=g) fun(q:a=d)=>nomatch (q▸k2:J a=R).symm.trans v).trans (rQ.bC _ _ v).2)
     .let v:aB H d g a=Y g':=v;by_cases q:a=d
      .rw[q,ar] at v;rw[q,<-ax v];show aC o k1<|hgo.mono gx.bC
      .rw[aq q] at v;show rQ.own _ _ v
   let M:∀a o,s.heap.get? a=Y o->U a=R->O a=R->G.heap.get? a=Y o/\u a=R/\i a=R/\a∉wr:=λa o y e2 e3=>by let(p1,p2,p3):=g1.keep a o y e2 e3;let(q1,q2,q3):=g2.keep a o p1 p2 p3;show ek q1 q2 q3 (λhm=>nomatch (h6 a hm).1.symm.trans p1)
   let hG:bV U O s J (iD.back j H) s':=by refine(λa o v=>gx.bC _ _<|g2.bC _ _<|g1.bC _ _ v,λa o y e2 e3=>?_,gx.os.trans<|hos.trans<|g2.os.trans g1.os);let(q1,q2,q3,q4):=M a o y e2 e3;let(r1,r2,r3):=nY a o q4 q1 q2<|ZE a q3<|r7<|M8 a o q1;show bt r1 r2 ((iD.OQ λd g er (z:a=d)=>nomatch (z▸q3:i d=R).symm.trans (h5 d g er)).trans r3)
   let(hUC,ϙ,mc,Ϛ,_):=HD.loc;rw[x_] at hUC ϙ Ϛ;refine B9 f s' J _ mc hG hSb (hF.grow hG) hRD.1 Ϛ hUC ?_ (λT=>?_) λa o y e2 e3=>r7<|d7 (M8 a o (M a o y e2 e3).1) GN
   .show(iD.OQ λd g er (z:C=d)=>absurd (d7 (z▸C! d g er:C<D) GN)<|dA _).trans ϙ
   .let(o,ho):=zK.live T;show absurd (d7 (M8 C o ho) GN)<|dA _
def S6{E:Env}{iter:Expr}{d:sq}{pos:Pos}{body:Value->Env->Sem Unit}{U:Fz}{s:aZ}(hg:CE e)(uD:yW e=[(target,iter,ifs,0)])(D_:mF iter=L)(S7:lL d E=pure cl)(zm:d.kind=.function)(M9:∀x∈d.names,x.2=.local->d.names.lookup x.1=Y .local)(hnc:∀x∈d.names,x.2≠.cell)(Qx:∀x c,cl.lookup x=Y c->E.cells.lookup x=Y c)(KR:∀x a,m₀.lookup x=Y a->m.lookup x=Y a/\(wz d E).names.lookup x≠Y .local)(q!:∀x c,cl.lookup x=Y c->∀a,m.lookup x=Y a->m₀.lookup x=Y a)(AP:∀(s:aZ) (A:iJ) (Q:Value->aZ->Prop),Q (!↥s) (s<*s.heap.push jF)->aN (~~~Z) A l7 Q mj s)(xr:jF.isFreed=au)(uO:∀U,kl Z.prog Z.w U g0 jF)(heq:∀it D C,mB e 0 (!it) (!D) (dY d cl C E)=tY target p e (!it) (!D) (dY d cl C E) (body (!D)<|dY d cl C E))(h:Ev Z n E iter O m λx G=>Au Z n target x G λaH eu=>∀D C,Above G D->∃I:Nat->bf->Prop,I 0 (aB (iD.out eu G) D g0)/\(∀k a v,aH[k]?=Y a->I k v->As Z n (dY d cl C E) target a v m₀ λjs m1=>(∀x a,m₀.lookup x=Y a->m1.lookup x=Y a)/\Em Z n (dY d cl C E) (body (!D)<|dY d cl C E) js m1 λnr=>I (k+1) nr)/\(∀v,I aH.length v->ae D (iD.back eu v)))(hR:fV n A)(H:St Z U O s)(z:cb U O E m s)(B9:∀D C f j t q M,bV U O s t q j->St Z t q j->cb t q E m j->ae D q->j.heap.Ns C M->t C=R->q C=R->¬HB E C->(∀a o,s.heap.get? a=Y o->U a=R->O a=R->a≠C)->compPost (~~~Z) A mj use QF (!D) C (.ok f) j):aN (~~~Z) A (mC e d E pos l7 au (eval iter E) use) QF mj s:=by
 refine uw uD (λx=>rA D_ x) S7 zm M9 (fw (h U s A hR H z) λu s1 U1 x G g1 eg hu J=>Xh (J U1 s1 A u hR eg hu) λit g aH fp wr h1 eu U2 hit hJ g2 fY h5 h6 h7 h8=>AP g A _<|wpAny_newFunctionEnv hnc (λx T=>nomatch T) (λDH uC ZF=>?_) zm);let(I,V6,qo,rz):=h8 ↥g (g.heap.push jF).objs.size fY.above;let i:↥g<(g.heap.push jF).objs.size:=by rw[fJ];show eE _
 let lY:∀b o,g.heap.get? b=Y o->DH.get? b=Y o:=λb o eb=>ZF.extBut b o (r7<|d7 (aU eb) i)<|aF _<|aF _ eb;let E4:DH.get? ↥g=Y jF:=ZF.extBut _ jF (r7 i)<|aF _<|aO _ xr;let(u1,u2):=fY.AU<|kc i;refine OR (e2:=dY d cl (g.heap.push jF).objs.size E) hg uD (heq it _ _) hR z g1 g2 fY hit hJ h5 h6 h7 rfl i rfl rfl lY E4 (uO _) rfl (λb hb T=>?_) (λa ha hw=>?_) Qx ?_ V6 qo rz λf j t q M=>B9 _ _ f j t q M
 .show T.resolve_left λe1=>absurd (d7 ((show b=(g.heap.push jF).objs.size from e1)▸hb) i)<|dA _
 .rcases hw with e1|⟨x,_,e1|e1⟩
  .show absurd (d7 ((show a=(g.heap.push jF).objs.size from e1)▸ha) i)<|dA _
  .show nomatch e1
  .show absurd (d7 (show(g.heap.push jF).objs.size<a from e1)<|d7 ha i)<|dA _
 .refine((bt u1 ((aq<|I6 i).trans (iD.mn u2))<|aC _ uC<|λx a T ex=>absurd T (KR x a ex).2),λx c hc=>?_,λx y c T hy=>z.inj x y c (Qx x c T)<|Qx y c hy);let(q1,q2,_,v',(oc,ho,hd),S):=((z.grow g1).grow g2).vJ x c (Qx x c hc);let q3:=aU ho;show ek q1 ((aq<|r7 q3).trans (iD.mn q2)) (r7<|d7 q3 i) (aC v' (oc,lY c oc ho,hd)<|λa ea=>S a (KR x a ea).1)
end
section
variable{Z:Bs}{n:Nat}{E:Env}{m:Loc}
structure zN(E:Env)(e target iter:Expr)(ifs:List Expr)(scope:sq)(cl:List (Str×aW))(p:Pos)(l7:Sem Value)(body:Value->Env->Sem Unit):Prop where
 gen:CE e
 cls:yW e=[(target,iter,ifs,0)]
 E5:mF iter=L
 clos:lL scope E=pure cl
 kind:scope.kind=.function
 names:(scope.names.all λx=> not (x.2==.local)||scope.names.lookup x.1==Y .local)=L
 zO:(scope.names.all λx=> not (x.2==.cell))=L
 shared:∀x∈cl,E.cells.lookup x.1=Y x.2
 turn:∀it D C,mB e 0 (!it) (!D) (dY scope cl C E)=tY target p e (!it) (!D) (dY scope cl C E) (body (!D)<|dY scope cl C E)
 ev:eval e E=mC e scope E iter.pos l7 au (eval iter E)
structure E6(E:Env)(scope:sq)(cl:List (Str×aW))(m m₀:Loc):Prop where
 sub:∀p∈m₀,m.lookup p.1=Y p.2/\((wz scope E).names.lookup p.1==Y .local)=au
 Xo:∀x∈cl,(m₀.lookup x.1).isSome=L
def yO(h:m.lookup x=Y a):(x,a)∈m:=by
 induction m with
 |nil=>cases h
 |cons y r ih=>
  let(y,b):=y;rw[et] at h;by_cases q:x=y
  .subst q;rw[bj rfl] at h;cases h;show .head _
  .rw[aK q] at h;show .tail _<|ih h
def I7{cl:List (Str×aW)}(h:cl.lookup x=Y c):(x,c)∈cl:=mem_of_lookup h
def KS(Z:Bs)(n:Nat)(E:Env)(target:Expr)(c:sq)(cl:List (Str×aW))(m₀:Loc)(g0:bD)(body:Value->Env->Sem Unit)(ae:aW->bf->Prop)(g:bf)(aH:List AV)(f:iD):=
 ∀D C,Above g D->∃I:Nat->bf->Prop,I 0 (aB (iD.out f g) D g0)/\
   (∀k a d,aH[k]?=Y a->I k d->As Z n (dY c cl C E) target a d m₀ λi e=>(∀x a,m₀.lookup x=Y a->e.lookup x=Y a)/\Em Z n (dY c cl C E) (body (!D)<|dY c cl C E) i e λh=>I (k+1) h)/\
   (∀d,I aH.length d->ae D (iD.back f d))
section
variable{e target iter:Expr}{ifs:List Expr}{scope:sq}{cl:List (Str×aW)}{p pos:Pos}{l7:Sem Value}{body:Value->Env->Sem Unit}{m₀:Loc}{g0:bD}{ae:aW->bf->Prop}
def Na(d:zN E e target iter ifs scope cl p l7 body)(F:E6 E scope cl m m₀)(AP:∀(s:aZ) (A:iJ) (Q:Value->aZ->Prop),Q (!↥s) (s<*s.heap.push jF)->aN (~~~Z) A l7 Q mj s)(y:jF.isFreed=au)(z:∀U,kl Z.prog Z.w U g0 jF)(h:Ev Z n E iter O m λx v=>Au Z n target x v λaH eu=>KS Z n E target scope cl m₀ g0 body ae v aH eu)(J:fV n A)(H:St Z U O s)(M:cb U O E m s)(B9:∀D C f g k j G,bV U O s k j g->St Z k j g->cb k j E m g->ae D j->g.heap.Ns C G->k C=R->j C=R->¬HB E C->(∀a o,s.heap.get? a=Y o->U a=R->O a=R->a≠C)->compPost (~~~Z) A mj use QF (!D) C (.ok f) g):aN (~~~Z) A (mC e scope E pos l7 au (eval iter E) use) QF mj s:=by
 refine S6 d.gen d.cls d.E5 d.clos d.kind (λx T I=>?_) (λx T i=>?_) (λx c i=>d.shared _<|I7 i) (λx a T=>?_) (λx c i a u=>?_) AP y z d.turn h J H M B9
 .have:=ct.mp d.names x T;rw[I] at this;simpa using this
 .have:=ct.mp d.zO x T;rw[i] at this;simp at this
 .have:=F.sub _<|yO T;show(this.1,λq=>by rw[q] at this;simp at this)
 .let(b,t):=bp.mp<|F.Xo _<|I7 i;have:=(F.sub _<|yO t).1;rw[show m.lookup x=Y b from this] at u;cases u;show t
def S8(i:zN E e target iter ifs scope cl p l7 body)(F:E6 E scope cl m m₀)(AP:∀(s:aZ) (A:iJ) (Q:Value->aZ->Prop),Q (!↥s) (s<*s.heap.push jF)->aN (~~~Z) A l7 Q mj s)(v:jF.isFreed=au)(y:∀U,kl Z.prog Z.w U g0 jF)(h:Ev Z n E iter O m λx t=>Au Z n target x t λaH eu=>KS Z n E target scope cl m₀ g0 body (λD d=>Q (!D) d) t aH eu):Ev Z n E e O m Q:=λU s A hR H hF=>by
 rw[i.ev];refine Na i F AP v y h hR H hF λD C f G u d mc g I HD hq z hU CY hn c=>(mc,z,λh' j=>?_)
 let hk:∀a o,s.heap.get? a=Y o->U a=R->O a=R->h'.get? a=Y o/\u a=R/\d a=R:=λa o q e2 k=>by let(T,M,J):=g.keep a o q e2 k;show bt (j.extBut a o (c a o q e2 k) T) M J
 show(u,.ref D,d,(g.bC,hk,g.os),I.qp hU CY j.extBut G.toks,.raw _,hq)
end
end
def OS(D:aW)(c:bf)(a:AV)(d:bf):=(a=.ref D/\d=c)\/∃l,c D=Y (.list l)/\a=.lst l/\d=cD c D
def E7(h:OS D n a y)(H:St Z U n s)(f:cb U n E m s):∃p,(∀a o,U a=Y o->p a=Y o)/\St Z p y s/\cH p a (!D)/\cb p y E m s/\(∀b,U b=R->n b=R->p b=R/\y b=R):=by
 rcases h with⟨rfl,rfl⟩|⟨l,t,rfl,rfl⟩
 .show Kc U (λ_ _ e=>e) H (.raw _) f (λb J M=>(J,M))
 .let(o,O,aH,k,rfl,hl):=H.own D _ t;let j:U D=R:=by
   induction Q:U D with|none=>rfl|some o=>have:=(H.bC _ _ Q).2;show cA this t
  let d:=pY (o:=listOf aH k) j
  let g:∀b,U b=R->n b=R->mP U D (listOf aH k) b=R/\cD n D b=R:=λb J M=>by let z:b≠D:=qm M t;show(by rw[mP,aK z];show J,by rw[cx z];show M)
  refine Kc (mP U D<|listOf aH k) d (λb o e=>d _ _<|H.base b o e,λb o e=>?_,λb g' e=>?_,H.gens) (.lst (bj rfl)<|hl.mono d) ((bt ((g _ f.loc.1 f.loc.2.1).1) ((g _ f.loc.1 f.loc.2.1).2) ?_),λx c i=>(ek ((g _ (f.vJ x c i).1 (f.vJ x c i).2.1).1) ((g _ (f.vJ x c i).1 (f.vJ x c i).2.1).2) ((f.vJ x c i).2.2.1) ?_),f.inj) g
  .by_cases q:b=D
   .clear l t hl j d g;subst q;simp only[mP,if_true] at e;cases e;show(O,di)
   .simp only[mP,aK q] at e;show((H.bC _ _ e).1,by rw[cx q];show(H.bC _ _ e).2)
  .let q:b≠D:=eB e di;rw[cx q] at e;let(o,e1,e2):=H.own b g' e;show aC o e1<|e2.mono d
  .let(I,G,u):=f.loc.2.2;show(I,G,λx a T e=>by let(v,J,M):=u x a T e;show(v,J,M.mono d))
  .let(C,A,u):=(f.vJ x c i).2.2.2;show(C,A,λa e=>by let(v,J,M):=u a e;show(v,J,M.mono d))
section
def Xp(t:zN E e target iter ifs c cl p l7 body)(F:E6 E c cl m m₀)(AP:∀(s:aZ) (A:iJ) (Q:Value->aZ->Prop),Q (!↥s) (s<*s.heap.push jF)->aN (~~~Z) A l7 Q mj s)(I:jF.isFreed=au)(J:∀U,kl Z.prog Z.w U g0 jF)(h:Ev Z n E iter O m λx G=>Au Z n target x G λaH eu=>KS Z n E target c cl m₀ g0 body (λD z=>∃a g,OS D z a g/\Q a g) G aH eu):Ev Z n E e O m Q:=λU s A hR H hF=>by rw[t.ev];refine Na t F AP I J h hR H hF λD C f T U' z mc hG rQ HD ec M hU CY hn d=>?_;let(a,g,hh,hq):=ec;refine(mc,M,λh' u=>?_);let(Nb,j,Ta,S,Xq,i):=E7 hh rQ HD;let(Tb,KU):=i C hU CY;refine(Nb,a,g,(λb o e=>j _ _<|hG.bC _ _ e,λb o y e2 v=>?_,hG.os),Ta.qp Tb KU u.extBut T.toks,S,hq);let(q1,q,k):=hG.keep b o y e2 v;show bt (u.extBut b o (d b o y e2 v) q1) ((i b q k).1)<|(i b q k).2
def zP(hv:zN E e target iter ifs c cl p J body)(F:E6 E c cl m m₀)(AP:∀(s:aZ) (A:iJ) (Q:Value->aZ->Prop),Q (!↥s) (s<*s.heap.push jF)->aN (~~~Z) A J Q mj s)(xr:jF.isFreed=au)(uO:∀U,kl Z.prog Z.w U g0 jF)(Tc:kI e (Y<|.Name x I) E8.line E=pure L)(v:∀u,yi e E u=(do let _<-mC e c E iter.pos J au (eval iter E) (Y u)))(h:Ev Z n E iter O m λy bh=>Au Z n target y bh λaH eu=>KS Z n E target c cl m₀ g0 body (λD bq=>∃a g,OS D bq a g/\As Z n E (.Name x I) a g m λbu m2=>Q .next bu m2) bh aH eu):
  xo Z n E (.Assign [.Name x I] e E8) O m Q:=λU s A T H hF=>by
 rw[w9 _ _ _ _ Tc];refine af<|aR<|af ?_;rw[v];refine af (Na (QF:=λ_ s'=>aN (~~~Z) A (pure cF) (λ_ s'=>aN (~~~Z) A (pure vh) (xm Z E U O s Q) mj s') mj s') hv F AP xr uO h T H hF λD C f s' U' bq mc hG rQ HD ec uC hU CY M d=>?_);let(a,g,hh,hq):=ec;let(Nb,t,Ta,S,Xq,i):=E7 hh rQ HD;let(Tb,KU):=i C hU CY;let V9:bV U O s Nb g s':=(λb o e=>t _ _<|hG.bC _ _ e,λb o e1 e2 e3=>by let(q1,G,z):=hG.keep b o e1 e2 e3;show bt q1 ((i b G z).1)<|(i b G z).2,hG.os);refine Ko (hq Nb s' A _ T Ta Xq S) λ_ s3 U3 js m3 g3 oZ BU j=>?_;let(oC,es,ep,k,rC):=id uC;let(k1,k2,k3):=g3.keep C oC (λq=>M q.fr) k Tb KU;refine aC mc (oC,es,ep,k1,rC) (λh' hs=>?_);let(r1,r2,r3):=KQ (V9.b.trans g3) oZ BU k2 k3 M d hs;show aj<|aj (U3,.next,js,m3,r1,r2,r3,trivial,j)
end
def I8(h:Ev Z n E i O m λa c=>∃l,c D=Y (.list l)/\l.length<=1000000/\Q (aB c D<|.list<|l++[a])):Em Z n E (eval i E>>=λx=>call (.builtin "list.append") [.ref D,x]>>=λ_=>pure cF) O m Q:=λU s A d H k=>by refine af (fw (h U s A d H k) λv f G a c q u S g=>?_);let(l,o,hz,j):=g;refine af (fw (B8 (n:=n) (Q:=λ_ z=>Q z) o hz j G f A [.ref D,v] [] d u (.cons (.raw _)<|.cons S .nil) rfl .nil) λr I C _ y p t _ e=>?_);show aj (C,y,q.trans p,t,e)
def Td(h:Ev Z n E j O m λa c=>∃i xs,a=.int i/\c D=Y (.set xs)/\xs.length<=4000/\Q (aB c D<|.set<|ff xs i)):Em Z n E (eval j E>>=λv=>cN pos>>=λ_=>call (.builtin "set.add") [.ref D,v]>>=λ_=>pure cF) O m Q:=λU s A d H p=>by refine af (fw (h U s A d H p) λv f J a c u z S g=>?_);let(i,xs,o,q,hz,k):=g;subst o;refine af (aR<|af<|fw (I5 (n:=n) (Q:=λ_ G=>Q G) q hz k J f A [.ref D,v] [] d z (.cons (.raw _)<|.cons S .nil) rfl .nil) λr M I _ C t y _ e=>?_);show aj (I,C,u.trans t,y,e)
def Ϝ(h:Tt Z n E c O m λb d=>if b=L then Em Z n E t d m Q else Q d):Em Z n E (wu c E (eval c E)>>=λok=>if ok=L then t else pure cF) O m Q:=λU s A g H hF=>by
 refine af (Kn (h U s A g H hF) λb o j d f i a=>?_)
 induction b with
 |true=>
  simp only[if_true] at a⊢;show aG (a j o A g i<|hF.grow f) (λ_ z u=>by let(y,v,p,q,k):=u;show(y,v,f.trans p,q,k)) λ_ _ e=>e
 |false=>
  simp only[e9,if_false] at a⊢;show aj (j,d,f,i,a)
def Qy:mB (.ListComp c [(target,iter,[],0)] a pos) 0 it ie E=tY target iter.pos (.ListComp c [(target,iter,[],0)] a pos) it ie E (eval c E>>=λx=>call (.builtin "list.append") [ie,x]>>=λ_=>pure cF):=rfl
def Te:mB (.SetComp c [(target,iter,[],0)] a pos) 0 it ie E=tY target iter.pos (.SetComp c [(target,iter,[],0)] a pos) it ie E (eval c E>>=λv=>cN c.pos>>=λ_=>call (.builtin "set.add") [ie,v]>>=λ_=>pure cF):=rfl
section
variable{κ κ':Type}[DecidableEq κ][DecidableEq κ']
def uP{f:κ->κ'}{g:d->c}(hf:∀a b,f a=f b->a=b)(l:List (κ×d))(k:κ):N (l.map λp=>bG (f p.1)<|g p.2) (f k)=(N l k).map g:=by
 induction l with
 |nil=>rfl
 |cons p l i=>
  show N ((f p.1,g p.2)::_) _=(N ((p.1,p.2)::l) k).map g;rw[eZ,eZ,i];by_cases h:p.1=k
  .rw[bj h,bj<|congrArg f h];rfl
  .rw[aK h,aK λe=>h<|hf _ _ e]
def xw{f:κ->κ'}{g:d->i}(hf:∀a b,f a=f b->a=b)(l:List (κ×d))(k:κ)(v:d):bl (l.map λp=>bG (f p.1)<|g p.2) (f k) (g v)=(bl l k v).map λp=>bG (f p.1) (g p.2):=by
 delta bl
 rw[uP hf,dk];by_cases c:(N l k).isSome=L
 .rw[bj c,bj c,fH,fH];refine cJ λp _=>?_;show(if f p.1=f k then bG (f p.1) (g v) else(f p.1,g p.2))=(f (if p.1=k then(p.1,v) else p).1,g (if p.1=k then(p.1,v) else p).2);by_cases h:p.1=k
  .rw[bj h,bj<|congrArg f h]
  .rw[aK h,aK λe=>h<|hf _ _ e]
 .rw[aK c,aK c,hO];rfl
def E9{f:κ->κ'}{g:d->c}(h:∀a b,f a=f b->a=b)(l:List (κ×d))(k:κ):dz (l.map λp=>bG (f p.1)<|g p.2) (f k)=(dz l k).map λp=>bG (f p.1) (g p.2):=by
 delta dz
 show pS wX (congrArg _<|List.filter_congr λp _=>decide_eq_decide.mpr<|not_congr (λe=>h _ _ e,congrArg f))
def Tf{l:List (κ×d)}{v:d}:N (l.map λx=>if x.1=k then(x.1,v) else x) k'=if k'=k then(N l k).map (λ_=>v) else N l k':=by
 induction l with
 |nil=>show(ite_self (c:=k'=k) (R:Option d)).symm
 |cons p l f=>
  rw[cj];show N ((if p.1=k then(p.1,v) else(p.1,p.2))::_) k'=if k'=k then(N ((p.1,p.2)::l) k).map (λ_=>v) else N ((p.1,p.2)::l) k'
  rw[eZ,eZ];by_cases h:p.1=k
  .rw[bj h,eZ,f,bj h,h];by_cases a:k'=k
   .rw[bj a,bj a.symm,bj a];rfl
   .rw[aK a,aK a,aK<|aE a,aK<|aE a]
  .rw[aK h,eZ,f,aK h];by_cases h3:p.1=k'
   .rw[bj h3,aK λe=>h<|h3.trans e,bj h3]
   .rw[aK h3,aK h3]
def Qz{l:List (κ×c)}{v:c}(h:N l k=R):N (l++[(k,v)]) k'=if k'=k then Y v else N l k':=by
 induction l with
 |nil=>
  show N ((k,v)::[]) k'=_;rw[eZ];by_cases a:k'=k
  .rw[bj a,bj a.symm]
  .rw[aK a,aK<|aE a]
 |cons p l d=>
  let h:N ((p.1,p.2)::l) k=R:=h;show N ((p.1,p.2)::(l++[(k,v)])) k'=if k'=k then Y v else N ((p.1,p.2)::l) k'
  rw[eZ] at h;rw[eZ,eZ];by_cases M:p.1=k
  .rw[bj M] at h;show nomatch h
  .rw[aK M] at h;rw[d h];by_cases h3:p.1=k'
   .rw[bj h3,aK λe=>M<|h3.trans e,bj h3]
   .rw[aK h3,aK h3]
def aX{l:List (κ×c)}{v:c}:N (bl l k v) k'=if k'=k then Y v else N l k':=by
 delta bl
 induction a:N l k with|none=>show Qz a|some x=>show Tf.trans (by rw[a];rfl)
def dD{l:List (κ×f)}:N (dz l k) k'=if k'=k then R else N l k':=by
 delta dz
 induction l with
 |nil=>show(ite_self (c:=k'=k) (R:Option f)).symm
 |cons p l d=>
  rw[gn];show _=if k'=k then R else N ((p.1,p.2)::l) k'
  rw[eZ];by_cases h:p.1=k
  .rw[aK (by rw[decide_eq_false (not_not_intro h)];show aI),d,h];by_cases a:k'=k
   .rw[bj a,bj a]
   .rw[aK a,aK a,aK<|aE a]
  .rw[bj (decide_eq_true h)];show N ((p.1,p.2)::_) k'=_;rw[eZ,d];by_cases h3:p.1=k'
   .rw[bj h3,aK λe=>h<|h3.trans e,bj h3]
   .rw[aK h3,aK h3]
def dO{l:List (κ×a)}{k:κ}{v:a}:(bl l k v).length<=l.length+1:=by delta bl;split<;>simp
def lB{l:List (κ×a)}{k:κ}:(dz l k).length<=l.length:=gb ..
end
abbrev Nd:=Int×Option Int×Option Int
structure TS where
 pred:List (Nd×Int)
 X:List (Int×Nd)
 ref:List (Int×Int)
 ite:List ((Int×Int×Int)×Int)
 vars:List (Int×Int)
 e8:List (Int×Int)
 mf:Int
structure TA where
 x:aW
 dx:aW
 pred:aW
 succ:aW
 ref:aW
 ite:aW
 vars:aW
 e8:aW
 roots:aW
abbrev oi:Option Int->AV
 |none=>.none
 |some i=>.int i
abbrev Xr:Option Int->K0
 |none=>.none
 |some i=>.int i
abbrev Tg(t:Nd):AV:=.tup [.int t.1,oi t.2.1,oi t.2.2]
def AW(t:Nd):=[.int t.1,Xr t.2.1,Xr t.2.2]
abbrev KV(t:Int×Int×Int):List K0:=[.int t.1,.int t.2.1,.int t.2.2]
def fq(l:List (Int×Nd)):=l.map λp=>bG (K0.int p.1)<|Tg p.2
def jf(l:List (Nd×Int)):=l.map λp=>bG (AW p.1)<|AV.int p.2
def eC(l:List (Int×Int)):=l.map λp=>bG (K0.int p.1)<|AV.int p.2
def nZ(l:List ((Int×Int×Int)×Int)):=l.map λp=>bG (KV p.1)<|AV.int p.2
def KW:∀a b,Xr a=Xr b->a=b:=by intro a b h;cases a<;>cases b<;>first|rfl|exact congrArg Y (K0.int.inj h)|exact nomatch h
def Fb:∀a b,AW a=AW b->a=b:=by
 rintro ⟨a,b,c⟩ ⟨f,e,d⟩ h
 simp only[AW,DZ,K0.int.injEq,and_true] at h;rw[h.1,KW _ _ h.2.1,KW _ _ h.2.2]
def KX:∀a b,KV a=KV b->a=b:=by
 rintro ⟨a,b,c⟩ ⟨f,e,d⟩ h
 simp only[KV,DZ,K0.int.injEq,and_true] at h;rw[h.1,h.2.1,h.2.2]
def rS:∀a b,K0.int a=K0.int b->a=b:=λa b h=>by injection h
def ka(l:List (Int×Nd))(k:Int):N (fq l) ⇑k=(N l k).map Tg:=uP rS l k
def vQ(l:List (Int×Nd))(k:Int)(t:Nd):bl (fq l) ⇑k (Tg t)=fq (bl l k t):=xw rS l k t
def I9(l:List (Int×Nd))(k:Int):dz (fq l) ⇑k=fq (dz l k):=E9 rS l k
def rD(l:List (Nd×Int))(k:Nd):N (jf l) (AW k)=(N l k).map AV.int:=uP Fb l k
def AX(l:List (Nd×Int))(k:Nd)(t:Int):bl (jf l) (AW k) ⇑t=jf (bl l k t):=xw Fb l k t
def AY(l:List (Nd×Int))(k:Nd):dz (jf l) (AW k)=jf (dz l k):=E9 Fb l k
def g9(l:List (Int×Int))(k:Int):N (eC l) ⇑k=(N l k).map AV.int:=uP rS l k
def r8(l:List (Int×Int))(k:Int)(t:Int):bl (eC l) ⇑k ⇑t=eC (bl l k t):=xw rS l k t
def Nc(l:List (Int×Int))(k:Int):dz (eC l) ⇑k=eC (dz l k):=E9 rS l k
def KY(l:List ((Int×Int×Int)×Int))(k:Int×Int×Int):N (nZ l) (KV k)=(N l k).map AV.int:=uP KX l k
def KZ(l:List ((Int×Int×Int)×Int))(k:Int×Int×Int)(t:Int):bl (nZ l) (KV k) ⇑t=nZ (bl l k t):=xw KX l k t
abbrev jD(V:TA)(t:TS):List (Str×AV):=[(ah "_pred",.ref V.pred),(ah "_succ",.ref V.succ),(ah "_ref",.ref V.ref),(ah "_min_free",.int t.mf),(ah "_ite_table",.ref V.ite),
 (ah "vars",.ref V.vars),(ah "_level_to_var",.ref V.e8),(ah "_reordering_context",.bool au),(ah "_last_len",.none),(ah "roots",.ref V.roots),(ah "max_nodes",.int<|2^63-1)]
def TA.list(V:TA):=[V.x,V.dx,V.pred,V.succ,V.ref,V.ite,V.vars,V.e8,V.roots]
abbrev Ja:List (aW×bD)->bf->bf
 |[],g=>g
 |p::l,g=>aB (Ja l g) p.1 p.2
def Jb(h:a∉l.map (·.1)):Ja l g a=g a:=by
 induction l with
 |nil=>rfl
 |cons p l c=>show(aq fun(e:a=p.1)=>h<|qP e<|.head _).trans (c λq=>h<|.tail _ q)
def OT(h:(l.map (·.1)).Nodup)(c:(a,v)∈l):Ja l g a=Y v:=by
 induction l with
 |nil=>show nomatch c
 |cons p l d=>
  let(J,M):=dj.mp h;rcases aS.mp c with e|q
  .show e▸ar
  .show(aq fun(e:a=p.1)=>J (show p.1∈_ by rw[<-e];show eL (f:=(·.1)) q)).trans (d M q)
def D!(h:(l.map (·.1)).Nodup)(c:a∈l.map (·.1)):∃v,(a,v)∈l/\Ja l g a=Y v:=by let(p,q,e):=cG.mp c;clear c;let rfl:p.1=a:=e;show aC p.2 q<|OT h q
def Xs(c:a∈l.map (·.1)):Ja l g a=Ja l g' a/\Ja l g a≠R:=by
 induction l with
 |nil=>show nomatch c
 |cons p l d=>
  by_cases e:a=p.1
  .rw[e];show(ar.trans ar.symm,λq=>nomatch ar.symm.trans q)
  .let(J,M):=d<|(aS.mp c).resolve_left e;show((aq e).trans (J.trans (aq e).symm),λq=>M<|(aq e).symm.trans q)
def OU:∀{p:List (aW×bD)},((p++(a,v)::q).map (·.1)).Nodup->aB (Ja (p++(a,v)::q) g) a d=Ja (p++(a,d)::q) g:=by
 intro p
 induction p with
 |nil=>show λ_=>bQ
 |cons c p ih=>
  intro h;let(J,M):=dj.mp h;let f:c.1≠a:=λe=>J<|cG.mpr<|aC (a,v) (kR _<|.head _) e.symm;show(gf f).trans (congrArg (aB · c.1 c.2)<|ih M)
abbrev vals(V:TA)(t:TS):List (aW×bD):=[(V.x,.raw<|k8 493 V.dx),(V.dx,.ns<|jD V t),(V.pred,.dg<|jf t.pred),(V.succ,.dict<|fq t.X),(V.ref,.dict<|eC t.ref),(V.ite,.dg<|nZ t.ite),(V.vars,.dict<|eC t.vars),(V.e8,.dict<|eC t.e8),(V.roots,.set [])]
def aA(V:TA)(t:TS)(g:bf):=Ja (vals V t) g
structure Wf(V:TA):Prop where
 nd:V.list.Nodup
 cls:V.dx≠493
section
variable{V:TA}{t:TS}{g:bf}
def Th:aA V t g V.x=Y (.raw<|k8 493 V.dx):=ar
def zQ(h:Wf V)(k:Nat)(e:(vals V t)[k]?=Y (a,v)):aA V t g a=Y v:=OT (l:=vals V t) h.nd<|bo e
def OV(h:Wf V):aA V t g V.dx=Y (.ns<|jD V t):=zQ h 1 rfl
def ph(h:Wf V):aA V t g V.pred=Y (.dg<|jf t.pred):=zQ h 2 rfl
def i7(h:Wf V):aA V t g V.succ=Y (.dict<|fq t.X):=zQ h 3 rfl
def se(h:Wf V):aA V t g V.ref=Y (.dict<|eC t.ref):=zQ h 4 rfl
def Fc(h:Wf V):aA V t g V.ite=Y (.dg<|nZ t.ite):=zQ h 5 rfl
def lT(h:Wf V):aA V t g V.vars=Y (.dict<|eC t.vars):=zQ h 6 rfl
def xx(h:Wf V):aA V t g V.e8=Y (.dict<|eC t.e8):=zQ h 7 rfl
def pj(h:a∉V.list):aA V t g a=g a:=Jb (l:=vals V t) h
def Eh(h:a∈V.list):aA V t g a=aA V t g' a/\aA V t g a≠R:=Xs (l:=vals V t) h
def fi(h:Wf V):Inst (t\g) V.x 493 V.dx (jD V t):=(Th,OV h,λe=>h.cls e.symm)
def sf(h:Wf V)(p q:List (aW×bD))(e1:vals V t=p++(a,v)::q)(e2:vals V t'=p++(a,c)::q):aB (t\g) a c=aA V t' g:=by
 delta aA
 rw[e1,e2];show OU<|e1▸h.nd
def AZ(h:Wf V):aB (t\g) V.succ (.dict<|fq l)=aA V {t with X:=l} g:=sf h ((vals V t).take 3) ((vals V t).drop 4) rfl rfl
def Fd(h:Wf V):aB (t\g) V.pred (.dg<|jf l)=aA V {t with pred:=l} g:=sf h ((vals V t).take 2) ((vals V t).drop 3) rfl rfl
def Ei(h:Wf V):aB (t\g) V.ref (.dict<|eC l)=aA V {t with ref:=l} g:=sf h ((vals V t).take 4) ((vals V t).drop 5) rfl rfl
def Xu(h:Wf V):aB (t\g) V.ite (.dg<|nZ l)=aA V {t with ite:=l} g:=sf h ((vals V t).take 5) ((vals V t).drop 6) rfl rfl
def K2(h:Wf V):aB (t\g) V.vars (.dict<|eC l)=aA V {t with vars:=l} g:=sf h ((vals V t).take 6) ((vals V t).drop 7) rfl rfl
def Xv(h:Wf V):aB (t\g) V.e8 (.dict<|eC l)=aA V {t with e8:=l} g:=sf h ((vals V t).take 7) ((vals V t).drop 8) rfl rfl
def D?(h:Wf V):aB (t\g) V.dx (.ns<|lz (jD V t) (ah "_min_free") ⇑i)=aA V {t with mf:=i} g:=sf h ((vals V t).take 1) ((vals V t).drop 2) rfl rfl
end
def k_inst:lQ (KF w) 493=L:=⋯
def Xw:jz (KF w) (!493) (ah "_pred")=Y R:=⋯
def Xx{V:TA}:(jD V t).lookup (ah "_pred")=Y (!V.pred):=⋯
def n5{V:TA}(a:Wf V)(h:Q (!V.pred) (t\g)):OF ↑hB n (!V.x) (ah "_pred") (t\g) Q:=iG (fi a) k_inst Xw Xx rfl h
def Xy:jz (KF w) (!493) (ah "_succ")=Y R:=⋯
def Xz{V:TA}:(jD V t).lookup (ah "_succ")=Y (!V.succ):=⋯
def cP{V:TA}(a:Wf V)(h:Q (!V.succ) (t\g)):OF ↑hB n (!V.x) (ah "_succ") (t\g) Q:=iG (fi a) k_inst Xy Xz rfl h
def Ti:jz (KF w) (!493) (ah "_ref")=Y R:=⋯
def Tj{V:TA}:(jD V t).lookup (ah "_ref")=Y (!V.ref):=⋯
def xy{V:TA}(a:Wf V)(h:Q (!V.ref) (t\g)):OF ↑hB n (!V.x) (ah "_ref") (t\g) Q:=iG (fi a) k_inst Ti Tj rfl h
def K3:jz (KF w) (!493) (ah "_min_free")=Y R:=⋯
def K4{V:TA}:(jD V t).lookup (ah "_min_free")=Y ⇑t.mf:=⋯
def xA{V:TA}(a:Wf V)(h:Q ⇑t.mf (t\g)):OF ↑hB n (!V.x) (ah "_min_free") (t\g) Q:=iG (fi a) k_inst K3 K4 rfl h
def Jc:jz (KF w) (!493) (ah "_ite_table")=Y R:=⋯
def Jd{V:TA}:(jD V t).lookup (ah "_ite_table")=Y (!V.ite):=⋯
def vR{V:TA}(a:Wf V)(h:Q (!V.ite) (t\g)):OF ↑hB n (!V.x) (ah "_ite_table") (t\g) Q:=iG (fi a) k_inst Jc Jd rfl h
def XA:jz (KF w) (!493) (ah "vars")=Y R:=⋯
def XB{V:TA}:(jD V t).lookup (ah "vars")=Y (!V.vars):=⋯
def fB{V:TA}(a:Wf V)(h:Q (!V.vars) (t\g)):OF ↑hB n (!V.x) (ah "vars") (t\g) Q:=iG (fi a) k_inst XA XB rfl h
def DL:jz (KF w) (!493) (ah "_level_to_var")=Y R:=⋯
def DM{V:TA}:(jD V t).lookup (ah "_level_to_var")=Y (!V.e8):=⋯
def i8{V:TA}(a:Wf V)(h:Q (!V.e8) (t\g)):OF ↑hB n (!V.x) (ah "_level_to_var") (t\g) Q:=iG (fi a) k_inst DL DM rfl h
def Jf:jz (KF w) (!493) (ah "max_nodes")=Y R:=⋯
def Jg{V:TA}:(jD V t).lookup (ah "max_nodes")=Y ⇑(2^63-1):=⋯
def Jh{V:TA}(a:Wf V)(h:Q ⇑(2^63-1) (t\g)):OF ↑hB n (!V.x) (ah "max_nodes") (t\g) Q:=iG (fi a) k_inst Jf Jg rfl h
def Fe:jz (KF w) (!493) (ah "__len__")=Y (Y !50):=⋯
def Ff:wx (KF w) (!50)=Y (.type "function"):=⋯
section
variable{V:TA}
def XC(i:Int)(a b:Option Int):wG [.int i,oi a,oi b]=Y (AW (i,a,b)):=by cases a<;>cases b<;>rfl
def lC(l:List (Int×Nd)):(fq l).length=l.length:=by simp[fq]
def tD(l:List (Nd×Int)):(jf l).length=l.length:=by simp[jf]
def nc(l:List (Int×Int)):(eC l).length=l.length:=by simp[eC]
def Nf(l:List ((Int×Int×Int)×Int)):(nZ l).length=l.length:=by simp[nZ]
def lD{t:TS}{g:bf}(c:Wf V)(d:N t.X k=Y (a,Y v,Y w))(h:Q (.tup [.int a,.int v,.int w]) (t\g)):Ed Z n (!V.succ) ⇑k (t\g) Q:=
 eQ (i7 c) rfl (by rw[ka,d];rfl) h
def gh{t:TS}{g:bf}(c:Wf V)(d:N t.X k=Y (a,v,w))(h:Q (.tup [.int a,oi v,oi w]) (t\g)):Ed Z n (!V.succ) ⇑k (t\g) Q:=
 eQ (i7 c) rfl (by rw[ka,d];rfl) h
def A0{g:bf}(a:Wf V)(hz:t.X.length<=100000)(h:P ({t with X:=bl t.X k (i,Y v,Y w)}\g)):IJ Z n (!V.succ) ⇑k (.tup [.int i,.int v,.int w]) (t\g) P:=by calc jM (i7 a) rfl (by rw[lC];show Y5 hz);rw[show AV.tup [.int i,.int v,.int w]=Tg (i,Y v,Y w) from rfl,vQ,AZ a];show h
def K5(a:Wf V)(h:Q (.bool (N t.X k).isSome) (t\g)):pb Z n .In ⇑k (!V.succ) (t\g) Q:=
 IV (i7 a) rfl (by rw[ka,dk];show h)
def uQ(a:Wf V)(h:Q (.bool<|not (N t.X k).isSome) (t\g)):pb Z n .NotIn ⇑k (!V.succ) (t\g) Q:=
 B5 (i7 a) rfl (by rw[ka,dk];show h)
def Fg(a:Wf V)(hz:t.X.length<=100000)(h:Q ⇑t.X.length (t\g)):Cl Z n (.builtin "len") [.ref V.succ] [] (t\g) Q:=
 qn (i7 a) (by rw[lC];show Y5 hz) (by rw[lC];show h)
def To{t:TS}{g:bf}(a:Wf V)(hz:t.X.length<=100000)(d:N t.X k=Y (c,Y v,Y w))(h:Q (.tup [.int c,.int v,.int w]) ({t with X:=dz t.X k}\g)):Cl Z n (.builtin "dict.pop") [.ref V.succ,.int k] [] (t\g) Q:=
 MV (i7 a) rfl (by rw[lC];show Y5 hz) (by rw[ka,d];rfl) (by rw[I9,AZ a];show h)
def A1(a:Wf V)(d:N t.ref k=Y c)(h:Q ⇑c (t\g)):Ed Z n (!V.ref) ⇑k (t\g) Q:=
 eQ (se a) rfl (by rw[g9,d];rfl) h
def Jj(a:Wf V)(hz:t.ref.length<=100000)(h:P ({t with ref:=bl t.ref k i}\g)):IJ Z n (!V.ref) ⇑k ⇑i (t\g) P:=by calc jM (se a) rfl (by rw[nc];show Y5 hz);rw[r8,Ei a];show h
def XD(a:Wf V)(hz:t.ref.length<=100000)(d:N t.ref k=Y c)(h:Q ⇑c ({t with ref:=dz t.ref k}\g)):Cl Z n (.builtin "dict.pop") [.ref V.ref,.int k] [] (t\g) Q:=
 MV (se a) rfl (by rw[nc];show Y5 hz) (by rw[g9,d];rfl) (by rw[Nc,Ei a];show h)
def A2{g:bf}(a:Wf V)(hz:t.pred.length<=100000)(h:P ({t with pred:=bl t.pred (i,Y v,Y w) u}\g)):IJ Z n (!V.pred) (.tup [.int i,.int v,.int w]) ⇑u (t\g) P:=by calc yK (ph a) (ks:=AW (i,Y v,Y w)) rfl (by rw[tD];show Y5 hz);rw[AX,Fd a];show h
def Fh{t:TS}(a:Wf V)(h:Q (.bool (N t.pred (i,Y v,Y w)).isSome) (t\g)):pb Z n .In (.tup [.int i,.int v,.int w]) (!V.pred) (t\g) Q:=
 OG (ph a) (ks:=AW (i,Y v,Y w)) rfl (by rw[rD,dk];show h)
abbrev Ng:Option Int->AV
 |none=>.none
 |some i=>.int i
def K6{t:TS}(a:Wf V)(h:Q (Ng<|N t.pred (i,Y v,Y w)) (t\g)):Cl Z n (.builtin "dict.get") [.ref V.pred,.tup [.int i,.int v,.int w]] [] (t\g) Q:=
 OH (ph a) (ks:=AW (i,Y v,Y w)) rfl (by rw[rD];cases c:N t.pred (i,Y v,Y w)<;>(rw[c] at h;show h))
def get_ite(a:Wf V)(h:Q (Ng<|N t.ite (i,v,w)) (t\g)):Cl Z n (.builtin "dict.get") [.ref V.ite,.tup [.int i,.int v,.int w]] [] (t\g) Q:=
 OH (Fc a) (ks:=KV (i,v,w)) rfl (by rw[KY];cases c:N t.ite (i,v,w)<;>(rw[c] at h;show h))
def XE{g:bf}(a:Wf V)(hz:t.ite.length<=100000)(h:P ({t with ite:=bl t.ite (i,v,w) u}\g)):IJ Z n (!V.ite) (.tup [.int i,.int v,.int w]) ⇑u (t\g) P:=by calc yK (Fc a) (ks:=KV (i,v,w)) rfl (by rw[Nf];show Y5 hz);rw[KZ,Xu a];show h
def A3(a:Wf V)(d:N t.vars k=Y c)(h:Q ⇑c (t\g)):Ed Z n (!V.vars) ⇑k (t\g) Q:=
 eQ (lT a) rfl (by rw[g9,d];rfl) h
def XF(a:Wf V)(d:N t.e8 k=Y c)(h:Q ⇑c (t\g)):Ed Z n (!V.e8) ⇑k (t\g) Q:=
 eQ (xx a) rfl (by rw[g9,d];rfl) h
def Fj(a:Wf V)(hz:t.vars.length<=100000)(h:P ({t with vars:=bl t.vars k i}\g)):IJ Z n (!V.vars) ⇑k ⇑i (t\g) P:=by calc jM (lT a) rfl (by rw[nc];show Y5 hz);rw[r8,K2 a];show h
def Jk(a:Wf V)(hz:t.e8.length<=100000)(h:P ({t with e8:=bl t.e8 k i}\g)):IJ Z n (!V.e8) ⇑k ⇑i (t\g) P:=by calc jM (xx a) rfl (by rw[nc];show Y5 hz);rw[r8,Xv a];show h
def Fm(a:Wf V)(h:Q (.bool (N t.vars k).isSome) (t\g)):pb Z n .In ⇑k (!V.vars) (t\g) Q:=
 IV (lT a) rfl (by rw[g9,dk];show h)
def yP(a:Wf V)(h:Q (.bool<|not (N t.vars k).isSome) (t\g)):pb Z n .NotIn ⇑k (!V.vars) (t\g) Q:=
 B5 (lT a) rfl (by rw[g9,dk];show h)
def Tr(a:Wf V)(h:Q (.bool<|not (N t.e8 k).isSome) (t\g)):pb Z n .NotIn ⇑k (!V.e8) (t\g) Q:=
 B5 (xx a) rfl (by rw[g9,dk];show h)
def qt(a:Wf V)(hz:t.vars.length<=100000)(h:Q ⇑t.vars.length (t\g)):Cl Z n (.builtin "len") [.ref V.vars] [] (t\g) Q:=
 qn (lT a) (by rw[nc];show Y5 hz) (by rw[nc];show h)
def XG(a:Wf V)(h:Q (Ng<|N t.e8 k) (t\g)):Cl Z n (.builtin "dict.get") [.ref V.e8,.int k] [] (t\g) Q:=
 y! (xx a) rfl (by rw[g9];cases c:N t.e8 k<;>(rw[c] at h;show h))
def A4(a:Wf V):J5 Z (t\g) (!V.pred) (ah "get") (.builtin "dict.get"):=yM (ph a) iT o8
def C5(a:Wf V):J5 Z (t\g) (!V.ite) (ah "get") (.builtin "dict.get"):=yM (Fc a) iT o8
def K7(a:Wf V):J5 Z (t\g) (!V.e8) (ah "get") (.builtin "dict.get"):=lA (xx a) iT o8
def Jl(a:Wf V):J5 Z (t\g) (!V.succ) (ah "pop") (.builtin "dict.pop"):=lA (i7 a) ee iU
def K8(a:Wf V):J5 Z (t\g) (!V.ref) (ah "pop") (.builtin "dict.pop"):=lA (se a) ee iU
def A6(a:Wf V):J5 Z (t\g) (!V.pred) (ah "pop") (.builtin "dict.pop"):=yM (ph a) ee iU
end
abbrev uR:=Int->Bool
abbrev SM:=List<|Int×Nd
abbrev fm(G:uR)(i:Int)(b:Bool):uR:=λj=>if j=i then b else G j
abbrev lv(a:SM)(u:Int):Int:=match N a (aT u:Int) with
 |some (i,_,_)=>i
 |none=>0
def nv(r:Option (Int×Option Int×Option Int))(f:Int->Int->Int->Bool)(d:Bool):=match r with
 |some (i,Y v,Y w)=>f i v w
 |_=>d
abbrev val(a:SM):Nat->Int->uR->Bool
 |0,u,_=>decide (0<u)
 |n+1,u,G=>nv (N a (aT u:Int)) (λi v w=>(decide (u<0))^^(if G i then val a n w G else val a n v G))<|decide (0<u)
def val_succ{a:SM}(h:N a (aT u:Int)=Y (i,Y v,Y w)):val a (n+1) u G=((decide (u<0))^^(if G i then val a n w G else val a n v G)):=by show nv (N a _) _ _=_;rw[h];rfl
def val_one{a:SM}(h:N a (aT u:Int)=Y (i,R,R)):val a n u G=decide (0<u):=by
 induction n using cV with
 |zero=>rfl
 |succ n=>
  show nv (N a _) _ _=_;rw[h];rfl
def den(a:SM)(u:Int)(G:uR):=val a 4 u G
def bc(a:SM)(c:Int->Prop)(u:Int):=(N a (aT u:Int)).isSome=L/\¬c (aT u:Int)
inductive Ts(hv:SM)(aP:Int->Prop)(u i:Int)(a b:Option Int):Prop
 |mk (J:1<u) (M:0<=i) (h3:i<4) (v w:Int) (h4:a=Y v) (h5:b=Y w) (h6:0<w) (h7:v≠w) (h8:bc hv aP v) (h9:bc hv aP w) (h10:i<lv hv v) (h11:i<lv hv w)
def Ts.map(h:Ts f t u i a b)(k:∀c,bc f t c->i<lv f c->bc m y c/\i<lv m c):Ts m y u i a b:=by let(J,M,s,v,w,q,p,o,n,j,g,e,d):=h;show(J,M,s,v,w,q,p,o,n,(k v j e).1,(k w g d).1,(k v j e).2,(k w g d).2)
structure Good(hv:SM)(aP:Int->Prop):Prop where
 one:N hv 1=Y (4,R,R)
 z1:¬aP 1
 node:∀u i a b,N hv u=Y (i,a,b)->u≠1->¬aP u->Ts hv aP u i a b
abbrev kN(c:SM)(u i:Int):Int×Int:=if u.natAbs=1 then(u,u) else match N c (aT u:Int) with
 |some (a,Y v,Y w)=>if i<a then(u,u) else if u<0 then(-v,-w) else(v,w)
 |_=>(u,u)
def bc.neg(h:bc a c u):bc a c (-u):=by unfold bc at*;rwa [eU]
def bc.aj6:bc a c (-u)↔bc a c u:=by delta bc;rw[eU]
def vT:lv a (-u)=lv a u:=by delta lv;rw[eU]
def Fn:bc a c (aT u:Int)↔bc a c u:=by delta bc;rw[show((aT u:Int).natAbs:Int)=u.natAbs from ê]
def pk:lv a (aT u:Int)=lv a u:=by delta lv;rw[show((aT u:Int).natAbs:Int)=u.natAbs from ê]
section
variable{hv:SM}{aP:Int->Prop}(bD:Good hv aP)
include bD
def Good.v1:bc hv aP 1:=(by show(N hv 1).isSome=L;rw[bD.one];rfl,bD.z1)
def Good.vm1:bc hv aP (-1):=bD.v1.neg
def Good.E_:lv hv 1=4:=by show(match N hv 1 with|some (i,_,_)=>i|none=>0)=4;rw[bD.one]
def Good.QA:lv hv (-1)=4:=by rw[vT];show bD.E_
def Good.split(h:bc hv aP u):(u.natAbs=1/\lv hv u=4)\/(u.natAbs≠1/\1<(aT u:Int)/\∃i v w,N hv (aT u:Int)=Y (i,Y v,Y w)/\lv hv u=i/\0<=i/\i<4/\0<w/\v≠w/\bc hv aP v/\bc hv aP w/\i<lv hv v/\i<lv hv w):=by
 let(J,M):=h;by_cases e:u.natAbs=1
 .refine .inl (e,?_);delta lv;rw[e];show(match N hv 1 with|some (i,_,_)=>i|none=>0)=4;rw[bD.one]
 .induction c:N hv (aT u:Int) with
  |none=>rw[c] at J;show nomatch J
  |some q=>
   let(i,a,b):=q;let(p1,p2,n,v,w,rfl,rfl,m,k,j,g,f,d):=bD.node _ _ _ _ c (Wz e) M;show .inr (bt e p1<|wB i v w rfl (by delta lv;rw[c]) p2 n m k j g f d)
def Good.C6(h:bc hv aP u):u≠0:=by rcases bD.split h with h|h<;>(first|exact aeT h|exact aeU h)
def Good.OW(h:bc hv aP u):lv hv u<=4:=by rcases bD.split h with⟨_,h⟩|⟨_,_,i,v,w,_,h,J,M,_⟩<;>(first|exact Ű h|exact aeV h M)
def Good.gK(h:bc hv aP u):0<=lv hv u:=by rcases bD.split h with⟨_,h⟩|⟨_,_,i,v,w,_,h,J,M,_⟩<;>(first|exact aeW h|exact s9 h J)
def Good.ZG(h:bc hv aP u)(a:4<=lv hv u):u=1\/u= -1:=by rcases bD.split h with⟨_,h⟩|⟨_,_,i,v,w,_,h,J,M,_⟩<;>(first|exact Ζ ∎|exact aeX h a M)
def Good.fuel:∀(n m:Nat) (u:Int) (G:uR),bc hv aP u->4-lv hv u<=n->4-lv hv u<=m->val hv n u G=val hv m u G:=by
 intro n
 induction n with
 |zero=>
  intro m u G d c a;clear a;rcases bD.split d with⟨J,M⟩|⟨_,_,i,v,w,_,h,J,M,_⟩
  .have:N hv (aT u:Int)=Y (4,R,R):=by rw[J];show bD.one
   rw[val_one this,val_one this]
  .show(Y63 c M h).elim
 |succ n e=>
  intro m u G d c a;rcases bD.split d with⟨J,M⟩|⟨s,_,i,v,w,f,h,J,M,q,p,o,k,j,g⟩
  .have:N hv (aT u:Int)=Y (4,R,R):=by rw[J];show bD.one
   rw[val_one this,val_one this]
  .induction m using cV with
   |zero=>show(aeY h a M J).elim
   |succ m=>
    rw[val_succ f,val_succ f];rw[e m v G o (Zp h c j) (Zp h a j),e m w G k (Zp h c g)<|Zp h a g]
def Good.mI(h:u.natAbs=1)(G:uR):den hv u G=decide (0<u):=by
 have:N hv (aT u:Int)=Y (4,R,R):=by rw[h];show bD.one
 show val_one this
def Good.K9(G:uR):den hv 1 G=L:=by rw[bD.mI rfl];rfl
def Good.Fo(G:uR):den hv (-1) G=au:=by rw[bD.mI rfl];rfl
def Good.fC(j:bc hv aP u)(J:u.natAbs≠1)(a:N hv (aT u:Int)=Y (i,Y v,Y w))(G:uR):den hv u G=((decide (u<0))^^(if G i then den hv w G else den hv v G)):=by
 rcases bD.split j with⟨h,_⟩|⟨p,_,g,f,w',e,h,J,M,o,n,m,k,d,c⟩
 .show(J h).elim
 .rw[a] at e;clear h o n;let(rfl,rfl,rfl):i=g/\v=f/\w=w':=by simpa using e
  rw[show den hv u G=val hv (3+1) u G from rfl,val_succ a,bD.fuel 3 4 v G m (ħ J d)<|Ĩ J d,bD.fuel 3 4 w G k (ħ J c)<|Ĩ J c];rfl
def Good.iP(c:bc hv aP u)(G:uR):den hv (-u) G= not (den hv u G):=by
 let d:=bD.C6 c;rcases bD.split c with⟨h,_⟩|⟨d,_,g,f,w',e,h,J,M,o,n,m,k,j,i⟩
 .rw[bD.mI h,bD.mI<|by rwa [eU]];by_cases a:0<u
  .simp[a,iH.mpr<|ik a]
  .have:u<0:=aeZ a h;simp[this,iH.mpr<|ik this]
 .rw[bD.fC c d e,bD.fC c.neg (by rwa [eU])<|by rw[eU];show e];by_cases a:u<0
  .rw[show decide (-u<0)=au from decide_eq_false (ĩ a),show decide (u<0)=L from decide_eq_true a];simp
  .rw[show decide (-u<0)=L from decide_eq_true (ai2 a ∎),show decide (u<0)=au from decide_eq_false a];simp
def Good.agree:∀(n:Nat) (u:Int) (G RK:uR),bc hv aP u->4-lv hv u<=n->(∀j,lv hv u<=j->j<4->G j=RK j)->den hv u G=den hv u RK:=by
 intro n
 induction n with
 |zero=>
  intro u G RK a c d;rcases bD.split a with⟨h,_⟩|⟨g,_,o,k,w',i,h,J,M,t,s,q,p,f,e⟩
  .rw[bD.mI h,bD.mI h]
  .show(Y63 c M h).elim
 |succ n m=>
  intro u G RK a c d;rcases bD.split a with⟨h,_⟩|⟨g,_,o,k,w',i,h,J,M,t,s,q,p,f,e⟩
  .rw[bD.mI h,bD.mI h]
  .rw[bD.fC a g i,bD.fC a g i,d o (Ű h)<|M,m k G RK q (Zp h c f)<|λj J M=>d j (ä h J f) M,m w' G RK p (Zp h c e)<|λj J M=>d j (ä h J e) M]
def Good.dQ(a:bc hv aP u)(c:i<lv hv u)(G:uR)(b:Bool):den hv u (fm G i b)=den hv u G:=
 bD.agree (4-lv hv u).toNat u _ _ a Y38 λj J M=>by delta fm;rw[aK (ű J c)]
def Good.Tu(a:bc hv aP u)(h:∀j,0<=j->j<4->G j=RK j):den hv u G=den hv u RK:=
 bD.agree (4-lv hv u).toNat u _ _ a Y38 λj J M=>h j (by have:=bD.gK a;show ë this J) M
def Good.kN(c:bc hv aP u)(y:i<=lv hv u)(g:i<4):bc hv aP (kN hv u i).1/\bc hv aP (kN hv u i).2/\i<lv hv (kN hv u i).1/\i<lv hv (kN hv u i).2/\(∀G,den hv (kN hv u i).1 G=den hv u (fm G i au))/\(∀G,den hv (kN hv u i).2 G=den hv u (fm G i L)):=by
 rcases bD.split c with⟨h,n⟩|⟨o,_,a,v,w,m,h,J,M,z,n,q,p,t,s⟩
 .have:Bd.kN hv u i=(u,u):=by delta Bd.kN;rw[bj h]
  rw[this];show(uF c c (by simp only;show s9 n g) (by simp only;show s9 n g) (λG=>(bD.dQ c (s9 n g) G _).symm)<|λG=>(bD.dQ c (s9 n g) G _).symm)
 .by_cases d:i<a
  .have:Bd.kN hv u i=(u,u):=by delta Bd.kN;rw[aK o,m];simp[d]
   rw[this];show(uF c c (by simp only;show s9 h d) (by simp only;show s9 h d) (λG=>(bD.dQ c (s9 h d) G _).symm)<|λG=>(bD.dQ c (s9 h d) G _).symm)
  .let e:a=i:=Ų d h y;clear y g d;subst e;let k:∀G,den hv u (fm G a au)=(decide (u<0)^^den hv v G):=λG=>by rw[bD.fC c o m,show fm G a au a=au by simp[fm]];rw[aK aI];rw[bD.dQ q (t)]
   let j:∀G,den hv u (fm G a L)=(decide (u<0)^^den hv w G):=λG=>by rw[bD.fC c o m,show fm G a L a=L by simp[fm]];rw[bj rfl];rw[bD.dQ p (s)]
   by_cases f:u<0
   .have:Bd.kN hv u a=(-v,-w):=by delta Bd.kN;rw[aK o,m];simp[f]
    rw[this];refine uF q.neg p.neg ?_ ?_ (λG=>?_) (λG=>?_)
    .show a<lv hv (-v);rw[vT];show t
    .show a<lv hv (-w);rw[vT];show s
    .show den hv (-v) G=_;rw[bD.iP q,k];simp[f]
    .show den hv (-w) G=_;rw[bD.iP p,j];simp[f]
   .have:Bd.kN hv u a=(v,w):=by delta Bd.kN;rw[aK o,m];simp[f]
    rw[this];refine(uF q p (by simp only;show t) (by simp only;show s) (λG=>?_)<|λG=>?_)
    .rw[k];simp[f]
    .rw[j];simp[f]
def Good.canon(inj:∀u y n,N hv u=Y n->N hv y=Y n->¬aP u->¬aP y->u=y):∀(n:Nat) (u v:Int),bc hv aP u->bc hv aP v->4-lv hv u<=n->4-lv hv v<=n->(∀G,den hv u G=den hv v G)->u=v:=by
 intro n
 induction n with
 |zero=>
  intro u v k S D E s;let e:=s λ_=>L;clear s;rcases bD.ZG k (Y64 D) with rfl|rfl<;>rcases bD.ZG S (Y64 E) with rfl|rfl
  .rfl
  .rw[bD.K9,bD.Fo] at e;show nomatch e
  .rw[bD.K9,bD.Fo] at e;show nomatch e
  .rfl
 |succ n A=>
  intro u v k S D E s;by_cases O:4-(n:Int)<=lv hv u/\4-(n:Int)<=lv hv v
  .show A u v k S (ae0 O) (ae1 O) s
  let(i,m):∃i:Int,i=3-(n:Int):=(_,rfl);let z:i<=lv hv u:=m▸Φ D;let mv:i<=lv hv v:=m▸Φ E;let t:i<4:=ajo m;let(a1,a2,a3,a4,a5,a6):=bD.kN k z t;let(b1,b2,b3,b4,b5,b6):=bD.kN S mv t;let f:=A _ _ a1 b1 (WE m a3) (WE m b3) λG=>by rw[a5,b5];show s _
  let e2:=A _ _ a2 b2 (WE m a4) (WE m b4) λG=>by rw[a6,b6];show s _
  clear a1 a2 a3 a4 a5 a6 b1 b2 b3 b4 b5 b6
  let key:∀{u v:Int},bc hv aP u->bc hv aP v->lv hv u=i->(Bd.kN hv u i).1=(Bd.kN hv v i).1->(Bd.kN hv u i).2=(Bd.kN hv v i).2->i<=lv hv v->u=v:=by
   intro u v k S Wa f e2 tZ;rcases bD.split k with⟨h,h9⟩|⟨h0,h0',i',a,b,C,h,J,M,h3,U,h5,h6,h7,h8⟩
   .show absurd (Wa.symm.trans h9)<|Int.ne_of_lt t
   let rfl:i'=i:=h.symm.trans Wa
   let e3:(Bd.kN hv u i').1≠(Bd.kN hv u i').2:=by delta Bd.kN;rw[aK h0,C];simp only[ux,if_false];split<;>simp only<;>(first|exact ae2 U|exact U)
   rcases bD.split S with⟨g,_⟩|⟨g0,g0',j,c,d,H,g,g1,g2,I,g4,g5,g6,g7,g8⟩
   .exfalso;apply e3;rw[f,e2];delta Bd.kN;rw[bj g]
   by_cases Q:i'<j
   .exfalso;apply e3;rw[f,e2];delta Bd.kN;rw[aK g0,H];simp[Q]
   let rfl:j=i':=D0 (iH.mp Q)<|g▸tZ
   delta Bd.kN at f e2
   rw[aK h0,C,aK g0,H] at f e2;simp only[ux,if_false] at f e2
   let HR:(u<0↔v<0)/\a=c/\b=d:=by
    by_cases p:u<0<;>by_cases o:v<0
    .rw[bj p,bj o] at f e2;simp only at f e2;show bt (λ_=>o,λ_=>p) (Y65 f)<|Y65 e2
    .rw[bj p,aK o] at f e2;simp only at f e2;show ae3 e2 h3 I
    .rw[aK p,bj o] at f e2;simp only at f e2;show ae4 h3 I e2
    .rw[aK p,aK o] at f e2;simp only at f e2;show bt (λh=>absurd h p,λh=>absurd h o) (f)<|e2
   clear I g5 g6 g7 g8 f e2;let(q,rfl,rfl):=HR;have:=inj _ _ _ C H k.2 S.2;show ae5 this q
  by_cases T:lv hv u=i
  .show key k S T f e2 mv
  .show(key S k (ajp O T m mv z) f.symm e2.symm z).symm
end
def Ext(a c:SM):=∀u n,N a u=Y n->N c u=Y n
def Ext.refl:Ext hv hv:=λ_ _ h=>h
def Ext.trans(a:Ext c d)(b:Ext d S2):Ext c S2:=λu n h=>b u n<|a u n h
def Ext.bc(x:Ext a e)(h:bc a d u):bc e d u:=by
 let(J,M):=h
 induction c:N a (aT u:Int) with|none=>rw[c] at J;show nomatch J|some n=>show(by rw[x _ _ c];rfl,M)
def Ext.lv(x:Ext a d)(h:Bd.bc a e u):lv d u=lv a u:=by
 let(J,M):=h
 induction c:N a (aT u:Int) with|none=>rw[c] at J;show nomatch J|some n=>delta Bd.lv;rw[x _ _ c,c]
def Ext.val(bD:Good a j)(x:Ext a k):∀(n:Nat) (u:Int) (G:uR),Bd.bc a j u->val k n u G=val a n u G:=by
 intro n
 induction n with
 |zero=>intro u G _;rfl
 |succ n c=>
  intro u G f;rcases bD.split f with⟨h,_⟩|⟨t,_,m,e,w',d,h,J,M,s,q,i,g,p,o⟩
  .have:N a (aT u:Int)=Y (4,R,R):=by rw[h];show bD.one
   rw[val_one this,val_one<|x _ _ this]
  .rw[val_succ d,val_succ<|x _ _ d];rw[c e G i,c w' G g]
def Ext.den(bD:Good a c)(x:Ext a d)(h:Bd.bc a c u)(G:uR):den d u G=den a u G:=Ext.val bD x 4 u G h
abbrev kZ(a:Option Int)(u:Int):Int:=match a with
 |some v=>if(aT v:Int)=u then 1 else 0
 |none=>0
def nt(n:Nd)(u:Int):=kZ n.2.1 u+kZ n.2.2 u
def jZ(a:SM)(u:Int):=(a.map λp=>nt p.2 u).sum
def xB{a:Option Int}{u:Int}:0<=kZ a u:=by delta kZ;split<;>(try split)<;>(first|exact Y66|exact PW)
def Jm{n:Nd}{u:Int}:0<=nt n u:=by have:= @xB n.2.1 u;have:= @xB n.2.2 u;delta nt;show o? ∎ this
def mQ{a:SM}:jZ (p::a) u=nt p.2 u+jZ a u:=by simp[jZ]
def La{a:SM}{u:Int}:0<=jZ a u:=by
 induction a with|nil=>simp[jZ]|cons p a c=>refine qP mQ ?_;have:= @Jm p.2 u;show o? this c
def nf{l:List (a×Z)}{k:a}[DecidableEq a]:N (p::l) k=if p.1=k then Y p.2 else N l k:=by delta N;rw[qY];by_cases h:p.1=k<;>simp[h]
def Tv [DecidableEq a]:N ([]:List (a×Z)) k=R:=rfl
def yQ{l:List (a×Z)}{k:a}[DecidableEq a]:N l k=R↔k∉l.map (·.1):=by
 induction l with
 |nil=>show(λ_=>aM,λ_=>rfl)
 |cons p l c=>
  rw[nf];by_cases h:p.1=k
  .rw[bj h];show(nofun,λq=>(q<|h▸aQ ..).elim)
  .rw[aK h,c];show(λq e=>(aS.mp e).elim (λe=>h e.symm) q,λq e=>q<|dG _ e)
def lE{k:a}{v:Z}[DecidableEq a](h:N l k=Y v):(k,v)∈l:=by
 induction l with
 |nil=>cases h
 |cons p l ih=>
  rw[nf] at h;by_cases e:p.1=k
  .rw[bj e] at h;clear ih;replace h:=ax h;subst e h;simp
  .rw[aK e] at h;show dG _<|ih h
def xC{k:c}{v:Z}[DecidableEq c](a:(l.map (·.1)).Nodup)(h:(k,v)∈l):N l k=Y v:=by
 induction l with
 |nil=>cases h
 |cons p l d=>
  rw[cj,dj] at a;rw[nf];rcases aS.mp h with rfl|h
  .simp
  .rw[aK,d a.2 h];intro e;show a.1 (e▸eL (f:=(·.1)) h)
def HS{l:List (a×Z)}{k:a}[DecidableEq a](c:(l.map (·.1)).Nodup):((dz l k).map (·.1)).Nodup:=
by
 delta dz
 show List.Nodup.sublist (RE _ zf) c
nonrec def lU{k:g}{v:Z}[DecidableEq g](c:(l.map (·.1)).Nodup):((bl l k v).map (·.1)).Nodup:=by
 delta bl
 split
 .rename_i h;have:(l.map λx=>if x.1=k then(x.1,v) else x).map (·.1)=l.map (·.1):=by rw[fH];refine cJ λx _=>?_;simp only[Function.comp];split<;>rfl
  rw[this];show c
 .rename_i h;let f:N l k=R:=by cases e:N l k<;>simp_all
  rw[yQ] at f;rw[hO,eM];calc bt c (by simp);intro a i b d e;simp at d;clear h;subst d;subst e;show f i
def Fp{k:a}{v:Z}[DecidableEq a](h:N l k=R):bl l k v=l++[(k,v)]:=by delta bl;rw[h];rfl
def QB{a:SM}(h:N a k=R):jZ (bl a k n) u=jZ a u+nt n u:=by rw[Fp h];delta jZ;simp
def QC{hv:SM}(a:(hv.map (·.1)).Nodup)(h:N hv k=Y c):jZ (bl hv k n) u=jZ hv u-nt c u+nt n u:=by
 have:bl hv k n=hv.map (λx=>if x.1=k then(x.1,n) else x):=by delta bl;rw[h];rfl
 rw[this];clear this
 induction hv with
 |nil=>cases h
 |cons p hv d=>
  rw[cj,dj] at a;rw[cj,mQ,mQ];rw[nf] at h;by_cases e:p.1=k
  .rw[bj e] at h;replace h:=ax h;rw[bj e,h];have:hv.map (λx=>if x.1=k then(x.1,n) else x)=hv:=by
    conv=>rhs;rw[<-DC hv]
    refine cJ λx T=>?_;rw[aK];rfl;intro g;show a.1 (e▸g▸eL (f:=(·.1)) T)
   rw[this];simp only;show ae6
  .rw[aK e] at h;rw[aK e,d a.2 h];show ae7
def QD{hv:SM}(a:(hv.map (·.1)).Nodup)(h:N hv k=Y d):jZ (dz hv k) u=jZ hv u-nt d u:=by
 induction hv with
 |nil=>show nomatch h
 |cons p hv c=>
  rw[cj,dj] at a;rw[nf] at h;unfold dz at c⊢;rw[gn,mQ];by_cases e:p.1=k
  .rw[bj e] at h;replace h:=ax h;have:hv.filter (λx=>decide (x.1≠k))=hv:=by rw[zg];intro x T;simp only[ne_eq,decide_eq_true_eq];intro g;show a.1 (e▸g▸eL (f:=(·.1)) T)
   rw[this,h,aK<|by simp[e]];show ae8
  .rw[aK e] at h;rw[bj (by simp[e]),mQ,c a.2 h];show ae9
def xH{a:SM}(h:N a k=Y n):nt n u<=jZ a u:=by
 induction a with
 |nil=>show nomatch h
 |cons p a c=>
  rw[nf] at h;rw[mQ];by_cases e:p.1=k
  .rw[bj e] at h;replace h:=ax h;have:= @La a u;rw[h];show m? this
  .rw[aK e] at h;have:=c h;have:= @Jm p.2 u;show o? this ∎
def Nh{a:SM}(c:(a.map (·.1)).Nodup)(h:∀k n,N a k=Y n->nt n u=0):jZ a u=0:=by
 have:∀p∈a,nt p.2 u=0:=λp f=>h p.1 p.2<|xC c f;clear h c
 induction a with|nil=>rfl|cons p a d=>rw[mQ,this p<|aQ ..,d λq e=>this q<|dG _ e];rfl
def vV:kZ (Y v) (aT v:Int)=1:=by simp[kZ]
def uS(h:(aT v:Int)≠u):kZ (Y v) u=0:=by simp[kZ,h]
def pq(l:List (Int×Int))(k:Int):=bl l k<|(N l k).getD 0+1
def n6(l:List (Int×Int))(k:Int):=bl l k<|(N l k).getD 0-1
structure Ac(t:TS)(aP:Int->Prop)(e:Int->Int):Prop where
 Jn:∀u i v w,N t.X u=Y (i,Y v,Y w)->(N t.X (aT v:Int)).isSome=L/\(N t.X (aT w:Int)).isSome=L
 xI:∀u i a b,N t.X u=Y (i,a,b)->(a.isSome=b.isSome)
 pred:∀n u,N t.pred n=Y u↔(N t.X u=Y n/\¬aP u)
 nd:(t.X.map (·.1)).Nodup
 Mw:(t.ref.map (·.1)).Nodup
 G8:1<t.mf
 A8:N t.X t.mf=R
 ref:∀u,(N t.X u).isSome=L->∃c,N t.ref u=Y c/\jZ t.X u+e u<=c
 refs:∀u c,N t.ref u=Y c->(N t.X u).isSome=L
 e0:∀u,N t.X u=R->e u<=0
structure Inv(t:TS)(aP:Int->Prop)(e:Int->Int):Prop extends Ac t aP e where
 good:Good t.X aP
 Wb:∀u,aP u->(N t.X u).isSome=L
def Inv.inj(I:Inv t a e):∀u u' n,N t.X u=Y n->N t.X u'=Y n->¬a u->¬a u'->u=u':=λu u' n h c hz d=>by let b:=(I.pred n u').mpr (c,d);rw[((I.pred n u).mpr (h,hz))] at b;injection b
def Inv.canon(I:Inv t c e)(a:bc t.X c u)(S:bc t.X c v)(h:∀G,den t.X u G=den t.X v G):u=v:=
 I.good.canon I.inj 4 u v a S (by have:=I.good.gK a;show ě this) (by have:=I.good.gK S;show ě this) h
def sg(w:Int):=if w<0 then-1 else 1
def pv(t:TS)(i v w f:Int):=
 {t with pred:=bl t.pred (i,Y v,Y w) t.mf,X:=bl t.X t.mf (i,Y v,Y w),ref:=pq (pq (bl t.ref t.mf 0) (aT v:Int)) (aT w:Int),mf:=f}
inductive yZ(t:TS)(i v w:Int):Int->TS->Prop where
 |same:v=w->yZ t i v w v t
 |hit {u:Int}:v≠w->N t.pred (i,Y<|sg w*v,Y<|sg w*w)=Y u->yZ t i v w (sg w*u) t
 |new {f:Int}:v≠w->N t.pred (i,Y<|sg w*v,Y<|sg w*w)=R->t.mf<=f->N (bl t.X t.mf (i,Y<|sg w*v,Y<|sg w*w)) f=R->
   (∀j,t.mf<=j->j<f->(N (bl t.X t.mf (i,Y<|sg w*v,Y<|sg w*w)) j).isSome=L)->yZ t i v w (sg w*t.mf) (pv t i (sg w*v) (sg w*w) f)
def Tw(w:Int):sg w*w=(aT w:Int):=by delta sg;split<;>(first|exact ai3 ∎|exact ai4 ∎)
def Tz(w v:Int):(sg w*v).natAbs=v.natAbs:=by delta sg;split<;>simp
def bc.sg(h:bc a c v):bc a c (sg w*v):=by delta Bd.sg;split<;>simp[bc.aj6,h]
def Lb:lv a (sg w*v)=lv a v:=by delta sg;split<;>simp[vT]
nonrec def Good.xJ(bD:Good c d)(h:bc c d v)(G:uR):den c (sg w*v) G=(decide (w<0)^^den c v G):=by
 delta Bd.sg
 split
 .rename_i a;rw[show(-1:Int)*v= -v from PU,bD.iP h];simp[a]
 .rename_i a;rw[show(1:Int)*v=v from Ī];simp[a]
def kb(t:TS)(aw:Nat):=t.X.length<=aw/\t.pred.length<=aw/\t.ref.length<=aw/\t.mf<=aw+1/\∀u n,N t.X u=Y n->u<=aw
def kb.le(h:kb t aw)(a:aw<=h2):kb t h2:=by let(J,M,e,d,c):=h;show(R3 J a,R3 M a,R3 e a,afa d a,λu n h=>by have:=c u n h;show afb this a)
def jg{k:a}{v:Z}[DecidableEq a](h:(N l k).isSome=L):(bl l k v).length=l.length:=by delta bl;rw[h];simp
def uT(a:N l k=Y c):N (pq l k) u=if u=k then Y (c+1) else N l u:=by delta pq;rw[aX,a];rfl
def jN(a:N l k=Y c):N (n6 l k) u=if u=k then Y (c-1) else N l u:=by delta n6;rw[aX,a];rfl
nonrec def Ac.new(I:Ac t T e)(ö:¬T t.mf)(m:(N t.X (aT v:Int)).isSome=L)(s:(N t.X (aT w:Int)).isSome=L)(G:N t.pred (i,Y v,Y w)=R)(C:t.mf<=f)(E:N (bl t.X t.mf (i,Y v,Y w)) f=R):Ac (pv t i v w f) T e:=by
 let ϝ:=I.G8;let g:(aT v:Int)≠t.mf:=λh=>by rw[h,I.A8] at m;show nomatch m
 let d:(aT w:Int)≠t.mf:=λh=>by rw[h,I.A8] at s;show nomatch s
 refine(?_,?_,?_,lU I.nd,?_,?_,E,?_,?_,?_)
 .intro u o v' w' h;let h:N (bl t.X t.mf (i,Y v,Y w)) u=Y (o,Y v',Y w'):=h;show(N (bl t.X t.mf (i,Y v,Y w)) _).isSome=L/\(N (bl t.X t.mf (i,Y v,Y w)) _).isSome=L;let mono:∀q,(N t.X q).isSome=L->(N (bl t.X t.mf (i,Y v,Y w)) q).isSome=L:=λq hq=>by
   rw[aX];split
   .rfl
   .show hq
  rw[aX] at h;clear C E;split at h
  .let(rfl,rfl,rfl):i=o/\v=v'/\w=w':=by simpa using h
   show(mono _ m,mono _ s)
  .have:=I.Jn _ _ _ _ h;show(mono _ this.1,mono _ this.2)
 .intro u o a b h;let h:N (bl t.X t.mf (i,Y v,Y w)) u=Y (o,a,b):=h;rw[aX] at h;clear C E;split at h
  .clear I ö m s G ϝ g d;let(rfl,rfl,rfl):i=o/\Y v=a/\Y w=b:=by simpa using h
   rfl
  .show I.xI _ _ _ _ h
 .intro n u;show N (bl t.pred (i,Y v,Y w) t.mf) n=Y u↔N (bl t.X t.mf (i,Y v,Y w)) u=Y n/\¬T u;rw[aX,aX];by_cases J:n=(i,Y v,Y w)
  .subst J;rw[bj rfl];by_cases M:u=t.mf
   .subst M;simp[ö]
   .rw[aK M];let Q:¬(Y t.mf=Y u):=λe=>M (by let e:=ax e;show e.symm);simp only[Q,false_iff];intro z;have:=(I.pred _ _).mpr z;show cA G this
  .rw[aK J];by_cases M:u=t.mf
   .subst M;rw[bj rfl];constructor
    .intro z;have:=((I.pred _ _).mp z).1;show cA I.A8 this
    .intro z;have:=z.1;let this:=ax this;show absurd this.symm J
   .rw[aK M];show I.pred n u
 .show lU<|lU<|lU I.Mw
 .show 1<f;show ë ϝ C
 .intro u y;let y:(N (bl t.X t.mf (i,Y v,Y w)) u).isSome=L:=y;show∃c,N (pq (pq (bl t.ref t.mf 0) (aT v:Int)) (aT w:Int)) u=Y c/\jZ (bl t.X t.mf (i,Y v,Y w)) u+e u<=c;clear C E;let(c1,j,aqr):=I.ref _ m;let(c2,p,aqs):=I.ref _ s;let r1:N (bl t.ref t.mf 0) (aT v:Int)=Y c1:=by rw[aX,aK g];show j
  let r2:N (pq (bl t.ref t.mf 0) (aT v:Int)) (aT w:Int)=Y (if(aT w:Int)=v.natAbs then c1+1 else c2):=by rw[uT r1,aX,aK d,p];split<;>rfl
  rw[uT r2,uT r1,aX,QB I.A8];let he:nt (i,Y v,Y w) u=kZ (Y v) u+kZ (Y w) u:=rfl;rw[he];by_cases U:u=t.mf
  .clear G y he;subst U;rw[aK (λe=>d e.symm),aK<|λe=>g e.symm,bj rfl,uS g,uS d];let h0:jZ t.X t.mf=0:=by
    refine Nh I.nd λk n H=>?_;let(o,a,b):=n;let GK:=I.xI _ _ _ _ H
    induction a with
    |none=>
     clear k H;induction b with|none=>rfl|some b=>show nomatch GK
    |some a=>
     induction b with
     |none=>show nomatch GK
     |some b=>
      have:=I.Jn _ _ _ _ H;let J:(aT a:Int)≠t.mf:=λe=>by have:=this.1;rw[e,I.A8] at this;show nomatch this
      let M:(aT b:Int)≠t.mf:=λe=>by have:=this.2;rw[e,I.A8] at this;show nomatch this
      show kZ (Y a) t.mf+kZ (Y b) t.mf=0;rw[uS J,uS M];rfl
   have:=I.e0 _ I.A8;show aC 0 rfl<|afc h0 this
  .rw[aK U];rw[aX,aK U] at y;let(c,D,A):=I.ref _ y;let Wc:kZ (Y v) u=if(aT v:Int)=u then 1 else 0:=rfl;let O:kZ (Y w) u=if(aT w:Int)=u then 1 else 0:=rfl;rw[Wc,O];by_cases J:u=(aT w:Int)
   .rw[bj J];calc aC _ rfl;rw[<-J] at p⊢;rw[D] at p;let p:=ax p;by_cases M:(u:Int)=v.natAbs
    .rw[bj M,bj M.symm,bj rfl];rw[<-M,D] at j;let j:=ax j;show afd j A
    .rw[aK M,aK<|λe=>M e.symm,bj rfl];show afe p A
   .rw[aK J,show(if(aT w:Int)=u then(1:Int) else 0)=0 from aK (λe=>J e.symm)];by_cases M:(u:Int)=v.natAbs
    .rw[bj M,bj M.symm];calc aC _ rfl;rw[<-M,D] at j;let j:=ax j;show aff j A
    .rw[aK M,aK<|λe=>M e.symm];show aC c D<|afg A
 .intro u c h;let h:N (pq (pq (bl t.ref t.mf 0) (aT v:Int)) (aT w:Int)) u=Y c:=h;show(N (bl t.X t.mf (i,Y v,Y w)) u).isSome=L;delta pq at h;rw[aX,aX,aX] at h;rw[aX];split
  .rfl
  .split at h
   .rename_i J;rw[J];show s
   .rw[aX] at h;split at h
    .rename_i J;rw[J];show m
    .rw[aX] at h;show I.refs _ _ (by simpa [*] using h)
 .intro u h;let h:N (bl t.X t.mf (i,Y v,Y w)) u=R:=h;rw[aX] at h;split at h
  .show nomatch h
  .show I.e0 u h
def Inv.new(I:Inv t d e)(J:0<=i)(A:i<4)(S:bc t.X d v)(j:bc t.X d w)(G:0<w)(E:v≠w)(s:i<lv t.X v)(p:i<lv t.X w)(C:N t.pred (i,Y v,Y w)=R)(D:t.mf<=f)(H:N (bl t.X t.mf (i,Y v,Y w)) f=R):Inv (pv t i v w f) d e/\Ext t.X (pv t i v w f).X:=by
 let bD:=I.good
 let T:Ext t.X (bl t.X t.mf (i,Y v,Y w)):=λu n h=>by rw[aX,aK,h];intro e;subst e;show cA I.A8 h
 let z:¬d t.mf:=λh=>by have:=I.Wb _ h;rw[I.A8] at this;show nomatch this
 refine((I.toAc.new z S.1 j.1 C D H,(?_,bD.z1,?_),?_),T)
 .show T _ _ bD.one
 .intro u y a b h m hz;let h:N (bl t.X t.mf (i,Y v,Y w)) u=Y (y,a,b):=h;rw[aX] at h;let g:∀{c:Int} {k:Int},bc t.X d c->k<lv t.X c->bc (bl t.X t.mf (i,Y v,Y w)) d c/\k<lv (bl t.X t.mf (i,Y v,Y w)) c:=λh q=>(T.bc h,(T.lv h).symm▸q);by_cases o:u=t.mf
  .rw[bj o] at h;replace h:=ax h;cases h;show(s9 o I.G8,J,A,v,w,rfl,rfl,G,E,(g S s).1,(g j p).1,(g S s).2,(g j p).2)
  .rw[aK o] at h;show(bD.node u y a b h m hz).map λc=>g
 .intro u m;show(N (bl t.X t.mf (i,Y v,Y w)) u).isSome=L;rw[aX];split
  .rfl
  .show I.Wb u m
def Ac.TC(I:Ac t H e)(h:kb t aw)(o:(N t.X (aT v:Int)).isSome=L)(D:(N t.X (aT w:Int)).isSome=L)(p:∀j,t.mf<=j->j<f->(N (bl t.X t.mf (i,Y v,Y w)) j).isSome=L):kb (pv t i v w f) (aw+1):=by
 let(J,M,z,d,y):=h
 let c:∀u n,N (bl t.X t.mf (i,Y v,Y w)) u=Y n->u<=((aw+1:Nat):Int):=λu n h=>by
  rw[aX] at h;split at h
  .show ai5 ∎ d
  .have:=y _ _ h;show ī this
 refine(?_,?_,?_,?_,c)
 .have:= @dO _ _ _ t.X t.mf (i,Y v,Y w);show(bl _ _ _).length<=_;show i! this J
 .have:= @dO _ _ _ t.pred (i,Y v,Y w) t.mf;show(bl _ _ _).length<=_;show i! this M
 .show(pq (pq (bl t.ref t.mf 0) (aT v:Int)) (aT w:Int)).length<=_;let(G,C,_):=I.ref _ o;let(E,A,_):=I.ref _ D;let r:∀(l:List (Int×Int)) (k q x:Int),(N l q).isSome=L->(N (bl l k x) q).isSome=L:=λl k q x s=>by
   rw[aX];split
   .rfl
   .show s
  let r1:(N (bl t.ref t.mf 0) (aT v:Int)).isSome=L:=r _ _ _ _ (by rw[C];rfl);let r2:(N (pq (bl t.ref t.mf 0) (aT v:Int)) (aT w:Int)).isSome=L:=r _ _ _ _ (r _ _ _ _<|by rw[A];rfl);let m:(pq (bl t.ref t.mf 0) (aT v:Int)).length=(bl t.ref t.mf 0).length:=jg r1;let g:(pq (pq (bl t.ref t.mf 0) (aT v:Int)) (aT w:Int)).length=(pq (bl t.ref t.mf 0) (aT v:Int)).length:=jg r2;show afh g m (@dO _ _ _ t.ref t.mf 0) z
 .show f<=((aw+1:Nat):Int)+1;refine iH.mp λfM=>?_;have:=p (((aw+1:Nat):Int)+1) (Ĭ d)<|fM;induction a:N (bl t.X t.mf (i,Y v,Y w)) (((aw+1:Nat):Int)+1) with|none=>rw[a] at this;show nomatch this|some n=>have:=c _ _ a;show WD this
structure Foa(t:TS)(aP:Int->Prop)(e:Int->Int)(i v w r:Int)(t':TS):Prop where
 inv:Inv t' aP e
 ext:Ext t.X t'.X
 vr:bc t'.X aP r
 lvr:i<=lv t'.X r
 dn:∀G,den t'.X r G=if G i then den t.X w G else den t.X v G
 vars:t'.vars=t.vars
 e8:t'.e8=t.e8
 ite:t'.ite=t.ite
def Inv.Ϟ(I:Inv t g e)(C:0<=i)(A:i<4)(S:bc t.X g v)(c:bc t.X g w)(o:i<lv t.X v)(n:i<lv t.X w)(h:yZ t i v w r t'):Foa t g e i v w r t':=by
 let bD:=I.good
 induction h with
 |same e=>clear c n;subst e;show(I,Ext.refl,S,Ew o,λG=>by split<;>rfl,rfl,rfl,rfl)
 | @hit u s m=>
  clear C A o n;let(a,hz):=(I.pred _ _).mp m;let E:u≠1:=λe=>by clear m hz;subst e;rw[bD.one] at a;clear t I S c bD;cases a
  let(p1,p2,p3,v',w',q,e2,U,Q,O,M,J,H):=bD.node _ _ _ _ a E hz;clear U Q O M J H;replace q:=ax q;replace e2:=ax e2;subst q e2;let j:(aT u:Int)=u:=Y8 p1;let d:bc t.X g u:=by delta bc;rw[j,a];show(rfl,hz)
  let p:bc t.X g (sg w*u):=d.sg;refine(I,Ext.refl,p,?_,λG=>?_,rfl,rfl,rfl)
  .rw[Lb];delta Bd.lv;rw[j,a];show dm i
  .rw[bD.xJ d,bD.fC d (ğ p1) (by rw[j];show a),bD.xJ S,bD.xJ c];have:decide (u<0)=au:=decide_eq_false<|å p1;rw[this];by_cases k:G i=L
   .simp[k]
   .simp[k]
 | @new f s m hf GJ jL=>
  let Ca:0<sg w*w:=by rw[Tw];have:=bD.C6 c;show è this
  let E?:sg w*v≠sg w*w:=by delta sg;split<;>(first|exact ŵ s|exact Ŷ s)
  let(y,T):=I.new C A S.sg c.sg Ca E? (qP Lb o) (qP Lb n) m hf GJ;let z:=I.G8;let j:(t.mf.natAbs:Int)=t.mf:=Y8 z;let D:¬g t.mf:=λh=>by have:=I.Wb _ h;rw[I.A8] at this;cases this
  let a:N (pv t i (sg w*v) (sg w*w) f).X t.mf=Y (i,Y<|sg w*v,Y<|sg w*w):=by show N (bl t.X t.mf _) t.mf=_;rw[aX,bj rfl]
  let d:bc (pv t i (sg w*v) (sg w*w) f).X g t.mf:=by delta bc;rw[j,a];show(rfl,D)
  refine(y,T,d.sg,?_,λG=>?_,rfl,rfl,rfl)
  .rw[Lb];delta Bd.lv;rw[j,a];show dm i
  .rw[y.good.xJ d,y.good.fC d (ğ z) (by rw[j];show a),T.den bD S.sg,T.den bD c.sg,bD.xJ S,bD.xJ c];have:decide (t.mf<0)=au:=decide_eq_false<|å z;rw[this];by_cases k:G i=L
   .simp[k]
   .simp[k]
def Inv.F_(I:Inv t c e)(S:bc t.X c v)(f:bc t.X c w)(h:yZ t i v w r t')(a:kb t aw):kb t' (aw+1):=by
 induction h with|same e=>show a.le Y67|hit _ _=>show a.le Y67|new k g j m d=>show I.toAc.TC a S.sg.1 f.sg.1 d
abbrev ic:Nat->Nat
 |0=>0
 |k+1=>2*ic k+2
@[ext]abbrev Z0:Int->Prop:=λ_=>False
def OX(t:TS):=∀g u v w,N t.ite (g,u,v)=Y w->bc t.X Z0 g/\bc t.X Z0 u/\bc t.X Z0 v/\bc t.X Z0 w/\
 (∀G,den t.X w G=if den t.X g G then den t.X u G else den t.X v G)/\∀k,k<=lv t.X g->k<=lv t.X u->k<=lv t.X v->k<=lv t.X w
structure TI(t:TS)(e:Int->Int)(aw:Nat):Prop where
 inv:Inv t Z0 e
 ite:OX t
 vC:kb t aw
 TF:t.ite.length<=aw
 nv:t.vars.length=4
structure Op(t:TS)(e:Int->Int)(t':TS)(N':Nat):Prop where
 ti:TI t' e N'
 ext:Ext t.X t'.X
 vars:t'.vars=t.vars
 e8:t'.e8=t.e8
def TI.le(h:TI t e aw)(a:aw<=h2):TI t e h2:=(h.inv,h.ite,h.vC.le a,by have:=h.TF;show R3 this a,h.nv)
def Op.refl(h:TI t e aw)(a:aw<=N'):Op t e t N':=(h.le a,Ext.refl,rfl,rfl)
def Op.trans(a:Op t e d aw)(b:Op d e c N'):Op t e c N':=(b.ti,a.ext.trans b.ext,b.vars.trans a.vars,b.e8.trans a.e8)
def Op.le(h:Op t e t' aw)(a:aw<=h2):Op t e t' h2:=(h.ti.le a,h.ext,h.vars,h.e8)
def OX.ext(I:Inv t Z0 e)(h:OX t)(x:Ext t.X t'.X)(j:t'.ite=t.ite):OX t':=λg u v w i=>by
 rw[j] at i;let(J,M,c,a,n,m):=h g u v w i;refine uF (x.bc J) (x.bc M) (x.bc c) (x.bc a) (λG=>?_) (λk f k2 d=>?_)
 .rw[x.den I.good J,x.den I.good M,x.den I.good c,x.den I.good a];show n G
 .rw[x.lv J] at f;rw[x.lv M] at k2;rw[x.lv c] at d;rw[x.lv a];show m k f k2 d
def TI.Ϟ(hx:TI t e aw)(g:0<=i)(c:i<4)(S:bc t.X Z0 v)(a:bc t.X Z0 w)(f:i<lv t.X v)(d:i<lv t.X w)(h:yZ t i v w r t'):Op t e t' (aw+1)/\bc t'.X Z0 r/\i<=lv t'.X r/\(∀G,den t'.X r G=if G i then den t.X w G else den t.X v G):=by let F:=hx.inv.Ϟ g c S a f d h;show(ek ((F.inv,hx.ite.ext hx.inv F.ext F.ite,hx.inv.F_ S a h hx.vC,by rw[F.ite];have:=hx.TF;show Y91 this,by rw[F.vars];show hx.nv),F.ext,F.vars,F.e8) F.vr F.lvr F.dn)
def TI.ref(hx:TI t e aw)(h:bc t.X Z0 u):(N t.ref (aT u:Int)).isSome=L:=by let(c,a,_):=hx.inv.ref _ h.1;rw[a];rfl
def bc.get(h:bc c e u):∃a b,N c (aT u:Int)=Y (lv c u,a,b):=by
 let(J,_):=h
 delta lv
 induction d:N c (aT u:Int) with|none=>rw[d] at J;cases J|some n=>clear c J d;let(i,a,b):=n;show(rY a b rfl)
def Good.aj8(bD:Good a o)(f:bc a o u)(g:i<=lv a u):u.natAbs=1\/(u.natAbs≠1/\∃c v w,N a (aT u:Int)=Y (c,Y v,Y w)/\v≠0/\w≠0/\i<=c):=by
 rcases bD.split f with⟨h,_⟩|⟨m,_,e,d,w',n,h,J,M,t,s,k,j,q,p⟩
 .show .inl h
 .show .inr (m,(yD e d w' n (bD.C6 k) (bD.C6 j)<|afi h g))
def Fs(t:TS)(g u v w:Int):={t with ite:=bl t.ite (g,u,v) w}
nonrec def TI.Fs(hx:TI t e aw)(J:bc t.X Z0 g)(M:bc t.X Z0 u)(i:bc t.X Z0 v)(f:bc t.X Z0 w)(hd:∀G,den t.X w G=if den t.X g G then den t.X u G else den t.X v G)(d:∀k,k<=lv t.X g->k<=lv t.X u->k<=lv t.X v->k<=lv t.X w):TI (Bd.Fs t g u v w) e (aw+1):=by
 refine(((hx.inv.Jn,hx.inv.xI,hx.inv.pred,hx.inv.nd,hx.inv.Mw,hx.inv.G8,hx.inv.A8,hx.inv.ref,hx.inv.refs,hx.inv.e0),hx.inv.good,hx.inv.Wb),?_,hx.vC.le Y67,?_,hx.nv)
 .intro g' c a w' h;replace h:N (bl t.ite (g,u,v) w) (g',c,a)=Y w':=h;rw[aX] at h;split at h
  .rename_i e;let(rfl,rfl,rfl):g'=g/\c=u/\a=v:=by simpa using e
   replace h:=ax h;subst h;show uF J M i f hd d
  .show hx.ite _ _ _ _ h
 .have:= @dO _ _ _ t.ite (g,u,v) w;have:=hx.TF;show(bl t.ite (g,u,v) w).length<=_;show i! ∎ this
nonrec def A9(h:G i=b):fm G i b=G:=by
 funext j;delta fm;split
 .rename_i e;rw[e,h]
 .rfl
def pz:fm G i b i=b:=by simp[fm]
def mR(h:j≠i):fm G i b j=G j:=by simp[fm,h]
nonrec def yR(bD:Good a d)(f:bc a d u)(G:uR)(i:Int):den a u G=if G i then den a u (fm G i L) else den a u (fm G i au):=by
 let h:∀b,G i=b->fm G i b=G:=by
  intro b c;funext j;delta fm;split
  .rename_i e;rw[e,c]
  .rfl
 induction c:G i with|true=>rw[bj rfl,h L c]|false=>rw[aK ∅,h au c]
def St.XH(H:St Z U O s)(g:∀b c,s.heap.get? b=Y c->i.get? b=Y c)(k:i.get? a=Y o)(d:s.heap.get? a=R)(tk:Nat):St Z (mP U a o) O {s with heap:=i,toks:=tk}/\bV U O s (mP U a o) O {s with heap:=i,toks:=tk}:=by
 let f:U a=R:=by
  induction e:U a with|none=>rfl|some q=>have:=(H.bC _ _ e).1;show cA d this
 let n:O a=R:=by
  induction e:O a with|none=>rfl|some q=>let(c,J,_):=H.own _ _ e;show cA d J
 refine((λb c h=>pY f b c<|H.base b c h,λb c h=>?_,λb g' h=>?_,H.gens),pY f,λb c J M m=>(bt (g _ _ J) ?_ m),rfl)
 .by_cases e:b=a
  .clear d f;subst e;simp only[mP,if_true] at h;cases h;show(k,n)
  .simp only[mP,aK e] at h;let(J,M):=H.bC b c h;show(g _ _ J,M)
 .let(j,J,M):=H.own b g' h;show aC j (g _ _ J)<|M.mono<|pY f
 .have:b≠a:=λe=>by subst e;show cA d J
  rw[mP,aK this];show M
def rJ.ZI(h:rJ vs ns):ck U (ns.map AV.int) vs:=by
 induction h with|nil=>show .nil|cons i t _ a=>show .cons (.int i t) a
section
def zR(a:s.heap.get? d=Y o)(c:o.ExactSet)(e:o.data=.set es ep t)(hx:Ow w t es.size)(h:Q (!↥s) (s<*s.heap.push (fZ 0 0 d es.size ep))):aN (bw prog w) A (qZ !d) Q az s:=by
 let f:s.TypeIs (!d) "set":=(o,a,c.1);refine fI f kS<|bN kS f xv ?_<|vm _;unfold cK.«frozenset.__iter__»;calc af;
 delta vn
 refine af (m:=qI "__iter__" 0 _)<|aj ?_;show aN _ _ (pure d) _ _ s;refine aj<|af ?_
 delta jA
 refine af<|cZ a e hx.tab.fits<|aj ?_;calc af;
 delta setDrawn
 refine af<|dK a e hx.tab.fits ?_;refine af<|iz<|aj ?_;let g:(not (iF w)&&(not t.plain&&decide (es.size>1)))=au:=by rw[hx.plain];simp
 show aN _ _ (if(not (iF w)&&(not t.plain&&decide (es.size>1)))=L then _ else _) _ _ _;rw[g];refine Ax aI<|af<|aj ?_;refine af<|tU a e hx.tab.fits ?_;show aN _ _ (do ret (<-newFields "set_iterator" [eK 0,eK 0,.ref d,eK es.size,eK ep])) _ _ s;show af<|cR<|aj<|aC _ rfl<|fX ("set_iterator") _ (_,aO _ rfl,rfl) dC.lookup h
def QE(hh:A.handled=R)(q:o.data=.set es ep t)(hx:Ow w t es.size)(z:d≠it):Walks prog w A it [it,d] [it] es.size (λk v=>∃e,(fW w d ep es)[k]?=Y e/\v=e.2) (λk h=>k<=es.size/\h.get? it=Y (fZ (slotAt w t k) k d es.size ep)/\h.get? d=Y o) where
 sub:=by simp
 frame:=λk h f a hk=>by let(c,J,M):=a;show(bt c (hk it (aQ ..) _ J)<|hk d (by simp) _ M)
 item:=λk s Q az hk a n=>by
  let(c,J,M):=a
  let i:(fW w d ep es).size=es.size:=by have:=(ip (w:=w) (d:=d) (ep:=ep) (es:=es)).length_eq;rwa [aD,aD] at this
  let T:(fW w d ep es)[k]?=Y ((fW w d ep es)[k]'(by rw[i];show hk)):=cB _;show EZ J M q hx T c λf u gH=>n _ f s.toks (aC _ T rfl) (bt hk u<|gH.extBut d _ z M) λb g j e=>gH.extBut b g (λp=>j<|by simp[p]) e
 done:=λs Q az a n=>by
  let(c,J,M):=a
  let i:(fW w d ep es).size=es.size:=by have:=(ip (w:=w) (d:=d) (ep:=ep) (es:=es)).length_eq;rwa [aD,aD] at this
  refine HH hh J M q hx ?_ c λf T=>n f s.toks λb g j e=>T b g (λp=>j<|by simp[p]) e;rw[sT];show afj i
 self:=λk s Q az a y=>by let(_,J,_):=a;let m:s.TypeIs (!it) "set_iterator":=(_,J,rfl);refine fI m mH<|bN mH m uN ?_<|wI _;show aN _ _ (ret !it) _ _ s;show aj<|aC _ rfl<|fX ("set_iterator") _ m dC.lookup y
def TG(d:s.TypeIs (!r) "set")(h:Q au s):aN (bw prog w) A (rK !r) Q az s:=by
 delta rK
 refine af<|kA d yr.lookup ?_;generalize a:("set.__len__":String)=c
 wp_delta
 rw[show splitId c=Y ("set","__len__") from by subst a;decide+kernel];subst a;refine af (ed (T:="set") (b:=L) d (by rw[bM];kernel_rfl) ?_);refine rb (λe=>absurd e ∅) (λ_=>?_);refine rb (λ_=>?_) (λe=>absurd (by lk) e);refine af<|BP d ?_;show aj h
def XI(c:o.ExactSet)(g:o.data=.set es ep t)(hx:Ow w t es.size):KdlSrc prog w "set" d d es.size (λk v=>∃e,(fW w d ep es)[k]?=Y e/\v=e.2) (λh=>h.get? d=Y o) where
 type:=λ_ a=>(o,a,c.1)
 there:=λ_ a=>(aU a,aU a)
 keep:=λ_ _ a i=>i d (.inl rfl) o a
 notList:=by decide
 notTuple:=by decide
 hint:=λ_ _ _ _ a f=>TG (o,a,c.1) f
 iter:=λ_ s hh a=>(fX _ _ (λ_ _ f=>zR a c g hx f) (QE hh g hx<|bX<|aU a)<|bt (fj _) (by rw[show slotAt w t 0=0 by delta slotAt;simp];show aO _ rfl)<|aF _ a)
def Ft(K:KdlSrc prog w hx r d k P E)(hh:A.handled=R)(G:E s.heap)(h:k<64)(z:∀vs:List Value,vs.length=k->(∀j v,vs[j]?=Y v->P j v)->∃ns,rJ vs ns/\∀(c:oX) (tk:Nat) (a:aW) (e:Nat) (out:Array Value) (g:List Int),(∀b o,s.heap.get? b=Y o->c.get? b=Y o)->s.heap.get? a=R->c.get? a=Y (seqObj "list" out e)->rJ out.toList g->g.Perm ns->g.Pairwise (· <=·)->Q (!a) {s with heap:=c,toks:=tk}):aN (bw prog w) A (call (.builtin "sorted") [.ref r]) Q az s:=by
 calc tn kind_sorted plain_sorted entry_sorted (args_sorted1 _);unfold cK.«sorted»;refine af (m:=checkCount "sorted" 1 1 _)<|aj ?_;refine af (kdu_collect (A:=A.in1) K hh G (by rw[dw];show ŷ h) λc tk ie nY n=>?_);let i:ie.toList.length=k:=by rw[aD];show n.1
 let(ns,C,H):=z ie.toList i λj v e=>n.2 j v (by rw[<-bA];show e);refine af (wpAny_newList ?_<|by rw[i,dw];show ŷ h);let f:(c.push<|seqObj "list" ie.toList.toArray 0).get? c.objs.size=Y (seqObj "list" ie.toList.toArray 0):=aO _ rfl;refine af (aJ<|bN slot_list_sort (_,f,rfl) entry_list_sort (list_sort_tree (s:={s with heap:=c.push<|seqObj "list" ie.toList.toArray 0,toks:=tk}) f C (by rw[i];show h) λout g a1 a2 D=>(aC _ rfl ?_))<|args_list_sort _);refine aj<|aC _ rfl ?_;let(e,u):=sortedHeap_at (out:=out) f;refine H _ tk c.objs.size e out g (λb o y=>?_) ?_ u a1 a2 D
 .let J:=nY b o y;let p:=aU J;rw[sortedHeap_old (bX p) (by rw[size_push'];show oj p)];show aF _ J
 .induction t:s.heap.get? c.objs.size with
  |none=>rfl
  |some q=>show absurd (aU<|nY _ _ t) (dA _)
end
def iW.XJ(h:iW es ns):rJ (es.map (·.2)) ns:=by
 induction h with|nil=>show .nil|cons _ a=>show .cons _ _ a
def t6(hd:O d=Y (.set xs))(hz:xs.length<64)(h:∀l:List Int,l.Perm xs->l.Pairwise (· <=·)->Q (.lst<|l.map AV.int) O):Cl Z n (.builtin "sorted") [.ref d] [] O Q:=Cl.r1 λU s A G H=>by
 let(o,y,c,es,ep,t,ns,T,g,jn,i,hx):=H.set hd;let(G4,G5,HF):=g.perm<|ip (w:=Z.w) (d:=d) (ep:=ep) (es:=es);let u:es.size=xs.length:=by rw[<-i.length_eq,g.len,aD]
 refine Ft (XI c T hx) G.handled y (afk u hz) λvs C I=>(aC G4 ?_<|λh' tk a e out l p z E J q TH=>?_)
 .have:vs=((fW Z.w d ep es).toList.map (·.2)):=by
   apply List.ext_getElem?;intro j;rw[bb]
   induction k:vs[j]? with
   |some v=>let(e,D,rfl):=I j v k;rw[bA,D];rfl
   |none=>
    let M:=(ip (w:=Z.w) (d:=d) (ep:=ep) (es:=es)).length_eq;rw[aD,aD] at M;rw[l3.mpr (by rw[aD,M];show afl C<|l3.mp k)];rfl
  rw[this];show G5.XJ
 .let(m,f):=H.XH p E z tk;show(_,.lst<|l.map AV.int,O,f,m,.lst (bj rfl)<|rJ.ZI J,h l (q.trans<|HF.trans i) TH)
def Fu{bJ:List (Int×AV)}(hd:O d=Y (.dict<|bJ.map λp=>bG (K0.int p.1) p.2))(hz:bJ.length<64)(h:∀l:List Int,l.Perm (bJ.map (·.1))->l.Pairwise (· <=·)->Q (.lst<|l.map AV.int) O):Cl Z n (.builtin "sorted") [.ref d] [] O Q:=λU s A vs kv hR H S I D=>by
 clear D;let rfl:=ig I;let(v,rfl,E):=uK S;clear S;let rfl:=E.bU;let(dN,u,q):=H.dict hd;let(ep,m):=u.dictAt;let y:=q.len;rw[cE] at y;refine Ft (kdl_dict (knd:=cW Z.prog Z.w) (kvs:=dN) (ep:=ep)<|H.jG hd) hR.handled m (afm y hz) λvs f g=>(aC (bJ.map (·.1)) ?_<|λh' tk a e out l C M ha hI G TH=>?_)
 .let key:∀(bJ:List (Int×AV)) (dN:List (K0×Value)) (vs:List Value),jd U (bJ.map λp=>bG (K0.int p.1) p.2) dN->vs.length=dN.length->(∀(j:Nat) v,vs[j]?=Y v->∃k x,dN[j]?=Y (k,x)/\(cW Z.prog Z.w).is k v=L)->rJ vs (bJ.map (·.1)):=by
   intro bJ
   induction bJ with
   |nil=>intro dN vs c f _;clear H u m g;cases c;induction vs using bB with|nil=>show .nil|cons _ _=>cases f
   |cons p bJ J=>
    intro dN vs c f S;rw[cj] at c;cases c with
    |cons T c=>
     induction vs using bB with
     |nil=>cases f
     |cons v vs=>
      let(k,x,o,hi):=S 0 v rfl;simp only[List.getElem?_cons_zero,tO,Hp] at o;let(rfl,rfl):=o;let(t,rfl):=K0.vG hi;show .cons _ _ (J _ _ c (by simpa using f) λj v hj=>by simpa using S (j+1) v (by simpa using hj))
  show key bJ dN vs q f g
 .let(z,i):=H.XH C ha M tk;show(_,.lst<|l.map AV.int,O,i,z,.lst (bj rfl)<|rJ.ZI hI,h l G TH)
section
variable{Z:Bs}{O:bf}
abbrev Nj:AV->Bool
 |.int _|.str _|.raw _=>L
 |_=>au
abbrev Fv:bD->Bool
 |.dict bJ=>bJ.all λx=>Nj x.2
 |.set _=>L
 |_=>au
def cH.flat(h:cH U a v)(c:Nj a=L):cH d a v:=by
 cases h with|int i t=>show .int i t|str i t=>show .str i t|raw v=>show .raw v|_=>cases c
def jd.flat{l:List (K0×AV)}(h:jd U l l')(a:(l.all λx=>Nj x.2)=L):jd c l l':=by
 induction h with
 |nil=>show .nil
 |cons S _ ih=>
  simp only[ug,bW] at a;show .cons (S.flat a.1)<|ih a.2
def Known(Z:Bs)(g:bD)(o:Obj):=∀U,kl Z.prog Z.w U g o
def kl.known(h:kl Z.prog Z.w U g o)(a:Fv g=L):Known Z g o:=λc=>by
 induction g with|dict bJ=>let(dN,J,M):=h;show(dN,J,M.flat a)|set xs=>show h|_=>cases a
def Conv(Z:Bs)(O c:bf):=(∀a,O a=R↔c a=R)/\∀U s,St Z U O s->St Z U c s
def Cb(hd:O d=Y (.raw o))(hk:Known Z g o):Conv Z O (aB O d g):=by
 refine(λa=>?_,λU s H=>(H.base,λa c h=>((H.bC a c h).1,?_),λa g' h=>?_,H.gens))
 .by_cases e:a=d
  .subst e;rw[hd,ar];simp
  .rw[aq e]
 .have:=(H.bC a c h).2;let f:a≠d:=λe=>by subst e;show cA this hd
  rw[aq f];show this
 .by_cases e:a=d
  .subst e;rw[ar] at h;replace h:=ax h;subst h;let(c,J,M):=H.own a _ hd;show aC c J<|qP (show c=o from M)<|hk U
  .rw[aq e] at h;show H.own a g' h
def St.bare(H:St Z U O s)(hd:O d=Y g)(j:Fv g=L):∃o,Known Z g o/\St Z U (aB O d<|.raw o) s/\∀a,O a=R↔aB O d (.raw o) a=R:=by
 let(o,c,f):=H.own d g hd;refine dc o (f.known j) (H.base,λa i h=>((H.bC a i h).1,?_),λa g' h=>?_,H.gens) (λa=>?_)
 .have:=(H.bC a i h).2;let k:a≠d:=λe=>by clear s H o c f;subst e;show cA this hd
  rw[aq k];show this
 .by_cases e:a=d
  .clear g hd j f;subst e;rw[ar] at h;replace h:=ax h;subst h;show aC o c rfl
  .rw[aq e] at h;show H.own a g' h
 .by_cases e:a=d
  .clear s H c;subst e;rw[hd,ar];simp
  .rw[aq e]
def Cl.bare(hd:O d=Y g)(t:Fv g=L)(h:∀o,Known Z g o->Cl Z n f as m (aB O d<|.raw o) Q):Cl Z n f as m O Q:=λU s A vs bJ u H J M c=>by let(o,q,i,p):=H.bare hd t;show aG (h o q U s A vs bJ u i J M c) (λ_ _ v=>by let(z,a,y,g,C,j,k):=v;show(z,a,y,(g.bC,λa o J M c=>g.keep a o J M<|(p a).mp c,g.os),C,j,k)) λ_ _ e=>e
def xo.bare(hd:O d=Y g)(v:Fv g=L)(h:∀o,Known Z g o->xo Z n E ss (aB O d<|.raw o) m Q):xo Z n E ss O m Q:=λU s A y H i=>by let(o,f,j,c):=H.bare hd v;let HD:cb U (aB O d<|.raw o) E m s:=(by let(a,b,r):=i.loc;show bt a ((c _).mp b) r,λx k f=>by let(a,b,r):=i.vJ x k f;show bt a ((c _).mp b) r,i.inj);show aG (h o f U s A y j HD) (λ_ _ D=>by let(I,C,G,t,g,T,F9,p,q):=D;show(I,C,G,t,(g.bC,λa o u J M z=>g.keep a o u J M<|(c a).mp z,g.os),T,F9,p,q)) λ_ _ e=>e
abbrev Fw(d:aW)(i k ep:Nat):Obj:={cls:=.type "dict_keyiterator",data:=.fields #[.ref d,.int i 0,.int k 0,.int ep 0]}
def OY(o a:Obj)(d:aW)(i:Nat):=∃es ep,o.data=.dict es ep/\a=Fw d i es.size ep
def OZ(w:cC)(o a:Obj)(d:aW):=∃es ep t,o.data=.set es ep t/\Ow w t es.size/\a=fZ 0 0 d es.size ep
def Jo(hd:O d=Y (.raw o))(t:Known Z (.dict bJ) o)(h:∀I f,O I=R->OY o f d 0->Q (!I) (aB O I<|.raw f)):Cl Z n (.builtin "iter") [.ref d] [] O Q:=Cl.r1 λU s A y H=>by
 refine hide λ_ j=>?_;let(e,q,u):=H.own d _ hd;let rfl:e=o:=u;let(dN,(es,ep,c,g,v,i,k),z):=t U;refine j (mi (by lk) (by lk) kdk_entry_iter (kdk_args_iter _) ?_);unfold cK.«iter»;refine af (m:=GG "iter" 1 2 _) (fU (a:=[jc d]) (by first|rfl|kernel_rfl!) ?_);show aN _ _ (qZ (!d)>>=_) _ _ _;refine af<|tT (knd:=cW Z.prog Z.w) (H.jG hd) (e,es,q,c,g,v,i,k) ?_;refine aj<|aC _ rfl ?_;let p:dN.length=es.size:=by rw[<-i.length,aD]
 refine(U,.ref ↥s,_,bV.j9 s.toks,H.j9 rfl (show kl _ _ U (.raw _) _ from rfl) s.toks,.raw _,h _ _ H.bY.2 (es,ep,g,?_));rw[p];rfl
def Jp(hd:O d=Y (.raw o))(hk:Known Z (.dict bJ) o)(q:O I=Y (.raw io))(J:OY o io d 0)(h0:bJ[0]?=Y (k,a))(h:Q (EW k) (cD O I)):Cl Z n (.builtin "next") [.ref I] [] O Q:=Cl.r1 λU s A hR H=>by
 refine hide λ_ kP=>?_;let(v,ho,j):=H.own d _ hd;clear hd;let rfl:v=o:=j;let(f,t,j):=H.own I _ q;let rfl:f=io:=j;let(dN,(es,ep,i,C,XK,D,jn),hP):=hk U;let(es',V3,E,rfl):=J;calc kP;rw[C] at E;injection E with e1 e2;subst e1 e2
 let jC:dN.length=es.size:=by rw[<-D.length,aD]
 let c:s.heap.IsKeyIter I d 0 dN.length ep:=(_,t,rfl,by rw[jC];rfl);clear t;let(x,T,_):=hP.WG h0;calc mi (by lk) (by lk) kdk_entry_next (kdk_args_next _);unfold cK.«next»
 refine af (m:=GG "next" 1 2 _) (fU (a:=[jc I]) (by first|rfl|kernel_rfl!) ?_);dsimp only;refine af<|kA (name:=ah "__next__") c.typeIs iM.lookup ?_;refine rb (λGK=>absurd GK ∅) (λ_=>?_);refine af (kdk_special (knd:=cW Z.prog Z.w) c (v,es,ho,i,C,XK,D,jn) T λkey z G M y=>?_);refine aj<|aC _ rfl ?_;clear c;let(f,QG,_):=M;let eg:St Z U (aB O I<|.raw f) (s<*z):=H.fm q y QG (show kl _ _ U (.raw _) _ from rfl) s.toks;let TJ:bV U O s U (aB O I<|.raw f) (s<*z):=bV.fm q y s.toks
 let u:Sub (cD O I) (aB O I<|.raw f):=λb g p=>by
  by_cases e:b=I
  .subst e;show cA di p
  .rw[cx e] at p;rw[aq e];show p
 show(U,EW k,_,TJ.sub u,eg.sub u,K0.SO G,h)
def Ld(hd:O d=Y (.raw o))(k:Known Z (.set xs) o)(h:∀I e,O I=R->OZ Z.w o e d->Q (!I) (aB O I<|.raw e)):Cl Z n (.builtin "iter") [.ref d] [] O Q:=Cl.r1 λU s A y H=>by refine hide λ_ i=>?_;let(g,j,p):=H.own d _ hd;clear hd;let rfl:g=o:=p;let(c,es,ep,t,ns,f,q,u,v,hx):=k U;refine i (mi (by lk) (by lk) kdk_entry_iter (kdk_args_iter _) ?_);unfold cK.«iter»;refine af (m:=GG "iter" 1 2 _) (fU (a:=[jc d]) (by first|rfl|kernel_rfl!) ?_);show aN _ _ (qZ (!d)>>=_) _ _ _;refine af<|zR j c f hx ?_;refine aj<|aC _ rfl ?_;show(U,.ref ↥s,_,bV.j9 s.toks,H.j9 rfl (show kl _ _ U (.raw _) _ from rfl) s.toks,.raw _,h _ _ H.bY.2 (es,ep,t,f,hx,rfl))
def zo{prog:mL}{w:cC}{az:Value->aZ->Prop}{d:aW}{e:Int×Value}{Q:Option Value->aZ->Prop}(a:s.heap.get? it=Y (fZ (slotAt w t k) k d es.size ep))(f:s.heap.get? d=Y o)(hd:o.data=.set es ep t)(hx:Ow w t es.size)(T:(fW w d ep es)[k]?=Y e)(j:k<=es.size)(hQ:∀c,c.get? it=Y (fZ (slotAt w t<|k+1) (k+1) d es.size ep)->cQ it s.heap c->Q (Y e.2) (s<*c)):aN (bw prog w) A (oQ (!it)<|ah "__next__") Q az s:=by let g:s.TypeIs (!it) "set_iterator":=(_,a,rfl);refine dU (name:=ah "__next__") g dC<|bN dC g lS ?_<|mG _;unfold cK.«set_iterator.__next__»;refine af (m:=qI "__next__" 0 _)<|aj ?_;refine af<|lK a rfl ?_;refine af<|cZ f hd hx.tab.fits ?_;rw[aK (by simp)];refine af (tC (it:=it) f hd hx (λu h=>?_) (λi=>cA i T) j);rw[T] at h;cases h;refine af (iK a (by simp) λJ q Mv=>?_);refine af (iK (s:=(s<*J)) q (by simp) λM p n=>aj<|aC e.2 rfl<|hQ M ?_<|Mv.trans n);calc pS p;simp[fZ,eK]
def Le(hd:O d=Y (.raw o))(J:Known Z (.set xs) o)(c:O I=Y (.raw io))(uE:OZ Z.w o io d)(de:xs≠[])(h:∀x∈xs,Q ⇑x (cD O I)):Cl Z n (.builtin "next") [.ref I] [] O Q:=Cl.r1 λU s A hR H=>by
 let(o',G,u):=H.own d _ hd;clear hd;let rfl:o'=o:=u;let(xd,f,u):=H.own I _ c;let rfl:xd=io:=u;let(hex,es,ep,t,ns,fh,C,jn,q,hx):=J U;clear J;let(es',V3,t',Lc,T',rfl):=uE;rw[fh] at Lc;clear T';injection Lc with e1 e2 e3;subst e1 e2 e3
 let hT:s.TypeIs (!I) "set_iterator":=(_,f,rfl);let E:es.size=xs.length:=by rw[<-q.length_eq,C.len,aD]
 let B!:(fW Z.w d ep es).size=es.size:=by have:=(ip (w:=Z.w) (d:=d) (ep:=ep) (es:=es)).length_eq;rwa [aD,aD] at this
 let j:0<(fW Z.w d ep es).size:=by rw[B!,E];cases xs<;>simp_all
 let T:(fW Z.w d ep es)[0]?=Y ((fW Z.w d ep es)[0]'j):=cB _;let(G4,G5,HF):=C.perm<|ip (w:=Z.w) (d:=d) (ep:=ep) (es:=es);let(ú,Ef):=eI.mp G5;let AE:(fW Z.w d ep es)[0]'j∈(fW Z.w d ep es).toList:=by rw[<-Hv];show Array.getElem_mem j
 let(i,tk,M):=Ef _ AE
 let Ez:i∈xs:=by rw[<-(HF.trans q).mem_iff,ú];show cG.mpr (aC _ AE<|by rw[M];rfl)
 calc mi (by lk) (by lk) kdk_entry_next (kdk_args_next _);unfold cK.«next»
 refine af (m:=GG "next" 1 2 _) (fU (a:=[jc I]) (by first|rfl|kernel_rfl!) ?_);dsimp only;refine af<|kA (name:=ah "__next__") hT dC.lookup ?_;refine rb (λGK=>absurd GK ∅) (λ_=>?_);let h0:slotAt Z.w t 0=0:=by delta slotAt;simp
 refine af (zo (k:=0) (by rw[h0];show f) G fh hx T (fj _) λy D p=>?_);refine aj<|aC _ rfl ?_;let eg:St Z U (aB O I<|.raw _) (s<*y):=H.fm c p D (show kl _ _ U (.raw _) _ from rfl) s.toks;let TJ:bV U O s U (aB O I<|.raw<|fZ (slotAt Z.w t<|0+1) (0+1) d es.size ep) (s<*y):=bV.fm c p s.toks
 let z:Sub (cD O I) (aB O I<|.raw<|fZ (slotAt Z.w t<|0+1) (0+1) d es.size ep):=λb g v=>by
  by_cases e:b=I
  .clear xs Q de h U s H G q f c hT E Ez y D p eg TJ;subst e;show cA di v
  .rw[cx e] at v;rw[aq e];show v
 refine(U,.int i,_,TJ.sub z,eg.sub z,?_,h i Ez);rw[M];show .int i tk
def O5(h:Q (.bool b) O):Cl Z n (.type "bool") [.bool b] [] O Q:=Cl.r1 λU s A a H=>by show call_bool_bool<|dh.now H (.raw _) h
def Nl(hd:O d=Y (.dict bJ))(hz:bJ.length<=1000000)(h:Q (decide (bJ≠[])) O):nK Z n (!d) O Q:=λU s A u _ H a=>by
 let rfl:=a.bU;let(dN,g,c):=H.dict hd;let f:=c.len;calc wpAny_truthy_dict (H.jG hd) g (afn f hz);have:(not dN.isEmpty)=decide (bJ≠[]):=by cases bJ<;>cases dN<;>simp_all
 first
  |exact(U,O,bV.toks _,H.toks _,by rw[this];show h)
  |exact(U,O,bV.toks _,H.toks _,by let e:((dN.length:Int) !=0)=decide (bJ≠[]):=(by cases bJ<;>cases dN<;>simp_all<;>omega);rw[e];show h)
def zS(hz:l.length<=1000000)(h:Q ⇑l.length O):Cl Z n (.builtin "len") [.lst l] [] O Q:=Cl.a1 λU s A v g H e=>by
 let(a,aH,k,rfl,f,d):=e.lst_inv;let c:aH.size=l.length:=by rw[d.length,aD]
 calc call_len_list (_,(H.bC _ _ f).1,rfl,k,rfl) (by rw[c];show k! hz);rw[c];show dh.toks H (.int _ _) h _
def xM(hd:O d=Y (.list l))(hz:l.length<=1000000)(h:Q ⇑l.length O):Cl Z n (.builtin "len") [.ref d] [] O Q:=Cl.r1 λU s A f H=>by
 let(o,e,aH,k,rfl,c):=H.own d _ hd;let a:aH.size=l.length:=by rw[c.length,aD]
 calc call_len_list (_,e,rfl,k,rfl) (by rw[a];show k! hz);rw[a];show dh.toks H (.int _ _) h _
def HU(hd:O d=Y (.dict bJ))(h:Q (.bool L) O):Cl Z n (.builtin "isinstance") [.ref d,.raw<|.type "dict"] [] O Q:=Cl.a2 λU s A v w g H c a=>by let rfl:=c.bU;let rfl:=a.bU;let(dN,e,f):=H.dict hd;show rp (Tx:="dict") (T:="dict") e.typeIs () (by rw[bM];kernel_rfl)<|dh.now H (.raw _) h
def zq(hd:O d=Y (.set xs))(h:Q (.bool au) O):Cl Z n (.builtin "isinstance") [.ref d,.raw<|.type "dict"] [] O Q:=Cl.a2 λU s A v w g H e c=>by let rfl:=e.bU;let rfl:=c.bU;let(o,f,a,_):=H.set hd;show call_isinstance (isinstance_false_set (T:="dict") ∅ () (by rw[bM];kernel_rfl)) ((aC o f a.1),dh.toks H (.raw _) h _)
end
def Lf(hd:O d=Y (.dict bJ))(hz:bJ.length<=1000000)(h:∀D,O D=R->Q (!D) (aB O D<|.dict bJ)):Cl Z n (.type "dict") [.ref d] [] O Q:=Cl.r1 λU s A m H=>by let(dN,i,c):=H.dict hd;refine kt_call_dict (knd:=cW Z.prog Z.w) (H.jG hd) i (qP dw<|Ě c.len hz) λp k a=>?_;let j:bV U O s U _ _:=bV.j9 (O:=O) (U:=U) (s:=s) (g:=.dict []) (o:=e7) s.toks;let f:=(H.j9 (g:=.dict []) (o:=e7) rfl pg s.toks).vP (bJ:=bJ) (ar) a k c s.toks;let e:=bV.fm (U:=U) (s:={s with heap:=s.heap.push e7,toks:=s.toks}) (O:=aB O ↥s (.dict [])) (g':=.dict bJ) ar a s.toks;rw[bQ] at f e;show(U,.ref _,_,j.trans e,f,.raw _,h _ H.bY.2)
def TK(h:∀D,O D=R->Ev Z n E k (aB O D<|.dict []) m λa C=>Ev Z n E v C m λb d=>∃c,a.td=Y c/\d D=Y (.dict [])/\Q (!D) (aB d D<|.dict [(c,b)])):Ev Z n E (.Dict [Y k] [v] pos) O m Q:=λU s A t H hF=>by let z:bV U O s U _ _:=bV.j9 (O:=O) (U:=U) (s:=s) (g:=.dict []) (o:=e7) s.toks;let xc:=hF.grow z;refine CM (knd:=cW Z.prog Z.w) (pairs:=[(eval k E,do let x<-eval v E;cN pos;pure x)]) rfl (λe=>by injection e) (by simp)<|yw ?_;refine fw (h _ H.bY.2 U _ A t (H.j9 (g:=.dict []) (o:=e7) rfl pg s.toks) xc) λkv J U2 a C y fY ha M=>af (fw (M U2 J A t fY<|xc.grow y) λj s3 G b d u p hb T=>?_);let(c,I,i,hq):=T;refine af<|aR<|aj<|evalPairs_nil ?_;let(dN,HV,f):=p.dict i;cases f;refine dc ([(c,j)]) (((ha.mono u.bC).key (Z:=Z) I),rfl,trivial) HV (λh' GL q=>?_);let EH:=p.vP (bJ:=[(c,b)]) i q (dN:=[(c,j)]) (by simpa [merged,stored] using GL) (.cons hb .nil)<|s3.toks+1;show(G,.ref _,_,((z.trans y).trans u).trans (bV.fm (U:=G) (s:=s3) (O:=d) (g':=.dict [(c,b)]) i q<|s3.toks+1),EH,.raw _,hq)
def TL(h:∀D,O D=R->Ev Z n E k (aB O D<|.dict []) m λa bh=>Ev Z n E v bh m λb bu=>Ev Z n E k' bu m λa' js=>Ev Z n E v' js m λt i=>∃c d,a.td=Y c/\a'.td=Y d/\c≠d/\i D=Y (.dict [])/\Q (!D) (aB i D<|.dict [(c,b),(d,t)])):Ev Z n E (.Dict [Y k,Y k'] [v,v'] pos) O m Q:=λU s A j H hF=>by let g1:bV U O s U _ _:=bV.j9 (O:=O) (U:=U) (s:=s) (g:=.dict []) (o:=e7) s.toks;let J:=hF.grow g1;refine CM (knd:=cW Z.prog Z.w) (pairs:=[(eval k E,do let x<-eval v E;cN pos;pure x),(eval k' E,do let x<-eval v' E;cN pos;pure x)]) rfl (λe=>by injection e) (by simp)<|yw ?_;refine fw (h _ H.bY.2 U _ A j (H.j9 (g:=.dict []) (o:=e7) rfl pg s.toks) J) λkv s2 U2 a bh g2 fY ha M=>?_;let I:=J.grow g2;refine af (fw (M U2 s2 A j fY I) λT s3 U3 b bu C oZ hb h3=>?_);let BU:=I.grow C;refine af<|aR<|aj<|yw ?_;refine fw (h3 U3 s3 A j oZ BU) λkv' s4 U4 a' js q EH y h4=>af (fw (h4 U4 s4 A j EH<|BU.grow q) λf s5 U5 t i p Ms ZJ rh=>?_);let(c,d,Ϡ,G,de,z,hq):=rh;refine af<|aR<|aj<|evalPairs_nil ?_;let(dN,HV,u):=Ms.dict z;cases u;let ϡ:=(y.mono p.bC).key (Z:=Z) G;refine dc ([(c,T),(d,f)]) (((((ha.mono C.bC).mono q.bC).mono p.bC).key (Z:=Z) Ϡ),rfl,ϡ,rfl,trivial) HV (λh' GL hs=>?_);let w!:=Ms.vP (bJ:=[(c,b),(d,t)]) z hs (dN:=[(c,T),(d,f)]) (by simpa [merged,stored,de,aE de] using GL) (.cons ((hb.mono q.bC).mono p.bC)<|.cons ZJ .nil)<|s5.toks+2;show(U5,.ref _,_,((((g1.trans g2).trans C).trans q).trans p).trans (bV.fm (U:=U5) (s:=s5) (O:=i) (g':=.dict [(c,b),(d,t)]) z hs<|s5.toks+2),w!,.raw _,hq)
def XM(z:kdsPlain e=L)(J:kdsCode Z.K E.code=L)(h:∀D,O D=R->Ev Z n E e (aB O D<|.set []) m λa c=>∃i,a=.int i/\c D=Y (.set [])/\Q (!D) (aB c D<|.set [i])):Ev Z n E (.Set [e] 0 pos) O m Q:=λU s A T H hF=>by
 rw[arm_eval_Set];refine af<|aR ?_;refine af (kds_main H.wC J λb=>?_);rw[kds_star [e] (by simp[z]),fH];let j:bV U O s U _ _:=bV.j9 (O:=O) (U:=U) (s:=s) (g:=.set []) (o:=cf Z.w) s.toks;let u:=hF.grow j
 delta setDisplay
 try dsimp only
 rw[aK (by simp[displayRoad])];refine af<|AS ?_;let hL:(List.map ((λx:Bool×Sem Value=>bG x.fst<|do let v<-x.snd;cN pos;pure v)∘λt=>bG au t)<|evalEach [e] E)=[(au,do let v<-eval e E;cN pos;pure v)]:=rfl;rw[hL];simp only[List.length_singleton,show¬(1>30) by decide,if_false,sO,List.findIdx?_nil,e9,DY,Option.getD_none,List.take_succ_cons,List.take_zero,List.drop_succ_cons,List.drop_zero,cj,BK];refine af<|aJ ?_;refine af<|kds_all pos [e] _ _ ?_;show aN _ _ (eval e E) _ _ _;refine fw (h _ H.bY.2 U _ A T (H.j9 (g:=.set []) (o:=cf Z.w) rfl (pf Z.w) s.toks) u) λv s2 q a c g2 k M y=>?_;let(i,d,f,G):=y;subst d;show aN _ _ _ _ _ s2;let(tk,rfl):=M.int_inv;let(o,I,C):=k.set f;refine af<|aJ ?_;calc af;rw[D3];refine af<|af ?_
 delta setAdd
 refine aJ<|af<|lV ?_;refine I3 (s:={s2 with toks:=s2.toks+1}) I C (fj _) λb h' o' p Ee J6=>?_;let g3:=bV.fm (U:=q) (s:=s2) (O:=c) (g':=.set<|ff [] i) f p<|s2.toks+1;let B9:dh Z U O s Q (!↥s) {s2 with heap:=h',toks:=s2.toks+1}:=(q,.ref _,_,(j.trans g2).trans g3,(k.E0 f p Ee J6<|s2.toks+1),.raw _,by simpa [ff] using G);refine aj<|aj ?_;rw[aK (by simp[displayRoad])];calc aj;rw[yx];show aj<|aj B9
def QH{es:Array (Int×Value)}{plain:Bool}(k:Nat)(i:3<=k)(f:mask=2^k-1)(e:es.size*5<mask*3):∃t a,ud mask finger moves led plain (es.map (·.1))=Y (t,a)/\(a.filterMap (es[·]?)).size=es.size/\(a.filterMap (es[·]?)).toList.Perm es.toList/\Tab t es.size/\t.plain=plain/\t.led=led:=by
 let(o,n,h):=HA (mask:=mask) k i f (es.map (·.1)) (by rw[sG];show n! e)
 rw[sG] at h;generalize d:((bO<|mask+1).filterMap λj=>(o.getD j R).map λk=>bG j k)=live;let m:(live.map (·.2)).Perm (bO es.size):=by rw[<-d,Kj];show h.perm
 let g:live.length=es.size:=by have:=m.length_eq;simpa using this
 let Se:(live.map (·.1)).Sublist (bO<|mask+1):=by rw[<-d];show Kk ..
 let c:((live.map (·.2)).toArray.filterMap (es[·]?)).toList.Perm es.toList:=by rw[wo];show(m.filterMap _).trans (by rw[filterMap_getElem?_range])
 refine(rZ ({mask,place:=(live.map (·.1)).toArray,dummies:= #[],finger,led,moves,plain}) ((live.map (·.2)).toArray) ?_ ?_ c ((by simpa using g,iR Se kf,.nil,λx T=>?_,λx T=>(by cases T),λx T=>(by cases T),(aC k i f)),?_) rfl rfl)
 .delta ud;rw[n,<-d];rfl
 .rw[<-aD,c.length_eq,aD]
 .have:=dS.mp<|Se.mem T;show x<=mask;show î this
 .show((live.map (·.1)).toArray.size+(#[]:Array Nat).size)*5<mask*3;simp[g];show e
def Lg(U:d≠v)(hd:s.heap.get? d=Y (cf w))(y:s.heap.get? v=Y ob)(M:jr w ob xs)(hz:xs.length<=4)(h:∀p od,cQ d s.heap p->p.get? d=Y od->jr w od xs->Q cF (s<*p)):aN (bw prog w) A (setMerge d v C) Q az s:=by
 let(n,es,ep,t,ns,q,i,k,j,hx):=M;let c:es.size=xs.length:=by rw[<-j.length_eq,i.len,aD]
 delta setMerge
 rw[aK (by simpa using U)];refine af<|dK y q hx.tab.fits ?_;dsimp only;let J:cf w=cf w:=rfl;by_cases f:es.isEmpty=L
 .rw[bj f];let T:xs=[]:=by rw[Array.isEmpty_iff] at f;clear w ob hd y h n ep t ns q i k j hx J;subst f;show nj.mp (by simpa using c.symm)
  clear hz es ns q i k j hx c f;subst T;show aj<|h s.heap _ (BN _ _) hd<|pf w
 rw[aK f];calc af;
 delta setRoomFor
 refine af<|dK hd rfl (Tab.fresh _).fits ?_;dsimp only
 let H:(iN 0 0<|not (iF w)).roomFor es.size=R:=by delta SetTable.roomFor;rw[aK];show¬((0+es.size)*5>=7*3);show afo c hz
 rw[H];refine aj<|af<|dK hd rfl (Tab.fresh _).fits ?_
 let TM:∀(es':Array (Int×Value)) (t':jm),es'.toList.Perm es.toList->Tab t' es'.size->t'.plain=L->t'.led= not (iF w)->aN (bw prog w) A (storeSet d es' t') Q az s:=λes' t' e o g m=>by
  let u:es'.size=es.size:=by have:=e.length_eq;rwa [aD,aD] at this
  refine lg hd rfl ?_<|qP dw<|afp u c hz;let(G4,G5,G):=i.perm e;let(od,Mt,Xn):=rB (w:=w) (xs:=xs) hd (rfl,rfl,rfl) rfl G5 (G.nodup_iff.mpr k) (G.trans j) (o,g,m);show h _ od (cY _ d _) Mt Xn
 let D:(not (iF w)&&t.led)= not (iF w):=by rw[hx.led];cases iF w<;>rfl
 let g:(L&&t.plain)=L:=by rw[hx.plain];rfl
 delta SetTable.road
 rw[aK (by simp[qg,iN])];by_cases z:((iN 0 0<|not (iF w)).mask==t.mask&&t.dummies.isEmpty)=L
 .rw[bj z];refine TM es _ (.refl _) ?_ g D;show((hx.tab.sz,hx.tab.sp,hx.tab.sd,hx.tab.ï,hx.tab.ε,hx.tab.q_,hx.tab.pow),hx.tab.aA)
 .rw[aK z];let(t',a,O,E,W6,o,V7,V8):=QH (es:=es) (mask:=7) (finger:=0) (moves:=0) (led:=not (iF w)&&t.led) (plain:=L&&t.plain) 3 ∅ ∅ (afq c hz);let I:ud (iN 0 0<|not (iF w)).mask (iN 0 0<|not (iF w)).finger (iN 0 0<|not (iF w)).moves ((iN 0 0<|not (iF w)).led&&t.led) ((iN 0 0<|not (iF w)).plain&&t.plain) (es.map (·.1))=Y (t',a):=O;rw[I];calc af;
  wp_delta
  rw[aK (by simpa using E)];show aj<|TM _ t' W6 (qP E o) (V7.trans g)<|V8.trans D
def Nm(hd:O d=Y (.set xs))(hz:xs.length<=4)(h:∀D,O D=R->Q (!D) (aB O D<|.set xs)):Cl Z n (.type "set") [.ref d] [] O Q:=Cl.r1 λU s A hR H=>by
 let(o,a,c):=H.set hd;calc yN (oR _) (pa _) (λA' jK self Q' f q=>vw f q);let j:(s.heap.push<|cf Z.w).get? ↥s=Y (cf Z.w):=aO _ rfl;let f:gz (s<*s.heap.push (cf Z.w)) (!↥s) "set":=(_,j,rfl);let G:gz (s<*s.heap.push (cf Z.w)) (!d) "set":=(_,aF _ a,c.1.1);let p:nq (.type "set") (.type "set")=pure L:=by rw[bM];kernel_rfl
 let C:↥s≠d:=kh<|aU a;unfold cK.«set.__init__» Ap;generalize m:d9=UF
 wp_walk
 subst m
 delta d9 iO
 refine af<|af<|ed (T:="set") (b:=L) G p ?_;calc aj;rw[bj rfl]
 delta jB It
 refine af<|aj ?_;let(u,es,ep,t,ns,z,M,jn,hp,hx):=id c;refine af<|tU (s:=(s<*s.heap.push (cf Z.w))) (aF _ a) z hx.tab.fits ?_;refine Lg (s:=(s<*s.heap.push (cf Z.w))) C j (aF _ a) c hz λv od k I E=>?_;let y:bV U O s U _ _:=bV.j9 (O:=O) (U:=U) (s:=s) (g:=.set []) (o:=cf Z.w) s.toks;let e:=(H.j9 (g:=.set []) (o:=cf Z.w) rfl (pf Z.w) s.toks).E0 (xs:=xs) ar k I E s.toks;let i:=bV.fm (U:=U) (s:={s with heap:=s.heap.push<|cf Z.w,toks:=s.toks}) (O:=aB O ↥s (.set [])) (g':=.set xs) ar k s.toks;rw[bQ] at e i;let J:dh Z U O s Q (!↥s) (s<*v):=(U,.ref _,_,y.trans i,e,.raw _,h _ H.bY.2);show aj (rfl,J)
def Cc(k:∀s tk,P s->P {s with toks:=tk})(T:s.TypeIs x Tx)(c:s.heap.get? tp=Y {cls:=.type "tuple",data:=.seq f.toArray n})(j:AnswersAll P x f vs)(i:P s)(e:∀a,Q (.done<|.ret<|.bool<|vs.any id) {s with toks:=a}):aN (bw prog w) A (cK.«isinstance.nested» ([x,.ref tp,.int 0 tk],[])) Q az s:=by
 let(h,g,d,t,os):=s;let o:((h,g,d,t,os):aZ).TypeIs (!tp) "tuple":=(_,c,rfl);let m:=PySem.F.isi_sub_tuple
 repeat (any_goals (first|assumption|wp_step))
 calc wpAny_arrayLoop;rw[CN,zh];refine isinstance_items (dep:=0) k f vs _ _ j i λa=>?_
 induction S:vs.any id with
 |true=>
  rw[bj rfl]
  repeat (any_goals (first|assumption|wp_step))
  show S▸e a
 |false=>
  rw[aK aI]
  repeat (any_goals (first|assumption|wp_step))
  show S▸e a
def Lh(hd:O d=Y (.set xs))(h:Q (.bool L) O):Cl Z n (.builtin "isinstance") [.ref d,.tup [.raw<|.type "set",.raw<|.type "frozenset"]] [] O Q:=Cl.r2 λU s A w t H k=>by
 let(a,aH,u,rfl,p,i):=k.vF;let(o,m,g,_):=H.set hd;let j:s.TypeIs (!d) "set":=(o,m,g.1)
 let f:aH=[pP "set",pP "frozenset"].toArray:=by apply Array.toList_inj.mp;let(v1,q,e,J,M):=uL i;rw[e,J.bU,M.bU]
 clear i;subst f;let c:=(H.bC _ _ p).1;show call_isinstance_of (Cc (P:=λs=>s.TypeIs (!d) "set") (vs:=[L,au]) (λ_ tk h=>h.toks tk) j c (Answers.of_true () (by rw[bM];kernel_rfl),Answers.of_false_set ∅ () (by rw[bM];kernel_rfl),trivial) j λv=>dh.toks H (.raw _) h _)
def QI:mB (.DictComp k v [(target,iter,[],0)] a pos) 0 it (!D) E=tY target iter.pos (.DictComp k v [(target,iter,[],0)] a pos) it (!D) E (eval k E>>=λc=>eD [c] (eval v E)>>=λd=>cN {k.pos with endLine:=v.pos.endLine,endCol:=v.pos.endCol}>>=λ_=>eD [c,d]<|dictSet D c d):=rfl
def O6(h:Ev Z n E k O m λa z=>Ev Z n E v z m λb i=>∃e l,a.td=Y e/\i D=Y (.dict l)/\l.length<=1000000/\Q (aB i D<|.dict<|bl l e b)):Em Z n E (eval k E>>=λc=>eD [c] (eval v E)>>=λd=>cN p>>=λ_=>eD [c,d]<|dictSet D c d) O m Q:=λU s A q H hF=>by refine af (fw (h U s A q H hF) λc G U1 a z u eg ha J=>?_);refine af (aJ<|fw (J U1 G A q eg<|hF.grow u) λd s2 U2 b i t y T I=>?_);let(e,l,C,g,hz,M):=I;refine af<|aR<|aJ ?_;let(dN,f,o):=y.dict g;refine wpAny_dictSet_pairs (knd:=cW Z.prog Z.w) (hsz:=by calc qP dw;show Ě o.len hz) ((ha.mono t.bC).key (Z:=Z) C) f λh' GL j=>?_;show(U2,_,(u.trans t).trans (bV.fm g j<|s2.toks+1),y.vP g j GL (o.put T)<|s2.toks+1,M)
def Li:mB (.ListComp d [(target,iter,[c],0)] a pos) 0 it ie E=tY target iter.pos (.ListComp d [(target,iter,[c],0)] a pos) it ie E (wu c E (eval c E)>>=λok=>if ok=L then(eval d E>>=λx=>call (.builtin "list.append") [ie,x]>>=λ_=>pure cF) else pure cF):=by
 delta mB tY
 refine bind_congr λ_=>bind_congr λr=>?_
 induction r with
 |none=>rfl
 |some v=>
  simp only[D3,yx,if_true,bind_assoc,pure_bind];refine bind_congr λ_=>bind_congr λ_=>bind_congr λok=>?_;cases ok<;>simp
def O7{m:Loc}(h:(y==x)=au)(c:m.lookup y=Y a):((x,b)::m).lookup y=Y a:=by rw[cq,h];show c
def QJ{V:TA}{t:TS}{g:bf}(a:Wf V)(c:N t.pred (i,Y v,Y w)=Y u)(h:Q ⇑u (t\g)):Cl Z n (.builtin "dict.get") [.ref V.pred,.tup [.int i,.int v,.int w]] [] (t\g) Q:=
 K6 a (by rw[c];show h)
def QK{V:TA}{t:TS}(a:Wf V)(c:N t.pred (i,Y v,Y w)=R)(h:Q .none (t\g)):Cl Z n (.builtin "dict.get") [.ref V.pred,.tup [.int i,.int v,.int w]] [] (t\g) Q:=
 K6 a (by rw[c];show h)
def TN{V:TA}{g:bf}(a:Wf V)(c:N t.ite (i,v,w)=Y u)(h:Q ⇑u (t\g)):Cl Z n (.builtin "dict.get") [.ref V.ite,.tup [.int i,.int v,.int w]] [] (t\g) Q:=
 get_ite a (by rw[c];show h)
def TO{V:TA}(a:Wf V)(c:N t.ite (i,v,w)=R)(h:Q .none (t\g)):Cl Z n (.builtin "dict.get") [.ref V.ite,.tup [.int i,.int v,.int w]] [] (t\g) Q:=
 get_ite a (by rw[c];show h)
def HW(h:∀v,fK fd ([v],[])=pure [(x,v)]):Binds Z fd [a] [] [(x,a)]:=λU s vs bJ e S d c=>by clear c;let rfl:=ig d;let(v,rfl,J):=uK S;show aC _ (.of_eq<|h v)<|.cons J .nil
def Cd(h:∀v w,fK fd ([v,w],[])=pure [(x,v),(y,w)]):Binds Z fd [a,b] [] [(y,b),(x,a)]:=λU s vs bJ e S d c=>by clear c;let rfl:=ig d;let(v,w,rfl,J,M):=uL S;show aC _ (.of_eq<|h v w)<|.cons M<|.cons J .nil
def HY(h:∀v w u,fK fd ([v,w,u],[])=pure [(x,v),(y,w),(z,u)]):Binds Z fd [a,b,c] [] [(z,c),(y,b),(x,a)]:=λU s vs bJ g S e d=>by clear d;let rfl:=ig e;let(v,w,u,rfl,J,M,f):=nT S;show aC _ (.of_eq<|h v w u)<|.cons f<|.cons M<|.cons J .nil
def HZ(h:∀v w u q,fK fd ([v,w,u,q],[])=pure [(x,v),(y,w),(z,u),(t,q)]):Binds Z fd [a,b,c,d] [] [(t,d),(z,c),(y,b),(x,a)]:=λU s vs bJ j S f e=>by clear e;let rfl:=ig f;let(v,w,u,q,rfl,J,M,i,g):=KC S;show aC _ (.of_eq<|h v w u q)<|.cons g<|.cons i<|.cons M<|.cons J .nil
def XN(h:N l k=Y c):bl l k (c+1)=pq l k:=by delta pq;rw[h];rfl
def XO(h:N l k=Y c):bl l k (c-1)=n6 l k:=by delta n6;rw[h];rfl
def Jq(E:Env)(a b:List fz):Gv (a++b) E=(do match<-Gv a E with|.next=>Gv b E|f=>pure f):=by
 induction a with
 |nil=>
  show Gv b E=((pure vh:Sem Flow)>>=_);rw[pure_bind]
 |cons st a c=>
  rw[List.cons_append,execs_cons,execs_cons,c,bind_assoc]
  congr 1;funext f
  induction f with|next=>rfl|_=>rw[pure_bind]
def QL(h:Ex Z n E a O m λq d c=>match q with|.next=>Ex Z n E b d c Q|f=>Q f d c):Ex Z n E (a++b) O m Q:=λU s A t H v=>by
 rw[Jq];refine af (MN (h U s A t H v) λf u o q d c j k i g J=>?_)
 induction q with
 |next=>cases f<;>first|exact g.elim|exact aG (J o u A t k i) (λ_ _ p=>p.after j) λ_ _ e=>e
 |brk=>cases f<;>first|exact g.elim|exact aj (o,.brk,d,c,j,k,i,trivial,J)
 |cont=>cases f<;>first|exact g.elim|exact aj (o,.cont,d,c,j,k,i,trivial,J)
 |ret a=>cases f<;>first|exact g.elim|exact aj (o,.ret a,d,c,j,k,i,g,J)
def TA.mx{V:TA}:V.x∈V.list:=by repeat (first|exact .head _|apply ql)
def TA.mdx{V:TA}:V.dx∈V.list:=by repeat (first|exact .head _|apply ql)
def TA.Ϥ{V:TA}:V.succ∈V.list:=by repeat (first|exact .head _|apply ql)
def TA.XP{V:TA}:V.ref∈V.list:=by repeat (first|exact .head _|apply ql)
def TA.F?{V:TA}:V.ite∈V.list:=by repeat (first|exact .head _|apply ql)
def bz{V:TA}(h:c∉V.list)(a:g c=Y o):aA V t g c=Y o:=by rw[pj h];show a
def aY{V:TA}(h:c∉V.list):aB (t\g) c o=aA V t (aB g c o):=by
 funext a;by_cases e:a=c
 .subst e;rw[ar,pj h,ar]
 .rw[aq e];by_cases d:a∈V.list
  .show(Eh d).1
  .rw[pj d,pj d,aq e]
def d0{V:TA}(h:aA V t g c=R):c∉V.list/\g c=R:=by have:c∉V.list:=λa=>(Eh (g':=g) a).2 h;show(this,by rwa [pj this] at h)
abbrev encC(l:List ((Int×Int)×Int)):List (List K0×AV):=l.map λp=>bG [.int p.1.1,.int p.1.2]<|AV.int p.2
def Lj:∀a b:Int×Int,([K0.int a.1,K0.int a.2]:List K0)=[.int b.1,.int b.2]->a=b:=by rintro ⟨a,b⟩ ⟨d,c⟩ h;simpa using h
def H7(l:List ((Int×Int)×Int))(k:Int×Int):N (encC l) [.int k.1,.int k.2]=(N l k).map AV.int:=uP (f:=λk:Int×Int=>([K0.int k.1,K0.int k.2]:List K0)) Lj l k
def QM(l:List ((Int×Int)×Int))(k:Int×Int)(t:Int):bl (encC l) [.int k.1,.int k.2] ⇑t=encC (bl l k t):=xw (f:=λk:Int×Int=>([K0.int k.1,K0.int k.2]:List K0)) Lj l k t
section
variable{t:TS}
def G_{V:TA}(e:c∉V.list)(d:g c=Y (.dg<|encC l))(h:Q (.bool (N l (a,b)).isSome) (t\g)):pb Z n .In (.tup [.int a,.int b]) (!c) (t\g) Q:=
 OG (bz e d) (ks:=[.int a,.int b]) rfl (by rw[H7 l (a,b),dk];show h)
def G!{V:TA}{g:bf}(f:c∉V.list)(e:g c=Y (.dg<|encC l))(d:N l (a,b)=Y r)(h:Q ⇑r (t\g)):Ed Z n (!c) (.tup [.int a,.int b]) (t\g) Q:=
 Qj (bz f e) (ks:=[.int a,.int b]) rfl (by rw[H7 l (a,b),d];rfl) h
def Nn{V:TA}{g:bf}(d:c∉V.list)(e:g c=Y (.dg<|encC l))(hz:l.length<=100000)(h:P (t\(aB g c<|.dg<|encC<|bl l (a,b) r))):IJ Z n (!c) (.tup [.int a,.int b]) ⇑r (t\g) P:=by calc yK (bz d e) (ks:=[.int a,.int b]) rfl (by simp[encC];show Y5 hz);rw[QM l (a,b),aY d];show h
def Np{V:TA}(e:c∉V.list)(d:g c=Y (.dict<|eC l))(h:Q (.bool (N l a).isSome) (t\g)):pb Z n .In ⇑a (!c) (t\g) Q:=
 IV (bz e d) rfl (by rw[g9,dk];show h)
def Nq{V:TA}(f:c∉V.list)(e:g c=Y (.dict<|eC l))(d:N l a=Y r)(h:Q ⇑r (t\g)):Ed Z n (!c) ⇑a (t\g) Q:=
 eQ (bz f e) rfl (by rw[g9,d];rfl) h
def Ce{V:TA}(d:c∉V.list)(e:g c=Y (.dict<|eC l))(hz:l.length<=100000)(h:P (t\(aB g c<|.dict<|eC<|bl l a r))):IJ Z n (!c) ⇑a ⇑r (t\g) P:=by calc jM (bz d e) rfl (by rw[nc];show Y5 hz);rw[r8,aY d];show h
end
section
variable{t:TS}
def ϥ{V:TA}(f:c∉V.list)(d:g c=Y (.dict [(.int l,a)]))(h:Q (.bool<|decide (l=i)) (t\g)):pb Z n .In ⇑i (!c) (t\g) Q:=
 IV (bz f d) rfl (by
  have:(N [(K0.int l,a)] ⇑i).isSome=decide (l=i):=by
   rw[nf];by_cases e:l=i
   .simp[e]
   .simp[e,Tv]
  rw[this];show h)
def Ϧ{V:TA}(e:c∉V.list)(d:g c=Y (.dict [(.int l,a)]))(h:Q a (t\g)):Ed Z n (!c) ⇑l (t\g) Q:=
 eQ (bz e d) rfl (by rw[nf];simp) h
def O8{V:TA}(d:c∉V.list)(a:g c=Y (.set l))(hz:l.length<=4000)(h:Q (.bool<|decide (i∈l)) (t\g)):pb Z n .In ⇑i (!c) (t\g) Q:=HJ (bz d a) hz h
def QN{a:AV}{x z t r q:Str}(h:∀v1 m k j i g,fK fd ([v1,m,k,j,i,g],[])=pure [(x,v1),(y,m),(z,k),(t,j),(r,i),(q,g)]):Binds Z fd [a,b,c,d,e,f] [] [(q,f),(r,e),(t,d),(z,c),(y,b),(x,a)]:=λU s vs bJ C S o n=>by clear n;let rfl:=ig o;apply ck.un S;intro _ _ J S;apply ck.un S;intro _ _ M S;apply ck.un S;intro _ _ A S;apply ck.un S;intro _ _ v S;apply ck.un S;intro _ _ u S;apply ck.un S;intro _ _ p S;apply ck.un0 S;show aC _ (.of_eq<|h _ _ _ _ _ _)<|.cons p<|.cons u<|.cons v<|.cons A<|.cons M<|.cons J .nil
def QO{f p:AV}{x z t r q o:Str}(h:∀v1 n m k j i g,fK fd ([v1,n,m,k,j,i,g],[])=pure [(x,v1),(y,n),(z,m),(t,k),(r,j),(q,i),(o,g)]):Binds Z fd [a,b,c,d,e,f,p] [] [(o,p),(q,f),(r,e),(t,d),(z,c),(y,b),(x,a)]:=λU s vs bJ H S v u=>by clear u;let rfl:=ig v;apply ck.un S;intro _ _ J S;apply ck.un S;intro _ _ M S;apply ck.un S;intro _ _ G S;apply ck.un S;intro _ _ E S;apply ck.un S;intro _ _ D S;apply ck.un S;intro _ _ C S;apply ck.un S;intro _ _ A S;apply ck.un0 S;show aC _ (.of_eq<|h _ _ _ _ _ _ _)<|.cons A<|.cons C<|.cons D<|.cons E<|.cons G<|.cons M<|.cons J .nil
end
def qS(t:TS)(F:(uR->Bool)->uR->Bool)(l:List (Int×Int)):=∀u r,N l u=Y r->bc t.X Z0 u/\bc t.X Z0 r/\(∀G,den t.X r G=F (den t.X u) G)/\∀x,x<=lv t.X u->x<=lv t.X r
def Ext.XQ(bD:Good a c)(x:Ext a d)(h:Bd.bc a c u):Bd.den d u=Bd.den a u:=funext λG=>Ext.den bD x h G
def qS.ext(I:Inv t Z0 e)(x:Ext t.X t'.X)(h:qS t F l):qS t' F l:=λu r d=>by
 let(J,a,g,f):=h u r d;refine ek (x.bc J) (x.bc a) (λG=>?_) (λk c=>?_)
 .rw[x.den I.good a,x.XQ I.good J];show g G
 .rw[x.lv J] at c;rw[x.lv a];show f k c
nonrec def qS.put(h:qS t F l)(J:bc t.X Z0 u)(f:bc t.X Z0 r)(d:∀G,den t.X r G=F (den t.X u) G)(c:∀x,x<=lv t.X u->x<=lv t.X r):qS t F (bl l u r):=λg i a=>by
 rw[aX] at a;split at a
 .rename_i e;subst e;replace a:=ax a;subst a;show ek J f d c
 .show h _ _ a
def TP(l:List fz)(k:Nat):=l.drop k
def headOf(l:List fz)(k:Nat):=l.take k
def G?(k:Nat)(h:Ex Z n E (headOf a k) O m λe d c=>match e with|.next=>Ex Z n E (TP a k) d c Q|f=>Q f d c):Ex Z n E a O m Q:=by rw[<-eO k a];show QL h
section
variable{Z:Bs}{n:Nat}{E:Env}{O:bf}{m:Loc}
def setBody(a:Expr)(ie:Value)(E:Env):=eval a E>>=λv=>cN a.pos>>=λ_=>call (.builtin "set.add") [ie,v]>>=λ_=>pure cF
def Fx(a:Expr)(ie:Value)(E:Env):=eval a E>>=λx=>call (.builtin "list.append") [ie,x]>>=λ_=>pure cF
def Fy(a c:Expr)(ie:Value)(E:Env):=wu c E (eval c E)>>=λok=>if ok=L then(eval a E>>=λx=>call (.builtin "list.append") [ie,x]>>=λ_=>pure cF) else pure cF
def Lk(k v:Expr)(ie:Value)(E:Env):=match ie with
 |.ref D=>eval k E>>=λa=>eD [a] (eval v E)>>=λc=>cN {k.pos with endLine:=v.pos.endLine,endCol:=v.pos.endCol}>>=λ_=>eD [a,c]<|dictSet D a c
 |_=>pure cF
abbrev zT(E:Env):List (Str×aW)->Prop
 |[]=>True
 |x::l=>E.cells.lookup x.1=Y x.2/\zT E l
def zT.mem(h:zT E cl):∀x∈cl,E.cells.lookup x.1=Y x.2:=by
 induction cl with
 |nil=>intro x T;cases T
 |cons y l a=>intro x T;rcases aS.mp T with rfl|T;show h.1;show a h.2 x T
abbrev SubL(E:Env)(a:sq)(m:Loc):Loc->Prop
 |[]=>True
 |p::l=>m.lookup p.1=Y p.2/\((wz a E).names.lookup p.1==Y .local)=au/\SubL E a m l
def SubL.mem(h:SubL E a m m₀):∀p∈m₀,m.lookup p.1=Y p.2/\((wz a E).names.lookup p.1==Y .local)=au:=by
 induction m₀ with
 |nil=>intro x T;cases T
 |cons y l c=>intro x T;rcases aS.mp T with rfl|T;show(h.1,h.2.1);show c h.2.2 x T
def XR(m₀:Loc)(cl:List (Str×aW)):=cl.all λx=>(m₀.lookup x.1).isSome
structure kO(E:Env)(iter:Expr)(scope:sq)(cl:List (Str×aW))(m m₀:Loc):Prop where
 E5:mF iter=L
 clos:lL scope E=pure cl
 kind:scope.kind=.function
 names:(scope.names.all λx=> not (x.2==.local)||scope.names.lookup x.1==Y .local)=L
 zO:(scope.names.all λx=> not (x.2==.cell))=L
 shared:zT E cl
 sub:SubL E scope m m₀
 Xo:XR m₀ cl=L
variable{kM target iter:Expr}{scope:sq}{cl:List (Str×aW)}{pos:Pos}{m₀:Loc}
def kO.fr(C:kO E iter scope cl m m₀):E6 E scope cl m m₀:=(C.sub.mem,λx T=>ct.mp C.Xo x T)
def kO.set(C:kO E iter scope cl m m₀):zN E (.SetComp kM [(target,iter,[],0)] scope pos) target iter [] scope cl iter.pos (newSet<|.type "set") (setBody kM):=
 (.s,rfl,C.E5,C.clos,C.kind,C.names,C.zO,C.shared.mem,λit D CC=>Te,rfl)
def kO.list(C:kO E iter scope cl m m₀):zN E (.ListComp kM [(target,iter,[],0)] scope pos) target iter [] scope cl iter.pos (newList []) (Fx kM):=
 (.l,rfl,C.E5,C.clos,C.kind,C.names,C.zO,C.shared.mem,λit D CC=>Qy,rfl)
def kO.dict(C:kO E iter scope cl m m₀):zN E (.DictComp kM v [(target,iter,[],0)] scope pos) target iter [] scope cl iter.pos newDict (Lk kM v):=
 (.d,rfl,C.E5,C.clos,C.kind,C.names,C.zO,C.shared.mem,λit D CC=>QI,rfl)
def wJ(Z:Bs)(n:Nat)(E:Env)(target:Expr)(scope:sq)(cl:List (Str×aW))(m₀:Loc)(g0:bD)(i:aW->Env->bf->Loc->(bf->Prop)->Prop)(ae:aW->bf->Prop)(f:bf)(aH:List AV)(e:iD):=
 ∀D C,Above f D->∃I:Nat->bf->Prop,I 0 (aB (iD.out e f) D g0)/\
  (∀k a c,aH[k]?=Y a->I k c->As Z n (dY scope cl C E) target a c m₀ λh d=>(∀x a,m₀.lookup x=Y a->d.lookup x=Y a)/\i D (dY scope cl C E) h d λg=>I (k+1) g)/\
  (∀c,I aH.length c->ae D (iD.back e c))
def wJ.cmp(h:wJ Z n E target scope cl m₀ g0 El ae T aH eu)(i:∀D ev O m P,El D ev O m P->Em Z n ev (body (!D) ev) O m P):KS Z n E target scope cl m₀ g0 body ae T aH eu:=λD C u=>by let(I,y,J,M):=h D C u;refine dc I y (λk a G j p=>?_) M;intro U s A v o H q S;show aG (J k a G j p U s A v o H q S) (λ_ s' z=>by let(U',Q,d,g,c,HD,f,t):=z;show(U',Q,d,g,c,HD,f,i _ _ _ _ _ t)) λ_ _ e=>e
@[ext]abbrev TQ(Z:Bs)(n:Nat)(kM:Expr):aW->Env->bf->Loc->(bf->Prop)->Prop:=λD ev O m P=>Ev Z n ev kM O m λb a=>∃i xs,b=.int i/\a D=Y (.set xs)/\xs.length<=4000/\P (aB a D<|.set<|ff xs i)
@[ext]abbrev FA(Z:Bs)(n:Nat)(kM:Expr):aW->Env->bf->Loc->(bf->Prop)->Prop:=λD ev O m P=>Ev Z n ev kM O m λb a=>∃l,a D=Y (.list l)/\l.length<=1000000/\P (aB a D<|.list<|l++[b])
abbrev Ll(Z:Bs)(n:Nat)(kM c:Expr):=λD ev O m P=>Tt Z n ev c O m λb a=>if b=L then FA Z n kM D ev a m P else P a
@[ext]abbrev Nr(Z:Bs)(n:Nat)(k v:Expr):aW->Env->bf->Loc->(bf->Prop)->Prop:=λD ev O m P=>Ev Z n ev k O m λa e=>Ev Z n ev v e m λb d=>∃c l,a.td=Y c/\d D=Y (.dict l)/\l.length<=1000000/\P (aB d D<|.dict<|bl l c b)
def QP(h:Ll Z n kM c D ev O m P):Em Z n ev (Fy kM c (!D) ev) O m P:=Ϝ (by
 intro U s A g H d;refine aG (h U s A g H d) (λb p f=>?_) λ_ _ e=>e;let(o,k,i,j,a):=f;refine(o,k,i,j,?_);clear h H d;induction b with|true=>simp only[if_true] at a⊢;show I8 a|false=>simpa using a)
def FC:kl Z.prog Z.w U (.set []) (cf Z.w):=pf Z.w
def FD(s:aZ)(A:iJ)(Q:Value->aZ->Prop)(h:Q (!↥s) (s<*s.heap.push (cf Z.w))):aN (~~~Z) A (newSet<|.type "set") Q mj s:=AS h
def xN(s:aZ)(A:iJ)(Q:Value->aZ->Prop)(h:Q (!↥s) (s<*s.heap.push (listOf #[] 0))):aN (~~~Z) A (newList []) Q mj s:=wpAny_newList h
def C7(s:aZ)(A:iJ)(Q:Value->aZ->Prop)(h:Q (!↥s) (s<*s.heap.push e7)):aN (~~~Z) A newDict Q mj s:=cR h
def Nt(C:kO E iter scope cl m m₀)(h:Ev Z n E iter O m λx a=>Au Z n target x a λaH c=>wJ Z n E target scope cl m₀ (.set []) (TQ Z n kM) (λD f=>Q (!D) f) a aH c):Ev Z n E (.SetComp kM [(target,iter,[],0)] scope pos) O m Q:=
 S8 C.set C.fr FD rfl (λU=>FC) (h.mono λx a T=>T.mono λaH c e=>(e.cmp λD ev O m P d=>Td d))
def Ln(C:kO E iter scope cl m m₀)(h:Ev Z n E iter O m λx a=>Au Z n target x a λaH c=>wJ Z n E target scope cl m₀ (.dict []) (Nr Z n kM v) (λD f=>Q (!D) f) a aH c):Ev Z n E (.DictComp kM v [(target,iter,[],0)] scope pos) O m Q:=
 S8 C.dict C.fr C7 rfl (λU=>pg) (h.mono λx a T=>T.mono λaH c e=>(e.cmp λD ev O m P d=>O6 d))
def zU:kl Z.prog Z.w U (.list []) (listOf #[] 0):=(#[],0,rfl,.nil)
def C8(C:kO E iter scope cl m m₀)(h:Ev Z n E iter O m λx a=>Au Z n target x a λaH c=>wJ Z n E target scope cl m₀ (.list []) (FA Z n kM) (λD d=>∃l,d D=Y (.list l)/\Q (.lst l) (cD d D)) a aH c):Ev Z n E (.ListComp kM [(target,iter,[],0)] scope pos) O m Q:=
 Xp C.list C.fr xN rfl (λU=>zU) (h.mono λx a T=>T.mono λaH c o=>(by intro D CC k;let(I,e,i1,i2):=(o.cmp (body:=Fx kM) λD ev O m P j=>I8 j) D CC k;show(I,e,i1,λp i=>by let(l,g,f):=i2 p i;show(.lst l,_,.inr (l,g,rfl,rfl),f))))
def G9(q:kI (.SetComp kM [(target,iter,[],0)] scope pos) (Y<|.Name x d) s.line E=pure L)(C:kO E iter scope cl m m₀)(h:Ev Z n E iter O m λy c=>Au Z n target y c λaH e=>wJ Z n E target scope cl m₀ (.set []) (TQ Z n kM) (λD p=>As Z n E (.Name x d) (!D) p m λa f=>Q .next a f) c aH e):xo Z n E (.Assign [.Name x d] (.SetComp kM [(target,iter,[],0)] scope pos) s) O m Q:=
 zP C.set C.fr FD rfl (λU=>FC) q (λu=>rfl) (h.mono λy c T=>T.mono λaH e o=>(by intro D CC k;let(I,g,i1,i2):=(o.cmp (body:=setBody kM) λD ev O m P j=>Td j) D CC k;show dc I g i1<|λa i=>(jo (!D) _ (.inl (rfl,rfl))<|i2 a i)))
def FE(q:kI (.DictComp kM v [(target,iter,[],0)] scope pos) (Y<|.Name x d) s.line E=pure L)(C:kO E iter scope cl m m₀)(h:Ev Z n E iter O m λy c=>Au Z n target y c λaH e=>wJ Z n E target scope cl m₀ (.dict []) (Nr Z n kM v) (λD p=>As Z n E (.Name x d) (!D) p m λa f=>Q .next a f) c aH e):xo Z n E (.Assign [.Name x d] (.DictComp kM v [(target,iter,[],0)] scope pos) s) O m Q:=
 zP C.dict C.fr C7 rfl (λU=>pg) q (λu=>rfl) (h.mono λy c T=>T.mono λaH e o=>(by intro D CC k;let(I,g,i1,i2):=(o.cmp (body:=Lk kM _) λD ev O m P j=>O6 j) D CC k;show dc I g i1<|λa i=>(jo (!D) _ (.inl (rfl,rfl))<|i2 a i)))
def FF(t:kI (.ListComp kM [(target,iter,[],0)] scope pos) (Y<|.Name x d) v.line E=pure L)(C:kO E iter scope cl m m₀)(h:Ev Z n E iter O m λy c=>Au Z n target y c λaH e=>wJ Z n E target scope cl m₀ (.list []) (FA Z n kM) (λD f=>∃l,f D=Y (.list l)/\As Z n E (.Name x d) (.lst l) (cD f D) m λa g=>Q .next a g) c aH e):xo Z n E (.Assign [.Name x d] (.ListComp kM [(target,iter,[],0)] scope pos) v) O m Q:=
 zP C.list C.fr xN rfl (λU=>zU) t (λu=>rfl) (h.mono λy c T=>T.mono λaH e s=>(by intro D CC q;let(I,i,i1,i2):=(s.cmp (body:=Fx kM) λD ev O m P p=>I8 p) D CC q;show(I,i,i1,λa o=>by let(l,k,j):=i2 a o;show(.lst l,_,.inr (l,k,rfl,rfl),j))))
end
section
variable{Z:Bs}{O:bf}
def H_(Z:Bs)(O:bf)(c:AV)(name:Str)(f:Value):=
 ∀U s A v a (Q:Value×List Value->aZ->Prop) (az:Value->aZ->Prop),St Z U O s->cH U c v->Q (f,[]) {s with toks:=s.toks+1}->aN (~~~Z) A (getMethod v name a) Q az s
def TR(hb:kG o=L)(j:args.all cn=L)(z:args.length+1<30)(hl:(f.endLine==pos.line)=L)(h:Ev Z n E o O m λc d=>∃g,H_ Z d c name g/\kK Z.K g=L/\Qg Z n E args d m λas y=>Cl Z n g as [] y Q):Ev Z n E (.Call (.Attribute o name f) args [] pos) O m Q:=λU s A k H hF=>by
 show aN _ _ (do
  let c<-uh o name E (eval o E)
  cN f.atName
  methodCall o name f pos E c (args.length+([]:List qj).length) (uf pos<|kz args E) (qG pos<|j6 [] E)) _ _ _
 rw[l5 hb];refine af (fw (h U s A k H hF) λu s1 q c d g1 v hu I=>?_);let(g,hg,So,J):=I;refine af<|aR ?_;let i:([]:List qj).all (·.arg.isSome)=L:=rfl
 let Sr:sJ (args.length+([]:List qj).length) (uf pos<|kz args E) (qG pos<|j6 [] E)=L:=by
  delta sJ
  rw[eW pos i]
  let J:(uf pos<|kz args E).all (λx=> not x.1)=L:=by rw[ct];intro x T;have:=tK.mp (eV (E:=E) j pos) x T;simpa using this
  rw[J];simp only[zC,decide_eq_true_eq,D4];split<;>(first|exact afr z|exact afs z)
 delta methodCall
 rw[Sr];refine af<|aJ ?_
 delta calleeOf
 rw[bj rfl];calc hg q s1 A u _ _ _ v hu;let a:=g1.trans<|bV.toks (U:=q) (O:=d) (s:=s1)<|s1.toks+1;let D:ui L o E f pos=pure pos:=by delta ui;simp[hl]
 refine af<|fU D ?_;refine nQ (K:=Z.K) So (eV j pos) (eW pos i)<|nM (eV j pos) (eW pos i) ?_;refine Qc (J q _ A pos k (v.toks<|s1.toks+1)<|hF.grow a) λvs C U2 as y g2 t G M=>tL (t.wC,?_);show aG (M U2 C A vs [] k t G rfl .nil) (λ_ _ p=>(p.after g2).after a) λ_ _ e=>e
def QQ(I:Inst O x C u bJ)(e:lQ Z.K C=L)(hh:hasDictIn Z.K C=L)(d:jz Z.K (!C) name=Y (Y !p))(m:wx Z.K (!p)=Y (.type "staticmethod"))(a:specialIn Z.K (!p) "__get__"=Y (Y<|.builtin "staticmethod.__get__"))(j:takesIn Z.K (!p)=Y au)(q:copiedNames.contains name=au)(o:bJ.lookup name=R)(n:recIn Z.K p "staticmethod"=Y (fv::c))(S:BI fv=L):H_ Z O (!x) name fv:=λU s A v t Q az H k h=>by
 let rfl:=k.bU;let(es,ep,J,M,f):=H.inst I;simp only[lQ,bW,beq_iff_eq] at e;let((((i,g),D),z),y):=e
 show method_usual (r:=Y !p) H.wC f i g d (by simp only[Option.all_some,m,Option.any_some];decide+kernel)
  (get_bind H.wC f i (findObj_fn hh d a j q<|xu M o) g
   (pL<|sm_get (s:={s with toks:=s.toks+1}) (H.toks _).wC n<|handed_on S h))
end
def TU(k:iZ f=L)(i:cn arg=L)(p:fV n A)(H:St Z U O s)(hF:cb U O E m s)(h:Ev Z n E f O m λfv y=>fv=.raw g/\kK Z.K g=L/\Ev Z n E arg y m ae)(I:∀e c a d v,bV U O s e d c->St Z e d c->cH e a v->ae a d->aN (~~~Z) A (call g [v]) Q mj c):aN (~~~Z) A (eval (.Call f [arg] [] pos) E) Q mj s:=by
 rw[yI k];refine af (fw (h U s A p H hF) λu z U1 a y q eg D C=>?_);clear f k h;let(G,So,J):=C;subst G;let rfl:=D.bU;let o:[arg].all cn=L:=by simp[i]
 let j:([]:List qj).all (·.arg.isSome)=L:=rfl
 refine nQ (K:=Z.K) So (eV o pos) (eW pos j)<|nM (eV o pos) (eW pos j) ?_;rw[tW i];refine spliced_cons (fw (J U1 z A p eg<|hF.grow q) λv c e b d g2 t T M=>?_);refine spliced_nil<|tL (t.wC,?_);show I e c b d v (q.trans g2) t T M
abbrev Ba(l:List AV):List AV:=(bO l.length).map λi:Nat=>.tup [.int (i:Int),l.getD i .none]
def H8{k:Nat}(h:(Ba l)[k]?=Y a):∃x,l[k]?=Y x/\a=.tup [.int k,x]:=by
 delta Ba at h
 rw[bb] at h
 induction c:(bO l.length)[k]? with
 |none=>rw[c] at h;cases h
 |some i=>
  rw[c] at h;let d:k<l.length:=by have:=(aL.mp c).1;simpa using this
  rw[jI d] at c;replace c:=ax c;subst c;calc aC (l[k]) (b9 d);simp at h;rw[<-h,b9 d];rfl
def TV{x1}(S:ck uM as aH.toList)(i:e≠it)(p:l≠e)(KJ:l≠it):OJ Z uM (.Tuple elts x1 pos) e (Ba as) [e,it,l] [e,it] (λk h=>(∃c,IsEnum h e it (k:Nat) c)/\h.IsListIter it l k/\h.IsList l aH) where
 sub:=by intro a;simp;intro h;rcases h with h|h<;>simp[h]
 live:=λk h f b d=>by
  let((c,J),(t,M,_),(j,h3,_)):=f;simp only[aS,aM,or_false] at d;clear S i p KJ;rcases d with rfl|rfl|rfl
  .show(_,J)
  .show(t,M)
  .show(j,h3)
 frame:=λk h I f u=>by let((c,J),(t,M,r2),(j,h3,r3)):=f;show(bt (c,u e (aQ ..) _ J) (t,u it (by simp) _ M,r2) (j,u l (by simp) _ h3,r3))
 again:=λk U O s n A Q az E H f hq=>by let((c,J),_,_):=f;let D:s.TypeIs (!e) "enumerate":=(_,J,rfl);refine fI D il<|bN il D rd ?_<|qK _;show aj<|aC _ rfl<|fX ("enumerate") _ D rM.lookup hq
 step:=λk a U O s n A ha E hU H m f=>by
  let((c,J),M,h3):=f;let(x,T,rfl):=H8 ha;let(v,km,o4):=S.get T;rw[bA] at km;let hwe:=m e<|aQ ..;let g:=m it (by simp);refine wpAny_pyNext_enum_item J M h3 km i λI y lR Qq jC gH=>(aC _ rfl ?_);refine wpAny_letOwnedTupleGo_enum (s:={s with heap:=I,toks:=s.toks+1}) y λG akh Qr=>?_;let fM:e<↥s:=aU J;let aki:it<↥s:=by let(_,q,_):=M;show aU q
  let nY:∀b o,b≠e->b≠it->s.heap.get? b=Y o->G.get? b=Y o:=λb o d C q=>Qr.extBut b o d<|gH b o d C q;let key:=H.ZC (tk:=s.toks+1) m (λb d=>(aS.mp d).elim (λq=>q▸fM) λq=>aV.mp q▸aki) (λb x d=>nY b x (λq=>d<|q▸.head _) λq=>d<|q▸.tail _ (.head _))<|Qr.extBut _ _ (kh fM) Qq;show(_,(bt (v,by exact_mod_cast akh) (lR.extBut Qr.extBut<|aE i)<|h3.elim λj q=>(j,nY l j p KJ q.1,q.2)),key.2,key.1,.tup B6<|.cons (.int ..)<|.cons ((o4.mono hU).mono key.2.bC) .nil)
 stop:=λU O s n A E H m f=>by
  let((c,J),M,h3):=f;let g:=m it (by simp);let cL:(Ba as).length=aH.size:=by rw[Ba,cE,List.length_range,S.length,aD]
  show wpAny_pyNext_enum_end E.handled J M h3 (by rw[cL];simp) λI T=>(bt rfl (λ_ _ h=>h,λb o d q1 q2 q3=>(bt (T b o (λz=>d<|by simp[z]) q1) q2 q3),λ_ _ h=>h,rfl)<|H.qp g.1 g.2 T s.toks)
def TX{n:Nat}{arg:Expr}{K:List AV->iD->bf->Prop}{x1}(hf:iZ f=L)(hs:cn arg=L)(h:Ev Z n E f O m λfv bh=>fv=.raw (.type "enumerate")/\kK Z.K (.type "enumerate")=L/\Ev Z n E arg bh m λa j=>∃l,a=.lst l/\K (Ba l) R j):EvI Z n E (.Tuple elts x1 tp) (.Call f [arg] [] pos) O m K:=λU s A hR H T=>by
 refine af (TU hf hs hR H T h λp c a j v G I S hq=>?_);let(l,rfl,hK):=hq;let(al,aH,c0,rfl,û,ri):=S.lst_inv;let y:=(I.bC _ _ û).1;refine call_enumerate_list (_,y,rfl,c0,rfl) λD Q t jC z=>?_;rw[rA rfl];refine af<|aj<|af<|aR<|aJ ?_;let C:gz (c<*D) (!(↥c+1)) "enumerate":=(_,Q,rfl);refine fI C il<|bN il C rd ?_<|qK _;refine aj<|aC _ rfl<|fX ("enumerate") _ C rM.lookup ?_;let fM:=aU y;let k:bV p j c p j (c<*D):=bV.keeps z c.toks;let oZ:St Z p j (c<*D):=I.keeps z c.toks;let BU:=(T.grow G).grow k
 let EE:∀b,↥c<=b->c.heap.get? b=R:=λb i=>by
  induction q:c.heap.get? b with|none=>rfl|some o=>show absurd (aU q) (jy.mpr i)
 let ES:∀b,↥c<=b->(∀o,s.heap.get? b=Y o->U b=R->O b=R->False)/\p b=R/\j b=R/\¬HB E b:=λb i=>by
  let u:=EE b i;refine ek (λo J q2 q3=>?_) ?_ ?_ (λM=>?_)
  .have:=(G.keep b o J q2 q3).1;show cA u this
  .induction q:p b with
   |none=>rfl
   |some o=>have:=(I.bC _ _ q).1;show cA u this
  .induction q:j b with
   |none=>rfl
   |some o=>let(o',J,_):=I.own _ _ q;show cA u J
  .let(o,q):=(T.grow G).live M;show cA u q
 refine(_,_,[↥c+1,↥c,al],[↥c+1,↥c],_,R,p,j,rfl,TV ri (by simp) (bX<|oj fM)<|bX fM,(bt (.none,Q) t (_,z _ _ y,rfl,c0,rfl)),G.trans k,oZ,(λd g e=>by cases e),λb i=>?_,λb i=>?_,hK)
 .simp only[aS,aM,or_false] at i;rcases i with rfl|rfl
  .show ES _<|lM _
  .show ES _<|dH _
 .simp only[aS,aM,or_false] at i⊢;clear l hK ri S y D Q t jC z C fM k oZ BU;rcases i with rfl|rfl|rfl
  .show .inr<|.inl<|.inl rfl
  .show .inr<|.inl<|.inr rfl
  .show .inl (_,û)
def FG(I:Inst O x C z bJ)(d:jz Z.K (!C) "__contains__"=Y (Y !f))(o:isFn Z.K (!f)=L)(h:Cl Z n (!f) [.ref x,a] [] O λr c=>∃b,r=.bool b/\Q (.bool<|not b) c):pb Z n .NotIn a (!x) O Q:=λU s A u v q H j S=>by
 let rfl:=S.bU;let(es,ep,J,M,h3):=H.inst I;calc af;
 delta contains
 refine aJ<|af<|af<|h3.type.here<|(looks_findIn H.wC d).here ?_;rw[aK (λe=>by injection e)];refine af<|unlessNone_K H.wC h3 d o ?_;refine fw (h U s A [.ref x,u] [] q H (.cons (.raw _)<|.cons j .nil) rfl .nil) λr y t D c g' i k g=>?_;let(b,p,m):=g;subst p;let rfl:=k.bU;show oh<|aj (t,.bool<|not b,c,g',i,.raw _,m)
def xO(I:Inst O x C y bJ)(g:jz Z.K (!C) "__len__"=Y (Y !f))(p:wx Z.K (!f)=Y (.type "function"))(h:Cl Z n (!f) [.ref x] [] O λr a=>∃i:Int,r=.int i/\0<=i/\i<2^63/\Q ⇑i a):Cl Z (n+1) (.builtin "len") [.ref x] [] O Q:=Cl.r1 λU s A q H=>by let(es,ep,J,M,t):=H.inst I;calc tn kind_len plain_len entry_len (args_len1 _);unfold cK.«len»;refine af (m:=oneArg "len" _)<|aj ?_;refine af (m:=oQ (!x)<|ah "__len__") (special_fn H.wC t g p<|fw (h U s A.in1 [.ref x] [] q.in1 H (.cons (.raw _) .nil) rfl .nil) λr v u z a g' d j c=>?_);let(i,o,e,i1,k):=c;subst o;let(tk,rfl):=j.int_inv;refine af<|aJ<|aj ?_;refine af<|yy ?_;show aN _ _ (if i<0 then _ else _) _ _ _;rw[aK (aft e)];show aN _ _ (if i>=2^63 then _ else _) _ _ _;rw[aK (n? i1)];show af<|Dw<|aj (_,rfl,u,.int i,a,g'.trans<|bV.toks _,d.toks _,.int ..,k)
section
variable{Z:Bs}{n:Nat}{E:Env}{O:bf}{m:Loc}
def Nu{prog:mL}{w:cC}{A:iJ}{az:Value->aZ->Prop}{s:aZ}{K:Type}[DecidableEq K]{knd:KeyKind prog w K}{it d a:aW}{i ep:Nat}{bJ:List (K×Value)}{ok k:Value}{Q:Option Value->aZ->Prop}(hh:A.handled=R)(c:IsItemIterOut s.heap it d i bJ.length ep ok k a) (o:s.heap.DictAt knd d bJ ep)(T:bJ[i]?=R)(hQ:∀g,qE it s.heap g->Q R (s<*g)):aN (bw prog w) A (uj !it) Q az s:=by
 let(od,es,j,u,h,y,p,v):=id o;let e:s.TypeIs (!it) "dict_itemiterator":=(_,c,rfl);let f:es.size=bJ.length:=by rw[<-p.length];show rfl
 let q:es.size<=i:=by rw[f];simpa using T
 let t:rf "dict_itemiterator"=L:=by decide
 delta uj
 refine af<|um<|dU (name:=ah "__next__") e mD<|bN mD e PySem.F.entry_dict_itemiterator_next ?_<|PySem.F.args_dict_itemiterator_next_1 _;refine af<|aj<|af<|af ?_
 first|refine af (pQ e<|aj ?_)|refine af (tw e<|aj ?_)
 refine af<|lK c rfl ?_;rw[bj t];show aN _ _ (if(jc d==gk)=L then _ else _) _ _ s;rw[aK (show¬((jc d==gk)=L) from aI)];refine af<|aj<|af<|lh j h ?_;rw[aK (by rw[f];simp)];refine af<|aj<|af<|wpAny_dictEpoch j h ?_;rw[aK (by simp)];calc aj;simp only[show¬((i:Int)<0) from k?,if_false,oU,oP q];calc af;
 first|refine af (pQ e<|aj ?_)|refine af (tw e<|aj ?_)
 show aN _ _ (setField (!it) 2 .none>>=_) _ _ s;refine af (wpAny_setField c rfl (by simp) ?_);show aN _ _ (GC (.type "StopIteration") []>>=_) _ _ _;calc af;simp only[GC,newTuple];refine af (cR ?_<|by size_fits);refine af (m:=iL _ _) (fU (a:=gk) (by first|rfl|(delta iL;rfl)) ?_);refine cR ?_ (by size_fits)
 delta GD
 refine af<|uo ?_;rw[show A.in1.handled=R from hh];refine af<|aj<|yo ?_;refine af<|ed (T:="StopIteration") (b:=L) (_,aO _ rfl,rfl) yp ?_;show aj<|hQ _<|((cY ..).extBut.push _).push _
def QR{c:Expr}{k:Nat}{pos:Pos}{d:aW}{g:K0}{a:AV}{Q:bf->Loc->Prop}(π:cn c=L)(hd:O d=Y (.dict [(g,a)]))(h:As Z n E c (.tup [EW g,a]) O m Q):As Z n E (.Tuple [c] k pos) (.obj<|pe d) O m Q:=λU s A v C H hF S=>by
 refine hide λ_ kP=>?_;let(f,rfl,hU):=S.Ay;let(dN,hD,z):=H.dict hd;let(ep,y):=hD.dictAt;let(od,es,t,_):=id y;let D:s.heap.get? f=Y (pe d):=(H.bC _ _ hU).1;let(x,j,ϧ):=z.WG (i:=0) (k:=g) (a:=a) rfl;let cL:dN.length=1:=by rw[<-z.len];rfl
 calc kP;rw[arm_assign_Tuple];refine af<|aR ?_
 delta unpack
 rw[mE π];show aN _ _ (eD [.ref f] (DB (!f) 1 R)>>=λxs=>qi [CA c E] xs) _ _ s;refine af<|aJ ?_
 delta DB
 calc af;
 delta notIterableAtAll
 refine af<|kA (T:="dict_items") (_,D,rfl) PySem.F.slot_dict_items_iter.lookup ?_;refine aj<|Ax aI<|af<|aJ<|An (v:=f) (_,D,rfl,rfl) y ?_;let Pa:∀b o,s.heap.get? b=Y o->(s.heap.push {cls:=.type "dict_itemiterator",data:=.fields #[.none,.bool au,.ref d,.int 0 0,.int dN.length 0,.int ep 0,.none,.none]}).get? b=Y o:=λb o e=>aF _ e;let I:=y.at' λo e=>Pa d o e;let de:d≠↥s:=bX<|aU t;refine af<|aJ ?_;refine af (vl (s:={s with heap:=s.heap.push _}) (i:=0) (aO _ rfl) I j λkey h' zL lR G jC gH=>?_);dsimp only;refine af<|aJ ?_;refine aj<|aj ?_;refine af (aJ<|Nu (s:=(s<*h')) (i:=0+1) C.handled lR (I.at' λo e=>gH d o de e) (by simp[cL]) λM J=>?_);refine Ax aI<|aj ?_;show aN _ _ (qi [CA c E] [.ref (s.heap.push _).objs.size]) _ _ _;refine af<|aJ ?_;let p:(s.heap.push {cls:=.type "dict_itemiterator",data:=.fields #[.none,.bool au,.ref d,.int 0 0,.int dN.length 0,.int ep 0,.none,.none]}).objs.size=↥s+1:=fJ ..;rw[p] at G⊢;let nY:∀b o,s.heap.get? b=Y o->M.get? b=Y o:=λb o e=>J b o (bX<|aU e)<|gH b o (bX<|aU e)<|Pa b o e;let Ϩ:M.get? (↥s+1)=Y {cls:=.type "tuple",data:=.seq #[key,x]}:=J _ _ (by simp) G
 let EE:s.heap.get? (↥s+1)=R:=by
  induction q:s.heap.get? (↥s+1) with|none=>rfl|some o=>show absurd (aU q) (jy.mpr<|lM _)
 let(fY,u):=H.XH nY Ϩ EE s.toks;refine aG (h _ _ A _ C fY (hF.grow u)<|.tup (bj rfl)<|.cons (K0.SO zL)<|.cons (ϧ.mono u.bC) .nil) (λ_ s' p9=>?_) λ_ _ e=>e;show aj<|p9.after u.b
end
def fV.c64(h:fV n A):A.units+64<cLine:=by have:=h.units;simp[cLine];show afu this
def xQ(H:St Z U O s)(h:cH U (.lst<|ns.map AV.int) v):∃a vs,v=.ref a/\s.heap.IsList a vs.toArray/\rJ vs ns:=by
 let(a,aH,k,rfl,d,c):=h.lst_inv;calc fX a aH.toList rfl (_,(H.bC _ _ d).1,rfl,k,by simp);generalize aH.toList=l at c;clear d h
 induction ns generalizing l with
 |nil=>cases c;show .nil
 |cons x ns ih=>
  rw[cj] at c;cases c with|cons T c=>let(t,rfl):=T.int_inv;show .cons _ _<|ih _ c
def Pb{ms:List Int}(h:Q (.bool<|decide (ns=ms)) O):pb Z n .Eq (.lst<|ns.map AV.int) (.lst<|ms.map AV.int) O Q:=λU s A u v g H d S=>by let(a,vs,rfl,e,f):=xQ H d;let(b,j,rfl,c,i):=xQ H S;show eq_intsK e f c i g.c64<|dh.now H (.raw _) h
def Jr{ms:List Int}(h:Q (.bool<|not (decide (ns=ms))) O):pb Z n .NotEq (.lst<|ns.map AV.int) (.lst<|ms.map AV.int) O Q:=λU s A u v g H d S=>by let(a,vs,rfl,e,f):=xQ H d;let(b,j,rfl,c,i):=xQ H S;show ne_intsK e f c i g.c64<|dh.now H (.raw _) h
abbrev Js(x:Str):Value->Bool
 |.str y _=>decide (y=x)
 |_=>au
def FI{ss:List Str}(h:Q (.bool<|ss.any λy=>decide (y=x)) O):pb Z n .In (.str x) (.tup<|ss.map AV.str) O Q:=λU s A u v o H i S=>by
 let(t,rfl):=i.str_inv;let(a,aH,k,rfl,m,e):=S.vF
 let key:∀(l:List Value),ck U (ss.map AV.str) l->(∀y∈l,∃z d,y=.str z d)/\l.any (Js x)=ss.any λy=>decide (y=x):=by
  clear h e S
  induction ss with
  |nil=>intro l c;cases c;show(λy hy=>(by cases hy),rfl)
  |cons z ss g=>
   intro l c;rw[cj] at c;cases c with
   |cons hz c=>
    let(d,rfl):=hz.str_inv;let(J,M):=g _ c;refine(λy hy=>?_,congrArg (decide (z=x)||·) M)
    rcases aS.mp hy with rfl|hy
    .show rY _ _ rfl
    .show J y hy
 let(f,k2):=key _ e;calc SeqAt.in_tupleAt (Js x) (items:=aH) (_,(H.bC _ _ m).1,rfl,k,rfl) (λy hy=>?_);
 .let(z,d,rfl):=f y<|Hv.mp hy;intro prog w az Q j;show Cz j
 .rw[show aH.any (Js x)=aH.toList.any (Js x) from CG.symm,k2];show dh.now H (.raw _) h
def Lo(t:dZ op r=L)(y:dZ f g=L)(h:Ev Z n E l O m λa bh=>Ev Z n E r bh m λb bu=>pb Z n op a b bu λc G=>nK Z n c G λk o=>if k=L then Ev Z n E g o m λd IL=>pb Z n f b d IL λe Sv=>nK Z n e Sv Q else Q au o):Tt Z n E (.Compare l [op,f] [r,g] pos) O m Q:=λU s A i H hF=>by
 rw[arm_isTrue_Compare];let hm:∀{op r},dZ op r=L->markedBehindIn op r (eval r E)=eval r E:=fun{op r} y=>by delta markedBehindIn;rw[show qh op r=au by simpa [dZ] using y]
 let z:markedEach [op,f] [r,g] (evalEach [r,g] E)=[eval r E,eval g E]:=by
  let e:evalEach [r,g] E=[eval r E,eval g E]:=rfl;rw[e];let hl:qh f g=au:=by simpa [dZ] using y
  let C:qh op r=au:=by simpa [dZ] using t
  simp[markedEach,lastMarks,markedBehindIn,hl,C]
 rw[z];refine af (fw (h U s A i H hF) λu s1 U1 a bh g1 eg hu J=>?_);refine af (aJ<|fw (J U1 s1 A i eg<|hF.grow g1) λv s2 U2 b bu g2 fY S M=>?_);refine af<|aR<|af<|aJ ?_;refine fw (M U2 s2 A u v i fY (hu.mono g2.bC) S) λc s3 U3 c' G g3 oZ hc h3=>af<|wpAny_release' ?_;refine af (aJ<|Kn (h3 U3 s3 A c i oZ hc) λk s4 U4 o T EH p=>?_);let j:=((g1.trans g2).trans g3).trans T
 induction k with
 |false=>
  simp only[e9,if_false] at p⊢;show aj (U4,o,j,EH,p)
 |true=>
  simp only[if_true] at p⊢;refine af (aJ<|fw (p U4 s4 A i EH<|hF.grow j) λd s5 U5 dd IL I Ms hd h5=>?_);refine af<|aR<|af<|ja ?_;show fw (h5 U5 s5 A v d i Ms (((S.mono g3.bC).mono T.bC).mono I.bC) hd) λe s6 U6 e' Sv g6 w! he h6=>aJ (aG (h6 U6 s6 A e i w! he) (λb s7 ec=>by let(U7,q,g7,D,h7):=ec;show(U7,q,((j.trans I).trans g6).trans g7,D,h7)) λ_ _ e=>e)
def C9(ns:List Int):∀k,k<=ns.length->preSum (λi=>ns.getD i 0) k=(ns.take k).sum:=by
 intro k
 induction k with
 |zero=>intro _;simp[preSum]
 |succ k c=>
  intro a;show preSum _ k+ns.getD k 0=_;rw[c (uG a),fL,b9 (a:k<ns.length),List.sum_append];simp[List.getD,b9 (a:k<ns.length)]
def ϩ{ns:List Int}(h:∀x∈ns,0<=x/\x<=1):0<=ns.sum/\ns.sum<=ns.length:=by
 induction ns with
 |nil=>simp
 |cons x ns a=>
  have:=h x<|aQ ..;have:=a λy c=>h y (by simp[c]);simp only[kJ,jT];show Ο ∎ this
def TY(h:rJ vs ns):vs.length=ns.length:=by
 induction h with|nil=>rfl|cons _ _ _ a=>simp[a]
def H?{ns:List Int}(d:∀x∈ns,0<=x/\x<=1)(hz:ns.length<=1000)(h:Q ⇑ns.sum O):Cl Z n (.builtin "sum") [.lst<|ns.map AV.int] [] O Q:=λU s A vs kv J H S D C=>by
 clear C;let rfl:=ig D;let(v,rfl,t):=uK S;clear S;let(a,vs,rfl,f,g):=xQ H t;let hh:A.in1.handled=R:=J.handled;let k:=TY g;refine call_sum_walk<|tR f ?_;let c:a<↥s:=by let(o,E,_):=f;show aU E
 refine(↥s,_,_,_,_,_,λi=>ns.getD i 0,rfl,Walks.list hh _ a (bX c) vs.toArray,((_,aO _ rfl,rfl,rfl),f.push _),λb d=>?_,λi v S=>?_,λj I=>?_,λM tk t' G=>?_)
 .simp only[aS,aM,or_false] at d;rw[fJ];clear U H vs f g t k;rcases d with rfl|rfl
  .show eE _
  .show oj c
 .show g.int_at i v (by simpa using S)
 .let m:j<ns.length:=by simpa [k] using I
  let p:0<=ns.getD j 0/\ns.getD j 0<=1:=by rw[List.getD,b9 m];show d _<|pN m
  let u:=ϩ (ns:=ns.take<|j+1) λx T=>d x<|qL T;rw[C9 ns (j+1) (m)];have:(ns.take<|j+1).length<=ns.length:=by simp;show Ÿ
  let g1:InLong (ns.getD j 0):=(Ź p,afv p);let g2:InLong (ns.take<|j+1).sum:=(Ź u,afw u this hz);show(g1,g2)
 .let e:preSum (λi=>ns.getD i 0) vs.toArray.size=ns.sum:=by rw[tN,k,C9 ns _<|dH _,jV]
  rw[e]
  let z:∀b o,s.heap.get? b=Y o->M.get? b=Y o:=λb o q=>G b o (λy=>by simp only[aS,aM,or_false] at y;show absurd (aU q)<|by rw[y];show dA _)<|aF _ q
  show dh.keeps H z (.int ..) h tk
def I_(h:Ev Z n E e O m λa f=>nK Z n a f λb c=>Q (.bool<|not b) c):Ev Z n E (.UnaryOp .Not e pos) O m Q:=λU s A d H k=>by
 rw[arm_eval_UnaryOp];refine af (fw (h U s A d H k) λu g y a f p t i J=>?_);refine af<|aR<|aJ ?_
 delta unaryOp
 calc aJ;show aN _ _ (truthy u>>=λb=>pure<|Value.bool<|not b) _ _ _;refine af (Kn (J y g A u d t i) λb z v c o q j=>?_);show aj (v,.bool<|not b,c,p.trans o,q,.raw _,j)
def ck.take:∀(k:Nat) {l:List AV} {vs:List Value},ck U l vs->ck U (l.take k) (vs.take k):=by
 intro k
 induction k with
 |zero=>show λ_=>.nil
 |succ k a=>
  intro l vs h;cases h with|nil=>show .nil|cons h c=>show .cons h (a c)
def Nv{n:Nat}{m:Loc}{k:Nat}{p2:Pos}(ht:∀v r,sM o v r=pure cF)(h:Ev Z n E o O m λa g=>∃l,a=.lst l/\l.length<=1000/\Q (.lst<|l.take k) g):Ev Z n E (.Subscript o (.Slice R (Y<|.Constant ⇑k c p1) R p2) pos) O m Q:=λU s A y H hF=>by
 calc wpAny_Subscript_list_slice (aG (h U s A y H hF) (λu J T=>?_) λ_ _ e=>e);
 .let(U1,a,g,z,D,hu,l,j,hz,hq):=T;subst j;let(al,aH,c0,rfl,j,t):=hu.lst_inv;rw[evalPart_none];refine aj (fw (Sg (Z:=Z) (n:=n) (E:=E) (O:=g) (m:=m) (i:=(k:Int)) (k:=c) (pos:=p1) (Q:=λa bq=>a=.int k/\bq=g) (rfl,rfl) U1 J A y D<|hF.grow z) λvu d U2 b bu g2 C p M=>?_);clear D;let(hb,CY):=M;subst hb CY;let(tk,rfl):=p.int_inv;let hl:=(C.bC _ _<|g2.bC _ _ j).1;let cL:aH.size=l.length:=by rw[t.length,aD]
  calc Iy al aH R (Y (k:Int)) rfl (_,hl,rfl,c0,rfl) (qP dw<|afx cL hz) (.none) (.int ..);rw[slicePick_upto'];let kY:∀b o,d.heap.get? b=Y o->((d.heap.push {cls:=.type "slice",data:=.fields #[.none,.int k tk,.none]}).push {cls:=.type "list",data:=.seq (aH.toList.take k).toArray}).get? b=Y o:=λb o e=>aF _<|aF _ e;let G:(d.heap.push {cls:=.type "slice",data:=.fields #[.none,.int k tk,.none]}).objs.size=↥d+1:=fJ ..;let I:((d.heap.push {cls:=.type "slice",data:=.fields #[.none,.int k tk,.none]}).push {cls:=.type "list",data:=.seq (aH.toList.take k).toArray}).get? (↥d+1)=Y {cls:=.type "list",data:=.seq (aH.toList.take k).toArray}:=by rw[<-G];show aO _ rfl
  let EE:d.heap.get? (↥d+1)=R:=by
   induction q:d.heap.get? (↥d+1) with|none=>rfl|some o=>show absurd (aU q) (jy.mpr<|lM _)
  let(oZ,f):=C.XH kY I EE d.toks;refine(_,.lst<|l.take k,bu,(z.trans g2).trans f,oZ,.lst (bj rfl) ?_,hq);show((t.mono g2.bC).mono f.bC).take k
 .show ht
section
variable{E:Env}
def lF(a:sq)(cl:List (Str×aW))(x0:Str)(C:aW)(E:Env):={dY a cl C E with cells:=(x0,C+1)::cl}
def XS(f:∀k,jb k scope.names cl=(x0,k)::cl)(c:∀h:oX,CO h scope.names=h.push {cls:=.type "cell",data:=.cell R})(h:∀a,a.Ns ↥s (λ_=>R)->(∀b o,s.heap.get? b=Y o->a.get? b=Y o)->a.get? (↥s+1)=Y {cls:=.type "cell",data:=.cell R}->Q {scope:=scope,locals:=↥s,globals:=E.globals,cells:=(x0,↥s+1)::cl,qual:=E.qual,func:=R,code:=E.code,frame:=E.frame,builtins:=E.builtins} (s<*a)):aN h2 A (newFunctionEnv scope E.globals cl [] E.qual R .none (Y E)) Q az s:=by
 simp only[newFunctionEnv,Option.isSome_some,if_true];refine af<|wpAny_alloc ?_;refine af (wpAny_layCells _ (λname kind cells=>by cases d:kind==NameKind.cell<;>simp[d]) _ _ _ _ ?_);rw[f,c];rw[show({s with heap:=s.heap.push {cls:=.type "dict",data:=.dict #[]}}:aZ).heap.objs.size=↥s+1 from fJ ..];simp only[yx];refine af (aj<|aj<|h _ ?_ (λb o e=>aF _<|aF _ e) ?_)
 .show(Heap.Ns.new ..).push _
 .rw[<-fJ s.heap {cls:=.type "dict",data:=.dict #[]}];show aO _ rfl
def QT{n:Nat}{m:Loc}{e target iter:Expr}{ifs:List Expr}{d:sq}{pos p:Pos}{use:Option (Value->Sem Unit)}{m₀:Loc}{body:Value->Env->Sem Unit}{ae:aW->bf->Prop}{QF:Value->aZ->Prop}{x0:Str}{U:Fz}{s:aZ}(hg:CE e)(uD:yW e=[(target,iter,ifs,0)])(D_:mF iter=L)(S7:lL d E=pure cl)(zm:d.kind=.function)(M9:∀x∈d.names,x.2=.local->d.names.lookup x.1=Y .local)(hcf:∀k,jb k d.names cl=(x0,k)::cl)(hpc:∀h:oX,CO h d.names=h.push {cls:=.type "cell",data:=.cell R})(Qx:∀x c,cl.lookup x=Y c->E.cells.lookup x=Y c)(KR:∀x a,m₀.lookup x=Y a->m.lookup x=Y a/\(wz d E).names.lookup x≠Y .local)(hx0:m₀.lookup x0=R)(q!:∀x c,cl.lookup x=Y c->∀a,m.lookup x=Y a->m₀.lookup x=Y a)(AP:∀(s:aZ) (A:iJ) (Q:Value->aZ->Prop),Q (!↥s) (s<*s.heap.push jF)->aN (~~~Z) A l7 Q mj s)(xr:jF.isFreed=au)(uO:∀U,kl Z.prog Z.w U g0 jF)(heq:∀it D C,mB e 0 (!it) (!D) (lF d cl x0 C E)=tY target p e (!it) (!D) (lF d cl x0 C E) (body (!D)<|lF d cl x0 C E))(h:Ev Z n E iter O m λx bh=>Au Z n target x bh λaH eu=>∀D C,bh D=R->∃I:Nat->bf->Prop,I 0 (aB (iD.out eu bh) D g0)/\(∀k a G,aH[k]?=Y a->I k G->As Z n (lF d cl x0 C E) target a G m₀ λjs m1=>(∀x a,m₀.lookup x=Y a->m1.lookup x=Y a)/\Em Z n (lF d cl x0 C E) (body (!D)<|lF d cl x0 C E) js m1 λnr=>I (k+1) nr)/\(∀G,I aH.length G->ae D (iD.back eu G)))(hR:fV n A)(H:St Z U O s)(hF:cb U O E m s)(B9:∀D C f j z t mc,bV U O s z t j->St Z z t j->cb z t E m j->ae D t->j.heap.Ns C mc->z C=R->t C=R->¬HB E C->(∀a o,s.heap.get? a=Y o->U a=R->O a=R->a≠C)->compPost (~~~Z) A mj use QF (!D) C (.ok f) j):aN (~~~Z) A (mC e d E pos l7 au (eval iter E) use) QF mj s:=by
 refine uw uD (λx=>rA D_ x) S7 zm M9 (fw (h U s A hR H hF) λu s1 U1 x bh g1 eg hu J=>Xh (J U1 s1 A u hR eg hu) λit s2 aH fp wr h1 eu U2 hit hJ g2 fY h5 h6 h7 h8=>?_);let zK:=(hF.grow g1).grow g2;refine AP s2 A _ (XS (x0:=x0) hcf hpc λDH uC Pa akp=>hide λ_ kP=>?_);let(I,V6,qo,rz):=h8 ↥s2 (s2.heap.push jF).objs.size fY.bY.2;let i:↥s2<(s2.heap.push jF).objs.size:=by rw[fJ];show eE _
 let TZ:↥s2<(s2.heap.push jF).objs.size+1:=d7 i<|eE _;let lY:∀b o,s2.heap.get? b=Y o->DH.get? b=Y o:=λb o eb=>Pa b o<|aF _ eb;let E4:DH.get? ↥s2=Y jF:=Pa _ jF<|aO _ xr;let(u1,u2):=fY.AU<|kc i;let(u3,u4):=fY.AU<|kc TZ;let v:∀{a b:Nat},a<b->b<a->False:=λJ M=>absurd (d7 J M)<|dA _
 let XT:∀x c,((x0,(s2.heap.push jF).objs.size+1)::cl).lookup x=Y c->(x=x0/\c=(s2.heap.push jF).objs.size+1)\/(x≠x0/\cl.lookup x=Y c):=λx c g=>by
  rw[cq] at g;by_cases q:x=x0
  .rw[beq_iff_eq.mpr q] at g;show .inl (q,(ax g).symm)
  .rw[beq_eq_false_iff_ne.mpr q] at g;show .inr (q,g)
 let Ϫ:∀x c,cl.lookup x=Y c->c<↥s2:=λx c g=>(zK.live<|.inr (x,Qx x c g)).elim λo ho=>aU ho;refine kP (OR (e2:=lF d cl x0 (s2.heap.push jF).objs.size E) hg uD (heq it _ _) hR hF g1 g2 fY hit hJ h5 h6 h7 rfl i rfl rfl lY E4 (uO _) rfl (λb hb T=>?_) (λa ha hw=>?_) Qx ?_ V6 qo rz λf j z t mc=>B9 _ _ f j z t mc)
 .rcases T with e1|⟨x,e1⟩
  .show(v ((show b=(s2.heap.push jF).objs.size from e1)▸hb) i).elim
  .rcases XT x b e1 with⟨_,e2⟩|⟨_,e2⟩
   .show(v (e2▸hb) TZ).elim
   .show(x,e2)
 .rcases hw with e1|⟨x,_,e1|e1⟩
  .show v ((show a=(s2.heap.push jF).objs.size from e1)▸ha) i
  .show nomatch e1
  .show v (show(s2.heap.push jF).objs.size<a from e1)<|d7 ha i
 .refine((bt u1 ((aq<|I6 i).trans (iD.mn u2))<|aC _ uC<|λx a T ex=>absurd T (KR x a ex).2),λx c g=>?_,λx y c T hy=>?_)
  .rcases XT x c g with⟨e1,e2⟩|⟨_,g⟩
   .rw[e2];show(ek u3 ((aq<|I6 TZ).trans (iD.mn u4)) (CP _)<|aC R (_,akp,rfl)<|λa ea=>by rw[e1,hx0] at ea;show nomatch ea)
   .let(q1,q2,_,v',(oc,ho,hd),S):=zK.vJ x c<|Qx x c g;let q3:=aU ho;show ek q1 ((aq<|r7 q3).trans (iD.mn q2)) (r7<|d7 q3 i) (aC v' (oc,lY c oc ho,hd)<|λa ea=>S a (KR x a ea).1)
  .rcases XT x c T with⟨e1,e2⟩|⟨e1,e2⟩<;>rcases XT y c hy with⟨e3,e4⟩|⟨e3,e4⟩
   .show e1.trans e3.symm
   .show(v (e2▸Ϫ y c e4) TZ).elim
   .show(v (e4▸Ϫ x c e2) TZ).elim
   .show hF.inj x y c (Qx x c e2)<|Qx y c e4
end
section
variable{E:Env}{m:Loc}
def Pc(E:Env)(x:Str):=E.scope.kind=.function/\E.kindOf x=Y .cell/\∃c,E.cells.lookup x=Y c/\E.locals<c
def XU(T:Pc E x)(h:Q O ((x,a)::m)):As Z n E (.Name x pos) a O m Q:=λU s A v hR H hF S=>by
 let(hk,k,c,d,fM):=T;show aN _ _ (do cN pos;BJ E x v) _ _ _;refine af<|aR ?_;show aN _ _ (do eD [v] Gz;yU E x v;Gz) _ _ _;let(J,M,m',uC,hl):=hF.loc;let(I,G,D,v',C,c6):=hF.vJ x c d;refine af<|aJ<|nk<|af ?_;refine yh hk k d C λh' vB f=>nk (U,O,_,(λ_ _ e=>e,λb o hb t e2 e3=>?_,rfl),(H.base,λb o e=>?_,λb g e=>?_,H.gens),((bt J M<|aC m' (uC.sameBut f<|aE D)<|λy b p e=>?_),λy u j=>?_,hF.inj),h)
 .show bt ((f.2 b λq=>hb<|.inr<|aC x (q▸d)<|.inr<|q▸fM).trans t) e2 e3
 .let i:b≠c:=eB e I;show((f.2 b i).trans (H.bC b o e).1,(H.bC b o e).2)
 .let i:b≠c:=eB e G;let(o,t,e2):=H.own b g e;show aC o ((f.2 b i).trans t) e2
 .rw[et] at e;by_cases q:y=x
  .subst q;rw[k] at p;show nomatch p
  .rw[aK q] at e;show hl y b p e
 .by_cases q:y=x
  .clear Q h k v' C c6;subst q;rw[d] at j;cases j;refine ek I G D (aC (Y v) vB<|λb e=>?_);rw[et,bj rfl] at e;cases e;show aC v rfl S
  .let(d1,d2,d3,w',hw,d6):=hF.vJ y u j;let i:u≠c:=λz=>q<|hF.inj y x u j<|z▸d;refine ek d1 d2 d3 (aC w' (hw.sameBut f i)<|λb e=>?_);rw[et,aK q] at e;show d6 b e
structure XW(E:Env)(iter:Expr)(scope:sq)(cl:List (Str×aW))(x0:Str)(m m₀:Loc):Prop where
 E5:mF iter=L
 clos:lL scope E=pure cl
 kind:scope.kind=.function
 names:(scope.names.all λx=> not (x.2==.local)||scope.names.lookup x.1==Y .local)=L
 cell:∀k,jb k scope.names cl=(x0,k)::cl
 push:∀h:oX,CO h scope.names=h.push {cls:=.type "cell",data:=.cell R}
 shared:zT E cl
 sub:SubL E scope m m₀
 Xo:XR m₀ cl=L
 own:m₀.lookup x0=R
variable{iter c:Expr}{scope:sq}{cl:List (Str×aW)}{m₀:Loc}{x0:Str}
def Cf(Tc:kI (.ListComp j [(target,iter,[c],0)] scope pos) (Y<|.Name x px) E8.line E=pure L)(K:XW E iter scope cl x0 m m₀)(h:Ev Z n E iter O m λy bh=>Au Z n target y bh λaH M=>∀D C,bh D=R->∃I:Nat->bf->Prop,I 0 (aB (iD.out M bh) D<|.list [])/\(∀k a i,aH[k]?=Y a->I k i->As Z n (lF scope cl x0 C E) target a i m₀ λt m1=>(∀x a,m₀.lookup x=Y a->m1.lookup x=Y a)/\Ll Z n j c D (lF scope cl x0 C E) t m1 λnr=>I (k+1) nr)/\(∀i,I aH.length i->∃l,iD.back M i D=Y (.list l)/\As Z n E (.Name x px) (.lst l) (cD (iD.back M i) D) m λt m3=>Q .next t m3)):xo Z n E (.Assign [.Name x px] (.ListComp j [(target,iter,[c],0)] scope pos) E8) O m Q:=λU s A G H hF=>by
 rw[w9 _ _ _ _ Tc];refine af<|aR<|af ?_;show aN _ _ (do let _<-mC (.ListComp j [(target,iter,[c],0)] scope pos) scope E iter.pos (newList []) au (eval iter E) (Y _)) _ _ _;calc af;
 refine QT (e:=.ListComp j [(target,iter,[c],0)] scope pos) (p:=iter.pos) (m₀:=m₀) (g0:=.list []) (jF:=listOf #[] 0) (body:=Fy j c) (ae:=λD bq=>∃a J,OS D bq a J/\As Z n E (.Name x px) a J m λi m2=>Q .next i m2) (QF:=λ_ s'=>aN (~~~Z) A (pure cF) (λ_ s'=>aN (~~~Z) A (pure vh) (xm Z E U O s Q) mj s') mj s')
  .l rfl K.E5 K.clos K.kind (λy hy hl=>?_) K.cell K.push (λy d hc=>K.shared.mem _<|I7 hc) (λy a hy=>?_) K.own (λy d hc a z=>?_) xN rfl (λU=>zU) (λit D C=>Li)
  (h.mono λy bh T=>T.mono λaH M h9 D C hD=>?_) G H hF
  λD C f s' U' bq mc hG rQ HD ⟨a,J,hh,hq⟩ uC hU CY hn u=>?_
 .have:=ct.mp K.names y hy;rw[hl] at this;simpa using this
 .have:=K.sub.mem _<|yO hy;show(this.1,λq=>by rw[q] at this;simp at this)
 .let(b,hb):=bp.mp<|ct.mp K.Xo _<|I7 hc;have:=(K.sub.mem _<|yO hb).1;rw[show m.lookup y=Y b from this] at z;cases z;show hb
 .let(I,i0,i1,i2):=h9 D C hD;refine(I,i0,λk a i z hi=>?_,λi hI=>by let(l,hl,hq):=i2 i hI;show(.lst l,_,.inr (l,hl,rfl,rfl),hq));intro U s A v G H hF S;show aG (i1 k a i z hi U s A v G H hF S) (λ_ s' ec=>by let(U',bq,m',g,rQ,HD,hk,hE):=ec;show(U',bq,m',g,rQ,HD,hk,QP hE)) λ_ _ e=>e
 .let(Nb,hle,Ta,S,Xq,wZ):=E7 hh rQ HD;let(Tb,KU):=wZ C hU CY;let V9:bV U O s Nb J s':=(λb o e=>hle _ _<|hG.bC _ _ e,λb o e1 e2 e3=>by let(q1,q2,q3):=hG.keep b o e1 e2 e3;show bt q1 ((wZ b q2 q3).1)<|(wZ b q2 q3).2,hG.os);refine Ko (hq Nb s' A _ G Ta Xq S) λ_ s3 U3 t m3 g3 oZ BU hq3=>?_;let(oC,es,ep,hoC,rC):=id uC;let(k1,k2,k3):=g3.keep C oC (λq=>hn q.fr) hoC Tb KU;refine aC mc (oC,es,ep,k1,rC) (λh' hs=>?_);let(r1,r2,r3):=KQ (V9.b.trans g3) oZ BU k2 k3 hn u hs;show aj<|aj (U3,.next,t,m3,r1,r2,r3,trivial,hq3)
end
def gj:Slot "filter" "__next__" "filter.__next__":=
 .of (owner:="filter") (n:="__next__") (by rw[eA,cU];kernel_rfl) (by lk) (by lk) (by lk)
  (by first|exact .inl (by lk)|exact .inr (by lk)) (by rw[bM];kernel_rfl)
def uU:Slot "filter" "__iter__" "filter.__iter__":=
 .of (owner:="filter") (n:="__iter__") (by rw[eA,cU];kernel_rfl) (by lk) (by lk) (by lk)
  (by first|exact .inl (by lk)|exact .inr (by lk)) (by rw[bM];kernel_rfl)
def t7:Slot "map" "__next__" "map.__next__":=
 .of (owner:="map") (n:="__next__") (by rw[eA,cU];kernel_rfl) (by lk) (by lk) (by lk)
  (by first|exact .inl (by lk)|exact .inr (by lk)) (by rw[bM];kernel_rfl)
def zr:Slot "map" "__iter__" "map.__iter__":=
 .of (owner:="map") (n:="__iter__") (by rw[eA,cU];kernel_rfl) (by lk) (by lk) (by lk)
  (by first|exact .inl (by lk)|exact .inr (by lk)) (by rw[bM];kernel_rfl)
def tE:lJ ym "filter.__next__"=Y cK.«filter.__next__»:=iB ⋯
def FJ:lJ ym "map.__next__"=Y cK.«map.__next__»:=iB ⋯
def Cg:lJ ym "filter.__new__"=Y cK.«filter.__new__»:=iB ⋯
def Ha:lJ ym "map.__new__"=Y cK.«map.__new__»:=iB ⋯
def Bb:lJ ym "filter.__iter__"=Y cK.«dict_keyiterator.__iter__»:=oO (id':="dict_keyiterator.__iter__") ⋯ rfl (by lk) ⋯
def FK:lJ ym "map.__iter__"=Y cK.«dict_keyiterator.__iter__»:=oO (id':="dict_keyiterator.__iter__") ⋯ rfl (by lk) ⋯
def Ci(a:Value):mX "filter.__next__" ([a],[]):=by unfold mX;kernel_rfl
def Hb(a:Value):mX "map.__next__" ([a],[]):=by unfold mX;kernel_rfl
def Cj(a:Value):mX "filter.__iter__" ([a],[]):=by unfold mX;kernel_rfl
def Hc(a:Value):mX "map.__iter__" ([a],[]):=by unfold mX;kernel_rfl
def Ck:Slot "filter" "__init__" "object.__init__":=
 .of (owner:="object") (n:="__init__") (by rw[eA,cU];kernel_rfl) (by lk) (by lk) (by lk)
  (by first|exact .inl (by lk)|exact .inr (by lk)) (by rw[bM];kernel_rfl)
def Hd:Slot "map" "__init__" "object.__init__":=
 .of (owner:="object") (n:="__init__") (by rw[eA,cU];kernel_rfl) (by lk) (by lk) (by lk)
  (by first|exact .inl (by lk)|exact .inr (by lk)) (by rw[bM];kernel_rfl)
def FL:mroOf (.type "filter")=pure [.type "filter",.type "object"]:=by rw[mroOf_type];kernel_rfl
def Pd:mroOf (.type "map")=pure [.type "map",.type "object"]:=by rw[mroOf_type];kernel_rfl
def Bc:Ak (.type "filter") "__new__"=pure (Y<|.builtin "filter.__new__"):=by rw[eA,cU];kernel_rfl
def FN:Ak (.type "map") "__new__"=pure (Y<|.builtin "map.__new__"):=by rw[eA,cU];kernel_rfl
def He:TypeCalled "filter" "filter.__new__" "object.__init__":=
 (by lk,by lk,(_,_,FL),madeBy_type FL Bc (by lk),by lk,by rw[bM];kernel_rfl,Ck)
def Nw:TypeCalled "map" "map.__new__" "object.__init__":=
 (by lk,by lk,(_,_,Pd),madeBy_type Pd FN (by lk),by lk,by rw[bM];kernel_rfl,Hd)
def DO(a b:Value):uu "filter" ([a,b],[])=pure cF:=⋯
def FO(a b:Value):iC "filter.__new__" ([.type "filter",a,b],[])=pure cF:=⋯
def Jt(a b:Value):uu "map" ([a,b],[])=pure cF:=⋯
def Lp(a b:Value):iC "map.__new__" ([.type "map",a,b],[])=pure cF:=⋯
def args_object_init_3(o a b:Value):mX "object.__init__" ([o,a,b],[]):=by unfold mX;kernel_rfl
def Nz:nq (.type "filter") (.type "filter")=pure L:=by rw[bM];kernel_rfl
def XX:nq (.type "map") (.type "map")=pure L:=by rw[bM];kernel_rfl
def Lq:nq (.type "map") (.type "set")=pure au:=by rw[bM];kernel_rfl
def Be:nq (.type "map") (.type "frozenset")=pure au:=by rw[bM];kernel_rfl
section
variable{Z:Bs}{n:Nat}{E:Env}{O:bf}{m:Loc}
structure Sp(prog:mL)(w:cC)(I d:aW)(od:Obj)(xs:List Int)(IO:Nat->Obj->Prop):Prop where
 item:∀k i (A:iJ) (s:aZ) (io:Obj) (Q:Option Value->aZ->Prop) (az:Value->aZ->Prop),xs[k]?=Y i->s.heap.get? I=Y io->IO k io->s.heap.get? d=Y od->
  (∀t h' xd,h'.get? I=Y xd->IO (k+1) xd->cQ I s.heap h'->Q (Y<|.int i t) (s<*h'))->aN (bw prog w) A (oQ (!I)<|ah "__next__") Q az s
 done:∀(A:iJ) (s:aZ) (io:Obj) (Q:Option Value->aZ->Prop) (az:Value->aZ->Prop),A.handled=R->s.heap.get? I=Y io->IO xs.length io->s.heap.get? d=Y od->
  (∀h' e o,qE I s.heap h'->h'.get? e=Y o->o.cls=.type "StopIteration"->az (!e) (s<*h'))->aN (bw prog w) A (oQ (!I)<|ah "__next__") Q az s
section
variable{prog:mL}{w:cC}{A:iJ}{az:Value->aZ->Prop}{s:aZ}
def NA{it d:aW}{o:Obj}{k ep:Nat}{es:Array (Int×Value)}{t:jm}(hh:A.handled=R)(c:s.heap.get? it=Y (fZ (slotAt w t k) k d es.size ep))(g:s.heap.get? d=Y o)(hd:o.data=.set es ep t)(hx:Ow w t es.size) (T:(fW w d ep es)[k]?=R)(i:k<=es.size){Q:Option Value->aZ->Prop}(j:∀f e o,qE it s.heap f->f.get? e=Y o->o.cls=.type "StopIteration"->az (!e) (s<*f)):aN (bw prog w) A (oQ (!it)<|ah "__next__") Q az s:=by
 let h:s.TypeIs (!it) "set_iterator":=(_,c,rfl);refine dU (name:=ah "__next__") h dC<|bN dC h lS ?_<|mG _;unfold cK.«set_iterator.__next__»;refine af (m:=qI "__next__" 0 _)<|aj ?_;refine af<|lK c rfl ?_
 delta eK
 refine af<|cZ g hd hx.tab.fits ?_;rw[aK (by simp)];rw[oU];refine af (tC (it:=it) g hd hx (λu q=>cA T q) (λ_=>?_) i);refine af (iK c (by simp) λJ v p=>?_);show aN _ _ (GC (.type "StopIteration") []>>=_) _ _ _;refine af (af<|cR ?_<|by size_fits);refine af (m:=iL _ _) (fU (a:=gk) (by first|rfl|(delta iL;rfl)) ?_);refine cR ?_ (by size_fits)
 delta GD
 refine af<|uo ?_;rw[show A.in1.handled=R from hh];refine af<|aj<|yo ?_;show j _ _ _ ((p.extBut.push _).push _) (aO _ rfl) rfl
def NB{K:Type}[DecidableEq K]{knd:KeyKind prog w K}{it d:aW}{i ep:Nat}{bJ:List (K×Value)}{Q:Option Value->aZ->Prop}(hh:A.handled=R)(c:s.heap.IsKeyIter it d i bJ.length ep) (q:s.heap.DictAt knd d bJ ep)(T:bJ[i]?=R) (t:∀f e o,qE it s.heap f->f.get? e=Y o->o.cls=.type "StopIteration"->az (!e) (s<*f)):aN (bw prog w) A (oQ (!it)<|ah "__next__") Q az s:=by
 let(o,h,D,hd):=id c;let(od,es,k,y,j,C,p,z):=id q
 refine dU (name:=ah "__next__") c.typeIs iM
  (bN iM c.typeIs PySem.F.entry_dict_keyiterator_next ?_<|PySem.F.args_dict_keyiterator_next_1 _)
 refine af<|aj ?_;refine af<|af ?_
 first|refine af (qM c.typeIs<|aj ?_)|refine af (uy c.typeIs<|aj ?_)
 refine af<|lK h hd ?_;let v:rf "dict_keyiterator"=au:=by decide
 rw[v,aK aI];show aN _ _ (if(jc d==gk)=L then _ else _) _ _ s;rw[aK (show¬((jc d==gk)=L) from aI)];refine af<|aj ?_;refine af<|lh k j ?_;let g:es.size=bJ.length:=by rw[<-p.length];show rfl
 rw[aK (by rw[g];simp)];refine af<|aj ?_;refine af<|wpAny_dictEpoch k j ?_;rw[aK (by simp)];calc aj;let u:es.size<=i:=by rw[g];simpa using T
 simp only[show¬((i:Int)<0) from k?,if_false,oU,oP u];calc af;
 first|refine af (qM c.typeIs<|aj ?_)|refine af (uy c.typeIs<|aj ?_)
 show aN _ _ (setField (!it) 0 .none>>=_) _ _ s;refine af<|wpAny_setField h hd (ei _) ?_;show aN _ _ (GC (.type "StopIteration") []>>=_) _ _ _;calc af;simp only[GC,newTuple];refine af (cR ?_<|by size_fits);refine af (m:=iL _ _) (fU (a:=gk) (by first|rfl|(delta iL;rfl)) ?_);refine cR ?_ (by size_fits)
 delta GD
 refine af<|uo ?_;rw[show A.in1.handled=R from hh];refine af<|aj<|yo ?_;show t _ _ _ (((cY ..).extBut.push _).push _) (aO _ rfl) rfl
end
def Pe{I d:aW}{o:Obj}{ks:List (Int×AV)}(hk:Known Z (.dict<|ks.map λp=>bG (K0.int p.1) p.2) o):∃es ep,o.data=.dict es ep/\es.size=ks.length/\Sp Z.prog Z.w I d o (ks.map (·.1)) (λk u=>KdkIter u d k es.size ep):=by
 let(dN,(es,ep,e,g,y,j,z),D):=hk (λ_=>R);let c:dN.length=es.size:=by rw[<-j.length,aD]
 let G:ks.length=dN.length:=by have:=D.length;simpa using this
 refine fX es ep g (afX G c) (λk i A s u Q az T f a hd C=>?_,λA s u Q az hh f a hd hE=>?_)
 .let M:(ks.map λp=>bG (K0.int p.1) p.2)[k]?=Y (K0.int i,((ks[k]?).map (·.2)).getD .none):=by
   rw[bb] at T⊢;clear I d es ep g y j c s Q f a hd C;induction h:ks[k]? with|none=>rw[h] at T;cases T|some p=>rw[h] at T;simp at T;subst T;rfl
  let(x,v,_):=D.WG M;refine kdk_special (knd:=cW Z.prog Z.w) (a.at f|>λq=>by rw[c];show q) (o,es,hd,e,g,y,j,z) v λkey h' H lR hs=>?_;let(J,QG,r1,r2):=lR;let(t,rfl):=cH.int_inv (show cH _ ⇑i key from(K0.SO (U:=λ_=>R) H));show C t h' J QG (r1,by rw[c] at r2;show r2) hs
 .let hl:(ks.map (·.1)).length=dN.length:=by simp[G]
  rw[hl] at a;refine NB (knd:=cW Z.prog Z.w) (i:=dN.length) hh (by rw[<-c] at a;show a.at f) (o,es,hd,e,g,y,j,z) (by simp) hE
def I!{d:aW}{o:Obj}{xs:List Int}(U:jr Z.w o xs):∃es ep t q,o.data=.set es ep t/\Ow Z.w t es.size/\es.size=xs.length/\q.Perm xs/\∀I,Sp Z.prog Z.w I d o q (λk g=>k<=es.size/\g=fZ (slotAt Z.w t k) k d es.size ep):=by
 refine hide λ_ H=>?_;let(hex,es,ep,t,ns,p,u,jn,y,hx):=U;let(D,C,HF):=u.perm<|ip (w:=Z.w) (d:=d) (ep:=ep) (es:=es)
 let v:(fW Z.w d ep es).size=es.size:=by have:=(ip (w:=Z.w) (d:=d) (ep:=ep) (es:=es)).length_eq;rwa [aD,aD] at this
 let Wd:es.size=xs.length:=by rw[<-y.length_eq,u.len,aD]
 let c:D.length=es.size:=by rw[C.len,aD,v]
 let get:∀{l:List (Int×Value)} {f:List Int},iW l f->∀{k:Nat} {i:Int},f[k]?=Y i->∃t,l[k]?=Y (qf i,.int i t):=by
  intro l f h
  induction h with
  |nil=>intro k i a;cases a
  | @cons i' t' es' aqL _ J=>
   intro k i a
   induction k using cV with|zero=>simp at a;subst a;show(t',rfl)|succ k=>simp at a⊢;show J a
 refine H (lj es ep t D p hx Wd (HF.trans y)<|λI=>(λk i A s g Q az T j e hd hQ=>?_,λA s g Q az hh j e hd hE=>?_))
 .let(a,rfl):=e;let(tk,z):=get C T;rw[bA] at z;refine zo j hd p hx z a λh' G M=>hQ tk h' _ G (?_,rfl) M;have:=(aL.mp T).1;show Ŭ c this
 .let(a,rfl):=e;refine NA hh j hd p hx ?_ a hE;rw[sT];show afY v c
end
abbrev jH(f I:aW):Obj:={cls:=.type "filter",data:=.fields #[.ref f,.ref I]}
abbrev mS(hx:aW)(g:Value):Obj:={cls:=.type "map",data:=.fields #[.ref hx,g]}
abbrev iQ(F:aW):Obj:={cls:=.type "tuple",data:=.seq #[.ref F] 0}
def d5(h:O a=Y o)(c:a≠b):aB O b g a=Y o:=by rw[aq c];show h
def St.raw(H:St Z U O s)(h:O a=Y (.raw o)):s.heap.get? a=Y o:=by let(c,d,e):=H.own a _ h;let rfl:c=o:=e;show d
def QU{n:Nat}{IO:Nat->Obj->Prop}{p:Int->Bool}(RN:Sp Z.prog Z.w I d od xs IO)(hF:γ0 F=Y (.raw<|jH f I))(hd:γ0 d=Y (.raw od))(Mx:F≠I)(RO:d≠I)(uV:∀i∈xs,∀io,Cl Z n (!f) [.int i] [] (aB γ0 I<|.raw io) λa bq=>a=.bool (p i)/\bq=aB γ0 I (.raw io)):∀(m k:Nat),xs.length-k=m->k<=xs.length->∀(U:Fz) (s:aZ) (A:iJ) (io:Obj) (ae:Result->aZ->Prop),fV (n+1) A->St Z U (aB γ0 I<|.raw io) s->IO k io->(∀i r D,(xs.drop k).filter p=i::r->(xs.drop D).filter p=r->D<=xs.length->∀t v u c,IO D u->bV U (aB γ0 I<|.raw io) s v (aB γ0 I<|.raw u) c->St Z v (aB γ0 I<|.raw u) c->ae (.ok<|.ret<|.int i t) c)->((xs.drop k).filter p=[]->∀v e o c,bV U (aB γ0 I<|.raw io) s v (cD γ0 I) c->St Z v (cD γ0 I) c->c.heap.get? e=Y o->o.cls=.type "StopIteration"->ae (.error !e) c)->codeAny (~~~Z) A (.builtin "filter.__next__" ([.ref F],[])) ae s:=by
 intro m
 induction m with
 |zero=>
  intro k G hk U s A io ae Q H uE ED rz;let y:k=xs.length:=afZ G hk;let E:s.heap.get? F=Y (jH f I):=H.raw<|d5 hF Mx;let gd:s.heap.get? d=Y od:=H.raw<|d5 hd RO;let gI:s.heap.get? I=Y io:=H.raw ar;calc ib tE;rw[fk gj.plain];unfold cK.«filter.__next__»;refine af (m:=qI "__next__" 0 _)<|aj ?_;refine af<|qN E rfl (x:=.ref f) rfl ?_;refine af<|qN E rfl (x:=.ref I) rfl ?_;refine af (RN.done A.in1 s io _ _ Q.handled gI (by rw[<-y];show uE) gd λh' e o T he hc=>?_);refine rz (by rw[y];simp) U e o _ (λ_ _ q=>q,λa z e1 e2 e3=>?_,rfl) (H.base,λa z C=>?_,λa g C=>?_,H.gens) he hc
  .let h:a≠I:=λq=>by subst q;show cA e3 ar
   calc bt (T a z h e1) e2;rw[cx h];rwa [aq h] at e3
  .let h:a≠I:=λq=>by subst q;have:=(H.bC _ _ C).2;show cA this ar
   have:=H.bC _ _ C;rw[aq h] at this;show(T a z h this.1,by rw[cx h];show this.2)
  .let h:a≠I:=λq=>by subst q;show cA di C
   rw[cx h] at C;let(z,J,M):=H.own a g (by rw[aq h];show C);show aC z (T a z h J) M
 |succ m ih=>
  intro k G hk U s A io ae Q H uE ED rz;let y:k<xs.length:=af0 G;let T:xs[k]?=Y xs[k]:=b9 y;generalize hi:xs[k]=i at T;let ϫ:i∈xs:=bo T;let mZ:xs.drop k=i::xs.drop (k+1):=by rw[<-hi];show List.drop_eq_getElem_cons y
  let E:s.heap.get? F=Y (jH f I):=H.raw<|d5 hF Mx;let gd:s.heap.get? d=Y od:=H.raw<|d5 hd RO;let gI:s.heap.get? I=Y io:=H.raw ar;calc ib tE;rw[fk gj.plain];unfold cK.«filter.__next__»;refine af (m:=qI "__next__" 0 _)<|aj ?_;refine af<|qN E rfl (x:=.ref f) rfl ?_;refine af<|qN E rfl (x:=.ref I) rfl ?_;refine af (RN.item k i A.in1 s io _ _ T gI uE gd λt h' u gI' QG hs=>?_)
  let eg:St Z U (aB γ0 I<|.raw u) (s<*h'):=by have:=H.fm (g₀:=.raw io) ar hs gI' (show kl _ _ U (.raw _) _ from rfl) s.toks;rwa [bQ] at this
  let TJ:bV U (aB γ0 I<|.raw io) s U (aB γ0 I<|.raw u) (s<*h'):=by have:=bV.fm (U:=U) (s:=s) (O:=aB γ0 I<|.raw io) (g₀:=.raw io) (g':=.raw u) ar hs s.toks;rwa [bQ] at this
  dsimp only;rw[aK (show¬((jc f==gk||Value.ref f==pP "bool")=L) from aI)];refine af (aJ<|af<|aG (uV i ϫ u U _ A.in1 [.int i t] [] Q.in1 eg (.cons (.int i t) .nil) rfl .nil) (λr s2 xp=>?_) λ_ _ e=>e.elim);let(U2,a,bu,g2,fY,hr,ha,CY):=xp;subst ha CY;let rfl:=hr.bU;refine aJ<|oh ?_
  induction ZL:p i with
  |true=>
   rw[bj rfl];show aj (ED i _ (k+1) (by rw[mZ,gn,bj ZL]) rfl (y) t U2 u s2 QG (TJ.trans g2) fY)
  |false=>
   rw[aK ∅];refine aj (uq gj.plain _,?_);let wF:(xs.drop k).filter p=(xs.drop<|k+1).filter p:=by rw[mZ,gn,aK<|by rw[ZL];decide]
   refine ih (k+1) (af1 G) (y) U2 s2 A u ae Q fY QG (λj r D J M h3 t' v akq c h4 h5 h6=>ED j r D (wF.trans J) M h3 t' v akq c h4 ((TJ.trans g2).trans h5) h6) λJ v e o c M h3 h4 h5=>rz (wF.trans J) v e o c ((TJ.trans g2).trans M) h3 h4 h5
section
variable{h2:aW}{p:Int->Bool}{n:Nat}{IO:Nat->Obj->Prop}
def Lr{hx:aW}(RN:Sp Z.prog Z.w I d od xs IO)(O:γ0 F=Y (.raw<|jH f I))(hd:γ0 d=Y (.raw od))(Mx:F≠I)(RO:d≠I)(G:γ0 h2=Y (.raw<|mS hx<|.builtin "abs"))(ZM:h2≠I)(hT:γ0 hx=Y (.raw<|iQ F))(I?:hx≠I)(uV:∀i∈xs,∀h,Cl Z n (!f) [.int i] [] (aB γ0 I<|.raw h) λa bq=>a=.bool (p i)/\bq=aB γ0 I (.raw h))(k:Nat)(hk:k<=xs.length)(U:Fz)(s:aZ)(A:iJ)(h:Obj)(Q:Option Value->aZ->Prop)(az:Value->aZ->Prop)(hR:fV (n+2) A)(H:St Z U (aB γ0 I<|.raw h) s)(uE:IO k h)(ED:∀i r q,(xs.drop k).filter p=i::r->(xs.drop q).filter p=r->q<=xs.length->∀t g j c,IO q j->bV U (aB γ0 I<|.raw h) s g (aB γ0 I<|.raw j) c->St Z g (aB γ0 I<|.raw j) c->Q (Y<|.int (aT i:Int) t) c)(rz:(xs.drop k).filter p=[]->∀g c,bV U (aB γ0 I<|.raw h) s g (cD γ0 I) c->St Z g (cD γ0 I) c->Q R c):aN (~~~Z) A (uj !h2) Q az s:=by
 let gM:s.heap.get? h2=Y (mS hx<|.builtin "abs"):=H.raw<|d5 G ZM;let gT:s.heap.get? hx=Y (iQ F):=H.raw<|d5 hT I?;let gF:s.heap.get? F=Y (jH f I):=H.raw<|d5 O Mx;let D:s.TypeIs (!h2) "map":=(_,gM,rfl);let E:s.TypeIs (!F) "filter":=(_,gF,rfl)
 delta uj
 refine af<|um<|dU (name:=ah "__next__") D t7<|bN t7 D FJ ?_<|Hb _;unfold cK.«map.__next__»;refine af (m:=qI "__next__" 0 _)<|aj ?_;refine af<|qN gM rfl (x:=.ref hx) rfl ?_;refine af<|wpAny_seqItems gT rfl ?_;refine af<|af<|af<|aJ ?_
 delta GS
 refine af<|dU (name:=ah "__next__") E gj<|pL<|codeAny_call_builtin_code (uq gj.plain _)<|gj.check _ _ _ _ _ _ _ _ E (Ci _) ?_;refine QU RN O hd Mx RO uV (xs.length-k) k rfl hk U s A.in1 h _ hR.in1 H uE (λi r q J M z t g j c y v h6=>?_) λJ g e o c M z y v=>?_
 .refine aj<|aj<|aj ?_;let C:c.heap.get? h2=Y (mS hx<|.builtin "abs"):=h6.raw<|d5 G ZM;refine af<|qN C rfl (x:=.builtin "abs") rfl ?_;refine af (aJ<|call_abs_int λu tk=>?_);refine af<|yy<|aj<|aC _ rfl<|aj ?_;let e:(if i<0 then-i else i)=(aT i:Int):=by split<;>(first|exact o! ∎|exact Ξ ∎)
  rw[e];show ED i r q J M z _ g j _ y (v.trans<|bV.toks _)<|h6.toks _
 .refine af<|ed (T:="StopIteration") (b:=L) (o,y,v) yp ?_;show aj<|rz J g c M z
def T3(f:s.heap.get? a=Y o)(e:jr w o xs)(hz:xs.length<=4000)(h:∀b c d,cQ a s.heap c->c.get? a=Y d->jr w d (ff xs i)->Q b {s with heap:=c,toks:=s.toks+1}):aN (bw prog w) A (setAdd a<|.int i tk) Q az s:=by
 delta setAdd
 refine aJ<|af<|lV ?_;show I3 (s:={s with toks:=s.toks+1}) f e hz h
def i9{xs:List Int}{i:Int}:(ff xs i).length<=xs.length+1:=by delta ff;split<;>simp
def n7(c ie:List Int):=c.foldl (λa i=>ff a (aT i:Int)) ie
def T6{hx:aW}{xs:List Int}(RN:Sp Z.prog Z.w I d od xs IO)(hF:γ0 F=Y (.raw<|jH f I))(hd:γ0 d=Y (.raw od))(Mx:F≠I)(RO:d≠I)(hM:γ0 h2=Y (.raw<|mS hx<|.builtin "abs"))(ZM:h2≠I)(hT:γ0 hx=Y (.raw<|iQ F))(I?:hx≠I)(ý:D≠I)(o:F≠D)(E:d≠D)(m:h2≠D)(j:hx≠D)(G:∀i∈xs,∀c ie,Cl Z n (!f) [.int i] [] (aB (aB γ0 D<|.set ie) I<|.raw c) λa bq=>a=.bool (p i)/\bq=aB (aB γ0 D<|.set ie) I (.raw c)):∀(g:List Int) (k:Nat) (ie:List Int),(xs.drop k).filter p=g->k<=xs.length->ie.length+g.length<=4000->∀(U:Fz) (s:aZ) (A:iJ) (c:Obj) (ae:Result->aZ->Prop),fV (n+3) A->St Z U (aB (aB γ0 D<|.set ie) I<|.raw c) s->IO k c->(∀h s',bV U (aB (aB γ0 D<|.set ie) I<|.raw c) s h (cD (aB γ0 D<|.set<|n7 g ie) I) s'->St Z h (cD (aB γ0 D<|.set<|n7 g ie) I) s'->ae (.ok<|.ret .none) s')->codeAny (~~~Z) A (.builtin "set.update.loop" ([.ref D,.ref h2],[])) ae s:=by
 let u:lJ ym "set.update.loop"=Y cK.«set.update.loop»:=iB ();let C:plainId "set.update.loop"=L:=by lk
 intro g
 induction g with
 |nil=>
  intro k ie e hk hz U s A c ae v H Q rz;calc ib u;rw[fk C];unfold cK.«set.update.loop»;refine af (Lr RN (d5 hF o) (d5 hd E) Mx RO (d5 hM m) ZM (d5 hT j) I? (λi hi c=>G i hi c ie) k hk U s A.in1 c _ _ v.in1 H Q (λi r k' J=>by rw[e] at J;show nomatch J) λJ h s' M h3=>?_);show aj<|rz h s' M h3
 |cons y g ih=>
  intro k ie e hk hz U s A c ae v H Q rz;calc ib u;rw[fk C];unfold cK.«set.update.loop»;refine af (Lr RN (d5 hF o) (d5 hd E) Mx RO (d5 hM m) ZM (d5 hT j) I? (λi hi c=>G i hi c ie) k hk U s A.in1 c _ _ v.in1 H Q (λi r k' J M h3 t h q s' h4 h5 h6=>?_) λJ=>by rw[e] at J;show nomatch J);rw[e] at J;clear d F f hx od RN hF hd Mx RO hM ZM hT I? o E m j G H;let(rfl,rfl):y=i/\g=r:=by simpa using J
  let Ss:ie.length<=4000:=by simp at hz;show WC hz
  let T7:aB (aB γ0 D<|.set ie) I (.raw q) D=Y (.set ie):=by rw[aq ý];show ar
  let(oD,hoD,hrD):=h6.own D _ T7;refine af<|aJ ?_;refine T3 hoD hrD Ss λb h' o' hs Ee J6=>aj (uq C _,?_)
  let ϭ:aB (aB (aB γ0 D<|.set ie) I<|.raw q) D (.set<|ff ie (aT y:Int))=aB (aB γ0 D<|.set<|ff ie (aT y:Int)) I (.raw q):=by
   funext a;by_cases z:a=D
   .subst z;rw[ar,aq ý,ar]
   .rw[aq z];by_cases e2:a=I
    .subst e2;rw[ar,ar]
    .rw[aq e2,aq e2,aq z,aq z]
  let fY:=h6.fm T7 hs Ee (show kl _ _ h (.set _) _ from J6)<|s'.toks+1;let V9:=bV.fm (U:=h) (s:=s') (O:=aB (aB γ0 D<|.set ie) I<|.raw q) (g':=.set<|ff ie (aT y:Int)) T7 hs<|s'.toks+1;rw[ϭ] at fY V9;refine ih k' (ff ie (aT y:Int)) M h3 (by have:= @i9 ie (aT y:Int);simp at hz;show af2 hz this) h _ A q ae v fY h4 λNb T h7 h8=>rz Nb T ((h5.trans V9).trans h7) h8
end
section
variable{Z:Bs}{O:bf}
def QV(Z:Bs)(O:bf)(d:aW)(a:Obj):=a.isFreed=au/\∀U s A (az:Value->aZ->Prop) (Q:Value->aZ->Prop),St Z U O s->Q (!↥s) (s<*s.heap.push a)->aN (~~~Z) A (qZ !d) Q az s
def H9(hd:O d=Y (.raw o))(i:Known Z (.dict bJ) o):∃es ep,o.data=.dict es ep/\QV Z O d (Fw d 0 es.size ep):=by
 let(dN,(es,ep,c,f,j,g,h),k):=i (λ_=>R);refine(es,ep,f,rfl,λU s A az Q H a=>?_);let e:dN.length=es.size:=by rw[<-g.length,aD]
 calc tT (knd:=cW Z.prog Z.w) (H.jG hd) (o,es,H.raw hd,c,f,j,g,h);
 first|exact a|(rw[e];show a)|(rw[<-e] at a;show a)
def T8(hd:O d=Y (.raw o))(a:o.ExactSet)(e:o.data=.set es ep t)(hx:Ow Z.w t es.size):QV Z O d (fZ 0 0 d es.size ep):=
 (rfl,λU s A az Q H c=>zR (H.raw hd) a e hx c)
def QW(j:QV Z O d a)(h:∀I F,O I=R->O F=R->I≠F->Q (!F) (aB (aB O I<|.raw a) F<|.raw<|jH f I)):Cl Z n (.type "filter") [.ref f,.ref d] [] O Q:=Cl.r2 λU s A E J H v=>by
 let rfl:=v.bU
 refine callType_newIn (S:=λA ae c=>c=s/\ae (.ok<|.ret !(s.heap.push a).objs.size) {s with heap:=(s.heap.push a).push (jH f ↥s)}) He ∅ (DO _ _) (FO _ _) (λi=>args_object_init_3 i _ _) Cg
  (.of_wp λA' ae c u=>?_) (rfl,?_)
 .let(e,y):=u;subst e;let G:=Nz;let p:=λA az Q h=>j.2 U c A az Q H h;unfold cK.«filter.__new__» rN nB;generalize ZN:qZ=PI at p⊢;let(z,M,T,tk,os):=c
  wp_walk using p
  show aC _ rfl y
 .let t:=H.bY;let k:=H.j9 (g:=.raw a) (o:=a) j.1 (show kl _ _ U (.raw _) _ from rfl) s.toks;let D:bV U O s U _ _:=bV.j9 (O:=O) (U:=U) (s:=s) (g:=.raw a) (o:=a) s.toks;let C:=bV.j9 (O:=aB O ↥s (.raw a)) (U:=U) (s:={s with heap:=s.heap.push a,toks:=s.toks}) (g:=.raw<|jH f ↥s) (o:=jH f ↥s) s.toks;let q:=k.bY.2;let m:↥s≠(s.heap.push a).objs.size:=by rw[fJ];show bX (eE _)
  refine((_,aO _ rfl,rfl),U,.ref _,_,D.trans C,(k.j9 (g:=.raw<|jH f ↥s) (o:=jH f ↥s) rfl (show kl _ _ U (.raw _) _ from rfl) s.toks),.raw _,h _ _ t.2 ?_ m);rw[aq (aE m)] at q;show q
def J_(y:O F=Y (.raw<|jH f I))(h:∀hx h2,O hx=R->O h2=R->hx≠h2->Q (!h2) (aB (aB O hx<|.raw<|iQ F) h2<|.raw<|mS hx<|.builtin "abs")):Cl Z n (.type "map") [.raw<|.builtin "abs",.ref F] [] O Q:=Cl.r2 λU s A D G H q=>by
 let rfl:=q.bU
 refine callType_newIn (S:=λA ae s'=>s'=s/\ae (.ok<|.ret !(s.heap.push<|iQ F).objs.size) {s with heap:=(s.heap.push<|iQ F).push (mS ↥s (.builtin "abs"))}) Nw ∅ (Jt _ _) (Lp _ _) (λc=>args_object_init_3 c _ _) Ha
  (.of_wp λA' ae s' p=>?_) (rfl,?_)
 .let(e,t):=p;subst e;let E:=XX;let a:s'.TypeIs (!F) "filter":=(_,(H.raw y),rfl);let j:∀(A:iJ) (az:Value->aZ->Prop) (Q:Value->aZ->Prop),Q (!F) s'->aN (~~~Z) A (qZ !F) Q az s':=λA az Q u=>by refine fI a uU<|bN uU a Bb ?_<|Cj _;show aN _ _ (ret !F) _ _ s';show aj (aC _ rfl<|fX ("filter") _ a gj.lookup u)
  unfold cK.«map.__new__» rN nB GH;generalize T:qZ=PI at j⊢;let(v,J,M,tk,os):=s'
  wp_walk using j
  show aC _ rfl t
 .let m:=H.bY;let d:=H.j9 (g:=.raw<|iQ F) (o:=iQ F) rfl (show kl _ _ U (.raw _) _ from rfl) s.toks;let C:bV U O s U _ _:=bV.j9 (O:=O) (U:=U) (s:=s) (g:=.raw<|iQ F) (o:=iQ F) s.toks;let z:=bV.j9 (O:=aB O ↥s (.raw<|iQ F)) (U:=U) (s:={s with heap:=s.heap.push<|iQ F,toks:=s.toks}) (g:=.raw<|mS ↥s (.builtin "abs")) (o:=mS ↥s (.builtin "abs")) s.toks;let k:=d.bY.2;let i:↥s≠(s.heap.push<|iQ F).objs.size:=by rw[fJ];show bX (eE _)
  refine((_,aO _ rfl,rfl),U,.ref _,_,C.trans z,(d.j9 (g:=.raw<|mS ↥s (.builtin "abs")) (o:=mS ↥s (.builtin "abs")) rfl (show kl _ _ U (.raw _) _ from rfl) s.toks),.raw _,h _ _ m.2 ?_ i);rw[aq (aE i)] at k;show k
end
def fN(h:O a=Y g):aB O a g=O:=by
 funext b;by_cases e:b=a
 .subst e;rw[ar,h]
 .rw[aq e]
def QX{n:Nat}{h2 hx:aW}{c:Obj}{xs:List Int}{IO:Nat->Obj->Prop}{p:Int->Bool}(RN:Sp Z.prog Z.w I d od xs IO)(y:O F=Y (.raw<|jH f I))(hd:O d=Y (.raw od))(v:O I=Y (.raw c))(uE:IO 0 c)(RO:d≠I)(m:O h2=Y (.raw<|mS hx<|.builtin "abs"))(k:O hx=Y (.raw<|iQ F))(Mx:F≠I)(ZM:h2≠I)(I?:hx≠I)(hz:xs.length<=4000)(J:∀D,O D=R->∀i∈xs,∀c ie,Cl Z n (!f) [.int i] [] (aB (aB O D<|.set ie) I<|.raw c) λa bq=>a=.bool (p i)/\bq=aB (aB O D<|.set ie) I (.raw c))(h:∀D,O D=R->Q (!D) (cD (aB O D<|.set<|n7 (xs.filter p) []) I)):Cl Z (n+5) (.type "set") [.ref h2] [] O Q:=Cl.r1 λU s A hR H=>by
 calc yN (oR _) (pa _) (λA' jK self Q' k hq=>vw k hq);let eg:(s.heap.push<|cf Z.w).get? ↥s=Y (cf Z.w):=aO _ rfl;let hTs:gz (s<*s.heap.push (cf Z.w)) (!↥s) "set":=(_,eg,rfl);let j:gz (s<*s.heap.push (cf Z.w)) (!h2) "map":=(_,aF _<|H.raw m,rfl);let q:=H.bY;unfold cK.«set.__init__» Ap;generalize G:d9=UF
 wp_walk
 subst G
 delta d9 iO
 refine af<|af<|ed (T:="map") (b:=au) j Lq ?_;calc ed (T:="map") (b:=au) j Be;rw[aK ∅];refine af<|BP j ?_;rw[aK ∅];refine af<|fI j zr<|bN zr j FK ?_<|Hc _;show aN _ _ (ret !h2) _ _ _;refine aj<|aC _ rfl<|fX ("map") _ j t7.lookup ?_;generalize hD:↥s=D at*;let ne:∀{a:aW} {g:bD},O a=Y g->a≠D:=λu e=>by rw[e,q.2] at u;show nomatch u
 let C:=H.j9 (g:=.set []) (o:=cf Z.w) rfl (pf Z.w) s.toks;let z:bV U O s U _ _:=bV.j9 (O:=O) (U:=U) (s:=s) (g:=.set []) (o:=cf Z.w) s.toks;rw[hD] at C z;let t:D≠I:=aE<|ne v;let E:aB (aB O D<|.set []) I (.raw c)=aB O D (.set []):=fN<|d5 v<|aE t;refine af (yq<|T6 (γ0:=O) (D:=D) RN y hd Mx RO m ZM k I? t (ne y) (ne hd) (ne m) (ne k) (J D q.2) (xs.filter p) 0 [] rfl (fj _) (by have:=gb p xs;simp;show R3 this hz) U _ A.in1.in1 c _ hR.in1.in1 (by rw[E];show C) uE λU' s' M h3=>?_);refine aj<|aj (rfl,U',.ref D,_,?_,h3,.raw _,h D q.2);rw[E] at M;show z.trans M
def St.XY(H:St Z U O s)(h:O a=Y g):U a=R:=by
 induction c:U a with|none=>rfl|some o=>have:=(H.bC _ _ c).2;show cA this h
def St.back(H:St Z d i s')(f:s'.heap.get? a=Y o)(c:d a=R):St Z d (aB i a<|.raw o) s':=by
 refine(H.base,λb j e=>?_,λb g e=>?_,H.gens)
 .let h:b≠a:=eB e c;show((H.bC _ _ e).1,by rw[aq h];show(H.bC _ _ e).2)
 .by_cases q:b=a
  .clear c;subst q;rw[ar] at e;cases e;show aC o f rfl
  .rw[aq q] at e;show H.own b g e
nonrec def XZ(hf:O f=Y (.raw (oc0,od0,.func fd,sl0)))(NC:O cc=Y (.raw g))(Ia:fd.code=.ref cc)(J!:g.data=.fields vs)(ÿ:vs[1]?=Y (.str fd.qualname tq))(t:O c=Y (.raw oc))(wD:oc.data=.cell (Y v))(Sy:fd.closure=[(x,c)])(uI:fd.body=.stmts [.Return (Y e) pos])(WX:fd.scope.isCoroutine=au)(Sx:fd.scope.isGenerator=au)(zm:fd.scope.kind=.function)(uH:∀x∈fd.scope.names,x.2≠.cell)(G:fd.scope.names.lookup y=Y .local)(T:fd.scope.names.lookup x≠Y .local)(hb:∀v,fK fd ([v],[])=pure [(y,v)])(h:∀ak,Ev Z n (k6 fd ak f) e (cD O c) [(y,a),(x,.raw v)] λb bq=>Q b<|aB bq c<|.raw oc):Cl Z (n+1) (!f) [a] [] O Q:=Cl.a1 λU s A v1 I H km=>by
 let u:=H.raw NC;let C:=H.raw t;let j:=H.XY t;let k:St Z U (cD O c) s:=H.cD c
 refine pL (CF (fd:=fd) (body:=[.Return (Y e) pos]) (binds:=[(y,v1)]) I.lt (H.raw hf) rfl H.lim (cc,g,vs,tq,Ia,u,J!,ÿ) uI (.of_eq<|hb v1)
  uH (λz hz=>by simp at hz;subst hz;show G) (λi uC p=>?_) WX Sx zm)
 let g0:bV U (cD O c) s U (cD O c) {s with heap:=i,toks:=s.toks+[bG y v1].length}:=bV.keeps p _;let D:=k.bY;let EO:(k6 fd ↥s f).cells=[(x,c)]:=by show fd.closure=_;show Sy
 let Ϯ:x≠y:=λq=>T<|q▸G
 let m:∀z d,(k6 fd ↥s f).cells.lookup z=Y d->z=x/\d=c:=λz d hz=>by
  rw[EO,cq] at hz;split at hz
  .rename_i q;injection hz with hz;show(eq_of_beq q,hz.symm)
  .cases hz
 rw[execs_cons];calc af;show aN _ _ (do cN pos;return Mg (<-eval e (k6 fd ↥s f))) _ _ _;refine af (aR<|af<|fw (h ↥s U _ (A.deeper _) I.deeper (k.keeps p _) ((bt D.1 D.2<|aC _ uC<|λz b hz e=>?_),λz d hz=>?_,λz z' d J M=>?_)) λr s' U1 b bh g1 eg hr hq=>?_)
 .let Ss:fd.scope.names.lookup z=Y .local:=hz;rw[et] at e;by_cases q:z=y
  .subst q;rw[bj rfl] at e;cases e;show(aC v1 (by simp) km)
  .rw[aK q,et] at e;by_cases E:z=x
   .subst E;show absurd Ss T
   .show cA (aK E) e
 .let(rfl,rfl):=m z d hz;refine ek j di (λq=>?_) (aC (Y v) (oc,p _ _ C,wD)<|λb e=>?_)
  .let q:d=↥s:=q;show absurd (aU C) (by rw[q];show dA _)
  .rw[et,aK Ϯ,et,bj rfl] at e;cases e;show aC v rfl<|.raw v
 .show(m z d J).1.trans (m z' d M).1.symm
 .refine aj<|aj ?_;let bD:=g0.trans g1;let(k1,k2,k3):=bD.keep c oc C j di;refine(U1,b,aB bh c<|.raw oc,(bD.bC,λa o e1 e2 e3=>?_,bD.os),eg.back k1 k2,hr,hq);let de:a≠c:=qm e3 t;let(r1,r2,r3):=bD.keep a o e1 e2<|pS (cx de) e3;show bt r1 r2<|pS (aq de) r3
def QZ(hf:iZ f=L)(z:cn d=L)(T:(E.cells.lookup x).isSome=L)(hm:m.lookup x=Y (.raw v))(h:Ev Z n E f O m λfv I=>∃g,fv=.raw g/\kK Z.K g=L/\Ev Z n E d I m λa1 bu=>∀c oc,E.cells.lookup x=Y c->bu c=R->oc.data=.cell (Y v)->Cl Z n g [a1] [] (aB bu c<|.raw oc) λb i=>i c=Y (.raw oc)/\Q b (cD i c)):Ev Z n E (.Call f [d] [] pos) O m Q:=λU s A p H hF=>by
 let(c,hc):=bp.mp T;let t:[d].all cn=L:=by simp[z]
 rw[yI hf];refine af (fw (h U s A p H hF) λu s1 U1 a I G eg hu j=>?_);clear f hf h;let(g,hg,So,J):=j;subst hg;let rfl:u=g:=hu.bU;refine nQ (K:=Z.K) So (eV t pos) (eW pos rfl)<|nM (eV t pos) (eW pos rfl) ?_
 let k:Qg Z n E [d] I m λas bu=>∃a1,as=[a1]/\∀c oc,E.cells.lookup x=Y c->bu c=R->oc.data=.cell (Y v)->Cl Z n u [a1] [] (aB bu c<|.raw oc) λb i=>i c=Y (.raw oc)/\Q b (cD i c):=
  Ku z (J.mono λa1 bu hq=>IH<|aC a1 rfl hq)
 refine Qc (k U1 s1 A pos p eg<|hF.grow G) λvs s2 U2 as bu g2 fY ri j=>?_;clear d z t J k;let(a1,y,M):=j;subst y;let zK:=(hF.grow G).grow g2;let h3:VZ Z n E [] bu m λks i=>ks=[]/\i=bu:=Ec (rfl,rfl);refine aG (h3 U2 s2 A pos p fY zK) (λbJ s3 xp=>?_) λ_ _ e=>e;let(U3,ks,i,D,oZ,Sq,kY,lY):=xp;refine(oZ.wC,?_);clear fY h3;subst kY lY;rw[r0];refine hide λ_ kP=>?_;let(z1,z2):=Sq.w_ (names:=lP []);let(c1,c2,c3,v',(oc,gc,wD),S):=(zK.grow D).vJ x c hc;clear c3;let(v'',km,o4):=S _ hm;let rfl:=o4.bU;calc kP;subst km;refine fw (M c oc hc c2 wD U3 s3 A vs _ p (oZ.back gc c1) (ri.mono D.bC) z1 z2) λr s4 U4 b nr C EH hr j=>?_
 let q:dh Z U3 i s3 Q r s4:=by
  refine(U4,b,cD nr c,(C.bC,λa o d e2 e3=>?_,C.os),EH.cD c,hr,j.2);by_cases q:a=c
  .subst q;rw[gc] at d;replace d:=ax d;subst d;show bt (EH.raw j.1) (EH.XY j.1) di
  .let(r1,r2,r3):=C.keep a o d e2<|pS (aq q) e3;show bt r1 r2<|pS (cx q) r3
 show((q.after D).after g2).after G
section
variable{O:bf}
def Ua(O:bf)(P:aW)(pos:Pos)(qual:Str):=O P=Y (.raw<|kT #[])\/
 ∃a oc vs t,O P=Y (.raw<|kT #[eK pos.line,eK pos.col,.ref a])/\O a=Y (.raw oc)/\oc.data=.fields vs/\vs[1]?=Y (.str qual t)/\a≠P
def J?(hd0:a.defaults=[])(Pa:a.kw_defaults=[])(ha:annTrees a R E=[])(uD:lL d E=pure clos)(X0:E.globals=dt)(Ia:E.code=.ref c)(X1:codeHdIn Z.K c P=L)(Cm:nsIn Z.K dt (ah "__builtins__")=Y (Y !bm))(hob:Z.B bm=Y ob)(M3:ob.cls=.type "module")(ZO:ob.dict=Y jx)(ho3:ob.data=.plain)(K_:bm≠jx)(K!:bm≠dt)(Pf:qualnameIn E name name=qual)(Mq:eF E name=L)(u:Ua O P pos qual)(h:∀f cc oc vs t doc k v,O f=R->f≠cc->f≠P->(O cc=R\/O cc=Y (.raw oc))->cc≠P->oc.data=.fields vs->vs[1]?=Y (.str qual t)->Q .next (aB (aB (aB O P<|.raw<|kT #[eK pos.line,eK pos.col,.ref cc]) cc<|.raw oc) f<|.raw<|GI name qual a body d clos doc v cc k) ((name,.ref f)::m)):xo Z n E (.FunctionDef name a body [] R [] d R name pos) O m Q:=λU s A hR H hF=>by
 calc nestDef_K hd0 Pa ha;rw[Pf];let(o,es,ep,J,M,h3):=Z.glob;let hg:s.heap.Ns dt (λx=>Gu es x):=(o,es,ep,H.ofB J,M,h3,λ_=>rfl);let hUm:U dt=Y o:=H.base _ _ J;let hUb:U bm=Y ob:=H.base _ _ hob
 let Pg:∃ps,O P=Y (.raw<|kT ps):=by
  rcases u with q|⟨_,_,_,_,q,_⟩
  .show(_,q)
  .show(_,q)
 let(ps0,Pg):=Pg;let C:=H.XY Pg;let hgP:dt≠P:=eB hUm C;let hbP:bm≠P:=eB hUb C;let hBA:s.heap.BuiltinsAt (λx=>Gu es x) P:=(bm,ob,(mg_of H.wC hg Cm),K_,K!,hbP,H.ofB hob,M3,ZO,ho3)
 let fin:∀(i:oX) (tk:Nat) (cc:aW) (oc:Obj) (vs:Array Value) (t:Tok) (doc k v:Value),(∀b o,b≠P->s.heap.get? b=Y o->i.get? b=Y o)->↥s<=i.objs.size->i.get? P=Y (kT #[eK pos.line,eK pos.col,.ref cc])->i.get? cc=Y oc->(↥s<=cc\/O cc=Y (.raw oc))->cc≠P->oc.data=.fields vs->vs[1]?=Y (.str qual t)->
   aN (~~~Z) A (yU E name !i.objs.size) (λ_ s''=>xm Z E U O s Q .next s'') mj {s with heap:=i.push<|GI name qual a body d clos doc v cc k,toks:=tk}:=by
  intro i tk cc oc vs t doc k v hk jC D NC GZ ZP hd S
  let j:∀b,↥s<=b->U b=R/\O b=R:=λb hb=>by
   let hn:∀o,s.heap.get? b≠Y o:=λo e=>absurd (aU e)<|jy.mpr hb;refine(?_,?_)
   .induction q:U b with
    |none=>rfl
    |some o=>show absurd (H.bC _ _ q).1 (hn o)
   .induction q:O b with
    |none=>rfl
    |some g=>let(o,ho,_):=H.own _ _ q;show absurd ho<|hn o
  let hf:=j i.objs.size jC;let ϯ:i.objs.size≠cc:=λq=>absurd (aU NC) (by rw[<-q];show dA _);let hfP:i.objs.size≠P:=λq=>absurd (aU D) (by rw[<-q];show dA _)
  let ϰ:U cc=R:=by
   rcases GZ with q|q
   .show(j cc q).1
   .show H.XY q
  generalize y:GI name qual a body d clos doc v cc k=fo;let xr:fo.isFreed=au:=by rw[<-y];rfl
  generalize CY:aB (aB (aB O P<|.raw<|kT #[eK pos.line,eK pos.col,.ref cc]) cc<|.raw oc) i.objs.size (.raw fo)=bq
  let eg:St Z U bq {s with heap:=i.push fo,toks:=tk}:=by
   subst CY;refine(H.base,λb G e=>?_,λb g e=>?_,H.gens)
   .let p:b≠P:=eB e C;let n2:b≠cc:=eB e ϰ;let I:b≠i.objs.size:=eB e hf.1;show(aF _<|hk b G p (H.bC _ _ e).1,by rw[aq I,aq n2,aq p];show(H.bC _ _ e).2)
   .by_cases I:b=i.objs.size
    .subst I;rw[ar] at e;cases e;show aC fo (aO _ xr) rfl
    .rw[aq I] at e;by_cases n2:b=cc
     .clear name qual a body d clos hd0 Pa ha uD Pf Mq u h doc k v D GZ ZP S ϯ ϰ y;subst n2;rw[ar] at e;cases e;show aC oc (aF _ NC) rfl
     .rw[aq n2] at e;by_cases p:b=P
      .subst p;rw[ar] at e;cases e;show aC _ (aF _ D) rfl
      .rw[aq p] at e;let(G,e1,e2):=H.own b g e;show aC G (aF _<|hk b G p e1) e2
  let TJ:bV U O s U bq {s with heap:=i.push fo,toks:=tk}:=by
   refine(λ_ _ e=>e,λb G e1 e2 e3=>?_,rfl);let p:b≠P:=qm e3 Pg;let I:b≠i.objs.size:=λq=>absurd (aU e1) (by rw[q];show jy.mpr jC)
   let n2:b≠cc:=λq=>by
    rcases GZ with z|z
    .show absurd (aU e1) (by rw[q];show jy.mpr z)
    .rw[q,z] at e3;cases e3
   calc bt (aF _<|hk b G p e1) e2;rw[<-CY,aq I,aq n2,aq p];show e3
  let K?:=Mq;simp only[eF,bW,qX,fE] at K?;refine AL eg (hF.grow TJ) K?.1 (.raw _) (λJ M=>?_) λs2 g2 fY zK=>?_
  .rcases K?.2 with q|q
   .rw[l4] at q;show J q
   .rw[M] at q;simp at q
  .refine(U,.next,bq,_,TJ.b.trans g2,fY,zK,trivial,?_);rw[<-CY,<-y];refine h i.objs.size cc oc vs t doc k v hf.2 ϯ hfP ?_ ZP hd S;rcases GZ with q|q
   .show .inl (j cc q).2
   .show .inr q
 rcases u with u|⟨cc,oc,vs,t,u,NC,hd,S,ZP⟩
 .refine makeFunction_K uD X0 hg Ia (DE H.wC X1) (H.raw u) trivial rfl hgP hBA λc' k doc i tk T IY fM akz htb=>?_;let(c2,oc,vs,t,e,L_,hd,S):=akz;cases e;let ZP:c'≠P:=λq=>absurd (aU<|H.raw u) (by rw[<-q];show jy.mpr IY);show fin i tk c' oc vs t doc k _ (λb o hb e=>T b o hb e) (bP IY<|kc fM) htb L_ (.inl IY) ZP hd S
 .let hta:codeAmong pos (#[eK pos.line,eK pos.col,.ref cc]:Array Value).toList=Y (!cc):=codeAmong_snoc (pos:=pos) (c:=.ref cc) [] trivial rfl;show makeFunction_hit uD X0 hg Ia (DE H.wC X1) (H.raw u) trivial hta hBA λk doc i tk hk jC=>fin i tk cc oc vs t doc k _ (λb o _ e=>hk b o e) jC (hk _ _<|H.raw u) (hk _ _<|H.raw NC) (.inr NC) ZP hd S
end
def X2(hd:O d=Y (.raw o))(p:Known Z (.dict bJ) o)(g:i.td=Y k)(j:N bJ k=Y ⇑r)(h:Q ⇑r O):Ed Z n (!d) i O Q:=λU s A u v q H c S=>by let rfl:=c.bU;let m:=(Cb (Z:=Z) hd p).2 U s H;let(dN,a,f):=m.dict (d:=d) ar;let(x,T,e):=f.get j;show((jo ("dict") _ tQ.lookup a.typeIs),CH (S.key g) a.mapOf T<|dh.toks H e h _)
nonrec def ND:x∈n7 a ie↔x∈ie\/∃i∈a,x=(aT i:Int):=by
 induction a generalizing ie with
 |nil=>simp[n7]
 |cons y a c=>
  show x∈n7 a (ff ie (aT y:Int))↔_;rw[c]
  have:x∈ff ie (aT y:Int)↔x∈ie\/x=(aT y:Int):=by
   delta ff;clear a c;split
   .rename_i h;constructor
    .show .inl
    .rintro (d|rfl);show d;show h
   .simp
  rw[this];simp[or_assoc]
nonrec def Ju{c ie:List Int}(h:ie.Nodup):(n7 c ie).Nodup:=by
 induction c generalizing ie with
 |nil=>show h
 |cons y c f=>
  calc f (ie:=ff ie (aT y:Int));
  delta ff;split
  .show h
  .rename_i g;rw[eM];show(bt h (by simp)<|λa i b d e=>by simp at d;subst d;subst e;show g i)
def FP{a ie:List Int}:(n7 a ie).length<=ie.length+a.length:=by
 induction a generalizing ie with
 |nil=>simp[n7]
 |cons y a c=>
  let M:= @i9 ie (aT y:Int);show(n7 a<|ff ie (aT y:Int)).length<=_;simp;show af3 (c (ie:=ff ie (aT y:Int))) M
def Q0{n:Nat}{f hx c:aW}{od io:Obj}{IO:Nat->Obj->Prop}{p:Int->Bool}{Q:AV->bf->Prop}(RN:Sp Z.prog Z.w I d od xs IO)(hF:O F=Y (.raw<|jH f I))(hd:O d=Y (.raw od))(u:O I=Y (.raw io))(uE:IO 0 io)(RO:d≠I)(Mx:F≠I)(hz:xs.length<=4000)(J:O hx=R)(z:O h2=R)(E:hx≠h2)(t:aB (aB O hx<|.raw<|iQ F) h2 (.raw<|mS hx<|.builtin "abs") c=R)(T:∀s,(∀a o,a≠I->O a=Y o->s a=Y o)->s c=Y (.raw oc)->∀i∈xs,Cl Z n (!f) [.int i] [] s λa gB=>a=.bool (p i)/\gB=s)(h:∀D,O D=R->D≠c->Q (!D) (aB (cD (cD O I) F) D<|.set<|n7 (xs.filter p) [])):Cl Z (n+5) (.type "set") [.ref h2] [] (aB (aB (aB O hx<|.raw<|iQ F) h2<|.raw<|mS hx<|.builtin "abs") c<|.raw oc) λb s=>s c=Y (.raw oc)/\∃gB,Sub gB (cD s c)/\Q b gB:=by
 let ne:∀{a b:aW} {g:bD},O a=Y g->O b=R->a≠b:=λj hb e=>by rw[e,hb] at j;show nomatch j
 let G:c≠h2:=λe=>by clear z E;subst e;show cA t ar
 let H:c≠hx:=λe=>by clear J E;subst e;rw[aq G,ar] at t;show nomatch t
 let v:O c=R:=by rwa [aq G,aq H] at t
 let k:∀{a:aW} {g:bD},O a=Y g->aB (aB (aB O hx<|.raw<|iQ F) h2<|.raw<|mS hx<|.builtin "abs") c (.raw oc) a=Y g:=λj=>by rw[aq (ne j v),aq<|ne j z,aq<|ne j J];show j
 let wZ:∀{D:aW},aB (aB (aB O hx<|.raw<|iQ F) h2<|.raw<|mS hx<|.builtin "abs") c (.raw oc) D=R->O D=R/\D≠c/\D≠h2/\D≠hx:=fun{D} m=>by
  let q:D≠c:=λe=>by subst e;show cA m ar
  rw[aq q] at m;let e2:D≠h2:=λe=>by clear c oc z E t T h G H v k q;subst e;show cA m ar
  rw[aq e2] at m;let A:D≠hx:=λe=>by clear h2 c oc J z E t T h G H v k q e2;subst e;show cA m ar
  rw[aq A] at m;show ek m q e2 A
 refine QX RN (p:=p) (k hF) (k hd) (k u) uE RO (hx:=hx) (h2:=h2) ?_ ?_ Mx (aE<|ne u z) (aE<|ne u J) hz (λD m i hi xd ie=>?_) λD m=>?_
 .rw[aq (aE G),ar]
 .rw[aq (aE H),aq E,ar]
 .let(M,C,d3,d4):=wZ m;refine T _ (λa o j y=>?_) ?_ i hi
  .rw[aq j,aq<|ne y M];show k y
  .rw[aq (aE<|ne u v),aq<|aE C,ar]
 .let(M,C,d3,d4):=wZ m;let U:c≠I:=aE<|ne u v;refine((by rw[cx U,aq<|aE C,ar]),(aC _ (λa o j=>?_)<|h D M C));by_cases q:a=D
  .clear m d3 d4;subst q;rw[ar] at j;rw[cx C,cx<|aE<|ne u M,ar];show j
  .rw[aq q] at j;let e2:a≠F:=λe=>by subst e;show cA di j
   rw[cx e2] at j;let A:a≠I:=λe=>by subst e;show cA di j
   rw[cx A] at j;rw[cx (ne j v),cx A,aq q];show k j
section
variable{K:Type}[DecidableEq K]
def DP{xs:List (K×Z)}(a:(xs.map (·.1)).Nodup)(c:xs[j]?=Y (k,p)):xs.eraseIdx j=xs.filter λx=>decide (x.1≠k):=by
 induction xs generalizing j with
 |nil=>simp at c
 |cons x xs f=>
  rw[cj,dj] at a
  induction j using cV with
  |zero=>
   let rfl:x=(k,p):=by simpa using c
   have:∀y∈xs,decide (y.1≠k)=L:=λy g=>decide_eq_true λe=>a.1<|cG.mpr<|aC y g e;simp only[List.eraseIdx_cons_zero,gn,ne_eq,not_true_eq_false,decide_false,e9,if_false];show(zg.mpr this).symm
  |succ j=>
   let d:xs[j]?=Y (k,p):=c;let T:x.1≠k:=λe=>a.1<|e▸cG.mpr (aC (k,p) (bo d) rfl);rw[List.eraseIdx_cons_succ,f a.2 d,gn,bj<|by simpa using T]
def Q1(f:a->Z)(l:List a)(j:Nat):(l.map f).eraseIdx j=(l.eraseIdx j).map f:=by
 induction l generalizing j with|nil=>simp|cons x l c=>cases j<;>simp[c]
def si{knd:HeapKind prog w K}{a:aW}{p:aW×Value}{Q:Option rW->aZ->Prop}(v:knd.room A)(u:knd.is s.heap k a)(C:s.heap.DictOfH knd d xs)(i:atKey xs k=Y p)(z:xs.length<=oy)(h:∀e t,e.val=p.2->t.DictOfH knd d (xs.filter λx=>decide (x.1≠k))->cQ d s.heap t->Q (Y e) {s with heap:=t,toks:=s.toks+knd.draws k}):aN (bw prog w) A (yz d !a) Q az s:=by
 obtain⟨o,es,ep,c,D,hd,g,y,f⟩:=C;let n:es.size<=oy:=by rw[wY g];show z
 delta yz
 try with_reducible refine aJ ?_
 refine af<|knd.pyHash v u ?_;refine af<|wpAny_dictFind_heap (s:={s with toks:=s.toks+knd.draws k}) v u c hd g y f ?_ ?_
 .intro E;show cA (atKey_none_of_get E) i
 .intro j q m;let rfl:q=p:=by rw[atKey_of_get f m] at i;show ax i
  refine af<|lh (s:={s with toks:=s.toks+knd.draws k}) c hd ?_;rw[entry_at g j,m];refine af<|wpAny_updateDictKeys (hz:=n) (s:={s with toks:=s.toks+knd.draws k}) c hd<|aj<|h _ _ rfl (_,_,ep+1,iS _ c<|Obj.isFreed_of_dict<|yA hd _,D.mapDictKeys _,yA hd _,?_,?_,?_)<|cY ..
  .rw[<-(DP f m),<-Q1,<-g];obtain⟨l⟩:=es;simp
  .show λx T=>knd.keeps (y x<|(mO.mp T).1) c hd<|cY ..
  .show f.sublist<|(zf).map _
end
def X4(hd:O d=Y (.dg bJ))(E:wG l=Y ks)(hz:bJ.length<=1000000)(G:N bJ ks=Y a)(h:Q a (aB O d<|.dg<|dz bJ ks)):Cl Z n (.builtin "dict.pop") [.ref d,.tup l] [] O Q:=Cl.r2 λU s A w hR H y=>by
 let(b,rfl,M):=y.B4 (Z:=Z) E;let(xs,f,T,g):=H.dg hd;let(x,c,C):=g.get G;rw[qk] at c;let(p,t,rfl):=cM.mp c
 let cL:xs.length<=oy:=by have:=g.length;simp only[zD,cE] at this;rw[dw];show Ě this hz
 refine bN ee f.typeIs oE ?_<|vk _ _;unfold cK.«dict.pop»;calc af;
 delta sU
 refine af<|o7 f.typeIs ?_;show aN _ _ (pure<|bG d<|bG (jc b) R) _ _ s;calc aj;clear c;obtain⟨o,es,ep,j,I,q,k,L?,D⟩:=f;let f:s.heap.DictOfH (pJ<|cW Z.prog Z.w) d xs:=(o,es,ep,j,I,q,k,L?,D)
 let de:es.isEmpty=au:=by
  let J:es.size=xs.length:=wY k
  induction xs using bB with|nil=>simp[atKey] at t|cons x xs=>simp[zI,J]
 refine af<|lh j q ?_;rw[de];refine af<|aj ?_;refine Ax aI (af<|si (yJ hR) (M.is H) f t cL λe h' Wc u m=>?_);refine Ax aI<|af<|yy<|aj ?_;rw[Wc];let(z,es',V3,Ee,v,Ea,G3,_,Mp):=u;refine(_,rfl,U,a,_,bV.fm hd m _,H.fm hd m Ee (show kl Z.prog Z.w U (.dg<|dz bJ ks) z from(es',V3,_,v,Ea,G3,λx c=>T x<|(mO.mp c).1,Mp,?_)) _,C,h);let i:=g.del ks;unfold without zD at i;unfold zD;rw[wX] at i;show i
def Jv(c:s.heap.get? d=Y o)(hr:jr w o xs)(z:i∈xs)(hz:xs.length<=4000)(h:∀E m,cQ d s.heap E->E.get? d=Y m->jr w m (xs.erase i)->Q L (s<*E)):aN (bw prog w) A (setDiscardHashed d (.int i tk)<|qf i) Q az s:=by
 let(D,es,ep,t,ns,g,n,jn,hp,hx):=hr;let I:=n.of (prog:=prog) (w:=w);let q:es.size=xs.length:=by rw[<-hp.length_eq,n.len,aD]
 let(rfl,H):=eI.mp n;refine af<|af<|dK c g hx.tab.fits ?_;dsimp only;rw[byScan_of (knd:=cW prog w) rfl (by have:(4000:Nat)<scanBound:=∅;show af4 q hz this) I];refine PZ rfl<|af<|mW ?_;refine af<|CK (knd:=cW prog w) (k:=.int i) K0.isI c g hx.tab.fits I ?_;let key:∀e:Int×Value,(cW prog w).is ⇑i e.2=K0.is ⇑i e.2:=λ_=>rfl;clear key;induction C:zG (λe:Int×Value=>(cW prog w).is ⇑i e.2) es.toList with
 |none=>
  exfalso;clear s d c Q h;let(e,f,T):=cG.mp<|hp.mem_iff.mpr z;clear xs z hz q hp;let(v,t',rfl):=H e f;let u:v=i:=T;clear T;subst u;have:=iY.mp C _ f;simp[cW,K0.is,Az] at this
 |some j=>
  let(y,O,_):=nz.mp C;let G:j<es.size:=y;clear C;let(v,tv,S):=H es.toList[j] (pN y);let rfl:v=i:=by rw[S] at O;simpa [cW,K0.is,Az] using O
  let S:es[j]=(qf v,.int v tv):=by rw[<-S];show rfl
  dsimp only;rw[show 0+j=j from af5];calc aj;dsimp only;refine af<|dK c g hx.tab.fits ?_;dsimp only;let(nn,wZ):∃nn,es.size=nn+1:=(es.size-1,by show ſ G);let M:(dT es j).size=nn:=by rw[nH es G];show Ů wZ
  let p:=Ki (wZ▸hx.tab:Tab t (nn+1))<|wZ▸G;refine af (lg c g ?_<|by rw[dw,M];show ů wZ q hz)
  let U:(es.toList.eraseIdx j).Perm (es.toList.erase es[j]):=by
   let Mn:es.toList=es.toList.take j++es[j]::es.toList.drop (j+1):=by rw[show es[j]=es.toList[j]'y by simp,kg,eO]
   let J:es.toList.Perm (es[j]::es.toList.eraseIdx j):=by
    rw[ej];conv=>lhs;rw[Mn]
    show jS
   show(sS _).mp (J.symm.trans<|gE<|by simp)
  let V7:((es.toList.eraseIdx j).map Mu).Perm (xs.erase v):=by
   let J:(es.toList.map Mu).Perm (v::(es.toList.eraseIdx j).map Mu):=by have:=((gE (a:=es[j]) (l:=es.toList)<|by simp).trans (ye _ U.symm)).map Mu;rw[cj,S] at this;show this
   show(sS v).mp (J.symm.trans<|hp.trans<|gE z)
  let(m,Ee,J6):=rB (w:=w) (es':=dT es j) (t':=t.drop j) (ns:=(es.toList.eraseIdx j).map Mu) (xs:=xs.erase v) c D g
   (eI.mpr (by rw[toList_eraseAt],λe f=>by rw[toList_eraseAt] at f;show H e<|ur f))
   (jn.sublist<|(o5 ..).map _) V7 (by rw[M];show(p.1,p.2.plain.trans hx.plain,p.2.led.trans hx.led))
  show af<|nk<|aj<|h _ m (cY ..) Ee J6
def NG(hd:O d=Y (.set xs))(j:i∈xs)(hz:xs.length<=4000)(h:Q .none (aB O d<|.set<|xs.erase i)):Cl Z n (.builtin "set.remove") [.ref d,.int i] [] O Q:=Cl.r2 λU s A w q H g=>by
 let(tk,rfl):=g.int_inv;let(o,c,a):=H.set hd;refine bN vz (a.typeIs c) PySem.F.entry_set_remove ?_<|PySem.F.args_set_remove_2 _ _;unfold cK.«set.remove» sR;rw[CL,bind_assoc]
 delta jB
 refine af<|aj ?_
 try dsimp only
 refine af<|aj ?_
 try dsimp only
 delta CQ setDiscard
 refine af<|wpAny_tryCatch<|aJ<|af<|lV ?_;refine Jv (s:={s with toks:=s.toks+1}) c a j hz λe p f m k=>?_;show aN _ _ (ret gk) _ _ _;show aj (_,rfl,U,.none,_,bV.fm (s:=s) hd (show cQ d s.heap e from f) _,H.E0 hd (show cQ d s.heap e from f) m k _,.raw _,h)
def Ub{C:aW}:(Code.builtin "type.__call__" ([.ref C],[])).cUnits<=8:=bg rfl
def fV.tc(h:fV (n+1) A):fV n (A.under<|.builtin "type.__call__" ([.ref C],[])):=
 (by have:=h.depth;show A.depth+1+n<=999;show j? this,by have:=h.units;have:= @Ub C;show A.units+_+8*n<=9800;show ai6 ∎ this,h.handled)
def M_{Z:Bs}{n:Nat}{C:aW}{oc:Value}{m₀:aW->Loc}(G:makesIn Z.K C=L)(I:jz Z.K (!C) "__init__"=Y (Y !f))(J:wx Z.K (!f)=Y (.type "function"))(D:Z.K.lookup f=Y (oc,od,.func fd,osl))(k:CB Z.K fd.code fd.qualname=L)(m:fd.body=.stmts body)(y:plainDef fd=L)(M:∀x,Binds Z fd [.ref x] []<|m₀ x)(E:∀x,r4 fd (m₀ x)=L)(i:Z.K.lookup C=Y oC)(h:∀x c,O c=R->O x=R->c≠x->c≠C->∀ak,Ex Z n (k6 fd ak f) body (aB (aB O c<|.ns []) x<|.raw<|k8 C c) (m₀ x) λfl d _=>m7 fl=.none/\Q (!x) d):Cl Z (n+2) (!C) [] [] O Q:=λU s A vs bJ hR H S u t=>by
 clear t;let rfl:=ig u;cases S;calc pL;let j:=H.j9 (g:=.ns []) (o:=yY) rfl (_,_,rfl,.nil,jW) s.toks;let g1:bV U O s U _ _:=bV.j9 (g:=.ns []) (o:=yY) s.toks;let g2:=g1.trans<|bV.j9 (U:=U) (g:=.raw<|k8 C ↥s) (o:=k8 C ↥s) s.toks;let e1:O ↥s=R:=H.bY.2;let e2:=j.bY.2;let T:(s.heap.push yY).objs.size=↥s+1:=fJ ..
 let e3:O (↥s+1)=R:=by rw[<-T];have:aB O ↥s (.ns []) (s.heap.push yY).objs.size=R:=e2;rwa [aq (by rw[T];show CP _)] at this
 let key:=OE (Z:=Z) (Q:=λa d=>a=.none/\Q (!(↥s+1)) d) D k m y (M _) (E _) (h (↥s+1) ↥s e1 e3 (bX<|eE _) (kh<|aU<|H.wC _ _ i)) U
  ((s.heap.push yY).push (k8 C ↥s),s.gens,s.drawn,s.toks,s.os) _ [.ref<|↥s+1] [] (hR.tc (C:=C)) (by rw[<-T];show j.j9 (g:=.raw<|k8 C ↥s) (o:=k8 C ↥s) rfl rfl s.toks) (.cons (.raw _) .nil) rfl .nil
 refine make_core (makes_of H.wC G) (looks_findIn H.wC I) (λself=>bind_fn H.wC self J) (.inl rfl) (oG key λr s' z=>?_)
 induction r with
 |error e=>show z
 |ok f=>
  induction f with
  |ret v=>
   let(U',a,d,g,S9,p,rfl,q):=z;show(p.bU,U',.ref<|↥s+1,d,g2.trans (by rw[T];show g),S9,.raw _,q)
  |_=>show z
def Ph(hc:o.cls=.type hx)(Mv:nq (.type hx) (.type "set")=pure au)(W6:nq (.type hx) (.type "frozenset")=pure au)(d:(pP hx==pP "dict")=au)(hi:∀D,O D=R->Au Z n target (.obj o) (aB O D<|.set []) λaH _=>aH=[])(h:∀D,O D=R->Q (!D) (aB O D<|.set [])):Cl Z (n+3) (.type "set") [.obj o] [] O Q:=Cl.a1 λU s A v m H M=>by
 let(h2,rfl,c):=M.Ay;let gM:=(H.bC _ _ c).1;calc yN (oR _) (pa _) (λA' jK self Q' d hq=>vw d hq);let eg:(s.heap.push<|cf Z.w).get? ↥s=Y (cf Z.w):=aO _ rfl;let hTs:gz (s<*s.heap.push (cf Z.w)) (!↥s) "set":=(_,eg,rfl);let i:gz (s<*s.heap.push (cf Z.w)) (!h2) hx:=(_,aF _ gM,hc);let t:=H.bY;unfold cK.«set.__init__» Ap;generalize y:d9=UF
 wp_walk
 subst y
 delta d9 iO
 refine af<|af<|ed (T:=hx) (b:=au) i Mv ?_;calc ed (T:=hx) (b:=au) i W6;rw[aK ∅];refine af<|BP i ?_;rw[aK (by rw[d];decide)];let fY:=H.j9 (g:=.set []) (o:=cf Z.w) rfl (pf Z.w) s.toks;let g1:bV U O s U _ _:=bV.j9 (O:=O) (U:=U) (s:=s) (g:=.set []) (o:=cf Z.w) s.toks;let f:lJ ym "set.update.loop"=Y cK.«set.update.loop»:=iB ();let u:plainId "set.update.loop"=L:=by lk
 refine af (Xh (hi _ t.2 U _ _ _ (m.in1.in1.le<|lM n) fY<|.obj c) λit C aH fp wr h1 eu q I j g3 S3 q1 k q3 G=>?_);subst G;refine af<|yq<|ib f ?_;rw[fk u];unfold cK.«set.update.loop»;refine af (aG (I.stop q _ C n _ m.in1.in1.in1 S3 (λb hb=>(k b hb).2) j) (λr s4 z=>?_) λ_ _ e=>e.elim);let(hr,p,S4):=z;subst hr;refine aj (aj<|aj (rfl,q,.ref ↥s,_,(λa o e=>g3.bC _ _<|g1.bC _ _ e,λa o e1 e2 e3=>?_,p.os.trans<|g3.os.trans g1.os),S4,.raw _,h _ t.2));let(p1,p2,J):=g1.keep a o e1 e2 e3;let(r1,r2,E):=g3.keep a o p1 p2 J;show p.keep a o (λhm=>cA ((k a hm).1) p1) r1 r2 E
def Jw:lJ ym "set.__ne__"=Y cK.«frozenset.__ne__»:=
 oO (id':="frozenset.__ne__") ⋯ rfl (by lk) ⋯
def X5(J:O k=Y (.set []))(M:O j=Y (.set []))(h:Q (.bool au) O):pb Z n .NotEq (!k) (!j) O Q:=λU s A u v hR H hu S=>by
 refine hide λ_ kP=>?_;let rfl:=hu.bU;let rfl:=S.bU;let(I,e,o,y,ep1,t1,ώ,g,t,Ls,V7,i):=H.set J;clear Ls;let(G,f,d,z,ô,t2,ϓ,a,q,m,V8,p):=H.set M;let c:s.TypeIs (!k) "set":=(I,e,o.1);let C:s.TypeIs (!j) "set":=(G,f,d.1);clear m;let rfl:=CR V7;let rfl:=CR V8;let E:y.size=0:=by simpa using t.len.symm
 let D:z.size=0:=by simpa using q.len.symm
 clear t q;let rfl:y= #[]:=jX E;let rfl:z= #[]:=jX D;calc kP;show aN _ _ (Dz .NotEq (!k) !j) _ _ s;refine wpAny_richCompare_same_room c C zi ?_ (by have:=hR.cl;show af6 this);refine bN zi c Jw ?_<|PySem.F.args_set_ne_2 _ _;unfold cK.«frozenset.__ne__»;refine af<|aj ?_;calc af;
 delta iO
 refine af<|ed (T:="set") (b:=L) C sub_set_self<|aj ?_;refine af<|aj ?_;refine af<|aj ?_
 delta jA
 refine af<|af<|cZ e g i.tab.fits<|aj ?_;refine af<|af<|cZ f a p.tab.fits<|aj ?_
 extract_lets id1 eq
 calc af;subst eq;rw[aK ∅];refine af (af<|ed (T:="set") (b:=au) c (by rw[bM];kernel_rfl)<|aj ?_);rw[aK ∅];show aN _ _ (sV _ k j) _ _ _
 delta sV
 delta jA
 refine af<|af<|cZ e g i.tab.fits<|aj ?_;refine af<|af<|cZ f a p.tab.fits<|aj ?_;rw[aK ∅]
 delta setEpoch
 refine af<|af<|dK e g i.tab.fits<|aj ?_
 delta D5
 refine af<|af<|cZ e g i.tab.fits ?_;refine af<|cZ f a p.tab.fits ?_;refine af<|aj ?_;refine aj<|af<|aj ?_;show aj<|aj (_,rfl,∅,U,_,_,bV.refl,H,.raw _,h)
def NH(bJ:List (K0×AV))(k:K0)(a:AV):=if(N bJ k).isSome then bJ else bl bJ k a
def zt(hd:O d=Y (.dict bJ))(z:i.td=Y k)(hz:bJ.length<=1000000)(h:Q ((N bJ k).getD a) (aB O d<|.dict<|NH bJ k a)):Cl Z n (.builtin "dict.setdefault") [.ref d,i,a] [] O Q:=λU s A vs D E H S t p=>by
 clear p;let rfl:=ig t;let(v,x,y,rfl,q,o,m):=nT S;clear S;let rfl:=q.bU;let(dN,g,e):=H.dict hd;refine oB kB g.typeIs PySem.F.entry_dict_setdefault (PySem.F.args_dict_setdefault_3 _ _ _) (kt_meets_setdefault (cW Z.prog Z.w) d (o.key z) (H.jG hd) y) (kU dN g (by rw[<-e.length,dw];show Ġ hz) (λv S=>?_)<|λu G C j=>?_)
 .induction c:N bJ k with
  |none=>show cA (e.get_none c) S
  |some b=>
   let(x,T,f):=e.get c;let rfl:x=v:=ax<|T.symm.trans S;rw[NH,c,bj (),fN hd] at h;show dh.toks H f h _
 .induction c:N bJ k with
  |some b=>let(x,T,f):=e.get c;show cA u T
  |none=>
   rw[NH,c,aK ∅] at h;show(U,a,_,bV.fm hd j _,H.vP hd j C (e.put m) _,m,h)
def Uc(hd:O d=Y (.dg bJ))(hk:wG l=Y ks)(hz:bJ.length<=1000000)(hg:bJ=[]\/(N bJ ks).isSome)(h:Q ((N bJ ks).getD z) (aB O d<|.dg<|dz bJ ks)):Cl Z n (.builtin "dict.pop") [.ref d,.tup l,z] [] O Q:=λU s A vs kv hR H S kY lY=>by
 clear lY;let rfl:=ig kY;let(v,w,y,rfl,km,I,V4):=nT S;clear S;let rfl:=km.bU;let(b,rfl,hb):=I.B4 (Z:=Z) hk;let(xs,c,T,f):=H.dg hd;refine bN ee c.typeIs oE ?_<|PySem.F.args_dict_pop_3 _ _ _;unfold cK.«dict.pop»;calc af;
 delta sU
 refine af<|o7 c.typeIs ?_;show aN _ _ (pure<|bG d<|bG (jc b)<|Y y) _ _ s;calc aj;obtain⟨o,es,ep,i,t,k,j,C,q⟩:=c;let c:s.heap.DictOfH (pJ<|cW Z.prog Z.w) d xs:=(o,es,ep,i,t,k,j,C,q);let J:es.size=xs.length:=wY j;dsimp only;refine af<|lh i k ?_;clear o ep i t k j C q;rcases hg with rfl|hg
 .have:xs=[]:=by have:=f.length;simp only[zD,cE,D4] at this;show nj.mp this.symm
  clear T c f;subst this;let rfl:es= #[]:=jX J;refine af<|aj ?_;rw[bj ()];refine af<|mW ?_;refine af<|aj ?_;rw[bj ()];refine af<|wpAny_missedRemoval_other (H.jG hd) ?_;refine af<|mW<|aj ?_;let e:aB O d (.dg<|dz [] ks)=O:=fN hd;rw[e] at h;show(_,rfl,U,_,_,bV.refl,H,V4,h)
 let(a,hg):=bp.mp hg;rw[hg] at h;let(x,g,hr):=f.get hg;rw[qk] at g;let(p,D,rfl):=cM.mp g
 let cL:xs.length<=oy:=by have:=f.length;simp only[zD,cE] at this;rw[dw];show Ě this hz
 let de:es.isEmpty=au:=by
  induction xs using bB with|nil=>simp[atKey] at D|cons x xs=>simp[zI,J]
 rw[de];refine af<|aj ?_;refine Ax aI (af<|si (yJ hR) (hb.is H) c D cL λe h' Wc E u=>?_);refine Ax aI<|af<|yy<|aj ?_;rw[Wc];let(M,es',V3,Ee,G,Ea,G3,_,Mp):=E;refine(_,rfl,U,a,_,bV.fm hd u _,H.fm hd u Ee (show kl Z.prog Z.w U (.dg<|dz bJ ks) M from(es',V3,_,G,Ea,G3,λx g=>T x<|(mO.mp g).1,Mp,?_)) _,hr,h);let m:=f.del ks;unfold without zD at m;unfold zD;rw[wX] at m;show m
def Q2(t:iZ f=L)(h:Ev Z n E f O m λfv i=>∃g,fv=.raw g/\keepIn Z.K g=L/\Cl Z n g [] [] i Q):Ev Z n E (.Call f [] [] pos) O m Q:=λU s A c H v=>by rw[show eval (.Call f [] [] pos) E=(do callWith pos (<-eval f E) [] (uf pos<|kz [] E) []) from yI t];refine af (fw (h U s A c H v) λu j z a i y d o k=>?_);let(g,q,C,J):=k;subst q;let rfl:=o.bU;show callWith_K0 d.wC C (aG (J z j A [] [] c d .nil rfl .nil) (λ_ _ p=>p.after y) λ_ _ e=>e)
section
set_option backward.match.sparseCases false
set_option genSizeOf false
inductive Ix where
 |l(k:Nat)|c(a:AV)|at(x:Str)|sb|bi(op:sI)|ng|cm(op:Gy)|ab|tu(n:Nat)|tr|no|iff(a b:List Ix)|an(b:List Ix)|or(b:List Ix)|c2(o:Gy)(b:List Ix)
 |fn|ca(n:Nat)(kn:List Str)|me(x:Str)|mc(n:Nat)|ms(x:Str)|mt(n:Nat)|tl|mf(f:aW)(n:Nat)(kn:List Str)|ret|brk|con|pop|st(k:Nat)|un(n:Nat)|ss|sa(x:Str)|gi|ag(op:sI)|ai(op:sI)(k:Nat)
 |fo(tu:Bool)(t it b o:List Ix)|wh(t b o:List Ix)|er(e:Expr)|sr(s:fz)|bad
abbrev Lm:=List<|Option AV
structure CC where
 Z:Bs
 n:Nat
 E:Env
 nm:List Str
structure CI where
 c:CC
 Q:Fl->bf->Lm->Prop
abbrev idx:List Str->Str->Option Nat
 |[],_=>R
 |y::l,x=>match x==y with
  |true=>Y 0
  |false=>(idx l x).map (· +1)
@[ext]abbrev tj:Lm->Nat->Option AV
 |[],_=>R
 |a::_,0=>a
 |_::l,k+1=>tj l k
abbrev Hf:Lm->Nat->AV->Lm
 |[],_,_=>[]
 |_::l,0,v=>Y v::l
 |a::l,k+1,v=>a::Hf l k v
def Agree(nm:List Str)(c:Loc)(m:Lm):=∀x k a,idx nm x=Y k->tj m k=Y a->c.lookup x=Y a
inductive br(c:Bool)(p q:Prop):Prop
 |t (h:c=L) (k:p):br c p q
 |f (h:c=au) (k:q):br c p q
def gd(b:Bool)(v:List Ix):=match b with
 |true=>v
 |false=>[.bad]
def go{c:Type}(o:Option c)(f:c->List Ix):=match o with
 |some a=>f a
 |none=>[.bad]
abbrev Ud:Const->Option AV
 |.int i=>Y ⇑i
 |.str s=>Y<|.str s
 |.none=>Y .none
 |.bool b=>Y<|.bool b
 |_=>R
def Ib(K:wi)(x:Str):=(nsIn K dt x).bind λo=>match o with
 |some v=>Y v
 |none=>(match x=="__name__" with
  |true=>R
  |false=>lW x)
abbrev Ue(C:CC)(x:Str)(r:List Ix):List Ix:=match idx C.nm x with
 |some k=>gd (isVar C.E x) (.l k::r)
 |none=>gd (vK C.E x) (go (Ib C.Z.K x) λv=>.c (.raw v)::r)
abbrev pA:List Str:=["_pred","_succ","_ref","_min_free","_ite_table","vars","_level_to_var","_reordering_context","_last_len","roots","max_nodes"]
abbrev refOf:Value->Option aW
 |.ref f=>Y f
 |_=>R
def Q3(h:refOf v=Y f):v=.ref f:=by cases v<;>first|exact congrArg _ (ax h)|exact nomatch h
def X7(K:wi)(x:Str):=(jz K (!493) x).bind λo=>o.bind λv=>(refOf v).bind λf=>match lQ K 493&&(wx K (!f)==Y (.type "function"))&&kK K (!f)&&not (pA.contains x) with
  |true=>Y f
  |false=>R
abbrev Ug(K:wi)(x:Str):Bool:=match jz K (!493) x with
 |some (Y v)=>wx K v==Y (.type "staticmethod")
 |_=>au
abbrev Ej(f:Expr->List Ix->List Ix):List Expr->List Ix->List Ix
 |[],r=>r
 |e::es,r=>f e<|Ej f es r
abbrev cBo(f:Expr->List Ix->List Ix)(op:BoolOp):List Expr->List Ix->List Ix
 |[],r=>.c (.bool<|op==.And)::r
 |e::es,r=>f e ((match op with
  |.And=>.an<|cBo f op es []
  |.Or=>.or<|cBo f op es [])::r)
abbrev isB(s:String):Value->Bool
 |.builtin z=>z==s
 |_=>au
def Ic(C:CC)(x:Str)(as:List Expr)(ks:List qj):=vK C.E x&&(idx C.nm x).isNone&&(as.length==1)&&ks.isEmpty&&(match Ib C.Z.K x with
 |some v=>isB "abs" v
 |none=>au)
abbrev tv(t:Bool)(r:List Ix):List Ix:=match t with
 |true=>.tr::r
 |false=>r
def callee{c:Type}(f:Expr)(a:Expr->Str->Pos->c)(n:Str->c)(o:c):=match f with
 |.Attribute e x d=>a e x d
 |.Name x _=>n x
 |_=>o
def ZR(C:CC)(g:Expr->List Ix->List Ix)(f:Expr)(as:List Expr)(ks:List qj)(pos:Pos)(r:List Ix):=
 gd (as.all cn&&ks.all (·.arg.isSome)) (callee f
  (λo x c=>gd (kG o&&wc (as.length+ks.length+1) 30&&(c.endLine==pos.line)) (match X7 C.Z.K x with
   |some a=>g o (.tl::Ej g as (Ej g (ks.map (·.value)) (.mf a as.length (lP ks)::r)))
   |none=>gd ks.isEmpty (match Ug C.Z.K x with
    |true=>g o (.ms x::Ej g as (.mt as.length::r))
    |false=>g o (.me x::Ej g as (.mc as.length::r)))))
  (λx=>match Ic C x as ks with
   |true=>Ej g as (.ab::r)
   |false=>g f (.fn::Ej g as (Ej g (ks.map (·.value)) (.ca as.length (lP ks)::r))))
  (g f (.fn::Ej g as (Ej g (ks.map (·.value)) (.ca as.length (lP ks)::r)))))
def unV(g:Bool->Expr->List Ix->List Ix)(t:Bool)(op:UnaryOp)(a:Expr)(r:List Ix):=match op with
 |.USub=>gd (not t)<|g au a (.ng::r)
 |.Not=>(match t with
  |true=>g L a (.no::r)
  |false=>g au a (.tr::.no::r))
 |_=>[.bad]
abbrev M!(g:Expr->List Ix->List Ix)(t:Bool)(l:Expr)(a:List Gy)(rs:List Expr)(r:List Ix):List Ix:=match a with
 |[]=>[.bad]
 |op::a=>(match rs with
  |[]=>[.bad]
  |x::rs=>(match a with
   |[]=>(match rs with
    |[]=>gd (dZ op x)<|g l<|g x (.cm op::tv t r)
    |_::_=>[.bad])
   |p::a=>(match rs with
    |[]=>[.bad]
    |b::rs=>gd (t&&a.isEmpty&&rs.isEmpty&&dZ op x&&dZ p b)<|g l<|g x (.c2 op (g b [.cm p,.tr])::r))))
abbrev akF:Expr->Bool
 |.Call f _ _ _=>callee f (λ_ _ _=>au) (λx=>x=="map") au
 |_=>au
def X8(f:Expr)(as:List Expr):=callee f (λ_ _ _=>au) (λx=>x=="BDD"||(x=="set"&&as.any akF)) au
abbrev cX(C:CC):Nat->Bool->Expr->List Ix->List Ix
 |0,_,_,_=>[.bad]
 |d+1,t,e,r=>match e with
  |.Name x _=>Ue C x<|tv t r
  |.Constant c _ _=>go (Ud c) λa=>.c a::tv t r
  |.Attribute o x _=>gd (kG o)<|cX C d au o (.at x::tv t r)
  |.Subscript o i _=>(match jt i with
   |true=>cX C d au o<|cX C d au i (.sb::tv t r)
   |false=>gd (not t) (.er e::r))
  |.BinOp l op x _=>gd (not t)<|cX C d au l<|cX C d au x (.bi op::r)
  |.UnaryOp op a _=>unV (cX C d) t op a r
  |.Compare l g rs _=>M! (cX C d au) t l g rs r
  |.BoolOp op es _=>gd t<|cBo (cX C d L) op es r
  |.Tuple es _ _=>gd (not t)<|gd (es.all cn&&Es es.length 1000)<|Ej (cX C d au) es (.tu es.length::r)
  |.IfExp c a b _=>gd (not t)<|cX C d L c (.iff (cX C d au a []) (cX C d au b [])::r)
  |.Call f as ks pos=>(match X8 f as with
   |true=>gd (not t) (.er e::r)
   |false=>ZR C (cX C d au) f as ks pos<|tv t r)
  |e=>gd (not t) (.er e::r)
abbrev cT(C:CC):Nat->Expr->List Ix->List Ix
 |0,_,_=>[.bad]
 |d+1,e,r=>match e with
  |.Name x _=>gd (eF C.E x) (go (idx C.nm x) λk=>.st k::r)
  |.Tuple a _ _=>gd (a.all cn) (.un a.length::Ej (cT C d) a r)
  |.Subscript o i _=>cX C d au o<|cX C d au i (.ss::r)
  |.Attribute o x _=>cX C d au o (.sa x::r)
  |_=>[.bad]
def isTup(e:Expr):=gX e.ctorIdx 25
def X9(e:Expr):=gX e.ctorIdx 25||(gX e.ctorIdx 23||(gX e.ctorIdx 21||Nat.beq e.ctorIdx 20))
def M?{c:Type}(e:Expr)(f:Expr->Expr->c)(g:Str->c)(o:c):=match e with
 |.Subscript a i _=>f a i
 |.Name x _=>g x
 |_=>o
def swC(C:CC)(x y:Str)(p q:Pos)(a b:Expr):=C.E.blockKind==.function&&cn a&&cn b&&C.E.kindOf x==Y .local&&C.E.kindOf y==Y .local&&q.line==p.line&&not (x==y)&&eF C.E x&&eF C.E y
    &&not ([a,b].all (foldedForSure 8))&&not ([a,b].all (constantsAlone 8))
def Yb{c:Type}(e:Expr)(f:Expr->Expr->c)(o:c):=match e with
 |.Tuple [a,b] _ _=>f a b
 |_=>o
def nam{a:Type}(e:Expr)(f:Str->Pos->a)(o:a):=match e with
 |.Name x p=>f x p
 |_=>o
structure Oth(e:Expr):Prop where
 c:∀{α:Type} (a:Expr->Str->Pos->α) (n:Str->α) (o:α),callee e a n o=o
 p:iZ e=L
 n:∀{α:Type} (f:Str->Pos->α) (o:α),nam e f o=o
 t:∀{α:Type} (f:Expr->Expr->α) (o:α),Yb e f o=o
 s:∀{α:Type} (f:Expr->Expr->α) (g:Str->α) (o:α),M? e f g o=o
 g:X9 e=au
inductive EV:Expr->Prop
 |a {e x p}:EV (.Attribute e x p)
 |n {x p}:EV (.Name x p)
 |t {es k p}:EV (.Tuple es k p)
 |s {a i p}:EV (.Subscript a i p)
 |o {e} (h:Oth e):EV e
def ev(e:Expr):EV e:=by cases e<;>first|exact .a|exact .n|exact .t|exact .s|exact .o (λ_ _ _=>rfl,rfl,λ_ _=>rfl,λ_ _=>rfl,λ_ _ _=>rfl,rfl)
inductive FV:Expr->Prop
 |a {e x p}:FV (.Attribute e x p)
 |n {x p}:FV (.Name x p)
 |o {f} (h:iZ f=L) (k:∀{α:Type} (a:Expr->Str->Pos->α) (n:Str->α) (o:α),callee f a n o=o):FV f
def fv(f:Expr):FV f:=by
 induction ev f with|a=>show .a|n=>show .n|t=>show .o rfl λ_ _ _=>rfl|s=>show .o rfl λ_ _ _=>rfl|o q=>show .o q.p q.c
def Q4(h:isTup e=L):∃es k p,e=.Tuple es k p:=by
 cases ev e with|t=>show Iv _ _ _ rfl|o q=>show nomatch (congrArg (· ||(gX e.ctorIdx 23||(gX e.ctorIdx 21||Nat.beq e.ctorIdx 20))) h).symm.trans q.g|a=>show nomatch h|n=>show nomatch h|s=>show nomatch h
def Yc(J:X9 t=L)(M:(not (isTup t&&isTup v))=L):kH [t] v E=pure R/\cn t=L:=by
 induction ev t with|t=>show(Ql M,rfl)|o q=>show nomatch J.symm.trans q.g|a=>show(rfl,rfl)|n=>show(rfl,rfl)|s=>show(rfl,rfl)
def Yd{Q:c->Prop}{f:Expr->Expr->c}(h:Q (M? e f g o)):(∃a i p,e=.Subscript a i p/\Q (f a i))\/(∃x p,e=.Name x p/\Q (g x))\/Q o:=by
 induction ev e with|s=>show .inl (Oi _ _ _ rfl h)|n=>show .inr (.inl<|jo _ _ rfl h)|o q=>show .inr (.inr<|q.s f g o▸h)|a=>show .inr (.inr h)|t=>show .inr (.inr h)
def swV(C:CC)(t v:Expr)(g:List Ix->List Ix)(r:List Ix):=Yb t (λs u=>Yb v (λa b=>nam s (λx p=>nam u (λy q=>gd (swC C x y p q a b)<|go (idx C.nm x) λi=>go (idx C.nm y) λj=>g (.un 2::.st i::.st j::r)) [.bad]) [.bad]) [.bad]) [.bad]
abbrev FQ(f:fz->List Ix->List Ix):List fz->List Ix->List Ix
 |[],r=>r
 |s::ss,r=>f s<|FQ f ss r
abbrev N_(C:CC)(g:Expr->List Ix->List Ix)(h:Expr->List Ix->List Ix)(s:fz)(t v:Expr)(r:List Ix):List Ix:=match ry v with
 |false=>.sr s::r
 |true=>(match X9 t&&not (isTup t&&isTup v) with
  |true=>g v<|h t r
  |false=>swV C t v (g v) r)
def ϲ(C:CC)(g:Expr->List Ix->List Ix)(t:Expr)(op:sI)(e:Expr)(r:List Ix):=M? t
 (λo i=>gd (jt i)<|g o<|g i (.gi::g e (.ag op::r)))
 (λx=>gd (isVar C.E x&&eF C.E x) (go (idx C.nm x) λk=>.l k::g e (.ai op k::r)))
 [.bad]
abbrev Uh:Expr->Bool
 |.Call f _ _ _=>callee f (λ_ _ _=>au) (λx=>x=="enumerate") au
 |_=>au
abbrev FR(C:CC):Nat->fz->List Ix->List Ix
 |0,_,_=>[.bad]
 |d+1,s,r=>match s with
  |.Expr e _=>gd (not (interactive C.E)&&ry e)<|cX C d au e (.pop::r)
  |.Assign a v _=>(match a with
   |[]=>[.bad]
   |t::a=>gd a.isEmpty<|N_ C (cX C d au) (cT C d) s t v r)
  |.AugAssign t op e _=>ϲ C (cX C d au) t op e r
  |.Return v _=>(match v with
   |some e=>cX C d au e [.ret]
   |none=>[.c .none,.ret])
  |.Break _=>[.brk]
  |.Continue _=>[.con]
  |.If t b o _=>cX C d L t (.iff (FQ (FR C d) b []) (FQ (FR C d) o [])::r)
  |.For t it b o _=>(match Uh it with
   |true=>.sr s::r
   |false=>gd (mF it) (.fo (isTup t) (cT C d t []) (cX C d au it []) (FQ (FR C d) b []) (FQ (FR C d) o [])::r))
  |.While t b o _=>.wh (cX C d L t []) (FQ (FR C d) b []) (FQ (FR C d) o [])::r
  |.FunctionDef .. =>.sr s::r
  |_=>[.bad]
abbrev j3:Nat->Expr->List Expr
 |0,_=>[]
 |d+1,e=>match e with
  |.Name .. =>[]
  |.Constant .. =>[]
  |.Attribute o _ _=>j3 d o
  |.Subscript o i _=>(match jt i with
   |true=>j3 d o++j3 d i
   |false=>[e])
  |.BinOp l _ x _=>j3 d l++j3 d x
  |.UnaryOp _ a _=>j3 d a
  |.Compare l _ rs _=>j3 d l++rs.flatMap (j3 d)
  |.BoolOp _ es _=>es.flatMap<|j3 d
  |.Tuple es _ _=>es.flatMap<|j3 d
  |.IfExp c a b _=>j3 d c++(j3 d a++j3 d b)
  |.Call f as ks _=>(match X8 f as with
   |true=>[e]
   |false=>j3 d f++(as.flatMap (j3 d)++(ks.map (·.value)).flatMap (j3 d)))
  |e=>[e]
abbrev FT:Nat->fz->List Expr
 |0,_=>[]
 |d+1,s=>match s with
  |.Expr e _=>j3 30 e
  |.Assign a v _=>(match ry v with
   |true=>j3 30 v++a.flatMap (j3 30)
   |false=>[])
  |.AugAssign t _ e _=>j3 30 t++j3 30 e
  |.Return (Y e) _=>j3 30 e
  |.If t b o _=>j3 30 t++(b.flatMap (FT d)++o.flatMap (FT d))
  |.For t it b o _=>(match Uh it with
   |true=>[]
   |false=>j3 30 t++(j3 30 it++(b.flatMap (FT d)++o.flatMap (FT d))))
  |.While t b o _=>j3 30 t++(b.flatMap (FT d)++o.flatMap (FT d))
  |_=>[]
abbrev FU:Nat->fz->List fz
 |0,_=>[]
 |d+1,s=>match s with
  |.Assign _ v _=>(match ry v with
   |true=>[]
   |false=>[s])
  |.If _ b o _=>b.flatMap (FU d)++o.flatMap (FU d)
  |.For _ it b o _=>(match Uh it with
   |true=>[s]
   |false=>b.flatMap (FU d)++o.flatMap (FU d))
  |.While _ b o _=>b.flatMap (FU d)++o.flatMap (FU d)
  |.FunctionDef .. =>[s]
  |_=>[]
def xR(b:List fz)(j:Nat):=(b.flatMap<|FT 30).getD j (.Tuple [] 0 default)
def za(b:List fz)(j:Nat):=(b.flatMap<|FU 30).getD j (.Pass default)
inductive Tl1(O:bf)(o:AV)(P:Prop):Prop
 |mk (y dx:aW) (bJ:List (Str×AV)) (ho:o=.ref y) (I:Inst O y 493 dx bJ) (hk:(bJ.all λp=>pA.contains p.1)=L) (h:P):Tl1 O o P
inductive Me1(Z:Bs)(O:bf)(o:AV)(x:Str)(P:Value->Prop):Prop
 |mk (g:Value) (h:J5 Z O o x g) (k:kK Z.K g=L) (p:P g):Me1 Z O o x P
inductive Ms1(Z:Bs)(O:bf)(o:AV)(x:Str)(P:Value->Prop):Prop
 |mk (g:Value) (h:H_ Z O o x g) (k:kK Z.K g=L) (p:P g):Ms1 Z O o x P
inductive Sat(Z:Bs)(o:AV)(x:Str)(a:AV)(O:bf)(K:bf->Prop):Prop
 |mk (y C dx:aW) (bJ:List (Str×AV)) (ho:o=.ref y) (I:Inst O y C dx bJ) (hC:lQ Z.K C=L) (ht:takerIn Z.K C x=Y R) (hl:bJ.length<=500) (h:K (aB O dx<|.ns<|lz bJ x a)):Sat Z o x a O K
abbrev ac(a:AV)(i:Int->Prop)(r:Value->Prop)(t:List AV->Prop)(o:Prop):=match a with
 |.int x=>i x
 |.str _=>o
 |.raw v=>r v
 |.tup l=>t l
 |.lst _=>o
 |.obj _=>o
abbrev vc(v:Value)(n:Prop)(b:Bool->Prop)(f o:Prop):=match v with
 |.none=>n
 |.ellipsis=>o
 |.notImplemented=>o
 |.bool x=>b x
 |.int _ _=>o
 |.float _ _=>o
 |.str _ _=>o
 |.bytes _ _=>o
 |.type _=>f
 |.builtin _=>f
 |.ref _=>o
abbrev FW(x y:AV)(K:Int->Int->Prop)(d:Prop):=ac x (λi=>ac y (λj=>K i j) (λ_=>d) (λ_=>d) d) (λ_=>d) (λ_=>d) d
abbrev isN(x y:AV)(K:Bool->Prop)(d:Prop):=ac y (λ_=>d) (λv=>vc v (ac x (λ_=>K au) (λu=>vc u (K L) (λ_=>d) d d) (λ_=>d) d) (λ_=>d) d d) (λ_=>d) d
abbrev bop(Z:Bs)(n:Nat)(op:sI)(x y:AV)(O:bf)(K:AV->bf->Prop):=match op with
 |.Add=>FW x y (λi j=>K ⇑(i+j) O)<|AH Z n .Add x y O K
 |.Sub=>FW x y (λi j=>K ⇑(i-j) O)<|AH Z n .Sub x y O K
 |.Mult=>AH Z n .Mult x y O K
 |.MatMult=>AH Z n .MatMult x y O K
 |.Div=>AH Z n .Div x y O K
 |.Mod=>AH Z n .Mod x y O K
 |.Pow=>AH Z n .Pow x y O K
 |.LShift=>AH Z n .LShift x y O K
 |.RShift=>AH Z n .RShift x y O K
 |.BitOr=>AH Z n .BitOr x y O K
 |.BitXor=>AH Z n .BitXor x y O K
 |.BitAnd=>AH Z n .BitAnd x y O K
 |.FloorDiv=>AH Z n .FloorDiv x y O K
abbrev iop(Z:Bs)(n:Nat)(op:sI)(x y:AV)(O:bf)(K:AV->bf->Prop):=match op with
 |.Add=>FW x y (λi j=>K ⇑(i+j) O)<|RJ Z n .Add x y O K
 |.Sub=>FW x y (λi j=>K ⇑(i-j) O)<|RJ Z n .Sub x y O K
 |_=>False
abbrev cop(Z:Bs)(n:Nat)(op:Gy)(x y:AV)(O:bf)(K:AV->bf->Prop):=match op with
 |.Eq=>FW x y (λi j=>K (.bool<|decide (i=j)) O)<|pb Z n .Eq x y O K
 |.NotEq=>FW x y (λi j=>K (.bool<|decide (i≠j)) O)<|pb Z n .NotEq x y O K
 |.Lt=>FW x y (λi j=>K (.bool<|decide (i<j)) O)<|pb Z n .Lt x y O K
 |.LtE=>FW x y (λi j=>K (.bool<|decide (i<=j)) O)<|pb Z n .LtE x y O K
 |.Gt=>FW x y (λi j=>K (.bool<|decide (i>j)) O)<|pb Z n .Gt x y O K
 |.GtE=>FW x y (λi j=>K (.bool<|decide (i>=j)) O)<|pb Z n .GtE x y O K
 |.Is=>isN x y (λb=>K (.bool b) O)<|pb Z n .Is x y O K
 |.IsNot=>isN x y (λb=>K (.bool<|not b) O)<|pb Z n .IsNot x y O K
 |.In=>pb Z n .In x y O K
 |.NotIn=>pb Z n .NotIn x y O K
abbrev tru(Z:Bs)(n:Nat)(a:AV)(O:bf)(K:Bool->bf->Prop):=ac a (λi=>K (decide (i≠0)) O) (λv=>vc v (K au O) (λb=>K b O) (nK Z n a O K)<|nK Z n a O K) (λ_=>nK Z n a O K)<|nK Z n a O K
def ER(Z:Bs)(C:CC)(e:Expr)(m:Lm)(O:bf)(K:AV->bf->Prop):=∀a,Agree C.nm a m->Ev Z C.n C.E e O a K
def SR(Z:Bs)(C:CC)(s:fz)(m:Lm)(O:bf)(K:Fl->bf->Lm->Prop):=∀c,Agree C.nm c m->xo Z C.n C.E s O c λe f d=>∃a,Agree C.nm d a/\K e f a
def FoR(Z:Bs)(C:CC)(f:Bool)(t it b o:List Ix)(m:Lm)(O:bf)(K:Fl->bf->Lm->Prop):=∀a e2 e c p d,isTup a=f->cT C d a []=t->mF e2=L->cX C d au e2 []=it->FQ (FR C d) e []=b->FQ (FR C d) c []=o->SR Z C (.For a e2 e c p) m O K
def WhR(Z:Bs)(C:CC)(t b o:List Ix)(m:Lm)(O:bf)(K:Fl->bf->Lm->Prop):=∀e c a p d,cX C d L e []=t->FQ (FR C d) c []=b->FQ (FR C d) a []=o->SR Z C (.While e c a p) m O K
section
abbrev p1(st:List AV)(K:AV->List AV->Prop):=match st with
 |a::st=>K a st
 |[]=>False
@[ext]abbrev pn:Nat->List AV->List AV->(List AV->List AV->Prop)->Prop
 |0,ie,st,K=>K ie st
 |n+1,ie,a::st,K=>pn n (a::ie) st K
 |_+1,_,[],_=>False
abbrev pI(a:AV)(K:Int->Prop):=ac a K (λ_=>False) (λ_=>False) False
abbrev pB(a:AV)(K:Bool->Prop):=ac a (λ_=>False) (λv=>vc v False K False False) (λ_=>False) False
abbrev pV(a:AV)(K:Value->Prop):=ac a (λ_=>False) K (λ_=>False) False
@[ext]abbrev N!:List AV->Nat->Prop->Prop
 |[],0,P=>P
 |[],_+1,_=>False
 |_::_,0,_=>False
 |_::l,n+1,P=>N! l n P
@[ext]abbrev apk:List AV->List AV->(List AV->Prop)->Prop
 |[],st,K=>K st
 |a::l,st,K=>apk l st λst=>K (a::st)
@[ext]abbrev We:Lm->Nat->AV->(Lm->Prop)->Prop
 |[],_,_,K=>K []
 |_::l,0,v,K=>K (Y v::l)
 |a::l,k+1,v,K=>We l k v λl=>K (a::l)
@[ext]abbrev ln:List Str->Nat
 |[]=>0
 |_::l=>ln l+1
@[ext]abbrev zp:List Str->List AV->List (Str×AV)
 |[],_=>[]
 |_::_,[]=>[]
 |x::xs,a::as=>(x,a)::zp xs as
inductive Un1(O:bf)(n:Nat)(a:AV)(K:List AV->Prop):Prop
 |mk (d:aW) (kk:K0) (v:AV) (hn:n=1) (ha:a=.obj (pe d)) (hd:O d=Y (.dict [(kk,v)])) (h:K [.tup [EW kk,v]]):Un1 O n a K
abbrev pT(O:bf)(n:Nat)(a:AV)(K:List AV->Prop):=ac a (λ_=>False) (λ_=>False) (λl=>N! l n<|K l)<|Un1 O n a K
abbrev ko(K:wi)(g:Value)(P:Prop):=vc g False (λ_=>False) P<|kK K g=L/\P
abbrev ϳ(C:CI)(P:Lm->bf->Prop)(c:Fl)(O:bf)(m:Lm):=match c with
 |.next=>P m O
 |.brk=>C.Q .brk O m
 |.cont=>C.Q .cont O m
 |.ret a=>C.Q (.ret a) O m
abbrev Mc:=List Ix->List (List Ix)->List AV->Lm->bf->Prop
abbrev step(Z:Bs)(C:CI)(go:Mc)(i:Ix)(r:List Ix)(rs:List (List Ix))(st:List AV)(m:Lm)(O:bf):=match i with
 |.l k=>(match tj m k with
  |some a=>go r rs (a::st) m O
  |none=>False)
 |.c a=>go r rs (a::st) m O
 |.at x=>p1 st λa st=>OF Z C.c.n a x O λc O=>go r rs (c::st) m O
 |.sb=>p1 st λi st=>p1 st λo st=>Ed Z C.c.n o i O λc O=>go r rs (c::st) m O
 |.bi op=>p1 st λb st=>p1 st λa st=>bop Z C.c.n op a b O λc O=>go r rs (c::st) m O
 |.ng=>p1 st λa st=>pI a λi=>go r rs (.int (-i)::st) m O
 |.cm op=>p1 st λb st=>p1 st λa st=>cop Z C.c.n op a b O λc O=>go r rs (c::st) m O
 |.ab=>p1 st λa st=>pI a λi=>go r rs (.int i.natAbs::st) m O
 |.tu n=>pn n [] st λas st=>go r rs (.tup as::st) m O
 |.tr=>p1 st λa st=>tru Z C.c.n a O λb O=>go r rs (.bool b::st) m O
 |.no=>p1 st λa st=>pB a λb=>go r rs (.bool (not b)::st) m O
 |.iff x y=>p1 st λa st=>pB a λb=>br b (go x (r::rs) st m O)<|go y (r::rs) st m O
 |.an x=>p1 st λa st=>pB a λb=>br b (go x (r::rs) st m O)<|go r rs (.bool au::st) m O
 |.or x=>p1 st λa st=>pB a λb=>br b (go r rs (.bool L::st) m O)<|go x (r::rs) st m O
 |.c2 o x=>p1 st λb st=>p1 st λa st=>cop Z C.c.n o a b O λc O=>tru Z C.c.n c O λk O=>br k (go x (r::rs) (b::st) m O)<|go r rs (.bool au::st) m O
 |.fn=>p1 st λa _=>pV a λg=>ko Z.K g<|go r rs st m O
 |.ca n h=>pn (ln h) [] st λks st=>pn n [] st λas st=>p1 st λf st=>pV f λg=>Cl Z C.c.n g as (zp h ks) O λc O=>go r rs (c::st) m O
 |.me x=>p1 st λo _=>Me1 Z O o x λg=>go r rs (.raw g::st) m O
 |.mc n=>pn n [] st λas st=>p1 st λf st=>p1 st λo st=>pV f λg=>Cl Z C.c.n g (o::as) [] O λc O=>go r rs (c::st) m O
 |.ms x=>p1 st λo _=>Ms1 Z O o x λg=>go r rs (.raw g::st) m O
 |.mt n=>pn n [] st λas st=>p1 st λf st=>p1 st λ_ st=>pV f λg=>Cl Z C.c.n g as [] O λc O=>go r rs (c::st) m O
 |.tl=>p1 st λo _=>Tl1 O o<|go r rs st m O
 |.mf f n h=>pn (ln h) [] st λks st=>pn n [] st λas st=>p1 st λo st=>Cl Z C.c.n (!f) (o::as) (zp h ks) O λc O=>go r rs (c::st) m O
 |.ret=>p1 st λa _=>C.Q (.ret a) O m
 |.brk=>C.Q .brk O m
 |.con=>C.Q .cont O m
 |.pop=>p1 st λ_ st=>go r rs st m O
 |.st k=>p1 st λa st=>We m k a λm=>go r rs st m O
 |.un n=>p1 st λa st=>pT O n a λl=>apk l st λst=>go r rs st m O
 |.ss=>p1 st λi st=>p1 st λo st=>p1 st λa st=>IJ Z C.c.n o i a O λO=>go r rs st m O
 |.sa x=>p1 st λo st=>p1 st λa st=>Sat Z o x a O λO=>go r rs st m O
 |.gi=>p1 st λi j=>p1 j λo _=>Ed Z C.c.n o i O λc O=>go r rs (c::st) m O
 |.ag op=>p1 st λa st=>p1 st λd st=>p1 st λi st=>p1 st λo st=>iop Z C.c.n op d a O λnew O=>IJ Z C.c.n o i new O λO=>go r rs st m O
 |.ai op k=>p1 st λa st=>p1 st λd st=>iop Z C.c.n op d a O λnew O=>We m k new λm=>go r rs st m O
 |.fo tu t it b o=>FoR Z C.c tu t it b o m O<|ϳ C (go r rs st)
 |.wh t b o=>WhR Z C.c t b o m O<|ϳ C (go r rs st)
 |.er e=>ER Z C.c e m O λa O=>go r rs (a::st) m O
 |.sr s=>SR Z C.c s m O<|ϳ C (go r rs st)
 |.bad=>False
@[ext]abbrev bH:Nat->Bs->CI->List Ix->List (List Ix)->List AV->Lm->bf->Prop
 |0,_,_,_,_,_,_,_=>False
 |k+1,Z,C,i::r,rs,st,m,O=>step Z C (bH k Z C) i r rs st m O
 |k+1,Z,C,[],r::rs,st,m,O=>bH k Z C r rs st m O
 |_+1,_,C,[],[],_,m,O=>C.Q .next O m
end
section mono
variable{Z:Bs}{n:Nat}{E:Env}{O:bf}{s:aZ}
def dh.mono(d:∀a O,Q a O->i a O)(h:dh Z U O s Q v s'):dh Z U O s i v s':=h.casesOn λf a e g c r q=>(f,a,e,g,c,r,d _ _ q)
def tB.mono{Q c:d->bf->Prop}{v:d}(f:∀a O,Q a O->c a O)(h:tB Z U O s Q v s'):tB Z U O s c v s':=h.casesOn λj i g e q=>(j,i,g,e,f _ _ q)
def CW.mono(c:∀O,Q O->f O)(h:CW Z U O s Q s'):CW Z U O s f s':=h.casesOn λe d g a q=>(e,d,g,a,c _ q)
def AH.mono(h:AH Z n op a b O Q)(d:∀a O,Q a O->Q' a O):AH Z n op a b O Q':=λU s A u v f H c S=>aG (h U s A u v f H c S) (λ_ _=>dh.mono d) λ_ _ e=>e
def RJ.mono(h:RJ Z n op a b O Q)(d:∀a O,Q a O->Q' a O):RJ Z n op a b O Q':=λU s A u v f H c S=>aG (h U s A u v f H c S) (λ_ _=>dh.mono d) λ_ _ e=>e
def pb.mono(h:pb Z n op a b O Q)(d:∀a O,Q a O->Q' a O):pb Z n op a b O Q':=λU s A u v f H c S=>aG (h U s A u v f H c S) (λ_ _=>dh.mono d) λ_ _ e=>e
def nK.mono(h:nK Z n a O Q)(d:∀a O,Q a O->Q' a O):nK Z n a O Q':=λU s A u f H c=>aG (h U s A u f H c) (λ_ _=>tB.mono d) λ_ _ e=>e
def OF.mono(h:OF Z n o x O Q)(d:∀a O,Q a O->Q' a O):OF Z n o x O Q':=λU s A u f H c=>aG (h U s A u f H c) (λ_ _=>dh.mono d) λ_ _ e=>e
def Ed.mono(h:Ed Z n a b O Q)(f:∀a O,Q a O->Q' a O):Ed Z n a b O Q':=λU s A u v d H c S=>((h U s A u v d H c S).1,aG (h U s A u v d H c S).2 (λ_ _=>dh.mono f) λ_ _ e=>e)
def IJ.mono(h:IJ Z n a b c O Q)(g:∀O,Q O->Q' O):IJ Z n a b c O Q':=λU s A u v y i H f S d=>aG (h U s A u v y i H f S d) (λ_ _=>CW.mono g) λ_ _ e=>e
def Cl.mono(h:Cl Z n f as c O Q)(g:∀a O,Q a O->Q' a O):Cl Z n f as c O Q':=λU s A u v i H d J M=>aG (h U s A u v i H d J M) (λ_ _=>dh.mono g) λ_ _ e=>e
def Tt.mono(h:Tt Z n E e O m Q)(c:∀a O,Q a O->Q' a O):Tt Z n E e O m Q':=λU s A d H f=>aG (h U s A d H f) (λ_ _=>tB.mono c) λ_ _ e=>e
def Tl.mono(h:Tl Z n E op e O m Q)(c:∀a O,Q a O->Q' a O):Tl Z n E op e O m Q':=λU s A d H f=>aG (h U s A d H f) (λ_ _=>tB.mono c) λ_ _ e=>e
def VZ.mono(h:VZ Z n E es O m Q)(f:∀a c,Q a c->Q' a c):VZ Z n E es O m Q':=λU s A pos i H j=>aG (h U s A pos i H j) (λ_ _ h=>h.casesOn λk a c g d r q=>(k,a,c,g,d,r,f _ _ q)) λ_ _ e=>e
def As.mono(h:As Z n E t a O m Q)(f:∀O m,Q O m->Q' O m):As Z n E t a O m Q':=λU s A v i H j S=>aG (h U s A v i H j S) (λ_ _ h=>h.casesOn λo k c g d F q=>(o,k,c,g,d,F,f _ _ q)) λ_ _ e=>e
def xo.mono{s:fz}(h:xo Z n E s O m Q)(d:∀f O m,Q f O m->Q' f O m):xo Z n E s O m Q':=λU s A i H j=>aG (h U s A i H j) (λ_ _ h=>h.casesOn λp k o a g c F r q=>(p,k,o,a,g,c,F,r,d _ _ _ q)) λ_ _ e=>e
end mono
section
variable{C:CI}
def qa{K:Int->Int->Prop}{P:AV->AV->Prop}(h:FW x y K d)(J:∀i j,K i j->P ⇑i ⇑j)(M:d->P x y):P x y:=by
 cases x with
 |int i=>cases y with|int j=>show J i j h|_=>show M h
 |_=>show M h
def Ui{K:Bool->Prop}{P:Prop}(h:isN x y K d)(J:y=.none->x.plain=L->K x.isNone->P)(M:d->P):P:=by
 induction y using AV.casesOn with
 |raw v=>induction v with
  |none=>cases x with
   |int i=>show J rfl rfl h
   |raw u=>induction u with|none=>show J rfl rfl h|_=>show M h
   |_=>show M h
  |_=>show M h
 |_=>show M h
variable{Z:Bs}{n:Nat}
def N?{K:AV->bf->Prop}(h:bop Z n op x y O K):AH Z n op x y O K:=by
 induction op with|Add=>show qa (P:=λx y=>AH Z n .Add x y O K) h (λ_ _=>WZ) id|Sub=>show qa (P:=λx y=>AH Z n .Sub x y O K) h (λ_ _=>W3) id|_=>show h
def Uj{K:AV->bf->Prop}(h:iop Z n op x y O K):RJ Z n op x y O K:=by
 induction op with|Add=>show qa (P:=λx y=>RJ Z n .Add x y O K) h (λ_ _=>Xa) id|Sub=>show qa (P:=λx y=>RJ Z n .Sub x y O K) h (λ_ _=>Xb) id|_=>show h.elim
def Jx{K:AV->bf->Prop}(h:cop Z n op x y O K):pb Z n op x y O K:=by
 induction op with|Eq=>show qa (P:=λx y=>pb Z n .Eq x y O K) h (λ_ _=>s_) id|NotEq=>show qa (P:=λx y=>pb Z n .NotEq x y O K) h (λ_ _=>s?) id|Lt=>show qa (P:=λx y=>pb Z n .Lt x y O K) h (λ_ _=>t_) id|LtE=>show qa (P:=λx y=>pb Z n .LtE x y O K) h (λ_ _=>t!) id|Gt=>show qa (P:=λx y=>pb Z n .Gt x y O K) h (λ_ _=>t?) id|GtE=>show qa (P:=λx y=>pb Z n .GtE x y O K) h (λ_ _=>u!) id|Is=>show Ui (x:=x) (y:=y) (K:=λb=>K (.bool b) O) h (λe p z=>by clear h;subst e;show EG p z) id|IsNot=>show Ui (x:=x) (y:=y) (K:=λb=>K (.bool<|not b) O) h (λe p z=>by clear h;subst e;show Kp p z) id|_=>show h
def Uk{K:Bool->bf->Prop}(h:tru Z n a O K):nK Z n a O K:=by
 cases a with
 |int i=>show Qm h
 |raw v=>induction v with|none=>show MW h|bool b=>show MP h|_=>show h
 |_=>show h
def Fi(C:CI)(r:List Ix)(rs:List (List Ix))(st:List AV)(m:Lm)(O:bf):=∃k,bH k C.c.Z C r rs st m O
section
variable{r:List Ix}{rs:List (List Ix)}{st:List AV}{m:Lm}{O:bf}
def cg{P:Prop}(h:Fi C (i::r) rs st m O)(k:∀k,step C.c.Z C (bH k C.c.Z C) i r rs st m O->P):P:=h.elim λn h=>by
 induction n using cV with|zero=>show h.elim|succ n=>show k n h
def Fi.up(h:Fi C [] (r::rs) st m O):Fi C r rs st m O:=h.elim λk h=>by
 induction k using cV with|zero=>show h.elim|succ k=>show(k,h)
def gQ{P:Prop}(h:Fi C (.bad::r) rs st m O):P:=cg h λ_ h=>h.elim
def qu{P:Prop}(h:Fi C (gd b v) rs st m O)(k:b=L->Fi C v rs st m O->P):P:=by
 induction b with|true=>show k rfl h|false=>show gQ h
def Ie{P:Prop}{o:Option c}{f:c->List Ix}(h:Fi C (go o f) rs st m O)(k:∀a,o=Y a->Fi C (f a) rs st m O->P):P:=by
 induction o with|some a=>show k a rfl h|none=>show gQ h
end
def Ye(h:(not (pA.contains x))=L):∀{bJ:List (Str×AV)},(bJ.all λp=>pA.contains p.1)=L->bJ.lookup x=R:=by
 intro bJ
 induction bJ with
 |nil=>show λ_=>rfl
 |cons c l d=>
  intro a;let a:=ba.mp a;calc pS cq;
  induction q:x==c.1 with|true=>rw[eq_of_beq q] at h;have M:=a.1;simp only at M;rw[M] at h;cases h|false=>show d a.2
def Yg{K:wi}(h:X7 K x=Y f):jz K (!493) x=Y (Y !f)/\lQ K 493=L/\wx K (!f)=Y (.type "function")/\kK K (!f)=L/\∀bJ:List (Str×AV),(bJ.all λp=>pA.contains p.1)=L->bJ.lookup x=R:=by
 let(o,e,h):=jU.mp h;let(v,e2,h):=jU.mp h;let(g,d,h):=jU.mp h
 induction a:lQ K 493&&(wx K (!g)==Y (.type "function"))&&kK K (!g)&&not (pA.contains x) with
 |false=>rw[a] at h;show nomatch h
 |true=>
  rw[a] at h;let rfl:g=f:=ax h;let J:=ba.mp a;let M:=ba.mp J.1;let c:=ba.mp M.1;show(tA (by rw[e,e2,Q3 d]) c.1 (beq_iff_eq.mp c.2) M.2<|λ_=>Ye J.2)
def SE(C:CI)(e:Expr)(t:List Ix->List Ix):=∀r rs st m O d,Agree C.c.nm d m->Fi C (t r) rs st m O->Ev C.c.Z C.c.n C.c.E e O d λa f=>Fi C r rs (a::st) m f
def ST(C:CI)(e:Expr)(t:List Ix->List Ix):=∀r rs st m O d,Agree C.c.nm d m->Fi C (t r) rs st m O->Tt C.c.Z C.c.n C.c.E e O d λa f=>Fi C r rs (.bool a::st) m f
def SX(C:CI)(e:Expr)(t:Bool->List Ix->List Ix):=SE C e (t au)/\ST C e (t L)
def Jy{st:List AV}(h:Fi C (.tr::r) rs (a::st) m O):nK C.c.Z C.c.n a O λb bu=>Fi C r rs (.bool b::st) m bu:=cg h λk h=>(Uk h).mono λ_ _ h=>(k,h)
def SE.plain(a:wu e C.c.E (eval e C.c.E)=(do let v<-eval e C.c.E;cN e.pos;eD [v] (truthy v)))(h:SE C e f):SX C e λt r=>f (tv t r):=
 (h,λr rs st m O g A d=>Sj a<|(h _ _ _ _ _ _ A d).mono λ_ _ h=>Jy h)
def SE.only(h:SE C e f):SX C e λt r=>gd (not t) (f r):=(h,λr rs st m O c A a=>gQ a)
def zV:SE C e λ_=>[.bad]:=λr rs st m O a A h=>gQ h
def Cn:ST C e λ_=>[.bad]:=λr rs st m O a A h=>gQ h
def ZS(d:vK C.c.E x=L)(S:Ib C.c.Z.K x=Y v)(h:Q (.raw v) O):Ev C.c.Z C.c.n C.c.E (.Name x p) O f Q:=by
 unfold Ib at S
 induction a:nsIn C.c.Z.K dt x with
 |none=>rw[a] at S;cases S
 |some o=>
  rw[a] at S
  induction o with
  |some e=>cases S;show WY d a h
  |none=>
   change (match x=="__name__" with|true=>R|false=>lW x)=Y v at S
   induction T:x=="__name__" with|true=>rw[T] at S;cases S|false=>rw[T] at S;show r? d a (by simpa using T) S h
def Yh:SE C (.Name x p) (Ue C.c x):=λr rs st m O g A h=>by
 unfold Ue at h
 induction d:idx C.c.nm x with
 |some k=>
  rw[d] at h;refine qu h λS h=>cg h λn h=>?_;change (match tj m k with|some a=>_|none=>False) at h
  induction e:tj m k with|none=>rw[e] at h;show h.elim|some a=>rw[e] at h;show r! S (A _ _ _ d e) (n,h)
 |none=>
  rw[d] at h;show qu h λf h=>Ie h λv S h=>cg h λn h=>ZS f S (n,h)
def Ul:SE C (.Constant c k p) λr=>go (Ud c) λa=>.c a::r:=λr rs st m O e A h=>Ie h λa d h=>cg h λn h=>by
 cases c with|int i=>cases d;show Sg (n,h)|str i=>cases d;show r_ (n,h)|none=>cases d;show WV (n,h)|bool i=>cases d;show WW (n,h)|_=>cases d
def Yi(c:SE C o f):SE C (.Attribute o x p) λr=>gd (kG o) (f (.at x::r)):=λr rs st m O e A h=>qu h λd h=>
 Xe d ((c _ _ _ _ _ _ A h).mono λa g h=>cg h λn h=>h.mono λ_ _ h=>(n,h))
def O_(c:SE C o f)(d:SE C i g):jt i=L->SE C (.Subscript o i p) λr=>f (g (.sb::r)):=λe r rs st m O j A h=>
 II e ((c _ _ _ _ _ _ A h).mono λa q h=>(d _ _ _ _ _ _ A h).mono λb k h=>cg h λn h=>h.mono λ_ _ h=>(n,h))
def O!(c:SE C a f)(d:SE C b g):SE C (.BinOp a op b p) λr=>f (g (.bi op::r)):=λr rs st m O e A h=>
 Sh ((c _ _ _ _ _ _ A h).mono λa j h=>(d _ _ _ _ _ _ A h).mono λb i h=>cg h λn h=>(N? h).mono λ_ _ h=>(n,h))
def De{P:Prop}(h:br c p q)(d:p->P)(a:q->Q):if c=L then P else Q:=by
 induction h with|t e k=>rw[bj e];show d k|f e k=>rw[aK (by rw[e];show aI)];show a k
def ZT{K:Int->Prop}{P:Prop}(h:pI a K)(k:∀i,a=.int i->K i->P):P:=by
 cases a with|int i=>show k i rfl h|_=>show h.elim
def ϴ{K:Value->Prop}{P:Prop}(h:pV a K)(k:∀i,a=.raw i->K i->P):P:=by
 induction a using AV.casesOn with|raw i=>show k i rfl h|_=>show h.elim
def ϵ{K:wi}(h:ko K g P):kK K g=L/\P:=by
 induction g using Hw with|builtin _=>show(rfl,h)|type _=>show(rfl,h)|none=>show h.elim|bool _=>show h.elim|_=>show h
def Ϸ(c:SX C a λt=>g t a):SX C (.UnaryOp op a p) λt=>unV g t op a:=by
 induction op with
 |USub=>show SE.only (f:=g au a∘(.ng::·)) λr rs st m O d A h=>W4 ((c.1 _ _ _ _ _ _ A h).mono λa k h=>cg h λn h=>ZT h λi e h=>(i,e,n,h))
 |Not=>show(λr rs st m O d A h=>I_<|(c.1 _ _ _ _ _ _ A h).mono λa k h=>(Jy h).mono λb j h=>cg h λn h=>(n,h),
   λr rs st m O d A h=>u?<|(c.2 _ _ _ _ _ _ A h).mono λb j h=>cg h λn h=>(n,h))
 |_=>show(zV,Cn)
def ϸ(d:ST C c f)(i:SE C a g)(e:SE C b k):SE C (.IfExp c a b p) λr=>f (.iff (g []) (k [])::r):=λr rs st m O j A h=>
 Sk ((d _ _ _ _ _ _ A h).mono λb o h=>cg h λn h=>De h (λh=>(i _ _ _ _ _ _ A (n,h)).mono λ_ _ h=>h.up) λh=>(e _ _ _ _ _ _ A (n,h)).mono λ_ _ h=>h.up)
def FX{P:Prop}{x:Expr}{op q:Gy}{a:List Gy}{g:Expr->List Ix->List Ix}{st:List AV}{m:Lm}(h:Fi C (M! g t l (op::q::a) (x::y::es) r) rs st m O)(c:(t&&a.isEmpty&&es.isEmpty)=au):P:=by change Fi C (gd (t&&a.isEmpty&&es.isEmpty&&dZ op x&&dZ q y) _) _ _ _ _ at h;rw[c] at h;show gQ h
def O?(i:∀e,SE C e<|g e):SX C (.Compare l c rs p) λt=>M! g t l c rs:=by
 induction c using bB with
 |nil=>show(zV,Cn)
 |cons op c=>induction rs using bB with
  |nil=>show(zV,Cn)
  |cons x rs=>induction c using bB with
   |nil=>induction rs using bB with
    |cons _ _=>show(zV,Cn)
    |nil=>show(λr rs st m O f A h=>qu h λj h=>MO j<|(i _ _ _ _ _ _ _ A h).mono λa o h=>(i _ _ _ _ _ _ _ A h).mono λb k h=>cg h λn h=>(Jx h).mono λ_ _ h=>(n,h),
      λr rs st m O f A h=>qu h λj h=>MQ j<|(i _ _ _ _ _ _ _ A h).mono λa o h=>(i _ _ _ _ _ _ _ A h).mono λb k h=>cg h λn h=>(Jx h).mono λ_ _ h=>Jy (n,h))
   |cons q c=>induction rs using bB with
    |nil=>show(zV,Cn)
    |cons y rs=>induction c using bB with
     |cons _ _=>show(λr rs st m O f A h=>FX h (by cases rs<;>rfl),λr rs st m O f A h=>FX h<|by cases rs<;>rfl)
     |nil=>induction rs using bB with
      |cons _ _=>show(λr rs st m O f A h=>FX h rfl,λr rs st m O f A h=>FX h rfl)
      |nil=>
       refine(λr rs st m O f A h=>FX h rfl,λr rs st m O f A h=>?_);change Fi C (gd (dZ op x&&dZ q y) _) _ _ _ _ at h;refine qu h λJ h=>?_;let J:=ba.mp J;refine Lo J.1 J.2 ((i _ _ _ _ _ _ _ A h).mono λx o h=>(i _ _ _ _ _ _ _ A h).mono λy k h=>cg h λn h=>(Jx h).mono λ_ _ h=>(Uk h).mono λ_ _ h=>De h (λh=>(i _ _ _ _ _ _ _ A (n,h)).mono λd s h=>?_) λh=>(n,h));show cg h λn h=>(Jx h).mono λ_ _ h=>(Jy (n,h)).mono λ_ _ h=>h.up
def Ϲ(i:∀e,ST C e<|f e):∀{es:List Expr},∀r rs st m O d,Agree C.c.nm d m->Fi C (cBo f op es r) rs st m O->Tl C.c.Z C.c.n C.c.E op es O d λa bu=>Fi C r rs (.bool a::st) m bu:=fun{es}=>by
 induction es with
 |nil=>show λr rs st m O d A h=>v_ (cg h λn h=>(n,h))
 |cons e es g=>
  intro r rs st m O d A h
  induction op with|And=>show v! ((i e _ _ _ _ _ _ A h).mono λb bu h=>cg h λn h=>De h (λh=>(g _ _ _ _ _ _ A (n,h)).mono λ_ _ h=>h.up) λh=>(n,h))|Or=>show ν ((i e _ _ _ _ _ _ A h).mono λb bu h=>cg h λn h=>De h (λh=>(n,h)) λh=>(g _ _ _ _ _ _ A (n,h)).mono λ_ _ h=>h.up)
def Ig(j:∀e,SE C e<|f e)(A:Agree C.c.nm g m):∀{es:List Expr},es.all cn=L->∀{r rs st O},Fi C (Ej f es r) rs st m O->Qg C.c.Z C.c.n C.c.E es O g λas bu=>as.length=es.length/\Fi C r rs (as.reverse++st) m bu:=fun{es}=>by
 induction es with
 |nil=>show λ_ {r rs st O} h=>IH (rfl,h)
 |cons e es i=>
  intro d r rs st O h;let d:=ba.mp d;show Ku d.1 ((j e _ _ _ _ _ _ A h).mono λa k h=>(i d.2 h).mono λas bu h=>(congrArg (· +1) h.1,by rw[k7,ow];show h.2))
def ZU(i:∀e,SE C e<|f e)(A:Agree C.c.nm d m):∀{es:List qj},∀{r rs st O},Fi C (Ej f (es.map (·.value)) r) rs st m O->VZ C.c.Z C.c.n C.c.E es O d λas bu=>as.length=es.length/\Fi C r rs (as.reverse++st) m bu:=fun{es}=>by
 induction es with
 |nil=>show fun{r rs st O} h=>Ec (rfl,h)
 |cons e es g=>let(x,e,q):=e;show fun{r rs st O} h=>Sn ((i e _ _ _ _ _ _ A h).mono λa j h=>(g h).mono λas bu h=>(congrArg (· +1) h.1,by rw[k7,ow];show h.2))
def P_{K:List AV->List AV->Prop}{st:List AV}:∀{bs ie:List AV},pn bs.length ie (bs++st) K->K (bs.reverse++ie) st:=fun{bs}=>by
 induction bs with|nil=>show λh=>h|cons b bs a=>intro ie h;rw[k7,ow];show a h
def FY{K:List AV->List AV->Prop}{st:List AV}(a:as.length=n)(h:pn n [] (as.reverse++st) K):K as st:=by have:=P_ (bs:=as.reverse) (ie:=[]) (by rw[List.length_reverse,a];show h);rwa [List.reverse_reverse,wQ] at this
def ZV:∀{c:List Str},zp c as=c.zip as:=by
 induction as with
 |nil=>intro c;cases c<;>rfl
 |cons a as d=>intro c;induction c using bB with|nil=>rfl|cons x c=>show congrArg ((x,a)::·) d
def P!{st:List AV}:∀{K:List AV->Prop},apk l st K=K (l++st):=by
 induction l with|nil=>show rfl|cons a l c=>show c
def Co:∀{k:Nat} {K:Lm->Prop},We m k v K=K (Hf m k v):=by
 induction m with
 |nil=>show rfl
 |cons a m c=>intro k K;induction k using cV with|zero=>rfl|succ k=>show c
def Yj:∀{l:List AV} {n:Nat},N! l n P->l.length=n/\P:=fun{l}=>by
 induction l with
 |nil=>intro n h;induction n using cV with|zero=>show(rfl,h)|succ n=>show h.elim
 |cons a l c=>intro n h;induction n using cV with|zero=>show h.elim|succ n=>show(congrArg (· +1) (c h).1,(c h).2)
def Um:ks.all (·.arg.isSome)=L->ln (lP ks)=ks.length:=by
 induction ks with
 |nil=>show λ_=>rfl
 |cons k ks a=>
  intro h;let h:=ba.mp h;let(x,e,p):=k
  induction x with|none=>cases h.1|some x=>show congrArg (· +1) (a h.2)
def P?(a:∀e,SE C e<|f e):SE C (.Tuple es k p) λr=>gd (es.all cn&&Es es.length 1000) (Ej f es (.tu es.length::r)):=λr rs st m O c A h=>qu h λJ h=>
 have J:=ba.mp J
 Su (bg J.2) ((Ig a A J.1 h).mono λas d h=>(h.1,cg h.2 λn q=>(n,FY h.1 q)))
section
variable{as:List Expr}{ks:List qj}{pos ap:Pos}{g:Expr->List Ix->List Ix}(hs:∀e,SE C e<|g e)(ha:as.all cn=L)(hk:ks.all (·.arg.isSome)=L)
include hs ha hk
def Pj(i:iZ f=L):SE C (.Call f as ks pos) λr=>g f (.fn::Ej g as (Ej g (ks.map (·.value)) (.ca as.length (lP ks)::r))):=λr rs st m O j A h=>
 OC i ha hk ((hs f _ _ _ _ _ _ A h).mono λa o h=>cg h λn h=>ϴ h λv e h=>by let h:=ϵ h;refine dc v e h.1 ((Ig hs A ha (n,h.2)).mono λas k h=>(ZU hs A h.2).mono λvs d M=>cg M.2 λn q=>?_);let q:pV a λg=>Cl C.c.Z C.c.n g as (zp (lP ks) vs) d λc O=>bH n C.c.Z C r rs (c::st) m O:=FY h.1<|FY (M.1.trans (Um hk).symm) q;rw[e] at q;rw[<-ZV];show Cl.mono q λ_ _ h=>(n,h))
def Yk(t:X7 C.c.Z.K x=Y a)(u:kG o=L)(z:as.length+ks.length+1<30)(s:(ap.endLine==pos.line)=L):SE C (.Call (.Attribute o x ap) as ks pos) λr=>g o (.tl::Ej g as (Ej g (ks.map (·.value)) (.mf a as.length (lP ks)::r))):=λr rs st m O D A h=>
 OD u ha hk z s ((hs o _ _ _ _ _ _ A h).mono λv J h=>cg h λn h=>by let(y,G,bJ,p,I,d,h):=h;let(k,j,i,f,m5):=Yg t;refine(dc (!a) (by rw[p];show Sz I j k i<|m5 _ d) f<|(Ig hs A ha (n,h)).mono λas H h=>(ZU hs A h.2).mono λvs E M=>cg M.2 λn q=>?_);rw[<-ZV];show Cl.mono (FY h.1<|FY (M.1.trans (Um hk).symm) q) λ_ _ h=>(n,h))
end
def Yl{g:Expr->List Ix->List Ix}(d:∀e,SE C e<|g e)(j:kG o=L)(f:as.all cn=L)(s:as.length+0+1<30)(i:(p.endLine==pos.line)=L):SE C (.Call (.Attribute o x p) as [] pos) λr=>g o (.me x::Ej g as (.mc as.length::r)):=λr rs st m O t A h=>
 OD j f rfl s i ((d o _ _ _ _ _ _ A h).mono λa u h=>cg h λn h=>h.casesOn λv J M h=>(dc v J M<|(Ig d A f (n,h)).mono λas k h=>Ec (cg h.2 λn q=>by let q:pV (.raw v) λg=>Cl C.c.Z C.c.n g (a::as) [] k λc O=>bH n C.c.Z C r rs (c::st) m O:=FY h.1 q;show Cl.mono q λ_ _ h=>(n,h))))
def Ym{g:Expr->List Ix->List Ix}(d:∀e,SE C e<|g e)(j:kG o=L)(f:as.all cn=L)(s:as.length+0+1<30)(i:(p.endLine==pos.line)=L):SE C (.Call (.Attribute o x p) as [] pos) λr=>g o (.ms x::Ej g as (.mt as.length::r)):=λr rs st m O t A h=>
 TR j f s i ((d o _ _ _ _ _ _ A h).mono λa u h=>cg h λn h=>h.casesOn λv J M h=>(dc v J M ((Ig d A f (n,h)).mono λas k h=>cg h.2 λn q=>by let q:pV (.raw v) λg=>Cl C.c.Z C.c.n g as [] k λc O=>bH n C.c.Z C r rs (c::st) m O:=FY h.1 q;show Cl.mono q λ_ _ h=>(n,h))))
def Yn{l:List c}(h:l.length=1):∃a,l=[a]:=by
 induction l using bB with
 |nil=>show nomatch h
 |cons a l=>induction l using bB with|nil=>show(a,rfl)|cons b l=>show nomatch h
def akO{l:List c}(h:l.length=2):∃a b,l=[a,b]:=by
 induction l using bB with|nil=>show nomatch h|cons a l=>show(Yn<|BQ h).elim λb e=>(a,b,e▸rfl)
def Un(h:Ic C.c x as ks=L):vK C.c.E x=L/\Ib C.c.Z.K x=Y (.builtin "abs")/\ks=[]/\∃a,as=[a]:=by
 unfold Ic at h;let h:=ba.mp h;let J:=ba.mp h.1;let M:=ba.mp J.1;calc ek (ba.mp M.1).1 ?_ (by simpa using J.2);
 .let q:=h.2;induction S:Ib C.c.Z.K x with
  |none=>rw[S] at q;cases q
  |some v=>
   rw[S] at q;clear S;induction v using Hw with|builtin s=>show congrArg (λs=>Y<|Value.builtin s) (eq_of_beq q)|_=>cases q
 .let q:=M.2;show Yn<|eq_of_beq q
def Q_(f:∀e,SE C e<|g e)(d:as.all cn=L)(h:Ic C.c x as ks=L):SE C (.Call (.Name x p) as ks pos) λr=>Ej g as (.ab::r):=λr rs st m O k A hh=>by let(j,S,rfl,a,rfl):=Un h;refine OC rfl d rfl (ZS j S<|dc _ rfl rfl<|(Ig (es:=[a]) f A d hh).mono λas o h=>Ec<|cg h.2 λn q=>?_);let(b,rfl):=Yn h.1;show ZT (show pI b _ from q) λi e z=>by clear d hh h q;subst e;show y? (n,z)
def Uo(d:∀e,SE C e<|g e):SE C (.Call f as ks pos) (ZR C.c g f as ks pos):=λr rs st m O y A h=>qu h λJ h=>by
 let J:=ba.mp J
 induction fv f with
 | @n x p=>
  change Fi C (match Ic C.c x as ks with|true=>_|false=>_) _ _ _ _ at h
  induction s:Ic C.c x as ks with|true=>rw[s] at h;show Q_ d J.1 s _ _ _ _ _ _ A h|false=>rw[s] at h;show Pj d J.1 J.2 rfl _ _ _ _ _ _ A h
 | @a o x z=>
  refine qu h λj h=>?_
  .let j:=ba.mp j;let i:=ba.mp j.1;induction q:X7 C.c.Z.K x with
   |some a=>rw[q] at h;show Yk d J.1 J.2 q i.1 (bg i.2) j.2 _ _ _ _ _ _ A h
   |none=>
    rw[q] at h;refine qu h λv h=>?_
    induction ks using bB with
    |nil=>
     induction t:Ug C.c.Z.K x with|true=>rw[t] at h;show Ym d i.1 J.1 (bg i.2) j.2 _ _ _ _ _ _ A h|false=>rw[t] at h;show Yl d i.1 J.1 (bg i.2) j.2 _ _ _ _ _ _ A h
    |cons k ks=>cases v
 |o u k=>rw[k] at h;show Pj d J.1 J.2 u _ _ _ _ _ _ A h
def NI:SE C e λr=>.er e::r:=λr rs st m O a A h=>cg h λn h=>Ev.mono (h _ A) λ_ _ h=>(n,h)
def Lu(d:Nat):∀e,SX C e (λt=>cX C.c d t e):=by
 induction d with
 |zero=>show λe=>(zV,Cn)
 |succ d g=>
  let hE:=λe=>(g e).1;let j:=λe=>(g e).2;intro e;cases e with
  |Name x p=>show Yh.plain rfl
  |Constant c k p=>show Ul.plain rfl
  |Attribute o x p=>show(Yi<|hE o).plain rfl
  |Subscript o i p=>
   show SX C _ λt r=>(match jt i with|true=>_|false=>_)
   induction s:jt i with|true=>show(O_ (hE o) (hE i) s).plain rfl|false=>show NI.only
  |BinOp a op b p=>show(O! (hE a)<|hE b).only
  |UnaryOp op a p=>show Ϸ (g a)
  |Compare l q rs p=>show O? hE
  |BoolOp op es p=>show(zV,λr rs st m O u A h=>Qd<|Ϲ j _ _ _ _ _ _ A h)
  |Tuple es k p=>show(P? hE).only
  |IfExp c a b p=>show(ϸ (j c) (hE a) (hE b)).only
  |Call f as ks p=>
   show SX C _ λt r=>(match X8 f as with|true=>_|false=>_)
   induction X8 f as with|true=>show NI.only|false=>show(Uo hE).plain rfl
  |_=>show NI.only
def Jz:∀{x:Str} {k:Nat},idx nm x=Y k->nm[k]?=Y x:=by
 induction nm with
 |nil=>show λh=>nomatch h
 |cons y l c=>
  intro x k h;replace h:cond (x==y) (Y 0) ((idx l x).map (· +1))=Y k:=h
  induction e:x==y with
  |true=>rw[e] at h;cases h;show congrArg Y (beq_iff_eq.mp e).symm
  |false=>
   rw[e] at h
   induction a:idx l x with|none=>rw[a] at h;cases h|some j=>rw[a] at h;cases h;show c a
def Up:∀{k j:Nat} {a b:AV},tj (Hf m k a) j=Y b->(j=k/\b=a)\/(j≠k/\tj m j=Y b):=by
 induction m with
 |nil=>show λh=>nomatch h
 |cons c l d=>
  intro k j a b h
  induction k using cV with
  |zero=>induction j using cV with|zero=>show .inl (rfl,(ax h).symm)|succ j=>show .inr (pO j,h)
  |succ k=>induction j using cV with|zero=>show .inr ((pO k).symm,h)|succ j=>show(d h).imp (λh=>(congrArg _ h.1,h.2)) λh=>(λq=>h.1<|BQ q,h.2)
def Agree.set(A:Agree nm d m)(c:idx nm x=Y k):Agree nm ((x,a)::d) (Hf m k a):=λy j b hj f=>by
 rw[cq];rcases Up f with h|h
 .have:y=x:=ax ((Jz hj).symm.trans (by rw[h.1];show Jz c));rw[this,beq_self_eq_true,h.2]
 .have:(y==x)=au:=beq_eq_false_iff_ne.mpr λe=>h.1<|ax<|hj.symm.trans<|e▸c;rw[this];show A y j b hj h.2
def Agree.akP{d:Loc}(A:Agree nm ((x,b)::d) m)(g:idx nm y=Y j)(e:(x==y)=au):Agree nm ((x,b)::(y,c)::d) (Hf m j c):=λz k a f h=>by
 have:=A.set g (a:=c) z k a f h;rw[cq,cq] at this⊢
 induction J:z==x with
 |false=>rw[J] at this;show this
 |true=>
  rw[show(z==y)=au by rw[beq_iff_eq.mp J];show e,J] at this;show this
def SA(C:CI)(t:Expr)(f:List Ix->List Ix):=∀r rs a st m O e,Agree C.c.nm e m->Fi C (f r) rs (a::st) m O->As C.c.Z C.c.n C.c.E t a O e λh g=>∃d,Agree C.c.nm g d/\Fi C r rs st d h
def Q!(q:∀e,SA C e<|f e):∀{l:List AV},d.all cn=L->l.length=d.length->∀{r rs st m O g},Agree C.c.nm g m->Fi C (Ej f d r) rs (l++st) m O->ο C.c.Z C.c.n C.c.E d l O g λbu o=>∃k,Agree C.c.nm o k/\Fi C r rs st k bu:=by
 induction d with
 |nil=>intro l _ j r rs st m O g A h;induction l using bB with|nil=>show OB (aC _ A h)|cons _ _=>cases j
 |cons t d p=>intro l i j r rs st m O g A h;induction l using bB with
  |nil=>cases j
  |cons a l=>
   let i:=ba.mp i;show EJ i.1 ((q t _ _ _ _ _ _ _ A h).mono λu s h=>h.elim λk h=>p i.2 (BQ j) h.1 h.2)
def ZW{K:List AV->Prop}{P:Prop}(h:pT O n a K)(k:∀l,a=.tup l->l.length=n->K l->P)(k2:Un1 O n a K->P):P:=by
 induction a using AV.casesOn with|tup l=>show(Yj h).elim (k l rfl)|int _=>show h.elim|raw _=>show h.elim|_=>show k2 h
def Uq:SA C e λ_=>[.bad]:=λr rs a st m O c A h=>gQ h
def Q?{g:List Expr}{n:Nat}{p:Pos}{st:List AV}(hs:∀e,SA C e<|f e)(J:g.all cn=L)(A:Agree C.c.nm o m)(q:Un1 O g.length a λl=>apk l st λst=>bH n C.c.Z C (Ej f g r) rs st m O):As C.c.Z C.c.n C.c.E (.Tuple g k p) a O o λbu j=>∃i,Agree C.c.nm j i/\Fi C r rs st i bu:=q.casesOn λd y v s u hd h=>by subst u;let(t,rfl):=Yn s;show QR ((bW _ _).mp J).1 hd<|hs t _ _ _ _ _ _ _ A (n,h)
def ZX(d:Nat):∀e,SA C e (cT C.c d e):=by
 induction d with
 |zero=>show λe=>Uq
 |succ d j=>
  let g:=λe=>(Lu (C:=C) d e).1;intro e;cases e with|Name x p=>show λr rs a st m O f A h=>qu h λu h=>Ie h λk t h=>vO u (cg h λn h=>(_,A.set t,n,Co.mp h))|Tuple T k p=>show λr rs a st m O f A h=>qu h λJ h=>cg h λn h=>ZW h (λl e s z=>by clear h;subst e;show Ks J s<|Q! j J s A (n,P!.mp z)) λq=>Q? j J A q|Subscript o i p=>show λr rs a st m O f A h=>IK ((g o _ _ _ _ _ _ A h).mono λb I h=>(g i _ _ _ _ _ _ A h).mono λc U h=>cg h λn h=>IJ.mono h λ_ h=>(_,A,n,h))|Attribute o x p=>show λr rs a st m O f A h=>Xf ((g o _ _ _ _ _ _ A h).mono λb I h=>cg h λn h=>h.casesOn λy Q H bJ J M G E D v=>(y,Q,H,bJ,J,M,G,E,D,_,A,n,v))|_=>show Uq
def R_(C:CI)(r:List Ix)(rs:List (List Ix))(st:List AV)(fl:Fl)(m:Lm)(O:bf):=match fl with
 |.next=>Fi C r rs st m O
 |fl=>C.Q fl O m
def SS(C:CI)(s:fz)(f:List Ix->List Ix):=∀r rs st m O d,Agree C.c.nm d m->Fi C (f r) rs st m O->xo C.c.Z C.c.n C.c.E s O d λg h e=>∃a,Agree C.c.nm e a/\R_ C r rs st g a h
def wK(j:∀s,SS C s<|f s):∀{r rs st m O e},Agree C.c.nm e m->Fi C (FQ f ss r) rs st m O->Ex C.c.Z C.c.n C.c.E ss O e λd bu g=>∃a,Agree C.c.nm g a/\R_ C r rs st d a bu:=by
 induction ss with
 |nil=>show λA h=>v?<|aC _ A h
 |cons s ss i=>show λA h=>W5 ((j s _ _ _ _ _ _ A h).mono λd o k h=>by
   induction d with|next=>show h.elim λa h=>i h.1 h.2|_=>show h)
def R_.up{st:List AV}(h:R_ C [] (r::rs) st a m O):R_ C r rs st a m O:=by
 induction a with|next=>show Fi.up h|_=>show h
def FZ{st:List AV}(A:Agree C.c.nm f m)(h:SR C.c.Z C.c s m O (ϳ C (bH n C.c.Z C r rs st))):xo C.c.Z C.c.n C.c.E s O f λd bu e=>∃a,Agree C.c.nm e a/\R_ C r rs st d a bu:=
 xo.mono (h f A) λd bu e h=>h.elim λa h=>(aC a h.1 (by
  induction d with|next=>show(n,h.2)|_=>show h.2))
def Ur{P:Prop}{st:List AV}(h:Fi C (nam e f [.bad]) rs st m O)(k:∀x p,e=.Name x p->Fi C (f x p) rs st m O->P):P:=by
 induction ev e with|n=>show k _ _ rfl h|o q=>show gQ (q.n f _▸h)|a=>show gQ h|t=>show gQ h|s=>show gQ h
def Pk{P:Prop}{st:List AV}(h:Fi C (Yb e f [.bad]) rs st m O)(k:∀a b i p,e=.Tuple [a,b] i p->Fi C (f a b) rs st m O->P):P:=by
 induction ev e with
 | @t es i p=>
  induction es using bB with
  |nil=>show gQ h
  |cons a es=>
   induction es using bB with
   |nil=>show gQ h
   |cons b es=>
    induction es using bB with|nil=>show k a b i p rfl h|cons _ _=>show gQ h
 |o q=>show gQ (q.t f _▸h)
 |a=>show gQ h
 |n=>show gQ h
 |s=>show gQ h
def R!(j:swC C.c x y p q a b=L):kH [.Tuple [.Name x p,.Name y q] k tp] (.Tuple [a,b] k2 vp) C.c.E=pure (Y [x,y])/\eF C.c.E x=L/\eF C.c.E y=L/\(x==y)=au:=by
 simp only[swC,bW,fE] at j;let((((((((((H,G),D),A),v),u),f),t),s),i),g):=j;refine ek ?_ t s f;let d:(y==x)=au:=by rw[beq_eq_false_iff_ne] at f⊢;show λe=>f e.symm
 let m:∀e,cn e=L->Kb (λ_=>Bool) e (λ_ _=>L) (λ_=>au)=au:=λe h=>by cases e<;>first|rfl|exact nomatch h
 unfold kH;let o:(C.c.E.blockKind !=ScopeKind.function)=au:=by rw[bne,H];rfl
 refine(aK ?_).trans ((aK ?_).trans ?_)
 .rw[o];show aI
 .intro h;rcases ma.mp h with h|h
  .show aI<|(m a G).symm.trans h
  .rcases ma.mp h with h|h
   .show aI<|(m b D).symm.trans h
   .cases h
 .have:∀(l:List Str) (z:Sem (Option<|List Str)),l=[x,y]->(if l.length !=2||l.eraseDups.length !=l.length then(pure R:Sem (Option<|List Str)) else if [a,b].all (foldedForSure 8) then pure R else if [a,b].all (constantsAlone 8) then z else pure (Y l))=pure (Y [x,y]):=by
   rintro l z rfl
   have:[x,y].eraseDups.length=2:=by simp[List.eraseDups_cons,d]
   rw[this,i,g];rfl
  refine this _ _ (Eq.trans (eT (b:=x) ?_) (congrArg (x::·)<|Eq.trans (eT (b:=y) ?_) rfl))
  .show bj (show(C.c.E.kindOf x==Y .local&&p.line==p.line)=L by rw[A,beq_self_eq_true];rfl)
  .show bj (show(C.c.E.kindOf y==Y .local&&q.line==p.line)=L by rw[v,u];rfl)
def Yo(J:ry v=L)(o:SE C v g):SS C (.Assign [t] v p) (swV C.c t v g):=λr rs st m O m' A h=>
 Pk h λs u k tp e1 h=>Pk h λa b k2 vp e2 h=>Ur h λx p U h=>Ur h λy q Q h=>qu h λI h=>Ie h λi H h=>Ie h λj G z=>by subst e1 e2 U Q;let(M,T,f,d):=R! (k:=k) (k2:=k2) (tp:=tp) (vp:=vp) I;refine GX (DI J _) M T f ((o _ _ _ _ _ _ A z).mono λa bh h=>cg h λn h=>ZW h (λl e E h=>?_) λq=>q.casesOn λ_ _ _ D=>nomatch D);let(b,c,rfl):=akO E;show jo b c e (cg (n,h) λn h=>cg (n,Co.mp h) λn h=>(_,(A.set H).akP G d,n,Co.mp h))
def R?(d:∀e,SE C e<|g e)(f:∀e,SA C e<|h e):SS C (.Assign [t] v p) (N_ C.c g h (.Assign [t] v p) t v):=λr rs st m O k A hh=>by
 unfold N_ at hh
 induction J:ry v with
 |false=>rw[J] at hh;show cg hh λn h=>FZ A h
 |true=>
  rw[J] at hh
  induction M:X9 t&&not (isTup t&&isTup v) with
  |true=>
   let hh:Fi C (g v<|h t r) rs st m O:=by rw[M] at hh;show hh
   let M:=ba.mp M;let(j,i):=Yc (E:=C.c.E) M.1 M.2;show Qf (xq J) j i ((d v _ _ _ _ _ _ A hh).mono λa o h=>f t _ _ _ _ _ _ _ A h)
  |false=>show Yo J (d v) _ _ _ _ _ _ A (by rw[M] at hh;show hh)
def S_(d:∀e,SE C e<|g e):SS C (.AugAssign t op e p) (ϲ C.c g t op e):=λr rs st m O E A h=>by
 rcases Yd (Q:=λz=>Fi C z rs st m O) h with⟨o,i,q,s,h⟩|⟨x,q,s,h⟩|h
 .rw[s];show qu h λJ h=>Qh J ((d o _ _ _ _ _ _ A h).mono λa I h=>(d i _ _ _ _ _ _ A h).mono λb H h=>cg h λn h=>Ed.mono h λc G h=>(d e _ _ _ _ _ _ A (n,h)).mono λx D h=>cg h λn h=>(Uj h).mono λy v h=>IJ.mono h λM h=>(_,A,n,h))
 .rw[s];show qu h λf h=>Ie h λk u h=>cg h λn h=>by
   let f:=ba.mp f;change (match tj m k with|some a=>_|none=>False) at h
   induction j:tj m k with|none=>rw[j] at h;show h.elim|some a=>rw[j] at h;show MS f.1 f.2 (A _ _ _ u j) ((d e _ _ _ _ _ _ A (n,h)).mono λx D h=>cg h λn h=>(Uj h).mono λy v h=>(_,A.set u,n,(Co (K:=λm=>bH n C.c.Z C r rs st m v)).mp h))
 .show gQ h
def JA:SS C s λ_=>[.bad]:=λr rs st m O a A h=>gQ h
def S!:SS C (.For t it b o p) (FR C.c (d+1)<|.For t it b o p):=λr rs st m O e A h=>by
 let h:Fi C (match Uh it with
  |true=>.sr (.For t it b o p)::r
  |false=>gd (mF it) (.fo (isTup t) (cT C.c d t []) (cX C.c d au it []) (FQ (FR C.c d) b []) (FQ (FR C.c d) o [])::r)) rs st m O:=h
 induction M:Uh it with
 |true=>
  rw[M] at h;show cg h λn h=>FZ A h
 |false=>
  rw[M] at h;show qu h λa h=>cg h λn h=>FZ A<|h t it b o p d rfl rfl a rfl rfl rfl
def zu(d:Nat):∀s,SS C s (FR C.c d s):=by
 induction d with
 |zero=>show λs=>JA
 |succ d q=>
  let i:=λe=>(Lu (C:=C) d e).1;intro s;cases s with
  |Expr e p=>
    intro r rs st m O f A h;refine qu h λg h=>?_;let g:=ba.mp g;show W8 (by simpa using g.1) g.2 ((i e _ _ _ _ _ _ A h).mono λa u h=>cg h λn h=>(_,A,n,h))
  |Assign j v p=>induction j using bB with
   |nil=>show JA
   |cons t j=>induction j using bB with|nil=>show R? i (ZX d)|cons _ _=>show JA
  |AugAssign t op e p=>show S_ i
  |Return v p=>induction v with|none=>show λr rs st m O f A h=>MR (cg h λn h=>cg (n,h) λn h=>(aC _ A h))|some e=>show λr rs st m O f A h=>Qe ((i e _ _ _ _ _ _ A h).mono λa u h=>cg h λn h=>(aC _ A h))
  |Break p=>show λr rs st m O f A h=>Sl (cg h λn h=>(aC _ A h))
  |Continue p=>show λr rs st m O f A h=>Kq (cg h λn h=>(aC _ A h))
  |If t b o p=>show λr rs st m O f A h=>ξ (((λe=>(Lu (C:=C) d e).2) t _ _ _ _ _ _ A h).mono λc u h=>cg h λn h=>De h
    (λh=>(wK q A (n,h)).mono λz D y h=>h.elim λk h=>(aC k h.1 h.2.up)) λh=>(wK q A (n,h)).mono λz D y h=>h.elim λk h=>(aC k h.1 h.2.up))
  |For t it b o p=>show S!
  |While t b o p=>show λr rs st m O f A h=>cg h λn h=>FZ A<|h t b o p d rfl rfl rfl
  |FunctionDef _ _ _ _ _ _ _=>show λr rs st m O f A h=>cg h λn h=>FZ A h
  |_=>show JA
def Us:∀{k:Nat} {a:AV},tj l k=Y a->l[k]?=Y (Y a):=by
 induction l with
 |nil=>show λh=>nomatch h
 |cons b l c=>
  intro k a h
  induction k using cV with|zero=>show congrArg Y h|succ k=>show c h
def uW{nm:List Str}{m:Lm}(c:nm.map (λx=>m₀.lookup x)=m):Agree nm m₀ m:=λx k a d e=>by subst c;have:=Us e;rw[bb,Jz d] at this;show ax this
end
@[ext]abbrev S?(Z:Bs)(n:Nat)(f:aW)(fd:qH)(nm:List Str)(Q:AV->bf->Prop)(ak:aW):CI:=((Z,n,k6 fd ak f,nm),λa c _=>Q (m7 a) c)
def Ϻ{n:Nat}{f:aW}{od:Option aW}{body:List fz}{a:List (Str×AV)}{nm:List Str}{m:Lm}{ir:List Ix}(i:Z.K.lookup f=Y (oc,od,.func fd,osl))(d:CB Z.K fd.code fd.qualname=L)(e:fd.body=.stmts body)(g:plainDef fd=L)(q:Binds Z fd args a m₀)(j:r4 fd m₀=L)(o:nm.map (λx=>m₀.lookup x)=m)(p:∀ak,FQ (FR (Z,n,k6 fd ak f,nm) 30) body []=ir)(h:∀ak,bH 5000 Z (S? Z n f fd nm Q ak) ir [] [] m O):Cl Z (n+1) (!f) args a O Q:=
 Xd i d e g q j λak=>by
  refine(wK (C:=S? Z n f fd nm Q ak) (ss:=body) (r:=[]) (rs:=[]) (st:=[]) (O:=O) (zu 30) (uW o)<|by rw[show FQ (FR (S? Z n f fd nm Q ak).c 30) body []=ir from p ak];show(5000,h ak)).mono λs v u h=>h.elim λt h=>?_
  induction s with
  |next=>
   refine h.2.elim λk h=>?_
   induction k using cV with|zero=>show h.elim|succ k=>show h
  |_=>show h.2
section
variable{Z:Bs}{C:CI}{n:Nat}{O:bf}
section
variable{K K':AV->bf->Prop}(k:∀a O,K a O->K' a O)
include k
end
end
@[ext]abbrev ij:Nat->List Ix->List Ix
 |0,l=>l
 |n+1,_::l=>ij n l
 |_+1,[]=>[]
end
section
variable{Kz:Fl->bf->Lm->Prop}{m':Loc}{n:Nat}{P:Prop}
section
variable{p q:Prop}
def rT{c:Bool}(h:c=L)(k:p):br c p q:=.t h k
def jh{c:Bool}(h:c=au)(k:q):br c p q:=.f h k
def GP{c:Bool}(h:¬c=L)(k:q):br c p q:=jh (Bool.eq_false_iff.mpr h) k
variable{c:Prop}{d:Decidable c}
def nu(h:c)(k:p):br (decide c) p q:=rT (decide_eq_true h) k
def nC(h:¬c)(k:q):br (decide c) p q:=jh (decide_eq_false h) k
def w3(h:c)(k:q):br (not (decide c)) p q:=jh (by rw[decide_eq_true h];rfl) k
end
def dR{V:TA}{t:TS}{g:bf}(a:Wf V)(h:P):Tl1 (t\g) (!V.x) P:=(V.x,V.dx,jD V t,rfl,fi a,⋯,h)
def ϻ{O:bf}{x a:aW}{bJ:List (Str×AV)}(I:Inst O x 493 a bJ)(c:(bJ.all λp=>pA.contains p.1)=L)(h:P):Tl1 O (!x) P:=(x,a,bJ,rfl,I,c,h)
def Q5{Z:Bs}{fd:qH}{a b c d e:AV}{x y z t r:Str}(h:∀v w u q p,fK fd ([v,w,u,q,p],[])=pure [(x,v),(y,w),(z,u),(t,q),(r,p)]):Binds Z fd [a,b,c,d,e] [] [(r,e),(t,d),(z,c),(y,b),(x,a)]:=λU s vs bJ m S g f=>by clear f;let rfl:=ig g;apply ck.un S;intro _ _ J S;apply ck.un S;intro _ _ M S;apply ck.un S;intro _ _ k S;apply ck.un S;intro _ _ j S;apply ck.un S;intro _ _ i S;apply ck.un0 S;show aC _ (.of_eq<|h _ _ _ _ _)<|.cons i<|.cons j<|.cons k<|.cons M<|.cons J .nil
def un1{O:bf}{d:aW}{a:K0}{v:AV}{K:List AV->Prop}(hd:O d=Y (.dict [(a,v)]))(h:K [.tup [EW a,v]]):pT O 1 (.obj<|pe d) K:=.mk d a v rfl rfl hd h
abbrev rq(K:AV->bf->Prop)(c:Fl)(O:bf)(_:Lm):=match c with
 |.ret a=>K a O
 |_=>False
abbrev lq(I:bf->Lm->Prop)(a:iD)(K:Fl->bf->Lm->Prop)(c:Fl)(O:bf)(m:Lm):=match c with
 |.next=>I O m
 |.cont=>I O m
 |.brk=>K .next (iD.back a O) m
 |.ret v=>K (.ret v) (iD.back a O) m
def Ut(Z:Bs)(n:Nat)(a:Bool)(x:AV)(O:bf)(K:List AV->iD->Prop):=∀e,isTup e=a->Au Z n e x O K
def rj{Z:Bs}{a:Bool}{x:AV}{O:bf}{K:List AV->iD->Prop}(h:∀e,Au Z n e x O K):Ut Z n a x O K:=λe _=>h e
def mT{Z:Bs}{O:bf}{d:aW}{l:List (K0×AV)}{K:List AV->iD->Prop}(hd:O d=Y (.dict l))(h:K (nU l) (Y (d,.dict l))):Ut Z n L (.obj<|pe d) O K:=λe a=>by let(es,k,p,rfl):=Q4 a;show Qt hd h
section
variable{C:CI}{m:Lm}{O:bf}
def ZY{C:CC}{K:AV->bf->Prop}{d k:Nat}{e:Expr}(A:Agree C.nm m' m)(h:bH k C.Z (C,rq K) (cX C d au e []) [[.ret]] [] m O):Ev C.Z C.n C.E e O m' K:=
 ((Lu (C:=(C,rq K)) d e).1 _ _ _ _ _ _ A (k,h)).mono λ_ _ h=>cg h.up λn h=>h
def Pl{C:CC}{K:AV->bf->Prop}{d k:Nat}{e:Expr}(A:Agree C.nm m' m)(h:bH k C.Z (C,rq K) (cX C d L e []) [[.ret]] [] m O):Tt C.Z C.n C.E e O m' λb O=>K (.bool b) O:=
 ((Lu (C:=(C,rq K)) d e).2 _ _ _ _ _ _ A (k,h)).mono λ_ _ h=>cg h.up λn h=>h
def rE{a:Fl}(h:R_ C [] [] [] a m O):C.Q a O m:=by
 induction a with
 |next=>
  refine h.elim λk h=>?_
  induction k using cV with|zero=>show h.elim|succ k=>show h
 |_=>show h
end
def Uu{C:CC}{ir:List Ix}{m:Lm}{O:bf}{body:List fz}{Q:Fl->bf->Lm->Prop}(A:Agree C.nm m' m)(d:FQ (FR C 30) body []=ir)(h:bH 5000 C.Z (C,Q) ir [] [] m O):Ex C.Z C.n C.E body O m' λa O m'=>∃m,Agree C.nm m' m/\Q a O m:=
 (wK (C:=(C,Q)) (zu 30) A (5000,by rw[d];show h)).mono λa f e h=>h.elim λc h=>(aC c h.1<|rE h.2)
section
variable{Z:Bs}{C:CC}{tu:Bool}{t it b o:List Ix}{m:Lm}{O:bf}{K:Fl->bf->Lm->Prop}
@[ext]abbrev fg:List Bool->Lm->Lm
 |[],m=>m
 |_::_,[]=>[]
 |true::b,_::m=>R::fg b m
 |false::b,a::m=>a::fg b m
def T_(b:List Bool):∀(m:Lm) (k:Nat) (a:AV),tj (fg b m) k=Y a->tj m k=Y a:=by
 induction b with
 |nil=>show λ_ _ _ h=>h
 |cons c b d=>
  intro m k a h
  induction m using bB with
  |nil=>cases c<;>exact h
  |cons v m=>
   cases c<;>induction k using cV with
   |zero=>first|exact h|exact nomatch h
   |succ k=>show d m k a h
def Agree.fg{nm:List Str}{m:Lm}(A:Agree nm m' m){b:List Bool}:Agree nm m' (fg b m):=λx k a J M=>A x k a J<|T_ b _ _ _ M
abbrev FoI(e:List Bool)(Z:Bs)(C:CC)(t b:List Ix)(m:Lm)(f:bf)(K:Fl->bf->Lm->Prop)(aH:List AV)(c:iD):=∃I:Nat->bf->Lm->Prop,I 0 (iD.out c f) (fg e m)/\
  (∀k a O m,aH[k]?=Y a->I k O m->∀Q:Fl->bf->Lm->Prop,(∀d O m,lq (λO m=>I (k+1) O<|fg e m) c K d O m->Q d O m)->bH 4000 Z (C,Q) t [b] [a] m O)/\
  (∀O m,I aH.length O m->K .next (iD.back c O) m)
def for_in{fb:List Bool}{u:Expr}{z y:List fz}{p:Pos}{d:Nat}{e2:Expr}(A:Agree C.nm m' m)(h0:FQ (FR C d) y []=[])(h:EvI C.Z C.n C.E u e2 O m' λaH i bh=>FoI fb C.Z C (cT C d u []) (FQ (FR C d) z []) m bh K aH i):xo C.Z C.n C.E (.For u e2 z y p) O m' λf bu D=>∃m3,Agree C.nm D m3/\K f bu m3:=by
 refine A! (λU s A G H Q=>aG (h U s A G H Q) (λr s' h=>h.casesOn λit aH fp wr h1 i U' bq e I j g hv J M T q=>(it,aH,fp,wr,h1,i,U',bq,e,I,j,g,hv,J,M,T,?_)) λ_ _ e=>e);clear J M T g j I e Q H G h;refine q.elim λI q=>(λk O m'=>∃m,Agree C.nm m' m/\I k O m,(aC _ (Agree.fg ∎) q.1),λk a O m' ha c=>c.elim λm c=>?_,λO m' c=>c.elim λm c=>?_)
 .refine(ZX (C:=(C,lq (λO m=>I (k+1) O<|fg fb m) i K)) d u _ _ _ _ _ _ _ c.1 (4000,q.2.1 k a O m ha c.2 _ λ_ _ _ h=>h)).mono λbu D h=>h.elim λm3 h=>?_;refine(wK (zu d) h.1 h.2.up).mono λf js m4 h=>h.elim λv h=>?_;have:=rE h.2;induction f with|next=>show(aC _ h.1.fg this)|cont=>show(aC _ h.1.fg this)|_=>show(aC v h.1 this)
 .show(wK (C:=(C,λf O m=>K f (iD.back i O) m)) (zu d) c.1<|by rw[h0];show(1,q.2.2 O m c.2)).mono λf js m4 h=>h.elim λv h=>(aC v h.1<|rE h.2)
def lG(k:List Bool)(e:C.Z=Z)(h:∀K:Fl->bf->Lm->Prop,(∀c O m,Kz c O m->K c O m)->bH 1000 Z (C,rq λx a=>Ut Z C.n tu x a λaH q=>FoI k Z C t b m a K aH q) it [[.ret]] [] m O):FoR Z C tu t it b [] m O Kz:=λs e2 v u p d J M j i g f m' A=>by replace h:=h Kz λ_ _ _ h=>h;subst e M i g;show for_in A f (A_ j<|(ZY A h).mono λx a T=>(T s J))
def My{I:bf->Lm->Prop}{c:iD}(k:∀a O m,Kz a O m->K a O m)(h:∀O m,I O m->Kz .next (iD.back c O) m):∀O m,I O m->K .next (iD.back c O) m:=λO m i=>k _ _ _<|h O m i
abbrev wq(I:Nat->bf->Lm->Prop)(k:Nat)(K:Fl->bf->Lm->Prop)(a:Fl)(O:bf)(m:Lm):=match a with
 |.next=>∃j,j<k/\I j O m
 |.cont=>∃j,j<k/\I j O m
 |.brk=>K .next O m
 |.ret v=>K (.ret v) O m
def ZZ(q:List Bool)(e:C.Z=Z)(I:Nat->bf->Lm->Prop)(y:Nat)(u:I y O (fg q m)) (h:∀K:Fl->bf->Lm->Prop,(∀f O m,Kz f O m->K f O m)->∀k O m,I k O m->bH 1000 Z (C,rq λx s=>pB x λc=>br c (bH 4000 Z (C,wq (λk O m=>I k O<|fg q m) k K) b [] [] m s)<|bH 1000 Z (C,K) o [] [] m s) t [[.ret]] [] m O):WhR Z C t b o m O Kz:=λT Q J p d M H G m' A=>by
 replace h:=h Kz λ_ _ _ h=>h;subst e M H G;refine KD (λk O m'=>∃m,Agree C.nm m' m/\I k O m) y (aC _ A.fg u) λk O m' i=>?_;clear u A;let(m,A,i):=i;refine(Pl A<|h k O m i).mono λc s E=>De E (λh=>?_) λh=>?_
 .refine(wK (C:=(C,wq (λk O m=>I k O<|fg q m) k Kz)) (zu d) A (4000,h)).mono λf D z h=>h.elim λg h=>?_;have:=rE h.2;induction f with|next=>show this.elim λj a=>(j,a.1,aC _ h.1.fg a.2)|cont=>show this.elim λj a=>(j,a.1,aC _ h.1.fg a.2)|brk=>show(aC g h.1 this)|ret v=>show(aC g h.1 this)
 .show(wK (C:=(C,Kz)) (zu d) A (1000,h)).mono λf D z h=>h.elim λg h=>(aC g h.1<|rE h.2)
abbrev wq1(O:bf)(m:Lm)(P:Prop)(K:Fl->bf->Lm->Prop)(d:Fl)(c:bf)(a:Lm):=match d with
 |.next=>c=O/\a=m/\P
 |.cont=>c=O/\a=m/\P
 |.brk=>K .next c a
 |.ret v=>K (.ret v) c a
def wh1(e:C.Z=Z)(j:Nat)(a:AV)(P:Prop) (J:bH 1000 Z (C,rq λx i=>pB x λc=>br c (bH 4000 Z (C,wq1 O (Hf m j a) P K) b [] [] m i)<|bH 1000 Z (C,K) o [] [] m i) t [[.ret]] [] m O) (M:P->bH 1000 Z (C,rq λx i=>pB x λc=>c=au/\bH 1000 Z (C,K) o [] [] (Hf m j a) i) t [[.ret]] [] (Hf m j a) O):WhR Z C t b o m O K:=λT Q I p d s H G m' A=>by
 subst e s H G;refine KD (λk q m'=>(k=1/\q=O/\Agree C.nm m' m)\/(k=0/\q=O/\Agree C.nm m' (Hf m j a)/\P)) 1 (.inl<|bt rfl rfl A) λk q m' E=>?_;rcases E with⟨rfl,rfl,A⟩|⟨rfl,rfl,A,D⟩
 .refine(Pl A J).mono λc i g=>De g (λh=>?_) λh=>?_
  .refine(wK (C:=(C,wq1 q (Hf m j a) P K)) (zu d) A (4000,h)).mono λu z y h=>h.elim λf h=>?_;have:=rE h.2;induction u with|next=>show(aC 0 D6<|.inr<|ek rfl this.1 (this.2.1▸h.1) this.2.2)|cont=>show(aC 0 D6<|.inr<|ek rfl this.1 (this.2.1▸h.1) this.2.2)|brk=>show(aC f h.1 this)|ret v=>show(aC f h.1 this)
  .show(wK (C:=(C,K)) (zu d) A (1000,h)).mono λu z y h=>h.elim λf h=>(aC f h.1<|rE h.2)
 .refine(Pl A<|M D).mono λc i g=>?_;let g:c=au/\_:=g;rw[g.1];show(wK (C:=(C,K)) (zu d) A (1000,g.2)).mono λu z y h=>h.elim λf h=>(aC f h.1<|rE h.2)
end
def Wg{a:bf->Lm->Prop}{O c:bf}{m:Lm}(e:O=c)(h:a c m):a O m:=e▸h
end
abbrev Uv(w:cC){B:Fz}(hB:cp w B)(n:Nat)(a:aW)(nm:List Str)(ir:List Ix)(m:Lm)(m₀:Loc):=
 bG ((K1 w).lookup a) (bG (CB (K1 w) (iy (K1 w) a).code (iy (K1 w) a).qualname)<|bG (iy (K1 w) a).body<|bG (plainDef<|iy (K1 w) a)<|bG (r4 (iy (K1 w) a) m₀)<|bG (nm.map<|λx=>m₀.lookup x)<|λak=>FQ (FR (bs w B hB,n,k6 (iy (K1 w) a) ak a,nm) 30) (dB (K1 w) a) [])
 =bG (Y (.type "function",Mh,.func<|iy (K1 w) a, #[])) (bG L<|bG (.stmts<|dB (K1 w) a)<|bG L<|bG L<|bG m<|λ_=>ir)
abbrev FH(w:cC)(B:Fz)(hB:cp w B)(n:Nat)(a:aW)(nm:List Str)(ir:List Ix)(m:Lm)(O:bf)(Q:AV->bf->Prop):=∀ak,bH 5000 ↑hB (S? ↑hB n a (iy (K1 w) a) nm Q ak) ir [] [] m O
section
variable{w:cC}{B:Fz}{hB:cp w B}{n:Nat}{a:aW}{nm:List Str}{ir:List Ix}{m:Lm}{O:bf}{Q:AV->bf->Prop}{m₀:Loc}{a0 a1 a2 a3:AV}{x y z t:Str}{ns:List Str}
def RP{args:List AV}{c:List (Str×AV)}(d:Binds ↑hB (iy (K1 w) a) args c m₀)(h:FH w B hB n a nm ir m O Q)(k:Uv w hB n a nm ir m m₀):Cl ↑hB (n+1) (!a) args c O Q:=
 Ϻ (congrArg (·.1) k) (congrArg (·.2.1) k) (congrArg (·.2.2.1) k) (congrArg (·.2.2.2.1) k) d (congrArg (·.2.2.2.2.1) k) (congrArg (·.2.2.2.2.2.1) k) (λak=>congrArg (·.2.2.2.2.2.2 ak) k) h
def fn1(h:FH w B hB n a (x::ns) ir m O Q)(c:(λv=>fK (iy (K1 w) a) ([v],[]))=λv=>pure [(x,v)])(k:Uv w hB n a (x::ns) ir m [(x,a0)]):Cl ↑hB (n+1) (!a) [a0] [] O Q:=RP (HW λv=>congrArg (· v) c) h k
def Wh(h:FH w B hB n a (x::y::ns) ir m O Q)(c:(λv w'=>fK (iy (K1 w) a) ([v,w'],[]))=λv w'=>pure [(x,v),(y,w')])(k:Uv w hB n a (x::y::ns) ir m [(y,a1),(x,a0)]):Cl ↑hB (n+1) (!a) [a0,a1] [] O Q:=RP (Cd λv w=>congrArg (· v w) c) h k
def T!(h:FH w B hB n a (x::y::z::ns) ir m O Q)(c:(λv w' u=>fK (iy (K1 w) a) ([v,w',u],[]))=λv w' u=>pure [(x,v),(y,w'),(z,u)])(k:Uv w hB n a (x::y::z::ns) ir m [(z,a2),(y,a1),(x,a0)]):Cl ↑hB (n+1) (!a) [a0,a1,a2] [] O Q:=RP (HY λv w u=>congrArg (· v w u) c) h k
def fn4(h:FH w B hB n a (x::y::z::t::ns) ir m O Q)(c:(λv w' u s=>fK (iy (K1 w) a) ([v,w',u,s],[]))=λv w' u s=>pure [(x,v),(y,w'),(z,u),(t,s)])(k:Uv w hB n a (x::y::z::t::ns) ir m [(t,a3),(z,a2),(y,a1),(x,a0)]):Cl ↑hB (n+1) (!a) [a0,a1,a2,a3] [] O Q:=RP (HZ λv w u s=>congrArg (· v w u s) c) h k
end
def JB(h:J5 Z O o x g)(k:kK Z.K g=L)(p:P g):Me1 Z O o x P:=(g,h,k,p)
def Uw{V:TA}{K:bf->Prop}(a:Wf V)(h:K ({t with mf:=i}\g)):Sat ↑hB (!V.x) (ah "_min_free") ⇑i (t\g) K:=
 (V.x,493,V.dx,jD V t,rfl,fi a,k_inst,⋯,by simp[jD],by rw[D? a];show h)
section
variable{V:TA}
variable{w:cC}{n:Nat}{t:TS}
@[ext]abbrev akR:List Ix:=[.l 0,.at "_ref",.l 1,.ab,.gi,.c ⇑1,.ag .Add]
abbrev akS:List Str:=["self","u"]
def akT(h:FH w B hB n 100 akS akR [Y x0,Y a] O Q):Cl ↑hB (n+1) (!100) [x0,a] [] O Q:=Wh h ⋯ ⋯
@[ext]abbrev akU:List Ix:=[.l 0,.at "_ref",.l 1,.ab,.sb,.c ⇑0,.cm .LtE,.tr,.iff [.l 0,.at "_ref",.l 1,.ab,.sb,.st 2,.c .none,.ret] [],.l 0,.at "_ref",.l 1,.ab,.gi,.c ⇑1,.ag .Sub]
abbrev akV:List Str:=["self","u","n"]
def akW(h:FH w B hB n 107 akV akU [Y x0,Y a,R] O Q):Cl ↑hB (n+1) (!107) [x0,a] [] O Q:=Wh h ⋯ ⋯
@[ext]abbrev akX:List Ix:=(.l 1::.ab::.c ⇑1::.cm .Eq::.tr::.iff [.l 1,.l 1,.tu 2,.ret] []::.l 0::.at "_succ"::.l 1::.ab::.sb::.un 3::.st 3::.st 4::.st 5::.l 4::.tr::.no::.iff [.bad] []::.l 5::.tr::.no::[.iff [.bad] [],.l 2,.l 3,.cm .Lt,.tr,.iff [.l 1,.l 1,.tu 2,.ret] [],.l 3,.l 2,.cm .NotEq,.tr,.iff [.bad] [],.l 1,.c ⇑0,.cm .Lt,.tr,.iff [.l 4,.ng,.l 5,.ng,.tu 2,.un 2,.st 4,.st 5] [],.l 4,.l 5,.tu 2,.ret])
abbrev akY:List Str:=["self","u","i","iu","v","w"]
def akZ(h:FH w B hB n 299 akY akX %[Y x0,Y c,Y a|3] O Q):Cl ↑hB (n+1) (!299) [x0,c,a] [] O Q:=T! h ⋯ ⋯
@[ext]abbrev ak0:List Ix:=[.l 1,.l 0,.at "_level_to_var",.cm .NotIn,.tr,.iff [.bad] [],.l 0,.at "_level_to_var",.l 1,.sb,.ret]
abbrev ak1:List Str:=["self","level"]
def ak2(h:FH w B hB n 157 ak1 ak0 [Y x0,Y a] O Q):Cl ↑hB (n+1) (!157) [x0,a] [] O Q:=Wh h ⋯ ⋯
@[ext]abbrev ak3:List Ix:=[.l 1,.l 0,.at "vars",.cm .NotIn,.tr,.iff [.bad] [],.l 0,.at "vars",.l 1,.sb,.ret]
abbrev ak4:List Str:=["self","var"]
def ak5(h:FH w B hB n 164 ak4 ak3 [Y x0,Y a] O Q):Cl ↑hB (n+1) (!164) [x0,a] [] O Q:=Wh h ⋯ ⋯
@[ext]abbrev i93:List Ix:=[.l 0,.at "_succ",.l 1,.ab,.sb,.ret]
abbrev n93:List Str:=["self","u"]
def f93(h:FH w B hB n 93 n93 i93 [Y x0,Y a] O Q):Cl ↑hB (n+1) (!93) [x0,a] [] O Q:=Wh h ⋯ ⋯
def Dh(a:Wf V)(d:N t.ref (aT u:Int)=Y c)(hz:t.ref.length<=100000)(h:Q .none ({t with ref:=bl t.ref (aT u:Int) (c+1)}\g)):Cl ↑hB (n+1) (!100) [.ref V.x,.int u] [] (t\g) Q:=by show akT λak=>xy ∎ (A1 ∎ ∎ (Jj a hz h))
def Dk(d:Wf V)(e:N t.ref (aT u:Int)=Y c)(hz:t.ref.length<=100000)(a:0<c)(h:Q .none ({t with ref:=bl t.ref (aT u:Int) (c-1)}\g)):Cl ↑hB (n+1) (!107) [.ref V.x,.int u] [] (t\g) Q:=by show akW λak=>xy ∎ (A1 ∎ ∎ (GP (by simp;show a)<|xy ∎ (A1 ∎ ∎ (Jj d hz h))))
def Bf(e:Wf V)(d:(N t.ref (aT u:Int)).isSome=L)(hz:t.ref.length<=100000)(h:Q .none ({t with ref:=pq t.ref (aT u:Int)}\g)):Cl ↑hB (n+1) (!100) [.ref V.x,.int u] [] (t\g) Q:=by
 induction a:N t.ref (aT u:Int) with|none=>rw[a] at d;show nomatch d|some c=>show Dh e a hz (by rw[XN a];show h)
def Lv(e:Wf V)(a:N t.ref (aT u:Int)=Y c)(hz:t.ref.length<=100000)(d:0<c)(h:Q .none ({t with ref:=n6 t.ref (aT u:Int)}\g)):Cl ↑hB (n+1) (!107) [.ref V.x,.int u] [] (t\g) Q:=Dk e a hz d (by rw[XO a];show h)
abbrev Yp(t:TS)(u i:Int):Int×Int:=if u.natAbs=1 then(u,u) else match N t.X (aT u:Int) with
 |some (a,Y v,Y w)=>if i<a then(u,u) else if u<0 then(-v,-w) else(v,w)
 |_=>(u,u)
def Ux(d:u.natAbs≠1)(e:N t.X (aT u:Int)=Y (c,Y v,Y a)):Yp t u i=if i<c then(u,u) else if u<0 then(-v,-a) else(v,a):=(aK d).trans (by rw[e])
def Lw(o:Wf V)(m:u.natAbs=1\/(u.natAbs≠1/\∃e v w,N t.X (aT u:Int)=Y (e,Y v,Y w)/\v≠0/\w≠0/\i<=e))(h:Q (.tup [.int (Yp t u i).1,.int (Yp t u i).2]) (t\g)):Cl ↑hB (n+1) (!299) [.ref V.x,.int u,.int i] [] (t\g) Q:=by
 refine akZ λak=>?_;rcases m with a|⟨a,e,v,w',f,S,j,k⟩
 .rw[show Yp t u i=(u,u) from bj a] at h;show nu (Zq a) h
 .refine nC (Wz a)<|cP ∎ (lD ∎ ∎ (w3 S<|w3 j ?_));by_cases c:i<e
  .refine nu c ?_;rw[Ux a f,bj c] at h;show h
  .refine nC c (GP (by simp;show afy c k) ?_);by_cases d:u<0
   .rw[Ux a f,aK c,bj d] at h;show nu d h
   .rw[Ux a f,aK c,aK d] at h;show nC d h
def vX(a:Wf V)(T:N t.e8 i=Y x)(h:Q ⇑x (t\g)):Cl ↑hB (n+1) (!157) [.ref V.x,.int i] [] (t\g) Q:=by show ak2 λak=>i8 ∎ (Tr ∎ (jh (by rw[T];rfl)<|i8 ∎ (XF ∎ ∎ h)))
def Bg(a:Wf V)(T:N t.vars i=Y x)(h:Q ⇑x (t\g)):Cl ↑hB (n+1) (!164) [.ref V.x,.int i] [] (t\g) Q:=by show ak5 λak=>fB ∎ (yP ∎ (jh (by rw[T];rfl)<|fB ∎ (A3 ∎ ∎ h)))
def Q6(c:Wf V)(d:N t.X (aT u:Int)=Y (a,v,w'))(h:Q (.tup [.int a,oi v,oi w']) (t\g)):Cl ↑hB (n+1) (!93) [.ref V.x,.int u] [] (t\g) Q:=by show f93 λak=>cP ∎ (gh ∎ ∎ h)
end
section
variable{w:cC}
@[ext]abbrev ak6:List Ix:=(.l 0::.at "_succ"::.l 1::.ab::.sb::.un 3::.st 2::.st 3::[.st 4,.l 1,.ab,.c ⇑1,.cm .Eq,.tr,.iff [.l 2,.l 1,.l 1,.tu 3,.ret] [],.l 3,.tr,.no,.iff [.bad] [],.l 4,.tr,.no,.iff [.bad] [],.l 2,.l 3,.l 4,.tu 3,.ret])
abbrev ak7:List Str:=["self","u","i","v","w"]
def ak8(h:FH w B hB n 400 ak7 ak6 %[Y x0,Y a|3] O Q):Cl ↑hB (n+1) (!400) [x0,a] [] O Q:=Wh h ⋯ ⋯
@[ext]abbrev ak9:List Ix:=[.l 1,.c ⇑1,.cm .Lt,.tr,.iff [.bad] [],.fo au [.st 2] [.c<|.raw<|.type "range",.fn,.l 1,.l 0,.at "max_nodes",.ca 2 []] [.l 2,.l 0,.at "_succ",.cm .NotIn,.tr,.iff [.l 2,.ret] []] [],.bad]
abbrev ala:List Str:=["self","start","i"]
def alb(h:FH w B hB n 370 ala ak9 [Y x0,Y a,R] O Q):Cl ↑hB (n+1) (!370) [x0,a] [] O Q:=Wh h ⋯ ⋯
def zW(h:(l6 a len)[k]?=Y x):k<len/\x=.int (a+k):=by
 let c:k<len:=by have:=(aL.mp h).1;simpa [l6] using this
 rw[l6,bb,jI c] at h;show(c,by simpa using h.symm)
def JC{hB:cp w B}{V:TA}{t:TS}{g:bf}(j:Wf V)(e:N t.X (aT u:Int)=Y (d,v,w'))(i:u.natAbs=1\/(u.natAbs≠1/\∃a b,v=Y a/\w'=Y b/\a≠0/\b≠0))(J:u.natAbs=1->Q (.tup [.int d,.int u,.int u]) (t\g))(M:∀a b,u.natAbs≠1->v=Y a->w'=Y b->Q (.tup [.int d,.int a,.int b]) (t\g)):Cl ↑hB (n+1) (!400) [.ref V.x,.int u] [] (t\g) Q:=by
 refine ak8 λak=>cP ∎ (gh ∎ ∎ ?_);clear e;rcases i with c|⟨c,a,b,rfl,rfl,h,f⟩
 .show nu (Zq c)<|J c
 .refine nC (Wz c) ?_;delta oi;show w3 h<|w3 f<|M a b c rfl rfl
def Uy(c:1<=a)(J:a<=1000000000):rt a (2^63-1) 1=L:=by
 let f:∀x:Int,-0x8000000000000000<=x->x<0x8000000000000000->rO x=L:=λx p q=>ba.mpr (decide_eq_true (by show p),decide_eq_true<|by show q)
 delta rt
 rw[(rangeSize_one ..).trans (bj<|mY J ∅),f a (og ∅ c)<|mY J ∅,f (2^63-1-a) (ajr J)<|ajs c,bj ∅,show rO (2^63-1+(1-1))=L by decide,Bool.or_true];decide
def Hg{V:TA}{a:Int}(A:Wf V)(u:1<=a)(v:a<=1000000000)(s:∃d:Nat,d<=1000000/\N t.X (a+d)=R)(h:∀i,a<=i->N t.X i=R->(∀j,a<=j->j<i->(N t.X j).isSome=L)->Q ⇑i (t\g)):Cl ↑hB (n+1) (!370) [.ref V.x,.int a] [] (t\g) Q:=by
 refine alb λak=>GP (by simp;show u) (lG [] rfl λ_ H=>Jh ∎ (B7 λt1 t2 t3=>?_))
 refine rj λ_=>rR (Uy u v)
  (λk O m=>O=t\g/\(∃x y,m=[Y !V.x,x,y])/\∀j:Nat,j<k->(N t.X<|a+j).isSome=L,(bt rfl (rY _ _ rfl)<|λj o=>absurd o<|qW _),λk x O m T p _ κQ=>?_,λO m p=>?_)
 .let(z,(U,I,D),c):=p;let(E,rfl):=zW T;clear E T;subst z D;refine cP ∎ (uQ ∎ ?_);induction f:N t.X (a+k) with
  |none=>
   refine rT (by first|rfl|(rw[f];rfl))<|κQ _ _ _ (H _ _ _ ?_);show h _ l? f λj J M=>by have:=c (j-a).toNat<|afz J M;rwa [show a+((j-a).toNat:Int)=j from Zu J] at this
  |some q=>
   refine jh (by first|rfl|(rw[f];rfl)) (κQ _ _ _ (bt rfl (rY _ _ rfl)<|λj o=>?_));by_cases e:j=k
   .clear A h c o;subst e;rw[f];rfl
   .show c j<|j_ e o
 .exfalso;let(z,G,c):=p;let(d,hd,C):=s;have:=c d (by simp[l6];show afA v hd);rw[C] at this;cases this
end
section
variable{w:cC}
@[ext]abbrev alc:List Ix:=(.l 0::.at "_succ"::.l 1::.ab::.sb::.un 3::.st 3::[.st 4,.st 5,.l 2,.l 3,.cm .Lt,.tr,.iff [.l 3,.l 1,.l 1,.tu 3,.ret] [],.l 4,.tr,.no,.iff [.bad] [],.l 5,.tr,.no,.iff [.bad] [],.l 2,.l 4,.l 5,.tu 3,.ret])
abbrev ald:List Str:=["self","u","y","i","v","w"]
def ale(h:FH w B hB n 407 ald alc %[Y x0,Y c,Y a|3] O Q):Cl ↑hB (n+1) (!407) [x0,c,a] [] O Q:=T! h ⋯ ⋯
def Bh{hB:cp w B}{n:Nat}{V:TA}{t:TS}{g:bf}(j:Wf V)(e:N t.X (aT u:Int)=Y (c,v,w'))(i:y<c\/(¬y<c/\∃a b,v=Y a/\w'=Y b/\a≠0/\b≠0))(J:y<c->Q (.tup [.int c,.int u,.int u]) (t\g))(M:∀a b,¬y<c->v=Y a->w'=Y b->Q (.tup [.int y,.int a,.int b]) (t\g)):Cl ↑hB (n+1) (!407) [.ref V.x,.int u,.int y] [] (t\g) Q:=by
 refine ale λak=>cP ∎ (gh ∎ ∎ ?_);clear e;rcases i with d|⟨d,a,b,rfl,rfl,h,f⟩
 .show nu (d)<|J d
 .show GP (by simp;show R4 d)<|w3 h<|w3 f<|M a b d rfl rfl
end
section
variable{w:cC}{t:TS}
@[ext]abbrev Yq:List Ix:=(.l 1::.c ⇑0::.cm .Lt::.tr::.iff [.bad] []::.l 1::.c (.raw<|.builtin "len")::.fn::.l 0::.at "vars"::.ca 1 []::.cm .GtE::.tr::.iff [.bad] []::.l 2::.ab::.l 0::.at "_succ"::.cm .NotIn::.tr::.iff [.bad] []::.l 3::.ab::.l 0::.at "_succ"::.cm .NotIn::.tr::.iff [.bad] []::.l 3::.c ⇑0::.cm .Lt::.tr::.iff [.l 2,.ng,.l 3,.ng,.tu 2,.un 2,.st 2,.st 3,.c ⇑1,.ng,.st 4] [.c ⇑1,.st 4]::.l 2::.l 3::.cm .Eq::.tr::.iff [.l 4,.l 2,.bi .Mult,.ret] []::.l 1::.l 2::.l 3::.tu 3::.st 5::.l 0::.at "_pred"::.me "get"::.l 5::.mc 1::.st 6::.l 6::.c .none::.cm .IsNot::.tr::.iff [.l 4,.l 6,.bi .Mult,.ret] []::.l 0::.at "_min_free"::.st 6::.l 6::.c ⇑1::.cm .LtE::.tr::.iff [.bad] []::.l 6::.l 0::.at "_succ"::.cm .In::.tr::.iff [.bad] []::.l 6::.l 0::.at "_pred"::.l 5::.ss::.l 5::.l 0::.at "_succ"::.l 6::.ss::.c ⇑0::.l 0::.at "_ref"::.l 6::.ss::[.l 0,.tl,.l 6,.mf 370 1 [],.l 0,.sa "_min_free",.l 0,.tl,.l 2,.mf 100 1 [],.pop,.l 0,.tl,.l 3,.mf 100 1 [],.pop,.l 4,.l 6,.bi .Mult,.ret])
abbrev aab:List Str:=["self","i","v","w","r","t","u"]
def alf(h:FH w B hB n 363 aab Yq %[Y x0,Y d,Y c,Y a|3] O Q):Cl ↑hB (n+1) (!363) [x0,d,c,a] [] O Q:=fn4 h ⋯ ⋯
def Ly{hB:cp w B}{n:Nat}{V:TA}{g:bf}{w':Int}(d:Wf V)(c:aw<=90000)(U:kb t aw)(s:r=1\/r= -1)(z:1<t.mf)(H:N t.X t.mf=R)(p:(N t.ref (aT v:Int)).isSome=L)(o:(N t.ref (aT w':Int)).isSome=L)(J:v=w'->Q ⇑(r*v) (t\g))(M:∀u,v≠w'->N t.pred (i,Y v,Y w')=Y u->Q ⇑(r*u) (t\g))(h3:∀f,v≠w'->N t.pred (i,Y v,Y w')=R->t.mf<=f->N (bl t.X t.mf (i,Y v,Y w')) f=R->(∀j,t.mf<=j->j<f->(N (bl t.X t.mf (i,Y v,Y w')) j).isSome=L)->Q ⇑(r*t.mf) ((pv t i v w' f)\g)):bH (fu+4000) ↑hB (S? ↑hB (n+2) 363 (iy (K1 w) 363) aab Q ak) (ij 33 Yq) [] [] %[Y !V.x,Y ⇑i,Y ⇑v,Y ⇑w',Y ⇑r|2] (t\g):=by
 let(T,O,m,h,I):=U;let a:∀x:Int,IntMulOk r x:=λx=>CS (by rcases s with rfl|rfl<;>decide);by_cases e:v=w'
 .show nu e<|vL (a _)<|J e
 .refine nC e ?_;induction C:N t.pred (i,Y v,Y w') with
  |some u=>show n5 ∎ (JB (A4 ∎) rfl<|QJ ∎ ∎ (rT rfl<|vL (a _)<|M u e C))
  |none=>
   refine n5 ∎ (JB (A4 ∎) rfl<|QK ∎ ∎ (jh rfl<|xA ∎ (GP (by simp;show z)<|cP ∎ (K5 ∎ (jh (by rw[H];rfl)<|n5 ∎ (A2 d (Y69 O c)<|cP ∎ (A0 d (by simp only;show Y69 T c)<|xy ∎ (Jj d (by simp only;show Y69 m c)<|dR ∎ (Hg d (Ew z) (afB h c) (aC ((aw+2-t.mf).toNat) (afC c z) ?_) λf E G A=>?_)))))))))
   .simp only;rw[aX,aK<|afD h];induction y:N t.X (t.mf+((aw+2-t.mf).toNat:Int)) with|none=>rfl|some q=>have:=I _ _ y;show(afE this h).elim
   simp only at E G A;refine Uw ∎ (dR ∎ ?_)
   let rr:∀(l:List (Int×Int)) (k q x:Int),(N l q).isSome=L->(N (bl l k x) q).isSome=L:=λl k q x y=>by
    rw[aX];split
    .rfl
    .show y
   let D:= @dO _ _ _ t.ref t.mf 0;let JD:(pq (bl t.ref t.mf 0) (aT v:Int)).length<=(bl t.ref t.mf 0).length+1:=dO;show Bf d (rr _ _ _ _ p) (by simp only;show afF D m c) (dR ∎ (Bf d (rr _ _ _ _<|rr _ _ _ _ o) (by simp only;show afG JD D m c)<|vL (a _)<|h3 f e C E G A))
def F0{V:TA}{g:bf}{i:Int}(o:Wf V)(H:0<=i)(E:i<t.vars.length)(G:(N t.X (aT v:Int)).isSome=L)(m:(N t.X (aT w':Int)).isSome=L)(k:t.vars.length<=1000)(A:aw<=90000)(C:kb t aw)(D:1<t.mf)(z:N t.X t.mf=R)(q:(N t.ref (aT v:Int)).isSome=L)(p:(N t.ref (aT w':Int)).isSome=L)(h:∀r t',yZ t i v w' r t'->Q ⇑r (t'\g)):Cl ↑hB (n+3) (!363) [.ref V.x,.int i,.int v,.int w'] [] (t\g) Q:=by
 refine alf λak=>GP (by simp;show H) (fB ∎ (qt (t:=t) o (Y43 k)<|GP (by simp;show E)<|cP ∎ (uQ ∎ (jh (by rw[G];rfl)<|cP ∎ (uQ ∎ (jh (by rw[m];rfl) ?_))))));by_cases a:w'<0
 .refine nu a ?_;show bH _ _ _ (ij 33 Yq) [] [] %[Y !V.x,Y ⇑i,Y ⇑_,Y ⇑_,Y ⇑_|2] (t\g);calc Ly (v:= -v) (w':= -w') (r:= -1) (i:=i) o A C (.inr rfl) D z (by rwa [eU]) (by rwa [eU]) ?_ ?_;
  .intro e;let e:v=w':=Y65 e;have:=h _ _<|yZ.same (i:=i) (t:=t) e;simpa [m7] using this
  .intro u d c;have:=h _ _ (yZ.hit (i:=i) (t:=t) (v:=v) (w:=w') (u:=u) (ĭ d)<|by simpa [sg,a] using c);simpa [sg,a,m7] using this
  .intro f d c s y j;have:=h _ _ (yZ.new (i:=i) (t:=t) (v:=v) (w:=w') (f:=f) (ĭ d) (by simpa [sg,a] using c) s (by simpa [sg,a] using y)<|by simpa [sg,a] using j);simpa [sg,a,m7] using this
 .refine nC a ?_;show bH _ _ _ (ij 33 Yq) [] [] %[Y !V.x,Y ⇑i,Y ⇑_,Y ⇑_,Y ⇑_|2] (t\g);calc Ly (v:=v) (w':=w') (r:=1) (i:=i) o A C (.inl rfl) D z q p ?_ ?_;
  .intro e;have:=h _ _<|yZ.same (i:=i) (t:=t) e;simpa [m7] using this
  .intro u d c;have:=h _ _ (yZ.hit (i:=i) (t:=t) (v:=v) (w:=w') (u:=u) d<|by simpa [sg,a] using c);simpa [sg,a,m7] using this
  .intro f d c s y j;have:=h _ _ (yZ.new (i:=i) (t:=t) (v:=v) (w:=w') (f:=f) d (by simpa [sg,a] using c) s (by simpa [sg,a] using y)<|by simpa [sg,a] using j);simpa [sg,a,m7] using this
end
section
variable{V:TA}
variable{w:cC}{g:bf}
@[ext]abbrev alh:List Ix:=(.l 1::.c ⇑1::.cm .Eq::.tr::.iff [.l 2,.ret] [.l 1,.c ⇑1,.ng,.cm .Eq,.tr,.iff [.l 3,.ret] []]::.l 1::.l 2::.l 3::.tu 3::.st 4::.l 0::.at "_ite_table"::.me "get"::.l 4::.mc 1::.st 5::.l 5::.c .none::.cm .IsNot::.tr::.iff [.l 5,.ret] []::.c (.raw<|.builtin "min")::.fn::.l 0::.at "_succ"::.l 1::.ab::.sb::.c ⇑0::.sb::.l 0::.at "_succ"::.l 2::.ab::.sb::.c ⇑0::.sb::.l 0::.at "_succ"::.l 3::.ab::.sb::.c ⇑0::.sb::.ca 3 []::.st 6::.l 0::.tl::.l 1::.l 6::.mf 299 2 []::.un 2::.st 7::.st 8::.l 0::.tl::.l 2::.l 6::.mf 299 2 []::.un 2::.st 9::.st 10::.l 0::.tl::.l 3::.l 6::.mf 299 2 []::.un 2::.st 11::.st 12::.l 0::.tl::.l 7::.l 9::.l 11::.mf 356 3 []::.st 13::.l 0::[.tl,.l 8,.l 10,.l 12,.mf 356 3 [],.st 14,.l 0,.tl,.l 6,.l 13,.l 14,.mf 363 3 [],.st 5,.l 5,.l 0,.at "_ite_table",.l 4,.ss,.l 5,.ret])
abbrev ali:List Str:=["self","g","u","v","r","w","z","g0","g1","u0","u1","v0","v1","p","q"]
def aae(h:FH w B hB n 356 ali alh %[Y x0,Y d,Y c,Y a|11] O Q):Cl ↑hB (n+1) (!356) [x0,d,c,a] [] O Q:=fn4 h ⋯ ⋯
@[ext]abbrev alj:List Ix:=[.l 0,.tl,.l 1,.l 2,.l 3,.mf 356 3 [],.ret]
abbrev alk:List Str:=["self","g","u","v"]
def alm(h:FH w B hB n 349 alk alj [Y x0,Y d,Y c,Y a] O Q):Cl ↑hB (n+1) (!349) [x0,d,c,a] [] O Q:=fn4 h ⋯ ⋯
def xT(a:Wf V)(bD:Good t.X e)(c:bc t.X e u)(d:i<=lv t.X u)(h:Q (.tup [.int (kN t.X u i).1,.int (kN t.X u i).2]) (t\g)):Cl ↑hB (n+1) (!299) [.ref V.x,.int u,.int i] [] (t\g) Q:=Lw a (bD.aj8 c d) h
def JE{hB:cp w B}{w':Int}(k:Wf V)(hx:TI t e aw)(o:aw<=90000)(d:0<=i)(c:i<4)(S:bc t.X Z0 v)(a:bc t.X Z0 w')(j:i<lv t.X v)(f:i<lv t.X w')(h:∀r t',Op t e t' (aw+1)->bc t'.X Z0 r->i<=lv t'.X r->(∀G,den t'.X r G=if G i then den t.X w' G else den t.X v G)->Q ⇑r (t'\g)):Cl ↑hB (n+3) (!363) [.ref V.x,.int i,.int v,.int w'] [] (t\g) Q:=
 F0 k d (by rw[hx.nv];show c) S.1 a.1 (by rw[hx.nv];decide) o hx.vC hx.inv.G8 hx.inv.A8 (hx.ref S) (hx.ref a) λr t' m=>by let(J,M,q,p):=hx.Ϟ d c S a j f m;show h r t' J M q p
def Uz{hB:cp w B}(E:Wf V):∀(k:Nat) {n:Nat} {t:TS} {aw:Nat} {a b c:Int} {Q:AV->bf->Prop},k<=4->TI t e aw->aw+ic k<=80000->bc t.X Z0 a->bc t.X Z0 b->bc t.X Z0 c->4-k<=lv t.X a->4-k<=lv t.X b->4-k<=lv t.X c->(∀r t',Op t e t' (aw+ic k)->bc t'.X Z0 r->(∀j,j<=lv t.X a->j<=lv t.X b->j<=lv t.X c->j<=lv t'.X r)->(∀G,den t'.X r G=if den t.X a G then den t.X b G else den t.X c G)->Q ⇑r (t'\g))->Cl ↑hB (n+k+4) (!356) [.ref V.x,.int a,.int b,.int c] [] (t\g) Q:=by
 intro k
 induction k with
 |zero=>
  intro n t aw a b c Q hk hx H f o m C lb lc h;refine aae λak=>?_;rcases hx.inv.good.ZG f (æ C) with rfl|rfl
  .refine rT rfl ?_;show h b t (Op.refl hx MF) o (λj _ h _=>h) λG=>by rw[hx.inv.good.K9];rfl
  .refine jh rfl<|rT rfl ?_;show h c t (Op.refl hx MF) m (λj _ _ h=>h) λG=>by rw[hx.inv.good.Fo];rfl
 |succ k ih=>
  intro n t aw a b c Q hk hx H f o m C lb lc h;let A:ic (k+1)=2*ic k+2:=rfl;refine aae (n:=n+k+4) λak=>?_;by_cases U:a=1
  .refine nu U ?_;clear f C;subst U;show h b t (Op.refl hx<|MF) o (λj _ h _=>h) λG=>by rw[hx.inv.good.K9];rfl
  calc nC U;by_cases Lx:a= -1
  .refine nu Lx ?_;clear f C U;subst Lx;show h c t (Op.refl hx<|MF) m (λj _ _ h=>h) λG=>by rw[hx.inv.good.Fo];rfl
  calc nC Lx;
  induction hit:N t.ite (a,b,c) with
  |some r=>
   refine vR ∎ (JB (C5 ∎) rfl<|TN ∎ ∎ (rT rfl ?_));let(_,_,_,q1,q2,q3):=hx.ite _ _ _ _ hit;show h r t (Op.refl hx<|MF) q1 q3 q2
  |none=>
   refine hide λ_ kP=>?_;let(a1,a2,hga):=f.get;let(b1,b2,hgb):=o.get;let(c1,c2,BW):=m.get;refine kP<|vR ∎ (JB (C5 ∎) rfl<|TO ∎ ∎ (jh rfl<|cP ∎ (gh ∎ ∎ (AN ∅ (bg rfl) rfl (cP ∎ (gh ∎ ∎ (AN ∅ (bg rfl) rfl (cP ∎ (gh ∎ ∎ (AN ∅ (bg rfl) rfl (Xg<|dR ∎ ?_)))))))))))
   let I:min (min (lv t.X a)<|lv t.X b) (lv t.X c)<4:=by
    calc mY ź;rcases hx.inv.good.split f with⟨J,_⟩|⟨_,_,i,_,_,_,J,_,M,_⟩
    .show((Int.natAbs_eq_iff.mp J).elim U Lx).elim
    .show J▸M
   let D:0<=min (min (lv t.X a)<|lv t.X b) (lv t.X c):=ż (hx.inv.good.gK f) (hx.inv.good.gK o) (hx.inv.good.gK m);let u:min (min (lv t.X a)<|lv t.X b) (lv t.X c)<=lv t.X a:=ź;let T?:min (min (lv t.X a)<|lv t.X b) (lv t.X c)<=lv t.X b:=afH;let s:min (min (lv t.X a)<|lv t.X b) (lv t.X c)<=lv t.X c:=Ż;let v:4-((k:Int)+1)<=min (min (lv t.X a)<|lv t.X b) (lv t.X c):=afI C lb lc;let Ă:∀j,j<=lv t.X a->j<=lv t.X b->j<=lv t.X c->j<=min (min (lv t.X a)<|lv t.X b) (lv t.X c):=λj J M y=>ż J M y;generalize min (min (lv t.X a)<|lv t.X b) (lv t.X c)=z at I D u T? s v Ă⊢;refine hide λ_ kP=>?_;let(a3,a4,a5,a6,a7,a8):=hx.inv.good.kN f u I;let(b3,b4,b5,b6,b7,b8):=hx.inv.good.kN o T? I;let(c3,c4,c5,c6,c7,c8):=hx.inv.good.kN m s I;refine kP (xT E hx.inv.good f u<|dR ∎ (xT E hx.inv.good o T?<|dR ∎ (xT E hx.inv.good m s<|dR ∎ (ih (n:=n) (uG hk) hx (VV A H) a3 b3 c3 (Y9 v a5) (Y9 v b5) (Y9 v c5) λp t1 d hp lp dp=>dR ∎ ?_))));let G1:=d.ti.inv.good;refine ih (n:=n) (uG hk) d.ti (ç A H) (d.ext.bc a4) (d.ext.bc b4) (d.ext.bc c4) (qP (d.ext.lv a4)<|Y9 v a6) (qP (d.ext.lv b4)<|Y9 v b6) (qP (d.ext.lv c4)<|Y9 v c6) λq t2 O hq lq dq=>dR ∎ ?_;let UA:z+1<=lv t2.X p:=by calc qP (O.ext.lv hp);show lp _ (a5) (b5)<|c5
   let UB:z+1<=lv t2.X q:=lq _ (qP (d.ext.lv a4)<|a6) (qP (d.ext.lv b4)<|b6)<|qP (d.ext.lv c4)<|c6;refine JE E O.ti (Y70 A H) D I (O.ext.bc hp) hq (UA) (UB) λr t3 O3 hr lr dr=>vR ∎ ?_;let ao:=(d.trans O).trans O3;let T:=ao.ext;calc XE E (by have:=O3.ti.TF;show afJ A H this);
   let hd:∀G,den t3.X r G=if den t.X a G then den t.X b G else den t.X c G:=λG=>by rw[dr,dq,O.ext.den G1 hp,dp,d.ext.den hx.inv.good a4,d.ext.den hx.inv.good b4,d.ext.den hx.inv.good c4,a7,b7,c7,a8,b8,c8];rw[yR hx.inv.good f G z,yR hx.inv.good o G z,yR hx.inv.good m G z];cases Wj:G z<;>rfl
   let T4:TI (Fs t3 a b c r) e (aw+ic k+ic k+1+1):=O3.ti.Fs (T.bc f) (T.bc o) (T.bc m) hr (λG=>by rw[T.den hx.inv.good f,T.den hx.inv.good o,T.den hx.inv.good m];show hd G) (λj J M y=>by rw[T.lv f] at J;rw[T.lv o] at M;rw[T.lv m] at y;have:=Ă j J M y;show ë this lr)
   show h r (Fs t3 a b c r) (T4.le<|afK A,ao.ext,ao.vars,ao.e8) hr (λj J M y=>by have:=Ă j J M y;show j<=lv t3.X r;show ë this lr) hd
def sj{hB:cp w B}{n:Nat}(o:Wf V)(k:Nat)(d:k<=4)(hx:TI t e aw)(u:aw+ic k<=80000)(s:bc t.X Z0 a)(q:bc t.X Z0 b)(p:bc t.X Z0 c)(m:4-k<=lv t.X a)(i:4-k<=lv t.X b)(f:4-k<=lv t.X c)(h:∀r t',Op t e t' (aw+ic k)->bc t'.X Z0 r->(∀j,j<=lv t.X a->j<=lv t.X b->j<=lv t.X c->j<=lv t'.X r)->(∀G,den t'.X r G=if den t.X a G then den t.X b G else den t.X c G)->Q ⇑r (t'\g)):Cl ↑hB (n+9) (!349) [.ref V.x,.int a,.int b,.int c] [] (t\g) Q:=by refine alm λak=>dR ∎ ?_;rw[show n+8=(n+(4-k))+k+4 from afL d];show Uz o k d hx u s q p m i f h
end
def dep(a:SM)(u l:Int):=∃G,den a u (fm G l L)≠den a u (fm G l au)
def Bj(h:i≠j):fm (fm G i a) j b=fm (fm G j b) i a:=by
 funext x;delta fm;by_cases J:x=i<;>by_cases M:x=j<;>simp[J,M]
 .show absurd (J.symm.trans M) h
 .intro e;show absurd e h
 .intro e;show absurd e.symm h
section
variable{hv:SM}{aP:Int->Prop}(bD:Good hv aP)
include bD
def Good.Yr(a:bc hv aP u):dep hv (-u) l↔dep hv u l:=by
 delta dep
 constructor<;>rintro ⟨G,h⟩<;>refine(G,λe=>h ?_)
 .rw[bD.iP a,bD.iP a,e]
 .rw[bD.iP a,bD.iP a] at e;show Bool.not_inj e
def Good.Ek(a:bc hv aP u):dep hv (aT u:Int) l↔dep hv u l:=by
 by_cases h:0<=u
 .rw[show(aT u:Int)=u from Ž h]
 .rw[show(aT u:Int)= -u from afM h];show bD.Yr a
def Good.t8(c:bc hv aP u)(h:dep hv u l):lv hv u<=l/\l<4:=by
 let(G,h):=h;refine(iH.mp λe=>h ?_,Ad.mp λa=>h ?_)
 .rw[bD.dQ c e,bD.dQ c e]
 .refine bD.Tu c λj f d=>?_;rw[mR (VU a d),mR<|VU a d]
def Good.Pm(a:u.natAbs=1):¬dep hv u l:=by rintro ⟨G,h⟩;apply h;rw[bD.mI a,bD.mI a]
def Good.Bk(inj:∀u j n,N hv u=Y n->N hv j=Y n->¬aP u->¬aP j->u=j)(o:bc hv aP u)(J:u.natAbs≠1)(k:N hv (aT u:Int)=Y (i,Y v,Y w)):dep hv u l↔l=i\/dep hv v l\/dep hv w l:=by
 rcases bD.split o with⟨h,_⟩|⟨H,_,s,q,w',m,t,E,p,D,C,S,f,d,c⟩
 .show(J h).elim
 rw[k] at m;clear t E p D;let(rfl,rfl,rfl):i=s/\v=q/\w=w':=by simpa using m
 let hd:=λG=>bD.fC o J k G;constructor
 .intro z;let(G,h):=z;by_cases a:l=i
  .show .inl a
  .rw[hd,hd,mR<|λe=>a e.symm,mR<|λe=>a e.symm] at h;induction g:G i with|true=>rw[g] at h;show .inr (.inr (G,λe=>h<|by simp[e]))|false=>rw[g] at h;show .inr (.inl (G,λe=>h<|by simp[e]))
 .clear k m;rintro (rfl|⟨G,h⟩|⟨G,h⟩)
  .let A:¬∀G,den hv v G=den hv w G:=λy=>C (bD.canon inj 4 v w S f (by have:=bD.gK S;show ě this) (by have:=bD.gK f;show ě this) y);let(G,g):=yd.mp A;refine(G,λe=>g ?_);rw[hd,hd,pz,pz] at e;rw[bj rfl,aK aI,bD.dQ f c,bD.dQ S d] at e;show(sW.mp e).symm
  .let a:=(bD.t8 S (G,h)).1;refine(fm G i au,λe=>h ?_);rw[hd,hd,mR (show i≠l from VU a d),mR (show i≠l from VU a d),pz,aK aI,aK aI,Bj (show i≠l from VU a d),Bj (show i≠l from VU a d),bD.dQ S d,bD.dQ S d] at e;show sW.mp e
  .let a:=(bD.t8 f (G,h)).1;refine(fm G i L,λe=>h ?_);rw[hd,hd,mR (show i≠l from VU a c),mR (show i≠l from VU a c),pz,bj rfl,bj rfl,Bj (show i≠l from VU a c),Bj (show i≠l from VU a c),bD.dQ f c,bD.dQ f c] at e;show sW.mp e
end
nonrec def f5:x∈ff xs i↔x∈xs\/x=i:=by
 delta ff;split
 .rename_i h;show(λq=>.inl q,λq=>q.elim id λe=>e▸h)
 .simp
def Bl{xs:List Int}{i:Int}:(ff xs i).length<=xs.length+1:=by delta ff;split<;>simp
nonrec def pE(h:xs.Nodup):(ff xs i).Nodup:=by
 delta ff;split
 .show h
 .rename_i d;rw[eM];show(bt h (by simp)<|λa f b c=>by simp at c;subst c;intro e;subst e;show d f)
def all_levels{xs:List Int}(e:xs.Nodup)(d:∀x∈xs,0<=x/\x<4)(f:xs.length=4):∀l,0<=l->l<4->l∈xs:=by
 intro l g J;refine iX λa=>?_
 let c:∀x∈l::xs,x∈([0,1,2,3]:List Int):=by
  intro x T
  have:0<=x/\x<4:=by
   clear a;rcases aS.mp T with rfl|T
   .show(g,J)
   .show d x T
  simp;show Y44 this
 let h:(l::xs).Nodup:=dj.mpr (a,e);have:=bS h c;simp[f] at this
section
variable{V:TA}
section
def jj(d:c∉V.list)(a:g c=Y (.set l)):J5 Z (t\g) (!c) (ah "add") (.builtin "set.add"):=Eg (bz d a) qJ yB
def gU(a:c∉V.list)(d:g c=Y (.set l))(hz:l.length<=4000)(h:Q .none (t\(aB g c<|.set<|ff l i))):Cl Z n (.builtin "set.add") [.ref c,.int i] [] (t\g) Q:=
 I5 (bz a d) hz (qP (aY a) h)
def Cq(d:c∉V.list)(a:g c=Y (.set l))(hz:l.length<=4000)(h:Q ⇑l.length (t\g)):Cl Z n (.builtin "len") [.ref c] [] (t\g) Q:=M5 (bz d a) hz h
def nh(h:∀D,D∉V.list->g D=R->Q (!D) (t\(aB g D<|.set []))):Cl Z n (.type "set") [] [] (t\g) Q:=
 OP λD a=>by let(J,M):=d0 a;rw[aY J];show h D J M
def pF(h:∀D,D∉V.list->g D=R->Q (!D) (t\(aB g D<|.dict []))):Cl Z n (.type "dict") [] [] (t\g) Q:=
 KO λD a=>by let(J,M):=d0 a;rw[aY J];show h D J M
def xU(h:∀D,D∉V.list->g D=R->Q (!D) (t\(aB g D<|.dg []))):Cl Z n (.type "dict") [] [] (t\g) Q:=
 HN λD a=>by let(J,M):=d0 a;rw[aY J];show h D J M
end
end
section
variable{hx:aW}{m₀:Loc}{oT:Obj}{V:TA}
def U_(P:Prop):=P
def held(h:P):U_ P:=h
def xV(h:(m₀.all λp=> not (p.1==x))=L):∀y a,m₀.lookup y=Y a->((x,b)::m₀).lookup y=Y a:=λy a c=>by refine O7 ?_ c;have:=ct.mp h _<|yO c;simpa using this
def Q9(h:(m₀.all λp=> not (p.1==x))=L)(e:(m₀.all λp=> not (p.1==z))=L):∀y a,m₀.lookup y=Y a->((z,c)::(x,b)::m₀).lookup y=Y a:=λy a d=>by refine O7 ?_<|xV h y a d;have:=ct.mp e _<|yO d;simpa using this
def eN(h:c∉V.list):cD (t\g) c=aA V t (cD g c):=by
 funext a;by_cases e:a=c
 .subst e;rw[di,pj h,di]
 .rw[cx e];by_cases d:a∈V.list
  .show(Eh d).1
  .rw[pj d,pj d,cx e]
def qx(h:Sub g g'):Sub (t\g) (t\g'):=λa o c=>by
 by_cases d:a∈V.list
 .rw[<-(Eh (g:=g) (g':=g') d).1];show c
 .rw[pj d] at c⊢;show h a o c
structure f6(t:TS):Prop where
 lt:∀l,0<=l->l<4->∃x,N t.e8 l=Y x/\N t.vars x=Y l/\101<=x/\x<=104
 vt:∀x,101<=x->x<=104->∃l,N t.vars x=Y l/\N t.e8 l=Y x/\0<=l/\l<4
def lH(t:TS)(l:Int):=(N t.e8 l).getD 0
def eJ(t:TS)(x:Int):=(N t.vars x).getD 0
def f6.nm(h:f6 t)(d:0<=l)(a:l<4):N t.e8 l=Y (lH t l)/\N t.vars (lH t l)=Y l/\101<=lH t l/\lH t l<=104:=by
 let(x,J,M,c):=h.lt l d a
 delta lH;rw[J];show bt rfl M c
def f6.lvl(h:f6 t)(d:101<=x)(a:x<=104):N t.vars x=Y (eJ t x)/\N t.e8 (eJ t x)=Y x/\0<=eJ t x/\eJ t x<4:=by
 let(l,J,M,c):=h.vt x d a
 delta eJ;rw[J];show bt rfl M c
section
def LA(g:Z.K.lookup hx=Y oT)(f:oT.data=.seq dvs k0)(hd:fd.defaults=.ref hx)(h:∀v,∃k,fK fd ([v],[])=rX fd.defaults>>=k/\k (Y dvs)=pure [(x,v),(y,d)]):Binds Z fd [a] [] [(y,.raw d),(x,a)]:=λU s vs bJ j S e c=>by clear c;let rfl:=ig e;let(v,rfl,J):=uK S;let(k,i,e2):=h v;show aC _ (.of_defaults hd (j _ _ g) f i e2)<|.cons (.raw _)<|.cons J .nil
def LB{a:AV}(g:Z.K.lookup hx=Y oT)(f:oT.data=.seq dvs k0)(hd:fd.defaults=.ref hx)(h:∀v w,∃k,fK fd ([v,w],[])=rX fd.defaults>>=k/\k (Y dvs)=pure [(x,v),(y,w),(z,d)]):Binds Z fd [a,b] [] [(z,.raw d),(y,b),(x,a)]:=λU s vs bJ j S e c=>by clear c;let rfl:=ig e;let(v,w,rfl,J,M):=uL S;let(k,i,e2):=h v w;show aC _ (.of_defaults hd (j _ _ g) f i e2)<|.cons (.raw _)<|.cons M<|.cons J .nil
def Ra(f:Z.K.lookup hx=Y oT)(e:oT.data=.seq dvs k0)(hd:fd.defaults=.ref hx)(h:∀v w,∃k,fK fd ([v,w],[])=rX fd.defaults>>=k/\k (Y dvs)=pure [(x,v),(y,w)]):Binds Z fd [a,b] [] [(y,b),(x,a)]:=λU s vs bJ i S d c=>by clear c;let rfl:=ig d;let(v,w,rfl,J,M):=uL S;let(k,g,e2):=h v w;show aC _ (.of_defaults hd (i _ _ f) e g e2)<|.cons M<|.cons J .nil
def UC{a:AV}{x z:Str}(i:Z.K.lookup hx=Y oT)(g:oT.data=.seq dvs k0)(hd:fd.defaults=.ref hx)(h:∀v w q,∃k,fK fd ([v,w,q],[])=rX fd.defaults>>=k/\k (Y dvs)=pure [(x,v),(y,w),(z,q),(u,d)]):Binds Z fd [a,b,c] [] [(u,.raw d),(z,c),(y,b),(x,a)]:=λU s vs bJ n S f e=>by clear e;let rfl:=ig f;let(v,w,q,rfl,J,M,j):=nT S;let(k,m,e2):=h v w q;show aC _ (.of_defaults hd (n _ _ i) g m e2)<|.cons (.raw _)<|.cons j<|.cons M<|.cons J .nil
def Rb{a:AV}(g:Z.K.lookup hx=Y oT)(f:oT.data=.seq dvs k0)(hd:fd.defaults=.ref hx)(h:∀v w q,∃k,fK fd ([v,w,q],[])=rX fd.defaults>>=k/\k (Y dvs)=pure [(x,v),(y,w),(z,q)]):Binds Z fd [a,b,c] [] [(z,c),(y,b),(x,a)]:=λU s vs bJ m S e d=>by clear d;let rfl:=ig e;let(v,w,q,rfl,J,M,i):=nT S;let(k,j,e2):=h v w q;show aC _ (.of_defaults hd (m _ _ g) f j e2)<|.cons i<|.cons M<|.cons J .nil
def UD{k0:Nat}{c:AV}{x z u p:Str}(j:Z.K.lookup hx=Y oT)(i:oT.data=.seq dvs k0)(hd:fd.defaults=.ref hx)(h:∀v w q r,∃k,fK fd ([v,w,q,r],[])=rX fd.defaults>>=k/\k (Y dvs)=pure [(x,v),(y,w),(z,q),(p,r),(u,d)]):Binds Z fd [a,b,c,e] [] [(u,.raw d),(p,e),(z,c),(y,b),(x,a)]:=λU s vs bJ t S g f=>by clear f;let rfl:=ig g;let(v,w,q,r,rfl,J,M,n,m):=KC S;let(k,o,e2):=h v w q r;show aC _ (.of_defaults hd (t _ _ j) i o e2)<|.cons (.raw _)<|.cons m<|.cons n<|.cons M<|.cons J .nil
def UE{a:AV}{x p:Str}(j:Z.K.lookup hx=Y oT)(i:oT.data=.seq dvs k0)(hd:fd.defaults=.ref hx)(h:∀v w q r,∃k,fK fd ([v,w,q],[(p,r)])=rX fd.defaults>>=k/\k (Y dvs)=pure [(x,v),(y,w),(z,q),(p,r)]):Binds Z fd [a,b,c] [(p,e)] [(p,e),(z,c),(y,b),(x,a)]:=λU s vs bJ t S d g=>by
 let(v,w,q,rfl,J,M,n):=nT S
 induction bJ using bB with
 |nil=>cases d
 |cons f bJ=>
  induction bJ using bB with
  |nil=>
   let rfl:f.1=p:=by simpa using d
   cases g with
   |cons m _=>
    let(k,o,e2):=h v w q f.2;show aC _ (.of_defaults hd (t _ _ j) i o e2)<|.cons m<|.cons n<|.cons M<|.cons J .nil
  |cons _ _=>cases d
def Rc(h:∀v w q r,fK fd ([v,w,q],[(p,r)])=pure [(x,v),(y,w),(z,q),(p,r)]):Binds Z fd [a,b,c] [(p,e)] [(p,e),(z,c),(y,b),(x,a)]:=λU s vs bJ k S d f=>by
 let(v,w,q,rfl,J,M,j):=nT S
 induction bJ using bB with
 |nil=>cases d
 |cons g bJ=>
  induction bJ using bB with
  |nil=>
   let rfl:g.1=p:=by simpa using d
   cases f with|cons i _=>show(aC _ (.of_eq<|h v w q g.2)<|.cons i<|.cons j<|.cons M<|.cons J .nil)
  |cons _ _=>clear h f;cases d
end
end
abbrev uX(r:Nat):uR:=λi=>r.testBit i.toNat
abbrev b2i(b:Bool):Int:=if b=L then 1 else 0
def JF(b:Bool):0<=b2i b/\b2i b<=1:=by cases b<;>decide
def Pn(b:Bool):b2i (not b)=1-b2i b:=by cases b<;>rfl
def cnt(f:uR->Bool):=((bO 16).map λr=>b2i<|f<|uX r).sum
def Ys{f g:Nat->Bool}(h:∀r,f r= not (g r)):∀l:List Nat,(l.map λr=>b2i<|f r).sum=l.length-(l.map λr=>b2i<|g r).sum:=by
 intro c
 induction c with
 |nil=>show rfl
 |cons a l d=>
  have:=d;have:=Pn<|g a;simp only[cj,kJ,jT,h a];show ai7 this ∎
def U!(f:Nat->Bool):∀l:List Nat,0<=(l.map λr=>b2i<|f r).sum/\(l.map λr=>b2i<|f r).sum<=l.length:=by
 intro c
 induction c with
 |nil=>show(dm 0,dm 0)
 |cons a l d=>
  let h:=d;have:=JF<|f a;simp only[cj,kJ,jT];show Ο this h
def LF{l:List Int}(h:l.Perm a):l.sum=a.sum:=by
 induction h with|nil=>rfl|cons x _ c=>rw[kJ,c,kJ]|swap x y l=>simp only[kJ];show afV|trans _ _ i1 i2=>show i1.trans i2
def sum_add{f:Nat->Int}:∀l:List Nat,(l.map λr=>f r+g r).sum=(l.map f).sum+(l.map g).sum:=by
 intro c
 induction c with
 |nil=>show rfl
 |cons a l d=>
  simp only[cj,kJ,d];show ai8
def Yt(h:∀G,f G= not (g G)):cnt f=16-cnt g:=Ys (λr=>h<|uX r)<|bO 16
def zX(f:uR->Bool):0<=cnt f/\cnt f<=16:=U! (λr=>f<|uX r)<|bO 16
def In4(f:uR->Bool):=∀G a:uR,(∀j,0<=j->j<4->G j=a j)->f G=f a
def j4{P:Int->Prop}(d:P 0)(J:P 1)(M:P 2)(c:P 3):∀j,0<=j->j<4->P j:=λj a b=>by rcases(show j=0\/j=1\/j=2\/j=3 from Y72 a b) with rfl|rfl|rfl|rfl<;>assumption
def Yu:∀r:Fin 16,∀k j:Fin 4,(r.val^^^2^k.val).testBit j.val=if j=k then not (r.val.testBit k.val) else r.val.testBit j.val:=∅
def aag:∀k:Fin 4,((bO 16).map λr=>r^^^2^k.val).isPerm (bO 16)=L:=∅
def f4{P:Fin 4->Prop}(c:P 0)(J:P 1)(M:P 2)(a:P 3)(k:Fin 4):P k:=by
 let(v,h):=k;rcases v with _|_|_|_|v
 .show c
 .show J
 .show M
 .show a
 .show(jy.mpr (Nat.le_add_left 4 v) h).elim
def aah(a:r<16)(k:Fin 4):∀j,0<=j->j<4->uX (r^^^2^k.val) j=fm (uX r) (k.val:Int) (not (uX r (k.val:Int))) j:=
 j4 (Yu (r,a) k 0|>.trans (by revert k;show f4 rfl rfl rfl rfl)) (Yu (r,a) k 1|>.trans (by revert k;show f4 rfl rfl rfl rfl)) (Yu (r,a) k 2|>.trans (by revert k;show f4 rfl rfl rfl rfl)) (Yu (r,a) k 3|>.trans (by revert k;show f4 rfl rfl rfl rfl))
def aai(c:0<=i)(a:i<4):∃k:Fin 4,i=(k.val:Int):=((i.toNat,by show Y87 a),(rn c).symm)
def UG{f:uR->Bool}(c:In4 v)(a:In4 w)(h:0<=i)(g:i<4)(S:∀G b,v (fm G i b)=v G)(m:∀G b,w (fm G i b)=w G)(e:∀G,f G=if G i then w G else v G):2*cnt f=cnt v+cnt w:=by
 let(k,rfl):=aai h g
 let o:((bO 16).map λr=>b2i<|f<|uX<|r^^^2^k.val).sum=cnt f:=by rw[cnt,<-LF ((wR.mp<|aag k).map λr=>b2i<|f<|uX r),fH];rfl
 let e2:∀r∈bO 16,b2i (f<|uX r)+b2i (f<|uX<|r^^^2^k.val)=b2i (v<|uX r)+b2i (w<|uX r):=λr n=>by
  let d:=aah (dS.mp n) k;rw[e,e<|uX<|r^^^_,c _ _ d,a _ _ d,S,m,d _ h g,pz];cases uX r k.val
  .rfl
  .show Int.add_comm _ _
 let j:=congrArg List.sum<|cJ e2;rw[sum_add,sum_add,o] at j;show(Int.two_mul _).trans j
def Good.in4(bD:Good a d)(c:bc a d u):In4 (den a u):=λG e h=>bD.Tu c h
def Good.aaj(bD:Good a c):cnt (den a 1)=16:=by delta cnt;simp only[bD.K9];rfl
def Good.Z1(bD:Good a c):cnt (den a<|-1)=0:=by delta cnt;simp only[bD.Fo];rfl
def p2(a b:Nat):(2:Int)^(a+b)=2^a*2^b:=by
 induction b with|zero=>simp|succ b c=>rw[<-zy,BR,c,BR,qe]
def UH{nv:Int}(S:nv*2^mv=j)(f:d*2^a=i)(J:m<mv)(M:m<a)(h:2*c=j+i):(nv*2^(mv-m-1)+d*2^(a-m-1))*2^m=c:=by
 let e:∀(x:Int) (k:Nat),m<k->2*(x*2^(k-m-1)*2^m)=x*2^k:=λx k g=>by
  have:(2:Int)^k=2^(k-m-1)*2^m*2:=by rw[<-p2,<-BR];show congrArg _<|ajq g
  rw[this,JW 2,qe,qe,qe]
 let b:=e d a M;rw[Int.add_mul];show afN (e nv mv J) b h S f
def Pp(h:k*2^m=c)(a:m<=4):((2:Int)^(4-m)-k)*2^m=16-c:=by rw[Int.sub_mul,h,<-p2,show 4-m+m=4 from afO a];rfl
def NK{k:Int}(h:k*2^m=c)(f:0<=c)(e:c<=16):0<=k/\k<=16:=by
 let a:(1:Int)<=2^m:=by
  have:=Nat.one_le_two_pow (n:=m)
  exact_mod_cast this
 constructor
 .refine iH.mp λd=>?_;have:k*2^m<=(-1)*2^m:=pR (afP d)<|Į a;show afQ h this f a
 .refine iH.mp λd=>?_;have:17*2^m<=k*2^m:=pR (afR d)<|Į a;show afS this h e a
def alq:jz (KF w) (!493) (ah "_assert_int")=Y (Y !422):=⋯
def alr:wx (KF w) (!422)=Y (.type "staticmethod"):=⋯
def als:specialIn (KF w) (!422) "__get__"=Y (Y<|.builtin "staticmethod.__get__"):=⋯
def alu:takesIn (KF w) (!422)=Y au:=⋯
def alv:hasDictIn (KF w) 493=L:=⋯
def alw:∃a,recIn (KF w) 422 "staticmethod"=Y (.ref 420::a):=(_,rfl)
def alx{V:TA}:(jD V t).lookup (ah "_assert_int")=R:=⋯
def aly:copiedNames.contains (ah "_assert_int")=au:=by lk
def alz:kK (KF w) (!420)=L:=⋯
section
variable{p:Prop}{V:TA}
section
def tG(h:Q (.bool<|[a,b,c].any λy=>decide (y=x)) O):pb Z n .In (.str x) (.tup [.str a,.str b,.str c]) O Q:=FI (ss:=[a,b,c]) h
def qy(h:Q (.bool<|[a,b,c,d].any λy=>decide (y=x)) O):pb Z n .In (.str x) (.tup [.str a,.str b,.str c,.str d]) O Q:=FI (ss:=[a,b,c,d]) h
def Cl.hide(h:Cl Z n f as u O λa i=>∃d o g,i d=Y (.raw o)/\Known Z g o/\Q a (aB i d g)):Cl Z n f as u O Q:=λU s A vs bJ C H J M D=>
 aG (h U s A vs bJ C H J M D) (λv I E=>by let(G,a,i,g',j,S,d,o,g,hd,z,y):=E;exact
  let c:=Cb hd z
  (G,a,aB i d g,(g'.bC,λb ob t q m=>by let(r1,r2,k):=g'.keep b ob t q m;show bt r1 r2<|(c.1 b).mp k,g'.os),c.2 _ _ j,S,y)) λ_ _ e=>e
end
section
def NL(d:c∉V.list)(i:g c=Y (.dict bJ))(m:Fv (.dict bJ)=L)(h:∀o I a,Known Z (.dict bJ) o->I∉V.list->I≠c->g I=R->OY o a c 0->Q (!I) (t\(aB (aB g c<|.raw o) I<|.raw a))):Cl Z n (.builtin "iter") [.ref c] [] (t\g) Q:=
 Cl.bare (bz d i) m λo f=>by
  rw[aY d];refine Jo (bz d ar) f λI a q k=>?_;clear d i;let(J,M):=d0 q;let j:I≠c:=λe=>by subst e;show cA M ar
  rw[aY J];show h o I a f J j (by rwa [aq j] at M) k
def NM{n:Nat}{g:bf}{c:aW}{a:AV}(d:c∉V.list)(m:I∉V.list)(f:I≠c)(v:g I=R)(j:Known Z (.dict bJ) o)(q:OY o i c 0)(u:bJ[0]?=Y (k,a))(s:g c=Y (.dict bJ))(h:Q (EW k) (t\g)):Cl Z n (.builtin "next") [.ref I] [] (t\(aB (aB g c<|.raw o) I<|.raw i)) Q:=by
 refine Cl.hide<|Jp (bz d<|pS (aq<|aE f) ar) j (bz m ar) q u<|xg c o (.dict bJ) ?_ j ?_
 .show pS (cx<|aE f)<|bz d<|pS (aq<|aE f) ar
 .rw[eN m,aY d];have:aB (cD (aB (aB g c<|.raw o) I<|.raw i) I) c (.dict bJ)=g:=by
   funext b;by_cases e:b=c
   .subst e;rw[ar,s]
   .refine pS (aq e) ?_;by_cases e2:b=I
    .subst e2;rw[di,v]
    .rw[cx e2,aq e2,aq e]
  rw[this];show h
def NN(d:c∉V.list)(i:g c=Y (.set xs))(h:∀o I a,Known Z (.set xs) o->I∉V.list->I≠c->g I=R->OZ Z.w o a c->Q (!I) (t\(aB (aB g c<|.raw o) I<|.raw a))):Cl Z n (.builtin "iter") [.ref c] [] (t\g) Q:=
 Cl.bare (bz d i) rfl λo f=>by
  rw[aY d];refine Ld (bz d ar) f λI a m k=>?_;clear d i;let(J,M):=d0 m;let j:I≠c:=λe=>by subst e;show cA M ar
  rw[aY J];show h o I a f J j (by rwa [aq j] at M) k
def NO{g:bf}{c:aW}(a:c∉V.list)(j:I∉V.list)(d:I≠c)(s:g I=R)(i:Known Z (.set xs) o)(k:OZ Z.w o f c)(q:xs≠[])(m:g c=Y (.set xs))(h:∀x∈xs,Q ⇑x (t\g)):Cl Z n (.builtin "next") [.ref I] [] (t\(aB (aB g c<|.raw o) I<|.raw f)) Q:=by
 refine Cl.hide (Le (bz a<|by rw[aq (aE d)];show ar) i (bz j ar) k q λx T=>(xg c o (.set xs) ?_ i ?_))
 .rw[cx (aE d)];show bz a (by rw[aq (aE d)];show ar)
 .rw[eN j,aY a];have:aB (cD (aB (aB g c<|.raw o) I<|.raw f) I) c (.set xs)=g:=by
   funext b;by_cases e:b=c
   .subst e;rw[ar,m]
   .rw[aq e];by_cases e2:b=I
    .subst e2;rw[di,s]
    .rw[cx e2,aq e2,aq e]
  rw[this];show h x T
def Hh(d:c∉V.list)(a:g c=Y (.dict bJ))(hz:bJ.length<=1000000)(h:∀D,D∉V.list->g D=R->Q (!D) (t\(aB g D<|.dict bJ))):Cl Z n (.type "dict") [.ref c] [] (t\g) Q:=
 Lf (bz d a) hz λD e=>by let(J,M):=d0 e;rw[aY J];show h D J M
def Bn(d:c∉V.list)(a:g c=Y (.set xs))(hz:xs.length<=4)(h:∀D,D∉V.list->g D=R->Q (!D) (t\(aB g D<|.set xs))):Cl Z n (.type "set") [.ref c] [] (t\g) Q:=
 Nm (bz d a) hz λD e=>by let(J,M):=d0 e;rw[aY J];show h D J M
def uY(d:c∉V.list)(a:g c=Y (.dict bJ)):J5 Z (t\g) (!c) (ah "items") (.builtin "dict.items"):=lA (bz d a) gY jY
end
end
def iV(F:Nat->Int):=(bO 16).map F
@[ext]abbrev Bo(F:Nat->Int):AV:=.lst<|(iV F).map AV.int
def F1(F:Nat->Int):(iV F).length=16:=by simp[iV]
def LG(F:Nat->Int)(h:k<16):(iV F)[k]?=Y (F k):=by simp[iV,h]
def n8{bD:Nat->Int}:iV F=iV bD↔∀k,k<16->F k=bD k:=by
 delta iV
 constructor
 .intro h k a;have:=congrArg (λl:List Int=>l[k]?) h;simpa [a] using this
 .intro h;refine cJ λk a=>h k<|dS.mp a
def kq(r:Nat)(x:Int):=decide (((r:Int).fdiv (2^(x-101).toNat)).fmod 2=1)
abbrev eX(t:TS)(r:Nat):uR:=λi=>kq r<|lH t i
def bK(t:TS)(u:Int)(r:Nat):=b2i<|den t.X u<|eX t r
section
def Pq(a:0<=i)(J:i<16)(h:Q ⇑(F i.toNat) O):Ed Z n (Bo F) ⇑i O Q:=
 IU a (afT J) (by rw[bb,LG F<|afU J];rfl) h
def Ih{n:Nat}{E:Env}{w:cC}{hB:cp w B}{V:TA}{x:Str}{p:Pos}{j:Expr}{m₀:Loc}{ae:AV->bf->Prop}(T:∀C,eF (dY c cl C E) x=L)(v:(m₀.all λp=> not (p.1==x))=L)(h:∀k:Nat,k<16->∀C g',Ev ↑hB n (dY c cl C E) j (t\g') ((x,.int k)::m₀) λb q=>b=.int (F k)/\q=t\g')(m:ae (Bo F) (t\g)):wJ ↑hB n E (.Name x p) c cl m₀ (.list []) (FA ↑hB n j) (λD f=>∃l,f D=Y (.list l)/\ae (.lst l) (cD f D)) (t\g) (l6 0 16) R:=by
 intro D C s;let o:=s.none;clear s;let(d,u):=d0 o;calc dc (λk f=>f=t\(aB g D<|.list<|((bO k).map F).map AV.int)/\k<=16) (?_,∅) ?_;
 .show aB (t\g) D _=_;rw[aY d];rfl
 .rintro k a z i ⟨rfl,A⟩;let fM:k<16:=by have:=(aL.mp i).1;simpa [l6] using this
  let rfl:AV.int k=a:=by rw[l6,bb,jI fM] at i;simpa using i
  refine vO (T C) (xV v,?_);refine(h k fM C _).mono λb q y=>?_;let(rfl,rfl):=y;refine(kU _ (bz d ar) (by simp;show į A) ?_<|fM);rw[aY d,bQ,hH];simp
 .clear o;rintro z ⟨rfl,_⟩;calc aC _ (bz d ar);show ae _ (cD (t\_) D)
  let e:cD (aB g D<|.list<|((bO 16).map F).map AV.int) D=g:=by
   funext b;by_cases e:b=D
   .clear V t h m d;subst e;rw[di,u]
   .rw[cx e,aq e]
  rw[eN d];let e2:(l6 0 16).length=16:=by simp[l6]
  rw[e2,e];show m
end
def bn(b:Bool):=if b=L then 1 else 0
def UJ:∀d c a b3:Bool,bn d+2*bn c+4*bn a+8*bn b3<16/\kq (bn d+2*bn c+4*bn a+8*bn b3) 101=d/\kq (bn d+2*bn c+4*bn a+8*bn b3) 102=c/\kq (bn d+2*bn c+4*bn a+8*bn b3) 103=a/\kq (bn d+2*bn c+4*bn a+8*bn b3) 104=b3:=∅
def Z2{x:Int}(a:101<=x)(J:x<=104):x=101\/x=102\/x=103\/x=104:=Y73 a J
def f6.Pr(h:f6 t)(c:0<=l)(a:l<4):eJ t (lH t l)=l:=by
 have:=(h.nm c a).2.1
 delta eJ;rw[this];rfl
def f6.UK(h:f6 t)(c:101<=x)(a:x<=104):lH t (eJ t x)=x:=by
 have:=(h.lvl c a).2.1
 delta lH;rw[this];rfl
def LH(a:f6 t)(G:uR):∃r,r<16/\∀j,0<=j->j<4->eX t r j=G j:=by
 let B:=UJ (G (eJ t 101)) (G (eJ t 102)) (G (eJ t 103))<|G (eJ t 104);refine aC _ B.1 (λj d c=>?_);let(i,h,g,f):=a.nm d c;let e:=a.Pr d c
 delta eX
 rcases Z2 g f with q|q|q|q<;>rw[q] at e⊢<;>rw[<-e]
 .show B.2.1
 .show B.2.2.1
 .show B.2.2.2.1
 .show B.2.2.2.2
def Pt(h:b2i a=b2i b):a=b:=by cases a<;>cases b<;>first|rfl|cases h
section
def NP(I:Inv t Z0 e)(g:f6 t)(c:bc t.X Z0 u)(i:In4 f)(h:∀r,r<16->bK t u r=b2i (f<|eX t r)):∀G,den t.X u G=f G:=λG=>by let(r,d,a):=LH g G;rw[<-I.good.in4 c _ _ a,<-i _ _ a];show Pt<|h r d
def Pu(I:Inv t Z0 e)(d:f6 t)(a:bc t.X Z0 u)(S:bc t.X Z0 v):u=v↔iV (bK t u)=iV (bK t v):=by
 constructor
 .clear S;rintro rfl;rfl
 .intro h;show I.canon a S (NP I d a (I.good.in4 S) λr c=>n8.mp h r c)
def UL(I:Inv t Z0 e)(c:f6 t)(a:bc t.X Z0 u)(S:bc t.X Z0 v):u= -v↔iV (bK t u)=iV (λr=>1-bK t v r):=by
 let d:bc t.X Z0 (-v):=by unfold bc at S⊢;rw[eU];show S
 let key:∀r,bK t (-v) r=1-bK t v r:=λr=>by delta bK;rw[I.good.iP S,Pn]
 rw[Pu I c a d,show bK t (-v)=λr=>1-bK t v r from funext key]
end
def cdx(c a1 a2 a:Int)(r:Nat):=bn (kq r c)+2*bn (kq r a1)+4*bn (kq r a2)+8*bn (kq r a)
abbrev UM:List (Int×Int×Int×Int):=[(101,102,103,104),(101,102,104,103),(101,103,102,104),(101,103,104,102),(101,104,102,103),(101,104,103,102),(102,101,103,104),(102,101,104,103),(102,103,101,104),(102,103,104,101),(102,104,101,103),(102,104,103,101),(103,101,102,104),(103,101,104,102),(103,102,101,104),(103,102,104,101),(103,104,101,102),(103,104,102,101),(104,101,102,103),(104,101,103,102),(104,102,101,103),(104,102,103,101),(104,103,101,102),(104,103,102,101)]
def UN:(UM.all λp=>((bO 16).map (cdx p.1 p.2.1 p.2.2.1 p.2.2.2)).isPerm (bO 16))=L:=⋯
def Rd:∀i j k l:Fin 4,i≠j->i≠k->i≠l->j≠k->j≠l->k≠l->((101+(i.val:Int),101+(j.val:Int),101+(k.val:Int),101+(l.val:Int)):Int×Int×Int×Int)∈UM:=by lk
def JH(h:101<=a/\a<=104):∃k:Fin 4,a=101+(k.val:Int):=by let(k,c):=aai (i:=a-101) (ai9 h)<|aja h;show(k,by show ajb c)
def Rf(h:101<=a/\a<=104)(g:101<=b/\b<=104)(f:101<=c/\c<=104)(hd:101<=d/\d<=104)(J:a≠b)(M:a≠c)(p:a≠d)(o:b≠c)(n:b≠d)(m:c≠d):(a,b,c,d)∈UM:=by let(i,rfl):=JH h;let(j,rfl):=JH g;let(k,rfl):=JH f;let(l,rfl):=JH hd;show Rd i j k l (λe=>J<|e▸rfl) (λe=>M<|e▸rfl) (λe=>p<|e▸rfl) (λe=>o<|e▸rfl) (λe=>n<|e▸rfl) (λe=>m<|e▸rfl)
def UO:∀d c a b3:Bool,uX (bn d+2*bn c+4*bn a+8*bn b3) 0=d/\uX (bn d+2*bn c+4*bn a+8*bn b3) 1=c/\uX (bn d+2*bn c+4*bn a+8*bn b3) 2=a/\uX (bn d+2*bn c+4*bn a+8*bn b3) 3=b3:=∅
def Yw(I:Inv t Z0 e)(a:f6 t)(h:bc t.X Z0 u):(iV<|bK t u).sum=cnt (den t.X u):=by
 refine hide λ_ g=>?_;let(a1,a2,v):=a.nm (l:=0) ∅ ∅;let(D,f,s):=a.nm (l:=1) ∅ ∅;let(C,d,p):=a.nm (l:=2) ∅ ∅;let(A,c,o):=a.nm (l:=3) ∅ ∅;let ne:∀{x y:Int} {i j:Int},N t.vars x=Y i->N t.vars y=Y j->i≠j->x≠y:=λJ M n q=>by subst q;rw[J] at M;show n<|ax M
 let m:=Rf v s p o (ne a2 f ∅) (ne a2 d ∅) (ne a2 c ∅) (ne f d ∅) (ne f c ∅)<|ne d c ∅;calc g;rw[cnt,<-LF ((wR.mp<|ct.mp UN _ m).map λk=>b2i<|den t.X u<|uX k),fH]
 delta iV
 congr 1
 refine cJ λr z=>?_;show b2i (den t.X u<|eX t r)=b2i (den t.X u<|uX<|cdx _ _ _ _ r)
 congr 1
 calc I.good.in4 h _ _;let B:=UO (kq r<|lH t 0) (kq r<|lH t 1) (kq r<|lH t 2)<|kq r<|lH t 3;show j4 B.1.symm B.2.1.symm B.2.2.1.symm B.2.2.2.symm
def rk(r:Nat)(x:Int):=r^^^2^(x-101).toNat
def UP:∀r:Fin 16,∀x y:Fin 4,rk r (101+(x:Nat))<16/\kq (rk r<|101+(x:Nat)) (101+(y:Nat))=(if x=y then not (kq r<|101+(y:Nat)) else kq r (101+(y:Nat))):=∅
def yS(d:r<16)(c:101<=x)(J:x<=104)(M:101<=y)(a:y<=104):rk r x<16/\kq (rk r x) y=(if x=y then not (kq r y) else kq r y):=by
 have:=UP (r,d) ((x-101).toNat,Zr J) ((y-101).toNat,Zr a);simp only[show(101:Int)+((x-101).toNat:Int)=x from Zu c,show(101:Int)+((y-101).toNat:Int)=y from Zu M,JZ] at this;by_cases q:x=y
 .clear M a;subst q;simpa using this
 .rw[aK (İ q c M)] at this;rw[aK q];show this
def F3(a:f6 t)(m:r<16)(c:101<=x)(J:x<=104):∀j,0<=j->j<4->eX t (rk r x) j=fm (eX t r) (eJ t x) (not (eX t r<|eJ t x)) j:=λj f d=>by
 let(k,i,h,g):=a.nm f d;let n:=a.lvl c J
 delta eX
 rw[(yS m c J h g).2];by_cases q:j=eJ t x
 .clear f d k i h g;subst q;rw[bj (a.UK c J).symm,pz]
 .rw[mR q,aK];intro e;show q (by rw[e];show(a.Pr f d).symm)
def Bp:fm G i (G i)=G:=by funext j;delta fm;by_cases h:j=i<;>simp[h]
def LJ(I:Inv t Z0 e)(g:f6 t)(i:bc t.X Z0 u)(k:101<=x)(J:x<=104):dep t.X u (eJ t x)↔iV (λr=>bK t u<|rk r x)≠iV (bK t u):=by
 let bD:=I.good;let v:=g.lvl k J;constructor
 .intro s he;let(G,h):=s;rw[n8] at he;let(r,f,o):=LH g G;let d:=Pt<|he r f;rw[bD.in4 i _ _ (F3 g f k J)] at d;let m:∀b,den t.X u (fm G (eJ t x) b)=den t.X u (fm (eX t r) (eJ t x) b):=λb=>bD.in4 i _ _ λj a c=>by
   delta fm;by_cases q:j=eJ t x
   .simp[q]
   .simp[q,o j a c]
  rw[m,m] at h;rw[show den t.X u (eX t r)=den t.X u (fm (eX t r) (eJ t x)<|eX t r<|eJ t x) by rw[Bp]] at d;cases p:eX t r (eJ t x)<;>rw[p] at d
  .show h d
  .show h d.symm
 .intro he;refine iX λhd=>he ?_;rw[n8];intro r f;let n:∀G,den t.X u (fm G (eJ t x) L)=den t.X u (fm G (eJ t x) au):=λG=>iX λq=>hd (G,q);show b2i _=b2i _;rw[bD.in4 i _ _ (F3 g f k J)]
  congr 1
  rw[show den t.X u (eX t r)=den t.X u (fm (eX t r) (eJ t x)<|eX t r<|eJ t x) by rw[Bp]];cases eX t r (eJ t x)
  .show n _
  .show(n _).symm
def UR:∀{l l':List Int},l.Pairwise (· <=·)->l.Nodup->l'.Pairwise (· <=·)->l'.Nodup->(∀x,x∈l↔x∈l')->l=l':=by intro l l' J d M c e;show List.Perm.eq_of_pairwise (le:=(· <=·)) (λa b _ _ h f=>D0 h f) J M<|(List.perm_ext_iff_of_nodup d c).mpr e
def US(F:Nat->Int):=[101,102,103,104].filter λx=> not (decide (iV (λr=>F<|rk r x)=iV F))
def UT(I:Inv t Z0 e)(a:f6 t)(c:bc t.X Z0 u)(T:∀x,x∈xs↔∃l,dep t.X u l/\x=lH t l)(o:xs.Nodup)(k:l.Perm xs)(s:l.Pairwise (· <=·)):l=US (bK t u):=by
 refine UR s (k.nodup_iff.mpr o) ?_ ?_ λx=>?_
 .show yC _ ∅
 .show yC _ (show List.Nodup [101,102,103,104] by decide)
 .rw[k.mem_iff,T];delta US;rw[mO];rw[fE,decide_eq_false_iff_not];constructor
  .intro g;let(j,hd,rfl):=g;let d:=I.good.t8 c hd;let n:=I.good.gK c;let(y,v,i,h):=a.nm (l:=j) (ġ d n)<|ì d;refine(by rcases Z2 i h with q|q|q|q<;>rw[q]<;>decide,(LJ I a c i h).mp ?_);rw[a.Pr (ġ d n) (ì d)];show hd
  .intro g;let(m,p):=g;let f:101<=x/\x<=104:=by simp at m;show afW m
   show aC _ ((LJ I a c f.1 f.2).mpr p)<|(a.UK f.1 f.2).symm
section
variable{m:Loc}{p pos:Pos}{V:TA}
section
def Px(h:Q (.bool<|not (a==b)) O):pb Z n .NotEq (.bool a) (.bool b) O Q:=λU s A u v _ H c S=>by let rfl:=c.bU;let rfl:=S.bU;show Iu (J0 a b)<|dh.now H (.raw _) h
end
section
variable{t:TS}{x:Str}{F:Nat->Int}
def V_{n:Nat}{E:Env}{w:cC}{hB:cp w B}{f:Expr}(F:Nat->Int)(C:kO E iter a cl m m₀)(T:∀C,eF (dY a cl C E) x=L)(i:(m₀.all λp=> not (p.1==x))=L)(j:∀K:AV->bf->Prop,(∀e d c,K (.obj<|qq 0 16 e d c)<|t\g)->Ev ↑hB n E iter (t\g) m K)(h:∀k:Nat,k<16->∀C g',Ev ↑hB n (dY a cl C E) f (t\g') ((x,.int k)::m₀) λb q=>b=.int (F k)/\q=t\g')(o:Q (Bo F) (t\g)):Ev ↑hB n E (.ListComp f [(.Name x p,iter,[],0)] a pos) (t\g) m Q:=
 C8 C (j _ λe d c=>rR ∅ (Ih (ae:=Q) T i h o))
def V!{n:Nat}{E:Env}{w:cC}{hB:cp w B}{f:Expr}{d:Pos}{Q:Fl->bf->Loc->Prop}(F:Nat->Int)(D:kI (.ListComp f [(.Name x p,iter,[],0)] c pos) (Y<|.Name y d) G.line E=pure L)(C:kO E iter c cl m m₀)(T:∀C,eF (dY c cl C E) x=L)(s:(m₀.all λp=> not (p.1==x))=L)(u:∀K:AV->bf->Prop,(∀q o j,K (.obj<|qq 0 16 q o j)<|t\g)->Ev ↑hB n E iter (t\g) m K)(h:∀k:Nat,k<16->∀C g',Ev ↑hB n (dY c cl C E) f (t\g') ((x,.int k)::m₀) λb z=>b=.int (F k)/\z=t\g')(v:As ↑hB n E (.Name y d) (Bo F) (t\g) m λi e=>Q .next i e):xo ↑hB n E (.Assign [.Name y d] (.ListComp f [(.Name x p,iter,[],0)] c pos) G) (t\g) m Q:=
 FF D C (u _ λq o j=>rR ∅ (Ih (ae:=λa A=>As ↑hB n E (.Name y d) a A m λi e=>Q .next i e) T s h v))
end
section
variable{t:TS}{x:Str}{F:Nat->Int}
def UU{n:Nat}{hB:cp w B}{g:bf}{c:sq}{m₀:Loc}{hS:Nat->Int}{ae:AV->bf->Prop}(T:∀C,eF (dY c cl C E) x=L)(v:(m₀.all λp=> not (p.1==x))=L)(h:∀k:Nat,k<16->∀C g',Ev ↑hB n (dY c cl C E) u (t\g') ((x,.int<|hS k)::m₀) λb o=>b=.int (F k)/\o=t\g')(z:ae (Bo F) (t\g)):wJ ↑hB n E (.Name x p) c cl m₀ (.list []) (FA ↑hB n u) (λD f=>∃l,f D=Y (.list l)/\ae (.lst l) (cD f D)) (t\g) ((iV hS).map AV.int) R:=by
 intro D C q;let j:=q.none;clear q;let(d,s):=d0 j;calc dc (λk f=>f=t\(aB g D<|.list<|((bO k).map F).map AV.int)/\k<=16) (?_,∅) ?_;
 .show aB (t\g) D _=_;rw[aY d];rfl
 .rintro k a A i ⟨rfl,G⟩;let fM:k<16:=by have:=(aL.mp i).1;simpa [F1] using this
  let rfl:AV.int (hS k)=a:=by rw[bb,LG hS fM] at i;simpa using i
  refine vO (T C) (xV v,?_);refine(h k fM C _).mono λb o y=>?_;let(rfl,rfl):=y;refine(kU _ (bz d ar) (by simp;show į G) ?_<|fM);rw[aY d,bQ,hH];simp
 .clear j;rintro A ⟨rfl,_⟩;calc aC _ (bz d ar);show ae _ (cD (t\_) D)
  let e:cD (aB g D<|.list<|((bO 16).map F).map AV.int) D=g:=by
   funext b;by_cases e:b=D
   .subst e;rw[di,s]
   .rw[cx e,aq e]
  calc qP (eN d);let e2:((iV hS).map AV.int).length=16:=by simp[F1]
  rw[e2,e];show z
def Yx{n:Nat}{E:Env}{w:cC}{hB:cp w B}{c:Expr}(F:Nat->Int)(C:kO E iter a cl m m₀)(T:∀C,eF (dY a cl C E) x=L)(d:(m₀.all λp=> not (p.1==x))=L)(e:∀K:AV->bf->Prop,K (Bo hS) (t\g)->Ev ↑hB n E iter (t\g) m K)(h:∀k:Nat,k<16->∀C g',Ev ↑hB n (dY a cl C E) c (t\g') ((x,.int<|hS k)::m₀) λb i=>b=.int (F k)/\i=t\g')(f:Q (Bo F) (t\g)):Ev ↑hB n E (.ListComp c [(.Name x p,iter,[],0)] a pos) (t\g) m Q:=
 C8 C (e _<|AQ<|UU (ae:=Q) T d h f)
end
def UW:∀r:Fin 16,∀x:Fin 4,ox ((r:Nat):Int) (2^(x:Nat))=((rk r (101+(x:Nat)):Nat):Int):=∅
def Cr{r:Nat}(a:r<16)(c:101<=x)(J:x<=104):ox (r:Int) (2^(x-101).toNat)=((rk r x:Nat):Int):=by have:=UW (r,a) ((x-101).toNat,Zr J);simpa only[show(101:Int)+((x-101).toNat:Int)=x from Zu c] using this
abbrev pairOf(t:TS)(u:Int):AV:=.tup [.int u,Bo<|bK t u]
def f7(t:TS)(ak:List Int):=ak.map<|pairOf t
def Cs{k:Nat}(h:(f7 t ak)[k]?=Y a):∃u,ak[k]?=Y u/\a=pairOf t u:=by
 delta f7 at h;rw[bb] at h
 induction e:ak[k]? with|none=>rw[e] at h;cases h|some i=>rw[e] at h;show(aC i rfl<|by simpa using h.symm)
def Dl(F:Nat->Int)(x:Int):=not (decide (iV (λr=>F<|rk r x)=iV F))
def xW(F:Nat->Int)(k:Nat):=([101,102,103,104].take k).filter (Dl F)
def Yy(F:Nat->Int):xW F 4=US F:=rfl
def LK(F:Nat->Int)(h:k<4):xW F (k+1)=if Dl F (101+k)=L then xW F k++[101+(k:Int)] else xW F k:=by
 let e:([101,102,103,104]:List Int)[k]?=Y (101+(k:Int)):=by rcases(show k=0\/k=1\/k=2\/k=3 from ı h) with rfl|rfl|rfl|rfl<;>rfl
 show Mi (Dl F) (List.take (k+1) [101,102,103,104])=_;rw[List.take_succ,e,List.filter_append];show _++Mi (Dl F) [101+(k:Int)]=_;by_cases a:Dl F (101+k)=L
 .rw[bj a,List.filter_cons_of_pos a];rfl
 .rw[aK a,List.filter_cons_of_neg a];show wQ _
def NQ(F:Nat->Int)(k:Nat):(xW F k).length<=4:=by
 delta xW
 have:=gb (Dl F)<|[101,102,103,104].take k;let M:([101,102,103,104].take k:List Int).length<=4:=by rw[CT];simp;show Ÿ
 show R3 this M
end
section
variable{K ae:AV->bf->Prop}
set_option backward.match.sparseCases false
@[ext]abbrev Hi(Z:Bs)(n:Nat)(f:aW)(fd:qH)(nm:List Str)(Q:AV->bf->Prop)(ak:aW):CI:=((Z,n,mA fd ak f,nm),λa c _=>Q (m7 a) c)
def Ct{n:Nat}{f:aW}{od:Option aW}{body:List fz}{a:List (Str×AV)}{nm:List Str}{m:Lm}{ir:aW->List Ix}(i:Z.K.lookup f=Y (oc,od,.func fd,osl))(d:CB Z.K fd.code fd.qualname=L)(e:fd.body=.stmts body)(g:IM fd=L)(p:Binds Z fd args a m₀)(j:EP fd m₀=L)(q:((jb 0 fd.scope.names []).all λx=>fd.scope.names.lookup x.1==Y .cell)=L)(k:nm.map (λx=>m₀.lookup x)=m)(o:∀ak,FQ (FR (Z,n,mA fd ak f,nm) 30) body []=ir ak)(h:∀ak,bH 5000 Z (Hi Z n f fd nm Q ak) (ir ak) [] [] m O):Cl Z (n+1) (!f) args a O Q:=
 KA i d e g p j q λak=>by refine(wK (C:=Hi Z n f fd nm Q ak) (ss:=body) (r:=[]) (rs:=[]) (st:=[]) (O:=O) (zu 30) (uW k)<|by rw[show FQ (FR (Hi Z n f fd nm Q ak).c 30) body []=ir ak from o ak];show(5000,h ak)).mono λu v t h=>h.elim λs h=>?_;show rE h.2
def rm(e:Expr):=xE e
def LM(e:Expr):=xF e
def fs(e:Expr):=xS e
def Py(e:Expr):=xP e
def UX(e:Expr):=(xG e).headD (e,e,[],0)
def F4(e:Expr):=(UX e).target
def ju(e:Expr):=(UX e).iter
def V?(e:Expr):=(UX e).ifs.headD (.Tuple [] 0 default)
def alA(e:Expr):=xE e
def t9(s:fz):=sE s
def asP(s:fz):=sP s
def W_(s:fz):=((sL s).headD dX).pos
@[ext]abbrev mz:List (Str×Nat)->Lm->Loc
 |[],_=>[]
 |p::l,m=>match tj m p.2 with
  |some a=>(p.1,a)::mz l m
  |none=>mz l m
@[ext]abbrev mv:List (Str×Nat)->Lm->Lm
 |[],_=>[]
 |p::l,m=>tj m p.2::mv l m
@[ext]abbrev F5:List (Str×Nat)->List Str
 |[]=>[]
 |p::l=>p.1::F5 l
def Agree.cons(A:Agree nm c m):Agree (x::nm) ((x,v)::c) (Y v::m):=λy k a J M=>by
 rw[cq]
 let J:(match y==x with
  |true=>Y 0
  |false=>(idx nm y).map (· +1))=Y k:=J
 induction e:y==x with
 |true=>
  rw[e] at J;cases J;show M
 |false=>
  rw[e] at J;let(j,d,rfl):=cM.mp J;show A y j a d M
def Agree.skip(A:Agree nm c m):Agree (x::nm) c (R::m):=λy k a J M=>by
 let J:(match y==x with
  |true=>Y 0
  |false=>(idx nm y).map (· +1))=Y k:=J
 induction e:y==x with
 |true=>
  rw[e] at J;cases J;show nomatch M
 |false=>
  rw[e] at J;let(j,d,rfl):=cM.mp J;show A y j a d M
def qz:∀{ks:List (Str×Nat)},Agree (F5 ks) (mz ks m) (mv ks m):=fun{ks}=>by
 induction ks with
 |nil=>show λx k a h=>nomatch h
 |cons p l c=>
  show Agree (p.1::F5 l) (match tj m p.2 with
   |some a=>(p.1,a)::mz l m
   |none=>mz l m) (tj m p.2::mv l m)
  induction tj m p.2 with|none=>show c.skip|some b=>show c.cons
def aak(A:Agree nm d m):∀{ks:List (Str×Nat)},(ks.all λp=>idx nm p.1==Y p.2&&(wz c E).names.lookup p.1 !=Y .local)=L->SubL E c d (mz ks m):=fun{ks}=>by
 induction ks with
 |nil=>show λ_=>trivial
 |cons p l f=>
  intro h;rw[ug,bW,bW] at h
  show SubL E c d (match tj m p.2 with
   |some a=>(p.1,a)::mz l m
   |none=>mz l m)
  induction e:tj m p.2 with
  |none=>show f h.2
  |some b=>show(A _ _ _ (beq_iff_eq.mp h.1.1) e,fE _|>.mp h.1.2,f h.2)
section
variable{Z:Bs}{n:Nat}{E:Env}{nm:List Str}{m:Lm}{O:bf}{e:Expr}{cl:List (Str×aW)}{ks:List (Str×Nat)}{x y:Str}{it el el2:List Ix}
@[ext]abbrev Mz(Z:Bs)(n:Nat)(E:Env)(e:Expr)(cl:List (Str×aW))(nm:List Str)(ak:aW):CC:=(Z,n,dY (fs e) cl ak E,nm)
def j5(c:cX C 30 au e []=el)(A:Agree C.nm a m)(h:bH 1000 C.Z (C,rq K) el [[.ret]] [] m O):Ev C.Z C.n C.E e O a K:=by subst c;show ZY A h
structure Cp(E:Env)(e:Expr)(nm:List Str)(m:Lm)(cl:List (Str×aW))(ks:List (Str×Nat)):Prop where
 E5:mF (ju e)=L
 clos:lL (fs e) E=pure cl
 kind:(fs e).kind=.function
 names:((fs e).names.all λx=> not (x.2==.local)||(fs e).names.lookup x.1==Y .local)=L
 zO:((fs e).names.all λx=> not (x.2==.cell))=L
 shared:zT E cl
 sub:(ks.all λp=>idx nm p.1==Y p.2&&(wz (fs e) E).names.lookup p.1 !=Y .local)=L
 Xo:XR (mz ks m) cl=L
def Cp.ok(h:Cp E e nm m cl ks)(A:Agree nm a m):kO E (ju e) (fs e) cl a (mz ks m):=(h.E5,h.clos,h.kind,h.names,h.zO,h.shared,aak A h.sub,h.Xo)
structure Tn(E:Env)(e:Expr)(m:Lm)(cl:List (Str×aW))(ks:List (Str×Nat))(x:Str):Prop where
 st:∀ak,eF (dY (fs e) cl ak E) x=L
 nw:((mz ks m).all λp=> not (p.1==x))=L
def alB(a:bf)(D:aW)(P:bf->Prop)(b:AV):=∃i xs,b=.int i/\a D=Y (.set xs)/\xs.length<=4000/\P (aB a D<|.set<|ff xs i)
def aal(a:bf)(D:aW)(P:bf->Prop)(b:AV):=∃l,a D=Y (.list l)/\l.length<=1000000/\P (aB a D<|.list<|l++[b])
abbrev ă(Z:Bs)(n:Nat)(E:Env)(nm:List Str)(g:Bool)(it:List Ix)(m:Lm)(O:bf)(g0:bD)(P:aW->bf->Prop)(hx:aW->aW->AV->bf->(bf->Prop)->Prop):=
 bH 1000 Z ((Z,n,E,nm),rq λy d=>Ut Z n g y d λaH f=>∀D ak,Above d D->∃I:Nat->bf->Prop,I 0 (aB (iD.out f d) D g0)/\(∀k a c,aH[k]?=Y a->I k c->hx D ak a c (I<|k+1))/\∀c,I aH.length c->P D (iD.back f c)) it [[.ret]] [] m O
abbrev W!(Z:Bs)(n:Nat)(E:Env)(e:Expr)(cl:List (Str×aW))(ks:List (Str×Nat))(x:Str)(el:List Ix)(m:Lm)(D ak:aW)(a:AV)(d:bf)(P:bf->Prop):=
 bH 1000 Z (Mz Z n E e cl (x::F5 ks) ak,rq λb c=>alB c D P b) el [[.ret]] [] (Y a::mv ks m) d
def UY(A:Agree nm g m)(o:∀D O,P D O->ae (!D) O)(T:Tn E e m cl ks x)(J:cX (Z,n,E,nm) 30 au (ju e) []=it)(M:∀ak,cX (Mz Z n E e cl (x::F5 ks) ak) 30 au (rm e) []=el)(h:ă Z n E nm au it m O (.set []) P (W! Z n E e cl ks x el m)):Ev Z n E (ju e) O g λy f=>Au Z n (.Name x p) y f λaH eu=>wJ Z n E (.Name x p) (fs e) cl (mz ks m) (.set []) (TQ Z n<|rm e) (λD s=>ae (!D) s) f aH eu:=
 (j5 (C:=(Z,n,E,nm)) J A h).mono λy f i=>(i _ rfl).mono λaH eu h D ak q=>(h D ak q).elim λI h=>(dc I h.1 (λk a d j c=>vO (T.st ak) (xV T.nw,(j5 (M ak) qz.cons<|h.2.1 k a d j c).mono λb t h=>h))<|λd c=>o _ _<|h.2.2 d c)
abbrev UZ(Z:Bs)(n:Nat)(E:Env)(e:Expr)(cl:List (Str×aW))(ks:List (Str×Nat))(x y:Str)(el el2:List Ix)(m:Lm)(D ak:aW)(a:AV)(g:bf)(P:bf->Prop):=
 ∃a1 a2,a=.tup [a1,a2]/\bH 1000 Z (Mz Z n E e cl (y::x::F5 ks) ak,rq λb f=>bH 1000 Z (Mz Z n E e cl (y::x::F5 ks) ak,rq λh c=>∃d l,b.td=Y d/\c D=Y (.dict l)/\l.length<=1000000/\P (aB c D<|.dict<|bl l d h)) el2 [[.ret]] [] (Y a2::Y a1::mv ks m) f) el [[.ret]] [] (Y a2::Y a1::mv ks m) g
def Pz(A:Agree nm j m)(s:∀D O,P D O->ae (!D) O)(T:Tn E e m cl ks x)(i:Tn E e m cl ks y)(J:cX (Z,n,E,nm) 30 au (ju e) []=it)(M:∀ak,cX (Mz Z n E e cl (y::x::F5 ks) ak) 30 au (rm e) []=el)(u:∀ak,cX (Mz Z n E e cl (y::x::F5 ks) ak) 30 au (LM e) []=el2)(h:ă Z n E nm L it m O (.dict []) P (UZ Z n E e cl ks x y el el2 m)):Ev Z n E (ju e) O j λz g=>Au Z n (.Tuple [.Name x p,.Name y q] c r) z g λaH eu=>wJ Z n E (.Tuple [.Name x p,.Name y q] c r) (fs e) cl (mz ks m) (.dict []) (Nr Z n (rm e)<|LM e) (λD v=>ae (!D) v) g aH eu:=
 (j5 (C:=(Z,n,E,nm)) J A h).mono λz g hz=>(hz _ rfl).mono λaH eu h D ak t=>(h D ak t).elim λI h=>(dc I h.1 (λk a f o d=>(h.2.1 k a f o d).elim λa1 h=>h.elim λa2 h=>h.1▸Ks rfl rfl (EJ rfl<|vO (T.st ak)<|EJ rfl<|vO (i.st ak)<|OB (Q9 T.nw i.nw,(j5 (M ak) qz.cons.cons h.2).mono λb H h=>(j5 (u ak) qz.cons.cons h).mono λQ G h=>h)))<|λf d=>s _ _<|h.2.2 f d)
structure Sa(s:fz)(E:Env)(nm:List Str)(y:Str)(j:Nat):Prop where
 e:s=.Assign [.Name y (W_ s)] (t9 s) (asP s)
 sw:kI (t9 s) (Y<|.Name y (W_ s)) (asP s).line E=pure L
 st:eF E y=L
 ix:idx nm y=Y j
def Sa.as{Q:Fl->bf->Lm->Prop}(c:Sa s E nm y j)(A:Agree nm f m)(h:We m j a (Q .next O)):As Z n E (.Name y (W_ s)) a O f λg d=>∃m3,Agree nm d m3/\Q .next g m3:=vO c.st<|aC _ (A.set c.ix)<|Co.mp h
def Sa.go{K:Fl->bf->Lm->Prop}(g:Sa s E nm y j)(k:t9 s=c)(h:kI c (Y<|.Name y (W_ s)) (asP s).line E=pure L->xo Z n E (.Assign [.Name y (W_ s)] c (asP s)) O i λd f a=>∃m3,Agree nm a m3/\K d f m3):xo Z n E s O i λd f a=>∃m3,Agree nm a m3/\K d f m3:=by let J:=g.sw;rw[g.e];rw[k] at J⊢;show h J
abbrev U0(e:Expr)(x:Str):=e=.SetComp (rm e) [(.Name x (F4 e).pos,ju e,[],0)] (fs e) (Py e)
abbrev JI(e:Expr)(x:Str):=e=.ListComp (rm e) [(.Name x (F4 e).pos,ju e,[],0)] (fs e) (Py e)
def tuC(e:Expr):=xK e
def tuP(k:Nat)(e:Expr):=((xL e).getD k dX).pos
abbrev PA(e:Expr)(x y:Str):=e=.DictComp (rm e) (LM e) [(.Tuple [.Name x (tuP 0<|F4 e),.Name y (tuP 1<|F4 e)] (tuC<|F4 e) (F4 e).pos,ju e,[],0)] (fs e) (Py e)
def U9(c:U0 e x)(C:Cp E e nm m cl ks)(T:Tn E e m cl ks x)(J:cX (Z,n,E,nm) 30 au (ju e) []=it)(M:∀ak,cX (Mz Z n E e cl (x::F5 ks) ak) 30 au (rm e) []=el) (h:ă Z n E nm au it m O (.set []) (λD=>K !D) (W! Z n E e cl ks x el m)):ER Z (Z,n,E,nm) e m O K:=
 λa A=>sX (congrArg (λz=>Ev Z n E z O a K) c) (Nt (C.ok A)<|UY A (λ_ _ h=>h) T J M h)
def W?{K:Fl->bf->Lm->Prop}(d:Sa s E nm y j)(i:U0 (t9 s) x)(C:Cp E (t9 s) nm m cl ks)(T:Tn E (t9 s) m cl ks x)(J:cX (Z,n,E,nm) 30 au (ju<|t9 s) []=it)(M:∀ak,cX (Mz Z n E (t9 s) cl (x::F5 ks) ak) 30 au (rm<|t9 s) []=el)(h:ă Z n E nm au it m O (.set []) (λD O=>We m j (!D)<|K .next O) (W! Z n E (t9 s) cl ks x el m)):SR Z (Z,n,E,nm) s m O K:=
 λg A=>d.go i λsw=>G9 sw (C.ok A) (UY (ae:=λa o=>As Z n E (.Name y (W_ s)) a o g λk f=>∃c,Agree nm f c/\K .next k c) A (λ_ _ h=>d.as A h) T J M h)
def Yz(d:PA e x y)(C:Cp E e nm m cl ks)(T:Tn E e m cl ks x)(c:Tn E e m cl ks y)(J:cX (Z,n,E,nm) 30 au (ju e) []=it)(M:∀ak,cX (Mz Z n E e cl (y::x::F5 ks) ak) 30 au (rm e) []=el)(f:∀ak,cX (Mz Z n E e cl (y::x::F5 ks) ak) 30 au (LM e) []=el2) (h:ă Z n E nm L it m O (.dict []) (λD=>K !D) (UZ Z n E e cl ks x y el el2 m)):ER Z (Z,n,E,nm) e m O K:=
 λa A=>sX (congrArg (λz=>Ev Z n E z O a K) d) (Ln (C.ok A)<|Pz A (λ_ _ h=>h) T c J M f h)
def YA{K:Fl->bf->Lm->Prop}(d:Sa s E nm z j)(k:PA (t9 s) x y)(C:Cp E (t9 s) nm m cl ks)(T:Tn E (t9 s) m cl ks x)(i:Tn E (t9 s) m cl ks y)(J:cX (Z,n,E,nm) 30 au (ju<|t9 s) []=it)(M:∀ak,cX (Mz Z n E (t9 s) cl (y::x::F5 ks) ak) 30 au (rm<|t9 s) []=el)(o:∀ak,cX (Mz Z n E (t9 s) cl (y::x::F5 ks) ak) 30 au (LM<|t9 s) []=el2)(h:ă Z n E nm L it m O (.dict []) (λD O=>We m j (!D)<|K .next O) (UZ Z n E (t9 s) cl ks x y el el2 m)):SR Z (Z,n,E,nm) s m O K:=
 λg A=>d.go k λsw=>FE sw (C.ok A) (Pz (ae:=λa q=>As Z n E (.Name z (W_ s)) a q g λp f=>∃c,Agree nm f c/\K .next p c) A (λ_ _ h=>d.as A h) T i J M o h)
end
section
variable{n:Nat}{E:Env}{nm:List Str}{m:Lm}{w:cC}{B:Fz}{hB:cp w B}{V:TA}{t:TS}{g:bf}{e:Expr}{cl:List (Str×aW)}{ks:List (Str×Nat)}{x y:Str}{el:List Ix}
@[ext]abbrev Va:List Ix:=[.c<|.raw<|.type "range",.fn,.c ⇑16,.ca 1 []]
abbrev X_(w:cC)(B:Fz)(hB:cp w B)(n:Nat)(E:Env)(e:Expr)(cl:List (Str×aW))(ks:List (Str×Nat))(x:Str)(el:List Ix)(m:Lm)(V:TA)(t:TS)(a F:Nat->Int):=
 ∀k:Nat,k<16->∀ak g,bH 1000 ↑hB (Mz ↑hB n E e cl (x::F5 ks) ak,rq λb c=>b=.int (F k)/\c=t\g) el [[.ret]] [] (Y ⇑(a k)::mv ks m) (t\g)
def Vb(J:cX (bs w B hB,n,E,nm) 30 au (ju e) []=Va)(A:Agree nm f m)(K:AV->bf->Prop)(h:∀d c a,K (.obj<|qq 0 16 d c a)<|t\g):Ev ↑hB n E (ju e) (t\g) f K:=
 j5 (C:=(bs w B hB,n,E,nm)) J A (HO h)
def NR(F:Nat->Int)(d:JI e x)(C:Cp E e nm m cl ks)(T:Tn E e m cl ks x)(J:cX (bs w B hB,n,E,nm) 30 au (ju e) []=Va)(M:∀ak,cX (Mz ↑hB n E e cl (x::F5 ks) ak) 30 au (rm e) []=el) (h:X_ w B hB n E e cl ks x el m V t (λk=>k) F)(f:K (Bo F) (t\g)):ER ↑hB (bs w B hB,n,E,nm) e m (t\g) K:=
 λa A=>sX (congrArg (λz=>Ev ↑hB n E z (t\g) a K) d) (V_ F (C.ok A) T.st T.nw (λK i=>Vb J A K i) (λk c ak g=>j5 (M ak) qz.cons<|h k c ak g) f)
def YB(F:Nat->Int)(i:JI e x)(C:Cp E e nm m cl ks)(T:Tn E e m cl ks x)(J:cX (bs w B hB,n,E,nm) 30 au (ju e) []=[.l j])(f:tj m j=Y (Bo o))(M:∀ak,cX (Mz ↑hB n E e cl (x::F5 ks) ak) 30 au (rm e) []=el)(h:X_ w B hB n E e cl ks x el m V t o F)(p:K (Bo F) (t\g)):ER ↑hB (bs w B hB,n,E,nm) e m (t\g) K:=
 λc A=>sX (congrArg (λz=>Ev ↑hB n E z (t\g) c K) i) (Yx F (C.ok A) T.st T.nw (λK q=>j5 (C:=(bs w B hB,n,E,nm)) J A<|by show(match tj m j with|some a=>bH 999 ↑hB _ [] [[.ret]] [a] m (t\g)|none=>False);rw[f];show q) (λk d ak g=>j5 (M ak) qz.cons<|h k d ak g) p)
def xX{K:Fl->bf->Lm->Prop}(F:Nat->Int)(hv:Sa s E nm y j)(c:JI (t9 s) x)(C:Cp E (t9 s) nm m cl ks)(T:Tn E (t9 s) m cl ks x)(J:cX (bs w B hB,n,E,nm) 30 au (ju<|t9 s) []=Va)(M:∀ak,cX (Mz ↑hB n E (t9 s) cl (x::F5 ks) ak) 30 au (rm<|t9 s) []=el)(h:X_ w B hB n E (t9 s) cl ks x el m V t (λk=>k) F)(d:We m j (Bo F) (K .next (t\g))):SR ↑hB (bs w B hB,n,E,nm) s m (t\g) K:=
 λi A=>hv.go c λsw=>V! F sw (C.ok A) T.st T.nw (λK f=>Vb J A K f) (λk a ak g=>j5 (M ak) qz.cons<|h k a ak g)<|hv.as A d
end
section
variable{Z:Bs}{n:Nat}{E:Env}{nm:List Str}{m:Lm}{O:bf}{cl:List (Str×aW)}{ks:List (Str×Nat)}{x y:Str}{it el el2:List Ix}
@[ext]abbrev YC(Z:Bs)(n:Nat)(E:Env)(e:Expr)(cl:List (Str×aW))(x:Str)(nm:List Str)(ak:aW):CC:=(Z,n,lF (fs e) cl x ak E,nm)
structure Cp1(E:Env)(e:Expr)(nm:List Str)(m:Lm)(cl:List (Str×aW))(ks:List (Str×Nat))(x0:Str):Prop where
 E5:mF (ju e)=L
 clos:lL (fs e) E=pure cl
 kind:(fs e).kind=.function
 names:((fs e).names.all λx=> not (x.2==.local)||(fs e).names.lookup x.1==Y .local)=L
 cell:∀k,jb k (fs e).names cl=(x0,k)::cl
 push:∀h:oX,CO h (fs e).names=h.push {cls:=.type "cell",data:=.cell R}
 shared:zT E cl
 sub:(ks.all λp=>idx nm p.1==Y p.2&&(wz (fs e) E).names.lookup p.1 !=Y .local)=L
 Xo:XR (mz ks m) cl=L
 own:(mz ks m).lookup x0=R
 nw:((mz ks m).all λp=> not (p.1==x0))=L
 oc:∀ak,Pc (lF (fs e) cl x0 ak E) x0
def aam(c:cX C 30 L e []=el)(A:Agree C.nm a m)(h:bH 1000 C.Z (C,rq K) el [[.ret]] [] m O):Tt C.Z C.n C.E e O a λb O=>K (.bool b) O:=by subst c;show Pl A h
def aan{K:Fl->bf->Lm->Prop}(hv:Sa s E nm y j)(p:t9 s=.ListComp (rm<|t9 s) [(.Name x (F4<|t9 s).pos,ju<|t9 s,[V?<|t9 s],0)] (fs<|t9 s) (Py<|t9 s))(C:Cp1 E (t9 s) nm m cl ks x)(J:cX (Z,n,E,nm) 30 au (ju<|t9 s) []=it)(M:∀ak,cX (YC Z n E (t9 s) cl x (x::F5 ks) ak) 30 L (V?<|t9 s) []=el)(u:∀ak,cX (YC Z n E (t9 s) cl x (x::F5 ks) ak) 30 au (rm<|t9 s) []=el2)(h:bH 1000 Z ((Z,n,E,nm),rq λy e=>Ut Z n au y e λaH d=>∀D ak,e D=R->∃I:Nat->bf->Prop,I 0 (aB (iD.out d e) D<|.list [])/\(∀k a c,aH[k]?=Y a->I k c->bH 1000 Z (YC Z n E (t9 s) cl x (x::F5 ks) ak,rq λb f=>pB b λb=>br b (bH 1000 Z (YC Z n E (t9 s) cl x (x::F5 ks) ak,rq λb i=>aal i D (I<|k+1) b) el2 [[.ret]] [] (Y a::mv ks m) f)<|I (k+1) f) el [[.ret]] [] (Y a::mv ks m) c)/\∀c,I aH.length c->∃l,iD.back d c D=Y (.list l)/\We m j (.lst l) (K .next (cD (iD.back d c) D))) it [[.ret]] [] m O):SR Z (Z,n,E,nm) s m O K:=
 λv A=>hv.go p λsw=>Cf sw (C.E5,C.clos,C.kind,C.names,C.cell,C.push,C.shared,aak A C.sub,C.Xo,C.own)
  ((j5 (C:=(Z,n,E,nm)) J A h).mono λy e o=>(o _ rfl).mono λaH d h D ak t=>(h D ak t).elim λI h=>(dc I h.1 (λk a c q g=>XU (C.oc ak) (xV C.nw,(aam (M ak) qz.cons<|h.2.1 k a c q g).mono λb f h=>De h (λh=>(j5 (u ak) qz.cons h).mono λb i h=>h) λh=>h))<|λc g=>(h.2.2 c g).elim λl h=>(aC l h.1<|hv.as A h.2)))
end
def foI(s:fz):=sF s
def foX(s:fz):=sE s
def foF(s:fz):=xE<|foI s
def foA(s:fz):=(xL<|foI s).headD dX
def foC(s:fz):=xP<|foI s
def foT(s:fz):=xL<|foX s
def aao(s:fz):=xK<|foX s
def aap(s:fz):=xP<|foX s
def foB(s:fz):=sB s
def foP(s:fz):=sP s
def YD{K:Fl->bf->Lm->Prop}(e:C.Z=Z)(a:s=.For (.Tuple (foT s) (aao s) (aap s)) (.Call (foF s) [foA s] [] (foC s)) (foB s) [] (foP s))(f:iZ (foF s)=L)(g:cn (foA s)=L)(J:cX C 30 au (foF s) []=[.c<|.raw<|.type "enumerate"])(M:cX C 30 au (foA s) []=ia)(j:cT C 30 (.Tuple (foT s) (aao s) (aap s)) []=t)(i:FQ (FR C 30) (foB s) []=b)(h:bH 1000 Z (C,rq λx k=>∃l,x=.lst l/\FoI [] Z C t b m k K (Ba l) R) ia [[.ret]] [] m O):SR Z C s m O K:=λn A=>by subst e j i;rw[a];show for_in (d:=30) A rfl<|TX f g<|j5 J A<|bt rfl rfl<|j5 M A h
section
variable{m:Lm}{O:bf}
def SR.bare{K:Fl->bf->Lm->Prop}(hd:O d=Y g)(e:Fv g=L)(h:∀o,Known C.Z g o->SR C.Z C s m (aB O d<|.raw o) K):SR C.Z C s m O K:=λa A=>xo.bare hd e λo c=>h o c a A
def ER.conv(h:ER C.Z C e m O λa d=>∃c,Conv C.Z d c/\K a c):ER C.Z C e m O K:=λf A U s v j H k=>
 aG (h f A U s v j H k) (λr u p=>p.casesOn λt a d g i r q=>q.elim λc q=>(t,a,c,(g.bC,λa o J M n=>by let(x,y,z):=g.keep a o J M n;show bt x y<|(q.1.1 a).mp z,g.os),q.1.2 _ _ i,r,q.2)) λ_ _ e=>e
def Ą(e:Expr):=xE e
def caA(e:Expr):=(xL e).headD e
def Rg(s:e=.Call (Ą e) [caA e] [] e.pos)(q:iZ (Ą e)=L)(t:cn (caA e)=L)(T:(C.E.cells.lookup x).isSome=L)(o:idx C.nm x=Y j)(S:tj m j=Y (.raw v))(J:cX C 30 au (Ą e) []=[.c<|.raw g])(p:kK C.Z.K g=L)(M:cX C 30 au (caA e) []=ia)(h:bH 1000 C.Z (C,rq λa i=>∀c oc,C.E.cells.lookup x=Y c->i c=R->oc.data=.cell (Y v)->Cl C.Z C.n g [a] [] (aB i c<|.raw oc) λb f=>f c=Y (.raw oc)/\∃d,Sub d (cD f c)/\K b d) ia [[.ret]] [] m O):ER C.Z C e m O K:=λk A=>
 sX (congrArg (λz=>Ev C.Z C.n C.E z O k K) s) (Ev.sub<|QZ q t T (A x j _ o S)<|j5 J A<|dc g rfl p<|j5 M A h)
def F6(s:fz):=sA s
def Ii(s:fz):=sB s
def NS(s:fz):=sC s
def YE(s:fz):=sP s
def X!{C:CC}{bm:aW}{K:Fl->bf->Lm->Prop}(v:s=.FunctionDef name (F6 s) (Ii s) [] R [] (NS s) R name (YE s))(i:(F6 s).defaults=[])(Pa:(F6 s).kw_defaults=[])(D:annTrees (F6 s) R C.E=[])(p:lL (NS s) C.E=pure clos)(X0:C.E.globals=dt)(Ia:C.E.code=.ref c)(X1:codeHdIn C.Z.K c P=L)(Cm:nsIn C.Z.K dt (ah "__builtins__")=Y (Y !bm))(e:C.Z.B bm=Y ob)(M3:ob.cls=.type "module")(ZO:ob.dict=Y jx)(g:ob.data=.plain)(K_:bm≠jx)(K!:bm≠dt)(Pf:qualnameIn C.E name name=qual)(Mq:eF C.E name=L)(y:idx C.nm name=Y j)(G:Ua O P (YE s) qual)(h:∀f a oc vs t doc k d,O f=R->f≠a->f≠P->(O a=R\/O a=Y (.raw oc))->a≠P->oc.data=.fields vs->vs[1]?=Y (.str qual t)->We m j (!f) (K .next (aB (aB (aB O P<|.raw<|kT #[eK (YE s).line,eK (YE s).col,.ref a]) a<|.raw oc) f<|.raw<|GI name qual (F6 s) (Ii s) (NS s) clos doc d a k))):SR C.Z C s m O K:=λu A=>
 sX (congrArg (λz=>xo C.Z C.n C.E z O u λfl bu q=>∃o,Agree C.nm q o/\K fl bu o) v)
  (J? i Pa D p X0 Ia X1 Cm e M3 ZO g K_ K! Pf Mq G λf a oc vs t doc k d J M U T Q I H=>(aC _ (A.set y)<|Co.mp<|h f a oc vs t doc k d J M U T Q I H))
end
section
variable{m:Lm}{O:bf}{e:Expr}
def ą(k:Nat)(e:Expr):=((xD e).getD k R).getD dX
def Ć(k:Nat)(e:Expr):=(xL e).getD k dX
def LN(i:e=.Dict [Y<|ą 0 e] [Ć 0 e] e.pos)(J:cX C 30 au (ą 0 e) []=i1)(M:cX C 30 au (Ć 0 e) []=i2)(h:∀D,O D=R->bH 1000 C.Z (C,rq λa f=>bH 1000 C.Z (C,rq λb d=>∃c,a.td=Y c/\d D=Y (.dict [])/\K (!D) (aB d D<|.dict [(c,b)])) i2 [[.ret]] [] m f) i1 [[.ret]] [] m (aB O D<|.dict [])):ER C.Z C e m O K:=λg A=>
 sX (congrArg (λz=>Ev C.Z C.n C.E z O g K) i) (TK λD j=>(j5 J A<|h D j).mono λa f h=>j5 M A h)
def Vc(p:e=.Dict [Y<|ą 0 e,Y<|ą 1 e] [Ć 0 e,Ć 1 e] e.pos)(J:cX C 30 au (ą 0 e) []=i1)(M:cX C 30 au (Ć 0 e) []=i2)(t:cX C 30 au (ą 1 e) []=i3)(s:cX C 30 au (Ć 1 e) []=i4)(h:∀D,O D=R->bH 1000 C.Z (C,rq λa j=>bH 1000 C.Z (C,rq λb i=>bH 1000 C.Z (C,rq λk g=>bH 1000 C.Z (C,rq λu f=>∃c d,a.td=Y c/\k.td=Y d/\c≠d/\f D=Y (.dict [])/\K (!D) (aB f D<|.dict [(c,b),(d,u)])) i4 [[.ret]] [] m g) i3 [[.ret]] [] m i) i2 [[.ret]] [] m j) i1 [[.ret]] [] m (aB O D<|.dict [])):ER C.Z C e m O K:=λo A=>
 sX (congrArg (λz=>Ev C.Z C.n C.E z O o K) p) (TL λD q=>(j5 J A<|h D q).mono λa j h=>(j5 M A h).mono λb i h=>(j5 t A h).mono λk g h=>j5 s A h)
def seE(e:Expr):=(xL e).headD e
def PB(g:e=.Set [seE e] 0 e.pos)(f:kdsPlain (seE e)=L)(j:kdsCode C.Z.K C.E.code=L)(J:cX C 30 au (seE e) []=i1)(h:∀D,O D=R->bH 1000 C.Z (C,rq λa c=>∃i,a=.int i/\c D=Y (.set [])/\K (!D) (aB c D<|.set [i])) i1 [[.ret]] [] m (aB O D<|.set [])):ER C.Z C e m O K:=λd A=>
 sX (congrArg (λz=>Ev C.Z C.n C.E z O d K) g) (XM f j λD k=>j5 J A<|h D k)
def Vd(d:e=.List [] e.pos)(h:∀a,O a=R->K (!a) (aB O a<|.list [])):ER C.Z C e m O K:=λc A=>
 sX (congrArg (λz=>Ev C.Z C.n C.E z O c K) d) (W9 ∅ (IH (rfl,h)))
end
end
section
def PC{a:c}(h:a∉l)(t:l.Nodup):(a::l).Nodup:=dj.mpr (h,t)
def pG{a b:c}(h:a≠b)(t:a∉l):a∉b::l:=λq=>(aS.mp q).elim h t
def nd5{d:aW}(h:[a,b,c,d,e].Nodup):(a≠b/\a≠c/\a≠d/\a≠e)/\(b≠c/\b≠d/\b≠e)/\(c≠d/\c≠e)/\d≠e:=by simpa using h
variable{O:bf}{t:TS}
@[ext]abbrev i86:List Ix:=(.c ⇑1::.st 2::.l 1::.c .none::.c .none::.tu 3::.st 3::.l 0::.at "_succ"::.me "setdefault"::.l 2::.l 3::.mc 2::.st 4::.l 0::.at "_pred"::.me "pop"::.l 4::[.c .none,.mc 2,.pop,.l 3,.l 0,.at "_succ",.l 2,.ss,.l 2,.l 0,.at "_pred",.l 3,.ss,.l 0,.at "_ref",.me "setdefault",.l 2,.c ⇑1,.mc 2,.pop])
abbrev n86:List Str:=["self","level","u","t","told"]
def f86(h:FH w B hB n 86 n86 i86 %[Y x0,Y a|3] O Q):Cl ↑hB (n+1) (!86) [x0,a] [] O Q:=Wh h ⋯ ⋯
def DQ(O:bf)(P d ae:aW)(a:List (Nd×Int))(b:List (Int×Nd))(c:List (Int×Int)):=aB (aB (aB O P<|.dg<|jf a) d<|.dict<|fq b) ae<|.dict<|eC c
structure IT(O:bf)(x dx:aW)(bJ:List (Str×AV))(P hv ae:aW):Prop where
 inst:Inst O x 493 dx bJ
 nd:[x,dx,P,hv,ae].Nodup
 pred:bJ.lookup (ah "_pred")=Y (!P)
 succ:bJ.lookup (ah "_succ")=Y (!hv)
 ref:bJ.lookup (ah "_ref")=Y (!ae)
section
variable{x dx P hv ae:aW}{bJ:List (Str×AV)}{a:List (Nd×Int)}{b:List (Int×Nd)}{c:List (Int×Int)}
def Ve(I:IT O x dx bJ P hv ae):DQ O P hv ae a b c P=Y (.dg<|jf a):=by have:=I.nd;simp at this;let(_,_,(J,M),_):=this;delta DQ;rw[aq M,aq J,ar]
def Vf(I:IT O x dx bJ P hv ae):DQ O P hv ae a b c hv=Y (.dict<|fq b):=by have:=I.nd;simp at this;let(_,_,_,h):=this;delta DQ;rw[aq h,ar]
def Z3:DQ O P hv ae a b c ae=Y (.dict<|eC c):=by delta DQ;rw[ar]
def xY(I:IT O x dx bJ P hv ae):Inst (DQ O P hv ae a b c) x 493 dx bJ:=by
 have:=I.nd;simp at this;let((_,J,M,g),(f,e,d),_):=this;refine(?_,?_,I.inst.kind)<;>delta DQ
 .rw[aq g,aq M,aq J];show I.inst.obj
 .rw[aq d,aq e,aq f];show I.inst.ns
def LO(I:IT O x dx bJ P hv ae):aB (DQ O P hv ae a b c) P (.dg<|jf d)=DQ O P hv ae d b c:=by have:=nd5 I.nd;funext y;delta DQ aB;split<;>simp_all
def LP(I:IT O x dx bJ P hv ae):aB (DQ O P hv ae a b c) hv (.dict<|fq d)=DQ O P hv ae a d c:=by
 have:=nd5 I.nd;funext y;delta DQ aB;repeat' split
 all_goals simp_all
def Vg:aB (DQ O P hv ae a b c) ae (.dict<|eC c')=DQ O P hv ae a b c':=by
 funext y;delta DQ aB;repeat' split
 all_goals simp_all
def Vh(I:IT O x dx bJ P hv ae)(J:O P=Y (.dg<|jf a))(M:O hv=Y (.dict<|fq b))(d:O ae=Y (.dict<|eC c)):DQ O P hv ae a b c=O:=by
 funext y;delta DQ aB;repeat' split
 all_goals simp_all
end
nonrec def NT{k:a}{v:c}[DecidableEq a](h:(N l k).isSome)(S:∀x∈l,x.1=k->x.2=v):bl l k v=l:=by
 delta bl
 rw[bj h];conv=>rhs;rw[<-DC l]
 refine cJ λx T=>?_;split
 .rename_i e;rw[<-S x T e];rfl
 .rfl
nonrec def NU [DecidableEq c](l:List (c×f))(k:c)(v:f):bl (bl l k v) k v=bl l k v:=by
 refine NT (by rw[aX,bj rfl];rfl) λx T e=>?_;unfold bl at T;split at T
 .let(y,_,rfl):=cG.mp T;by_cases a:y.1=k
  .rw[bj a]
  .rw[aK a] at e;show(a e).elim
 .rename_i d;rcases cy.mp T with T|T
  .exfalso;apply d;unfold N;rw[dk,List.find?_isSome];show(aC x T<|by simpa using e)
  .clear e d;let rfl:=aV.mp T;rfl
def Nd.key(ak:Int)(u v:Option Int):wG [.int ak,oi u,oi v]=Y (AW (ak,u,v)):=by cases u<;>cases v<;>rfl
def F7{n:Nat}{hB:cp w B}{x q:aW}{a:List (Nd×Int)}{ak:Int}(I:IT O x q bJ P g ae)(j:a=[]\/(N a<|(N b 1).getD (ak,R,R)).isSome)(f:a.length<=1000)(e:b.length<=1000)(i:c.length<=1000)(h:Q .none (DQ O P g ae (bl (dz a<|(N b 1).getD (ak,R,R)) (ak,R,R) 1) (bl b 1 (ak,R,R))<|if(N c 1).isSome then c else bl c 1 1)):Cl ↑hB (n+4) (!86) [.ref x,.int ak] [] (DQ O P g ae a b c) Q:=by
 refine f86 λLC=>iG (xY I) () () I.succ rfl (_,lA (Vf I) kB rg,⋯,?_);calc zt (Vf I) (k:=.int 1) rfl (by rw[lC];show Y46 e);
 let p:(N (fq b) ⇑1).getD (.tup [.int ak,.none,.none])=Tg ((N b 1).getD (ak,R,R)):=by rw[ka];cases N b 1<;>rfl
 let e2:NH (fq b) ⇑1 (.tup [.int ak,.none,.none])=fq (if(N b 1).isSome then b else bl b 1 (ak,R,R)):=by
  delta NH;rw[ka,dk];split
  .rfl
  .show vQ b 1 (ak,R,R)
 rw[p,e2,LP I];generalize (N b 1).getD (ak,R,R)=d at*;refine iG (xY I) () () I.pred rfl (_,yM (Ve I) ee iU,⋯,?_);calc Uc (Ve I) (ks:=AW d) (Nd.key d.1 d.2.1 d.2.2) (by rw[tD];show Y46 f) (j.imp (λh=>by rw[h];rfl) λh=>by rw[rD,dk];show h);rw[AY,LO I];calc iG (xY I) () () I.succ rfl;
 let hz:(if(N b 1).isSome then b else bl b 1 (ak,R,R)).length<=1001:=by
  split
  .show af7 e
  .have:= @dO _ _ _ b 1 (ak,R,R);show af8 this e
 calc jM (Vf I) (k:=.int 1) rfl (by rw[lC];show af9 hz);
 let o:bl (fq<|if(N b 1).isSome then b else bl b 1 (ak,R,R)) ⇑1 (.tup [.int ak,.none,.none])=fq (bl b 1 (ak,R,R)):=by
  refine(vQ _ 1 (ak,R,R)).trans ?_;split
  .rfl
  .rw[NU]
 rw[o,LP I];refine iG (xY I) () () I.pred rfl (yK (Ve I) (ks:=AW (ak,R,R)) rfl (by rw[tD];have:= @lB _ _ _ a d;show aga this f) ?_);rw[AX,LO I];refine iG (xY I) () () I.ref rfl (_,lA Z3 kB rg,⋯,?_);calc zt Z3 (k:=.int 1) rfl (by rw[nc];show Y46 i);
 let m:NH (eC c) ⇑1 ⇑1=eC (if(N c 1).isSome then c else bl c 1 1):=by
  delta NH;rw[g9,dk];split
  .rfl
  .show r8 c 1 1
 rw[m,Vg];show h
def Vi{V:TA}(a:Wf V)(c:N t.e8 k=R)(h:Q .none (t\g)):Cl ↑hB n (.builtin "dict.get") [.ref V.e8,.int k] [] (t\g) Q:=XG a (by rw[c];show h)
end
section
variable{w:cC}{t:TS}{g:bf}
@[ext]abbrev alJ:List Ix:=(.l 1::.ab::.c ⇑1::.cm .Eq::.tr::.iff [.l 1,.ret] []::.l 1::.l 3::.tu 2::.l 4::.cm .In::.tr::.iff [.l 4,.l 1,.l 3,.tu 2,.sb,.ret] []::.l 0::.at "_succ"::.l 1::.ab::.sb::.un 3::.st 5::.st 6::.st 7::.l 6::[.tr,.no,.iff [.bad] [],.l 7,.tr,.no,.iff [.bad] [],.l 2,.l 5,.cm .Lt,.tr,.iff [.l 1,.ret] [.l 5,.l 2,.cm .Eq,.tr,.iff [.l 0,.tl,.l 3,.l 7,.l 6,.mf 349 3 [],.st 8,.l 1,.c ⇑0,.cm .Lt,.tr,.iff [.l 8,.ng,.st 8] []] (.l 5::.l 2::.cm .GtE::.tr::.iff [.bad] []::.l 0::.at "_succ"::.l 3::.ab::.sb::.un 3::.st 9::.st 10::.st 10::.c (.raw<|.builtin "min")::.fn::.l 5::.l 9::.ca 2 []::.st 11::.l 0::.tl::.l 1::.l 11::.mf 299 2 []::.un 2::.st 12::.st 13::.l 0::.tl::.l 3::.l 11::.mf 299 2 []::.un 2::.st 14::.st 15::.l 0::.tl::.l 12::[.l 2,.l 14,.l 4,.mf 278 4 [],.st 16,.l 0,.tl,.l 13,.l 2,.l 15,.l 4,.mf 278 4 [],.st 17,.l 0,.tl,.l 11,.l 16,.l 17,.mf 363 3 [],.st 8])],.l 8,.l 4,.l 1,.l 3,.tu 2,.ss,.l 8,.ret])
abbrev alK:List Str:=["self","f","j","g","cache","i","v","w","r","k","_","z","f0","f1","g0","g1","p","q"]
def aaq(h:FH w B hB n 278 alK alJ %[Y x0,Y e,Y d,Y c,Y a|13] O Q):Cl ↑hB (n+1) (!278) [x0,e,d,c,a] [] O Q:=RP (Q5 (x:=ah "self") (y:=ah "f") (z:=ah "j") (t:=ah "g") (r:=ah "cache") λk v1 j i f=>⋯) h ⋯
def vY(t:TS)(j:Int)(l:List ((Int×Int)×Int)):=∀f b r,N l (f,b)=Y r->bc t.X Z0 f/\bc t.X Z0 b/\bc t.X Z0 r/\(∀G,den t.X r G=den t.X f (fm G j<|den t.X b G))/\∀x,x<=lv t.X f->x<=lv t.X b->x<=lv t.X r
def vY.ext(I:Inv t Z0 e)(x:Ext t.X t'.X)(h:vY t j l):vY t' j l:=λf b r d=>by
 let(J,M,a,m,i):=h f b r d;refine tA (x.bc J) (x.bc M) (x.bc a) (λG=>?_) (λk c k2=>?_)
 .rw[x.den I.good a,x.den I.good M,x.den I.good J];show m G
 .rw[x.lv J] at c;rw[x.lv M] at k2;rw[x.lv a];show i k c k2
nonrec def vY.put(h:vY t j l)(J:bc t.X Z0 f)(M:bc t.X Z0 b)(i:bc t.X Z0 r)(d:∀G,den t.X r G=den t.X f (fm G j<|den t.X b G))(c:∀x,x<=lv t.X f->x<=lv t.X b->x<=lv t.X r):vY t j (bl l (f,b) r):=λk m n a=>by
 rw[aX] at a;split at a
 .rename_i e;let(rfl,rfl):k=f/\m=b:=by simpa using e
  replace a:=ax a;subst a;show tA J M i d c
 .show h _ _ _ a
def JJ{V:TA}(hw:Wf V)(RQ:0<=j)(UQ:j<4)(hc:c∉V.list):∀(k:Nat) {n:Nat} {t:TS} {aw h2:Nat} {g:bf} {l:List ((Int×Int)×Int)} {f b:Int} {Q:AV->bf->Prop},k<=4->TI t e aw->aw+ic k<=80000->bc t.X Z0 f->bc t.X Z0 b->4-k<=lv t.X f->4-k<=lv t.X b->g c=Y (.dg<|encC l)->vY t j l->l.length<=h2->h2+ic k<=80000->(∀r t' o,Op t e t' (aw+ic k)->vY t' j o->o.length<=h2+ic k->bc t'.X Z0 r->(∀x,x<=lv t.X f->x<=lv t.X b->x<=lv t'.X r)->(∀G,den t'.X r G=den t.X f (fm G j<|den t.X b G))->Q ⇑r (t'\(aB g c<|.dg<|encC o)))->Cl ↑hB (n+k+12) (!278) [.ref V.x,.int f,.int j,.int b,.ref c] [] (t\g) Q:=by
 intro k
 induction k with
 |zero=>
  intro n t aw h2 g l f b Q hk hx hN a u lf lb s H y xf h;refine aaq λak=>?_;let J:=hx.inv.good.ZG a<|æ lf;calc nu (Y76 J);have:=h f t l (Op.refl hx MF) H (Kg y) a (λx h _=>h) λG=>(hx.inv.good.dQ a (by rcases J with rfl|rfl<;>(try rw[hx.inv.good.E_])<;>(try rw[hx.inv.good.QA])<;>exact UQ) G _).symm;rwa [eh s] at this
 |succ k ih=>
  intro n t aw h2 g l f b Q hk hx hN a u lf lb s H y xf h;let A:ic (k+1)=2*ic k+2:=rfl;let bD:=hx.inv.good;let aro:=bD.OW a;refine aaq (n:=n+k+12) λak=>?_
  let zb:j<lv t.X f->Q ⇑f (t\g):=λfM=>by have:=h f t l (Op.refl hx<|MF) H (Kg y) a (λx h _=>h) λG=>(bD.dQ a fM G _).symm;rwa [eh s] at this
  rcases bD.split a with⟨Ov,hf4⟩|⟨Ov,_,i,v,w',hs,E,Fq,vU,Ni,Q7,S,Bi,tZ,th⟩
  .show nu (Zq Ov) (zb (s9 hf4 UQ))
  refine GP (by simp;show xi ∎) (G_ hc s ?_);clear RQ UQ;induction uD:N l (f,b) with
  |some r=>
   refine rT rfl (G! hc s uD ?_);let(_,_,q1,q2,q3):=H _ _ _ uD;have:=h r t l (Op.refl hx (MF)) H (Kg y) q1 q3 q2;rwa [eh s] at this
  |none=>
   refine jh rfl (cP ∎ (lD ∎ ∎ (w3 (bD.C6 S) (w3 (bD.C6 Bi) ?_))))
   let fin:∀{r:Int} {t':TS} {o:List ((Int×Int)×Int)},Op t e t' (aw+ic (k+1))->vY t' j o->o.length<=h2+2*ic k->bc t'.X Z0 r->(∀x,x<=lv t.X f->x<=lv t.X b->x<=lv t'.X r)->(∀G,den t'.X r G=den t.X f (fm G j (den t.X b G)))->
     Q (.int r) (aA V t' (aB g c (.dg (encC (bl o (f,b) r))))):=fun{r t' o} d C zl D lr dr=>by
    let cL:= @dO _ _ _ o (f,b) r;show h r t' _ d (C.put (d.ext.bc a) (d.ext.bc u) D (λG=>by rw[d.ext.den bD u,d.ext.den bD a];show dr G)<|λx J M=>lr x (by rwa [d.ext.lv a] at J)<|by rwa [d.ext.lv u] at M) (ĵ A cL zl) D lr dr
   by_cases U:j<i
   .show nu U<|zb<|s9 E U
   calc nC U;by_cases VX:i=j
   .refine nu VX<|dR ∎ ?_;clear ih h zb U;subst VX;refine sj hw (k+1) hk hx hN u Bi S lb (é E lf th) (é E lf tZ) λr t' d D lr dr=>?_;let T:=d.ext;let dr':∀G,den t'.X r G=(decide (f<0)^^den t.X f (fm G i<|den t.X b G)):=λG=>by rw[dr,bD.fC a Ov hs,pz];rw[bD.dQ Bi (th),bD.dQ S<|tZ];cases decide (f<0)<;>cases den t.X b G<;>simp
    let lr':∀x,x<=lv t.X f->x<=lv t.X b->x<=lv t'.X r:=λx J M=>lr x M (é E J th)<|é E J tZ;by_cases ji:f<0
    .refine nu ji<|Nn hc s (Ķ xf y) ?_;show fin d (H.ext hx.inv T) (Kg y) D.neg (λx J M=>by rw[vT];show lr' x J M) λG=>by rw[d.ti.inv.good.iP D,dr'];simp[ji]
    .refine nC ji<|Nn hc s (Ķ xf y) ?_;show fin d (H.ext hx.inv T) (Kg y) D lr' λG=>by rw[dr'];simp[ji]
   .refine nC VX ?_;let(b1,b2,hgb):=u.get;refine GP (by simp;show agv VX U)<|cP ∎ (gh ∎ ∎ (IW<|dR ∎ ?_));let O:min i (lv t.X b)<=lv t.X f:=agw E;let T?:min i (lv t.X b)<=lv t.X b:=Ż;let hz0:0<=min i (lv t.X b):=by have:=bD.gK u;show agx Fq this
    let Wi:min i (lv t.X b)<4:=agy vU;let I:min i (lv t.X b)<j:=agz VX U;let Q8:4-((k:Int)+1)<=min i (lv t.X b):=agA E lb lf;let Ă:∀x,x<=lv t.X f->x<=lv t.X b->x<=min i (lv t.X b):=λx J M=>agB E M J;generalize min i (lv t.X b)=z at O T? hz0 Wi I Q8 Ă⊢;let(a3,a4,a5,a6,a7,a8):=bD.kN a O Wi;let(b3,b4,b5,b6,b7,b8):=bD.kN u T? Wi;refine xT hw bD a O (dR ∎ (xT hw bD u T?<|dR ∎ (ih (h2:=h2) (uG hk) hx (VV A hN) a3 b3 (Y9 Q8 a5) (Y9 Q8 b5) s H y (VV A xf) λp t1 l1 m C1 MA hp lp dp=>dR ∎ ?_)));let G1:=m.ti.inv.good;refine ih (h2:=h2+ic k) (uG hk) m.ti (ç A hN) (m.ext.bc a4) (m.ext.bc b4) (qP (m.ext.lv a4)<|Y9 Q8 a6) (qP (m.ext.lv b4)<|Y9 Q8 b6) ar C1 MA (ç A xf) λq t2 l2 O2 C2 JD hq lq dq=>?_;rw[bQ];calc dR ∎;let UA:z+1<=lv t2.X p:=by rw[O2.ext.lv hp];show lp _ (a5)<|b5
    let UB:z+1<=lv t2.X q:=lq _ (qP (m.ext.lv a4)<|a6)<|qP (m.ext.lv b4)<|b6;refine JE hw O2.ti (Y70 A hN) hz0 Wi (O2.ext.bc hp) hq (UA) (UB) λr t3 O3 D lr dr=>Nn hc ar (ķ A xf JD) ?_;rw[bQ];refine fin (((m.trans O2).trans O3).le (ĸ A)) (C2.ext O2.ti.inv O3.ext) (Ĺ JD) D (λx J M=>by have:=Ă x J M;show ë this lr) λG=>?_;rw[dr,dq,O2.ext.den G1 hp,dp,m.ext.den bD a4,m.ext.den bD b4,a7,b7,a8,b8]
    induction Wj:G z with|true=>simp only[if_true];rw[A9 (G:=G) Wj,A9 (G:=fm G j _)<|by rw[mR (ĺ I)];show Wj]|false=>simp only[e9,if_false];rw[A9 (G:=G) Wj,A9 (G:=fm G j _)<|by rw[mR (ĺ I)];show Wj]
end
section
variable{w:cC}{n:Nat}
@[ext]abbrev Vj:List Ix:=(.l 1::.ab::.c ⇑1::.cm .Eq::.tr::.iff [.l 1,.ret] []::.l 1::.l 5::.cm .In::.tr::.iff [.l 5,.l 1,.sb,.ret] []::.l 0::.at "_succ"::.l 1::.ab::.sb::.un 3::.st 6::.st 7::.st 8::.l 7::.tr::.no::.iff [.bad] []::.l 8::.tr::.no::.iff [.bad] []::.c (.raw<|.builtin "len")::.fn::.l 3::.ca 1 []::.st 9::.wh [.l 2,.l 9,.cm .Lt,.tr] [.l 3,.l 2,.sb,.l 6,.cm .Lt,.tr,.iff [.l 2,.c ⇑1,.ai .Add 2] [.brk]] []::.l 2::.l 9::.cm .Eq::.tr::.iff [.l 1,.ret] []::.l 2::[.l 9,.cm .GtE,.tr,.iff [.bad] [],.l 6,.l 4,.cm .In,.tr,.iff [.l 4,.l 6,.sb,.st 10,.c<|.raw<|.type "bool",.fn,.l 10,.ca 1 [],.tr,.iff [.l 8,.st 7] [],.l 0,.tl,.l 7,.l 2,.l 3,.l 4,.l 5,.mf 313 5 [],.st 11] (.l 0::.tl::.l 7::.l 2::.l 3::[.l 4,.l 5,.mf 313 5 [],.st 12,.l 0,.tl,.l 8,.l 2,.l 3,.l 4,.l 5,.mf 313 5 [],.st 13,.l 0,.tl,.l 6,.l 12,.l 13,.mf 363 3 [],.st 11]),.l 1,.c ⇑0,.cm .Lt,.tr,.iff [.l 11,.ng,.st 11] [],.l 11,.l 5,.l 1,.ss,.l 11,.ret])
abbrev aar:List Str:=["self","u","j","ordvar","values","cache","i","v","w","n","val","r","p","q"]
def aas(h:FH w B hB n 313 aar Vj %[Y x0,Y f,Y e,Y d,Y c,Y a|8] O Q):Cl ↑hB (n+1) (!313) [x0,f,e,d,c,a] [] O Q:=RP (QN (x:=ah "self") (y:=ah "u") (z:=ah "j") (t:=ah "ordvar") (r:=ah "values") (q:=ah "cache") λm v1 k j i g=>⋯) h ⋯
def Hj{V:TA}(hw:Wf V)(hl0:0<=lvl)(X?:lvl<4)(hc:c∉V.list)(BX:dv∉V.list)(wD:dv≠c):∀(k:Nat) {n:Nat} {t:TS} {aw h2:Nat} {g:bf} {l:List (Int×Int)} {u:Int} {Q:AV->bf->Prop},k<=4->TI t e aw->aw+ic k<=80000->bc t.X Z0 u->4-k<=lv t.X u->g c=Y (.dict<|eC l)->g dv=Y (.dict [(.int lvl,.bool m)])->qS t (λf G=>f<|fm G lvl m) l->l.length<=h2->h2+ic k<=80000->(∀r t' d,Op t e t' (aw+ic k)->qS t' (λf G=>f<|fm G lvl m) d->d.length<=h2+ic k->bc t'.X Z0 r->(∀x,x<=lv t.X u->x<=lv t'.X r)->(∀G,den t'.X r G=den t.X u (fm G lvl m))->Q ⇑r (t'\(aB g c<|.dict<|eC d)))->Cl ↑hB (n+k+4) (!313) [.ref V.x,.int u,.int 0,.lst [.int lvl],.ref dv,.ref c] [] (t\g) Q:=by
 intro k
 induction k with
 |zero=>
  intro n t aw h2 g l u Q hk hx hN j O A M E T I h;refine aas λak=>nu (Y76<|hx.inv.good.ZG j<|æ O) ?_;have:=h u t l (Op.refl hx MF) E (Kg T) j (λx h=>h) λG=>(hx.inv.good.dQ j (Y79 O X?) G _).symm;rwa [eh A] at this
 |succ k ih=>
  intro n t aw h2 g l u Q hk hx hN j O A M E T I h;let a:ic (k+1)=2*ic k+2:=rfl;let bD:=hx.inv.good;let Y_:=bD.OW j;refine aas (n:=n+k+4) λak=>?_
  let zb:lvl<lv t.X u->Q ⇑u (t\g):=λfM=>by have:=h u t l (Op.refl hx<|MF) E (Kg T) j (λx h=>h) λG=>(bD.dQ j fM G _).symm;rwa [eh A] at this
  rcases bD.split j with⟨qO,Ĉ⟩|⟨qO,_,i,v,w',hs,D,Fq,vU,Ni,Q7,S,Bi,tZ,th⟩
  .show nu (Zq qO) (zb (s9 Ĉ X?))
  refine GP (by simp;show xi ∎) (Np hc A ?_);cases uD:N l u with
  |some r=>
   refine rT rfl (Nq hc A uD ?_);let(_,q1,q2,q3):=E _ _ uD;have:=h r t l (Op.refl hx (MF)) E (Kg T) q1 q3 q2;rwa [eh A] at this
  |none=>
   refine jh rfl (cP ∎ (lD ∎ ∎ (w3 (bD.C6 S) (w3 (bD.C6 Bi) (zS (bg rfl) (wh1 rfl 2 (.int (0+1)) (lvl<i) ?_ ?_))))))
   .skip;refine rT rfl (IU ∅ ∅ rfl ?_);by_cases KJ:lvl<i
    .show nu KJ (bt rfl rfl KJ)
    .refine nC KJ (jh rfl (jh rfl (ϥ BX M ?_)));let fin:∀{r:Int} {t':TS} {d:List (Int×Int)},Op t e t' (aw+ic (k+1))->qS t' (λf G=>f (fm G lvl m)) d->d.length<=h2+2*ic k->bc t'.X Z0 r->(∀x,x<=lv t.X u->x<=lv t'.X r)->(∀G,den t'.X r G=den t.X u (fm G lvl m))->
       Q (.int r) (aA V t' (aB g c (.dict (eC (bl d u r))))):=fun{r t' d} H C U o s y=>by
      let cL:= @dO _ _ _ d u r;show h r t' _ H (C.put (H.ext.bc j) o (λG=>by rw[H.ext.XQ bD j];show y G)<|λx J=>s x<|by rwa [H.ext.lv j] at J) (ĵ a cL U) o s y
     let fin2:∀{fu:Nat} {r:Int} {t':TS} {d:List (Int×Int)} {z2 z3 z4 z6 z7 z8 z9 GQ Cu Dn:Option AV},Op t e t' (aw+ic (k+1))->qS t' (λf G=>f<|fm G lvl m) d->d.length<=h2+2*ic k->bc t'.X Z0 r->(∀x,x<=lv t.X u->x<=lv t'.X r)->(∀G,den t'.X r G=(decide (u<0)^^den t.X u (fm G lvl m)))->
       bH (fu+3000) ↑hB (S? ↑hB (n+k+4) 313 (iy (K1 w) 313) aar Q ak) (ij 49 Vj) [] [] [Y !V.x,Y ⇑u,z2,z3,z4,Y !c,z6,z7,z8,z9,GQ,Y ⇑r,Cu,Dn] (t'\(aB g c<|.dict<|eC d)):=by
      intro _ r t' d z2 z3 z4 z6 z7 z8 z9 GQ Cu Dn H C U o s y;by_cases ji:u<0
      .refine nu ji<|Ce hc ar (Ļ a I U) ?_;rw[bQ];show fin H C U o.neg (λx J=>by rw[vT];show s x J) λG=>by rw[H.ti.inv.good.iP o,y];simp[ji]
      .refine nC ji<|Ce hc ar (Ļ a I U) ?_;rw[bQ];show fin H C U o s λG=>by rw[y];simp[ji]
     by_cases Hk:lvl=i
     .refine nu Hk ?_;clear h Fq vU KJ fin;subst Hk;refine Ϧ BX M (O5 ?_);let Y!:∀G,(decide (u<0)^^den t.X u (fm G lvl m))=if m=L then den t.X w' (fm G lvl m) else den t.X v (fm G lvl m):=λG=>by rw[bD.fC j qO hs,pz];cases decide (u<0)<;>cases m<;>simp
      cases hbv:m with
      |true=>
       subst hbv;refine rT rfl (dR ∎ (ih (h2:=h2) (uG hk) hx (VV a hN) Bi (Oq D O th) A M E T (VV a I) λr t1 l1 z C1 MA o s y=>?_));show bH _ _ _ (ij 49 Vj) [] [] [Y !V.x,Y ⇑u,_,_,_,Y !c,_,_,_,_,_,Y ⇑_,_,_] _;show fin2 (z.le<|ļ a) C1 (Ľ MA) o (λx J=>s x<|é D J th) λG=>by rw[y,Y!];rfl
      |false=>
       subst hbv;refine jh rfl (dR ∎ (ih (h2:=h2) (uG hk) hx (VV a hN) S (Oq D O tZ) A M E T (VV a I) λr t1 l1 z C1 MA o s y=>?_));show bH _ _ _ (ij 49 Vj) [] [] [Y !V.x,Y ⇑u,_,_,_,Y !c,_,_,_,_,_,Y ⇑_,_,_] _;show fin2 (z.le<|ļ a) C1 (Ľ MA) o (λx J=>s x<|é D J tZ) λG=>by rw[y,Y!];rfl
     .refine nC Hk (dR ∎ (ih (h2:=h2) (uG hk) hx (VV a hN) S (Oq D O tZ) A M E T (VV a I) λp t1 l1 z C1 MA hp lp dp=>dR ∎ (ih (h2:=h2+ic k) (uG hk) z.ti (ç a hN) (z.ext.bc Bi) (qP (z.ext.lv Bi)<|Oq D O th) ar (pS (aq wD) M) C1 MA (ç a I) λq t2 l2 O2 C2 JD hq lq dq=>?_)));rw[bQ];calc dR ∎;let UA:i+1<=lv t2.X p:=by rw[O2.ext.lv hp];show lp _ (tZ)
      let UB:i+1<=lv t2.X q:=lq _<|qP (z.ext.lv Bi)<|th;refine JE hw O2.ti (Y70 a hN) Fq vU (O2.ext.bc hp) hq (UA) (UB) λr t3 O3 o s y=>?_;show bH _ _ _ (ij 49 Vj) [] [] [Y !V.x,Y ⇑u,_,_,_,Y !c,_,_,_,_,_,Y ⇑_,_,_] _;refine fin2 (((z.trans O2).trans O3).le (ĸ a)) (C2.ext O2.ti.inv O3.ext) (Ĺ JD) o (λx J=>Y80 D J s) λG=>?_;rw[y,dq,O2.ext.den z.ti.inv.good hp,dp,z.ext.den bD Bi,bD.fC j qO hs,mR<|λe=>Hk e.symm];cases decide (u<0)<;>cases G i<;>simp
   .intro KJ;refine(by simp,?_);show rT rfl<|zb<|s9 D KJ
end
section
variable{w:cC}{n:Nat}
@[ext]abbrev YF:List Ix:=(.l 1::.ab::.c ⇑1::.cm .Eq::.tr::.iff [.l 1,.ret] []::.l 1::.l 6::.cm .In::.tr::.iff [.l 6,.l 1,.sb,.ret] []::.l 0::.at "_succ"::.l 1::.ab::.sb::.un 3::.st 7::.st 8::.st 9::.l 8::.tr::.no::.iff [.bad] []::.l 9::.tr::.no::.iff [.bad] []::.l 1::.c ⇑0::.cm .Lt::.tr::.iff [.l 8,.ng,.l 9,.ng,.tu 2,.un 2,.st 8,.st 9] []::.c (.raw<|.builtin "len")::.fn::.l 3::.ca 1 []::.st 10::.wh [.l 2,.l 10,.cm .Lt,.tr] [.l 3,.l 2,.sb,.l 7,.cm .Lt,.tr,.iff [.l 2,.c ⇑1,.ai .Add 2] [.brk]] [.l 1,.ret]::.l 0::.tl::.l 8::.l 2::.l 3::.l 4::.l 5::.l 6::.mf 328 6 []::.st 11::.l 0::[.tl,.l 9,.l 2,.l 3,.l 4,.l 5,.l 6,.mf 328 6 [],.st 12,.l 7,.l 4,.cm .In,.tr,.iff [.l 5,.tr,.iff [.l 0,.tl,.l 11,.l 12,.c ⇑1,.ng,.mf 349 3 [],.st 13] [.l 0,.tl,.l 11,.c ⇑1,.l 12,.mf 349 3 [],.st 13]] [.l 0,.tl,.l 7,.l 11,.l 12,.mf 363 3 [],.st 13],.l 13,.l 6,.l 1,.ss,.l 13,.ret])
abbrev aau:List Str:=["self","u","j","ordvar","qvars","forall","cache","i","v","w","n","p","q","r"]
def aav(h:FH w B hB n 328 aau YF %[Y x0,Y g,Y f,Y e,Y d,Y c,Y a|7] O Q):Cl ↑hB (n+1) (!328) [x0,g,f,e,d,c,a] [] O Q:=RP (QO (x:=ah "self") (y:=ah "u") (z:=ah "j") (t:=ah "ordvar") (r:=ah "qvars") (q:=ah "forall") (o:=ah "cache") λs v1 p m k j i=>⋯) h ⋯
abbrev qc:Nat->Nat
 |0=>0
 |k+1=>2*qc k+ic k+1
def qF(a:Bool)(lvl:Int)(f:uR->Bool)(G:uR):=if a=L then f (fm G lvl au)&&f (fm G lvl L) else f (fm G lvl au)||f (fm G lvl L)
def Hl{V:TA}(hw:Wf V)(hl0:0<=lvl)(X?:lvl<4)(hc:c∉V.list)(BX:dv∉V.list)(wD:dv≠c):∀(k:Nat) {n:Nat} {t:TS} {aw h2:Nat} {g:bf} {l:List (Int×Int)} {u:Int} {Q:AV->bf->Prop},k<=4->TI t e aw->aw+qc k<=80000->bc t.X Z0 u->4-k<=lv t.X u->g c=Y (.dict<|eC l)->g dv=Y (.set [lvl])->qS t (qF f lvl) l->l.length<=h2->h2+qc k<=80000->(∀r t' l',Op t e t' (aw+qc k)->qS t' (qF f lvl) l'->l'.length<=h2+qc k->bc t'.X Z0 r->(∀x,x<=lv t.X u->x<=lv t'.X r)->(∀G,den t'.X r G=qF f lvl (den t.X u) G)->Q ⇑r (t'\(aB g c<|.dict<|eC l')))->Cl ↑hB (n+k+12) (!328) [.ref V.x,.int u,.int 0,.lst [.int lvl],.ref dv,.bool f,.ref c] [] (t\g) Q:=by
 intro k
 induction k with
 |zero=>
  intro n t aw h2 g l u Q hk hx hN a m A vW H hM U h;refine aav λak=>nu (Y76<|hx.inv.good.ZG a<|æ m) ?_
  have:=h u t l (Op.refl hx MF) H (Kg hM) a (λx h=>h) λG=>by delta qF;rw[hx.inv.good.dQ a (Y79 m X?),hx.inv.good.dQ a<|Y79 m X?];simp
  rwa [eh A] at this
 |succ k ih=>
  intro n t aw h2 g l u Q hk hx hN a m A vW H hM U h;let d:qc (k+1)=2*qc k+ic k+1:=rfl;let bD:=hx.inv.good;let Y_:=bD.OW a;refine aav (n:=n+k+12) λak=>?_
  let zb:lvl<lv t.X u->Q ⇑u (t\g):=λfM=>by
   have:=h u t l (Op.refl hx<|MF) H (Kg hM) a (λx h=>h) λG=>by delta qF;rw[bD.dQ a fM,bD.dQ a fM];simp
   rwa [eh A] at this
  rcases bD.split a with⟨qO,Ĉ⟩|⟨qO,_,i,v,w',hs,j,Fq,vU,Ni,Q7,S,Bi,tZ,th⟩
  .show nu (Zq qO) (zb (s9 Ĉ X?))
  refine GP (by simp;show xi ∎) (Np hc A ?_);clear hl0 X?;induction uD:N l u with
  |some r=>
   refine rT rfl (Nq hc A uD ?_);let(_,q1,q2,q3):=H _ _ uD;have:=h r t l (Op.refl hx (MF)) H (Kg hM) q1 q3 q2;rwa [eh A] at this
  |none=>
   refine jh rfl (cP ∎ (lD ∎ ∎ (w3 (bD.C6 S) (w3 (bD.C6 Bi) ?_))))
   let tail:∀{fu:Nat} (v1 o:Int),bc t.X Z0 v1->bc t.X Z0 o->i<lv t.X v1->i<lv t.X o->(∀G,den t.X u G=if G i then den t.X o G else den t.X v1 G)->
     bH (fu+4000) (bs w B hB) (S? (bs w B hB) (n+k+12) 328 (iy (K1 w) 328) aau Q ak) (ij 33 YF) [] [] [Y (.ref V.x),Y (.int u),Y (.int 0),Y (.lst [.int lvl]),Y (.ref dv),Y (.bool f),Y (.ref c),Y (.int i),Y (.int v1),Y (.int o),R,R,R,R] (aA V t g):=by
    intro _ v1 o km T Vk Vl Y!;refine zS (bg rfl) (wh1 rfl 2 (.int (0+1)) (lvl<i) ?_ ?_)
    .skip;refine rT rfl (IU ∅ ∅ rfl ?_);by_cases KJ:lvl<i
     .show nu KJ (bt rfl rfl KJ)
     .refine nC KJ (dR ∎ (ih (h2:=h2) (uG hk) hx (Β d hN) km (Oq j m Vk) A vW H hM (Β d U) λp t1 l1 O C1 MA hp lp dp=>dR ∎ (ih (h2:=h2+qc k) (uG hk) O.ti (ľ d hN) (O.ext.bc T) (qP (O.ext.lv T) (Oq j m Vl)) ar (pS (aq wD) vW) C1 MA (ľ d U) λq t2 l2 s C2 JD hq lq dq=>?_)));rw[bQ];let ao:=O.trans s;let E:=s.ti.inv.good;let V8:=s.ext.bc hp;let UA:i+1<=lv t2.X p:=by rw[s.ext.lv hp];show lp _ (Vk)
      let UB:i+1<=lv t2.X q:=lq _ (qP (O.ext.lv T) (Vl));let M:∀G,den t2.X p G=qF f lvl (den t.X v1) G:=λG=>by rw[s.ext.den O.ti.inv.good hp,dp]
      let I:∀G,den t2.X q G=qF f lvl (den t.X o) G:=λG=>by rw[dq,O.ext.XQ bD T]
      let fin:∀{r:Int} {t':TS},Op t2 e t' (aw+qc (k+1))->bc t'.X Z0 r->i<=lv t'.X r->(∀G,den t'.X r G=qF f lvl (den t.X u) G)->
        Q (.int r) (aA V t' (aB g c (.dict (eC (bl l2 u r))))):=fun{r t'} D z y C=>by
       let O4:=ao.trans D;show h r t' _ O4 ((C2.ext s.ti.inv D.ext).put (O4.ext.bc a) z (λG=>by rw[O4.ext.XQ bD a];show C G) (λx J=>by rw[O4.ext.lv a] at J;show Y80 j J y)) (agC d (@dO _ _ _ l2 u r) JD) z (λx J=>Y80 j J y) C
      calc O8 (by first|exact BX) (pS (aq wD) vW) (by simp);by_cases Hk:i=lvl
      .refine rT (by simp[Hk]) ?_;clear ih l A vW H hM h zb uD KJ l1 C1 MA dp C2 dq;subst Hk;let aaw:∀G,den t.X u (fm G i au)=den t.X v1 G:=λG=>by rw[Y!,pz,aK (by simp),bD.dQ km Vk]
       let aax:∀G,den t.X u (fm G i L)=den t.X o G:=λG=>by rw[Y!,pz,bj rfl,bD.dQ T Vl]
       let qv:∀G,qF f i (den t.X v1) G=den t.X v1 G:=λG=>by delta qF;rw[bD.dQ km Vk,bD.dQ km Vk];simp
       let qw:∀G,qF f i (den t.X o) G=den t.X o G:=λG=>by delta qF;rw[bD.dQ T Vl,bD.dQ T Vl];simp
       induction hfa:f with
       |true=>
        subst hfa;refine rT rfl (dR ∎ (sj hw k (uG hk) s.ti (Ŀ d hN) V8 hq E.vm1 (Oq j m UA) (Oq j m UB) (qP E.QA<|ŀ) λr t3 D z y C=>Ce hc ar (Y81 d U JD) ?_));rw[bQ];refine fin (D.le<|Ł d) z (y _ (Ew UA) (Ew UB)<|qP E.QA<|ł j Y_) λG=>?_;rw[C,M,I,qv,qw,E.Fo];rw[show qF L i (den t.X u) G=(den t.X u (fm G i au)&&den t.X u (fm G i L)) from rfl,aaw,aax];cases den t.X v1 G<;>simp
       |false=>
        subst hfa;refine jh rfl (dR ∎ (sj hw k (uG hk) s.ti (Ŀ d hN) V8 E.v1 hq (Oq j m UA) (qP E.E_<|ŀ) (Oq j m UB) λr t3 D z y C=>Ce hc ar (Y81 d U JD) ?_));rw[bQ];refine fin (D.le<|Ł d) z (y _ (Ew UA) (qP E.E_<|ł j Y_)<|Ew UB) λG=>?_;rw[C,M,I,qv,qw,E.K9];rw[show qF au i (den t.X u) G=(den t.X u (fm G i au)||den t.X u (fm G i L)) from rfl,aaw,aax];cases den t.X v1 G<;>simp
      .refine GP (by simp[Hk]) (dR ∎ (JE hw s.ti (agD d hN) Fq vU V8 hq (UA) (UB) λr t3 D z y C=>Ce hc ar (Y81 d U JD) ?_));rw[bQ];refine fin (D.le<|agE d) z y λG=>?_;rw[C,M,I];delta qF;rw[Y!,Y!,mR Hk,mR Hk];cases G i<;>simp
    .intro KJ;refine(by simp,?_);show zb<|s9 j KJ
   by_cases ji:u<0
   .refine nu ji ?_;show bH _ _ _ (ij 33 YF) [] [] %[Y !V.x,Y ⇑u,Y ⇑0,Y<|.lst [.int lvl],Y !dv,Y<|.bool f,Y !c,Y ⇑i,Y ⇑_,Y ⇑_|4] _;refine tail (-v) (-w') S.neg Bi.neg (qP vT<|tZ) (qP vT<|th) λG=>?_;rw[bD.fC a qO hs,bD.iP S,bD.iP Bi];simp only[ji,decide_true];cases G i<;>simp
   .refine nC ji ?_;show bH _ _ _ (ij 33 YF) [] [] %[Y !V.x,Y ⇑u,Y ⇑0,Y<|.lst [.int lvl],Y !dv,Y<|.bool f,Y !c,Y ⇑i,Y ⇑_,Y ⇑_|4] _;refine tail v w' S Bi (tZ) (th) λG=>?_;rw[bD.fC a qO hs];simp only[ji,decide_false];cases G i<;>simp
end
section
variable{w:cC}
@[ext]abbrev aay(w:cC):List Ix:=(.c (.raw<|.builtin "isinstance")::.fn::.l 1::.c (.raw<|.type "dict")::.ca 2 []::.tr::.iff [.c<|.raw<|.type "dict",.fn,.l 1,.ca 1 [],.st 1] [.c<|.raw<|.builtin "isinstance",.fn,.l 1,.c<|.raw<|.type "set",.c<|.raw<|.type "frozenset",.tu 2,.ca 2 [],.tr,.iff [.c<|.raw<|.type "set",.fn,.l 1,.ca 1 [],.st 1] [.bad]]::.l 1::.tr::.no::.iff [.c<|.raw<|.builtin "isinstance",.fn,.l 1,.c<|.raw<|.type "dict",.ca 2 [],.tr,.iff [.c<|.raw<|.type "dict",.fn,.ca 0 [],.ret] [.c<|.raw<|.builtin "isinstance",.fn,.l 1,.c<|.raw<|.type "set",.ca 2 [],.tr,.iff [.c<|.raw<|.type "set",.fn,.ca 0 [],.ret] [.bad]]] []::.c (.raw<|.builtin "next")::[.fn,.c<|.raw<|.builtin "iter",.fn,.l 1,.ca 1 [],.ca 1 [],.st 2,.l 2,.l 0,.at "vars",.cm .NotIn,.tr,.iff [.l 0,.me "_assert_keys_are_levels",.l 1,.mc 1,.pop,.c<|.raw<|.builtin "isinstance",.fn,.l 1,.c<|.raw<|.type "dict",.ca 2 [],.tr,.iff [.er<|xR (dB (K1 w) 177) 0,.ret] [.c<|.raw<|.builtin "isinstance",.fn,.l 1,.c<|.raw<|.type "set",.ca 2 [],.tr,.iff [.er<|xR (dB (K1 w) 177) 1,.ret] [.bad]]] [],.c<|.raw<|.builtin "isinstance",.fn,.l 1,.c<|.raw<|.type "dict",.ca 2 [],.tr,.iff [.er<|xR (dB (K1 w) 177) 2,.ret] [.er<|xR (dB (K1 w) 177) 3,.ret]])
abbrev aaz:List Str:=["self","d","u"]
def aaA(h:∀ak,bH 5000 ↑hB (Hi ↑hB n 177 (iy (K1 w) 177) aaz Q ak) (aay w) [] [] [Y x0,Y a,R] O):Cl ↑hB (n+1) (!177) [x0,a] [] O Q:=Ct (oc:=.type "function") (od:=R) (osl:= #[]) (fd:=iy (K1 w) 177) (body:=dB (K1 w) 177) (Q:=Q) (nm:=aaz) (m:=[Y x0,Y a,R]) (ir:=λ_=>(aay w)) () () () () (Cd (x:=ah "self") (y:=ah "d") λc v1=>⋯) () () () (λak=>⋯) h
def F8{V:TA}{g:bf}(hw:Wf V)(hn:f6 t)(T:G∉V.list)(z:g G=Y (.dict [(.int x,.bool b)]))(Cv:101<=x)(GO:x<=104)(h:∀D,D∉V.list->g D=R->Q (!D) (t\(aB g D<|.dict [(.int<|eJ t x,.bool b)]))):Cl ↑hB (n+4) (!177) [.ref V.x,.ref G] [] (t\g) Q:=by
 let(S,hl,h0,h4):=hn.lvl Cv GO;refine Cl.sub (aaA λak=>HU (bz T z)<|rT rfl<|Hh T z (ei _) λD d DR=>?_);let i:aB g D (.dict [(.int x,.bool b)]) D=Y (.dict [(.int x,.bool b)]):=ar;refine Nl (bz d i) (ei _) (jh rfl<|NL d i rfl λo I U E j O H A=>NM d j O H E A rfl i ?_);simp only[EW];refine fB ∎ (yP ∎ (jh (by rw[S];rfl)<|HU (bz d i)<|rT rfl<|Yz (x:=ah "var") (y:=ah "val") (cl:=[(ah "self",ak+1)]) (ks:=[(ah "self",0)]) (it:=[.l 1,.me "items",.mc 0]) (el:=[.l 2,.at "vars",.l 1,.sb]) (el2:=[.c<|.raw<|.type "bool",.fn,.l 0,.ca 1 []]) () (⋯,⋯,⋯,⋯,⋯,(⋯,trivial),⋯,⋯) (λ_=>⋯,⋯) (λ_=>⋯,⋯) () (λ_=>⋯) (λ_=>⋯) (_,uY d i,⋯,?_)));refine qr (bz d i)<|mT (bz d i) ?_;intro m C M;let v:=M.none;clear i o I U E j O H A M;let(p,u):=d0 v;let J:m≠D:=λe=>by subst e;show cA u ar
 rw[aq J] at u;calc dc (λk bq=>U_<|bq=t\(aB (cD (aB g D<|.dict [(.int x,.bool b)]) D) m<|.dict<|if k=0 then [] else [(.int<|eJ t x,.bool b)])) ?_ ?_;
 .refine held ?_;show aB (cD _ D) m _=_;rw[eN d,aY p];rfl
 .rintro k a s f j;let rfl:s=_:=j;let Pa:k=0:=by have:=(aL.mp f).1;simp[nU] at this;show this
  subst Pa;let rfl:AV.tup [.int x,.bool b]=a:=by simpa [nU,EW] using f
  calc jo _ _ rfl;refine fB ∎ (A3 ∎ ∎ (O5<|nE _ ([]) rfl (bz p ar) (by simp) ?_));calc held;rw[aY p,bQ];rfl
 .clear v;rintro s j;let rfl:s=_:=j;refine aC (t\(aB g m<|.dict [(.int<|eJ t x,.bool b)])) ?_<|h m p u;show Sub _ (aB _ D _);rw[aY d];refine qx λa o f=>?_;by_cases q:a=m
  .subst q;rw[ar] at f;rw[aq J,ar];show f
  .rw[aq q] at f;let e2:a≠D:=λe=>by subst e;show cA DR f
   rw[aq e2,aq q,cx e2,aq e2];show f
def Gd{V:TA}(hw:Wf V)(hn:f6 t)(q:u∉V.list)(m:g u=Y (.set [x]))(U:101<=x)(T:x<=104)(h:∀D,D∉V.list->g D=R->Q (!D) (t\(aB g D<|.set [eJ t x]))):Cl ↑hB (n+4) (!177) [.ref V.x,.ref u] [] (t\g) Q:=by
 let(S,hl,h0,h4):=hn.lvl U T;refine Cl.sub (aaA λak=>zq (bz q m)<|jh rfl<|Lh (bz q m)<|rT rfl<|Bn q m (ei _) λD d DR=>?_);let i:aB g D (.set [x]) D=Y (.set [x]):=ar;refine HM (bz d i) (ei _) (jh rfl<|NN d i λo I io G f O H E=>NO d f O H G E (by simp) i λy hy=>?_);clear u q m U T hl h0 h4 o I io G f O H E;let rfl:y=x:=by simpa using hy
 refine fB ∎ (yP ∎ (jh (by rw[S];rfl)<|zq (bz d i)<|jh rfl<|U9 (x:=ah "k") (cl:=[(ah "self",ak+1)]) (ks:=[(ah "self",0)]) (it:=[.l 1]) (el:=[.l 1,.at "vars",.l 0,.sb]) () (⋯,⋯,⋯,⋯,⋯,(⋯,trivial),⋯,⋯) (λ_=>⋯,⋯) () (λ_=>⋯)<|rj λ_=>AR (bz d i) λl JD=>?_));clear i;let rfl:l=[y]:=ru.mp JD;intro j C M;let A:=M.none;clear M;let(p,z):=d0 A;let J:j≠D:=λe=>by subst e;show cA z ar
 rw[aq J] at z;calc dc (λk bq=>U_<|bq=t\(aB (cD (aB g D<|.set [y]) D) j<|.set<|if k=0 then [] else [eJ t y])) ?_ ?_;
 .refine held ?_;show aB (cD _ D) j _=_;rw[eN d,aY p];rfl
 .rintro k a v c f;let rfl:v=_:=f;let Pa:k=0:=by have:=(aL.mp c).1;simp[setItems] at this;show this
  subst Pa;let rfl:AV.int y=a:=by simpa [setItems] using c
  refine fB ∎ (A3 ∎ ∎ (_,[],rfl,bz p ar,by simp,?_));calc held;rw[aY p,bQ];rfl
 .clear A;rintro v f;let rfl:v=_:=f;refine aC (t\(aB g j<|.set [eJ t y])) ?_<|h j p z;show Sub _ (aB _ D _);rw[aY d];refine qx λa o c=>?_;by_cases s:a=j
  .subst s;rw[ar] at c;rw[aq J,ar];show c
  .rw[aq s] at c;let e2:a≠D:=λe=>by subst e;show cA DR c
   rw[aq e2,aq s,cx e2,aq e2];show c
end
section
variable{w:cC}
@[ext]abbrev alP:List Ix:=(.c (.raw<|.builtin "len")::.fn::.l 2::.ca 1 []::.c (.raw<|.builtin "len")::.fn::.l 0::.at "vars"::.ca 1 []::.cm .Eq::.tr::.iff [.c .none,.ret] []::.l 1::.ab::.st 4::.l 4::.l 3::.cm .In::.tr::.iff [.c .none,.ret] []::.l 3::.me "add"::.l 4::.mc 1::.pop::.l 4::.c ⇑1::.cm .Eq::.tr::.iff [.c .none,.ret] []::.l 0::.at "_succ"::.l 4::.sb::.un 3::.st 5::.st 6::.st 7::.l 6::.tr::.no::.iff [.bad] []::.l 7::.tr::.no::[.iff [.bad] [],.l 2,.me "add",.l 5,.mc 1,.pop,.l 0,.tl,.l 6,.l 2,.l 3,.mf 232 3 [],.pop,.l 0,.tl,.l 7,.l 2,.l 3,.mf 232 3 [],.pop])
abbrev alQ:List Str:=["self","u","levels","nodes","r","i","v","w"]
def aaB(h:FH w B hB n 232 alQ alP %[Y x0,Y d,Y c,Y a|4] O Q):Cl ↑hB (n+1) (!232) [x0,d,c,a] [] O Q:=fn4 h ⋯ ⋯
def JK{V:TA}(hw:Wf V)(hx:TI t e aw)(NJ:a1∉V.list)(z:a2∉V.list)(de:a1≠a2):∀(k:Nat) {n:Nat} {h2:Nat} {g:bf} {ls ns:List Int} {u:Int} {Q:AV->bf->Prop},k<=4->bc t.X Z0 u->4-k<=lv t.X u->g a1=Y (.set ls)->g a2=Y (.set ns)->ls.Nodup->(∀x∈ls,0<=x/\x<4)->(∀r∈ns,lv t.X u<=lv t.X r->∀l,dep t.X r l->l∈ls)->ns.length<=h2->h2+ic k+1<=3900->(∀s G4,(∀x,x∈ls->x∈s)->(∀x∈s,x∈ls\/dep t.X u x)->(∀l,dep t.X u l->l∈s)->s.Nodup->(∀r∈G4,r∈ns\/(lv t.X u<=lv t.X r/\∀l,dep t.X r l->l∈s))->G4.length<=h2+ic k+1->Q .none (t\(aB (aB g a1<|.set s) a2<|.set G4)))->Cl ↑hB (n+k+1) (!232) [.ref V.x,.int u,.ref a1,.ref a2] [] (t\g) Q:=by
 let bD:=hx.inv.good;intro k
 induction k with
 |zero=>
  intro n h2 g ls ns u Q hk c O o j a m uC d p h
  let J:ls.length<=4:=by show bS a (l₂:=[0,1,2,3]) λx T=>by have:=m x T;simp;show Y44 this
  let qO:=bD.ZG c<|æ O;let Ls:∀l,¬dep t.X u l:=λl=>bD.Pm<|agF qO;refine aaB λak=>Cq NJ o (Y52 J) (fB ∎ (qt (t:=t) hw (by rw[hx.nv];decide) ?_))
  let D:Q .none (t\g):=by have:=h ls ns (λ_ h=>h) (λ_ h=>.inl h) (λl hl=>absurd hl<|Ls l) a (λr hr=>.inl hr)<|Δ d;rwa [eh o,eh j] at this
  by_cases C:ls.length=4
  .show rT (by rw[hx.nv];simp[C]) D
  refine GP (by rw[hx.nv];simp;show Ń C)<|O8 z j (WB p d) ?_;by_cases A:(aT u:Int)∈ns
  .show nu A D
  refine nC A (_,jj z j,⋯,?_);refine gU z j (WB p d)<|nu (Y76 qO) ?_;have:=h ls (ff ns u.natAbs) (λ_ h=>h) (λ_ h=>.inl h) (λl hl=>absurd hl<|Ls l) a (λr hr=>(f5.mp hr).elim .inl λe=>.inr (by rw[e,pk];show dm _,λl hl=>absurd ((bD.Ek c).mp (e▸hl))<|Ls l)) (by have:= @Bl ns u.natAbs;show Ε this d);rwa [eh o] at this
 |succ k ih=>
  intro n h2 g ls ns u Q hk c O o j a m uC d p h;let pC:ic (k+1)=2*ic k+2:=rfl
  let J:∀{ls:List Int},ls.Nodup->(∀x∈ls,0<=x/\x<4)->ls.length<=4:=fun{ls} a m=>by show bS a (l₂:=[0,1,2,3]) λx T=>by have:=m x T;simp;show Y44 this
  refine aaB (n:=n+k+1) λak=>Cq NJ o (by have:=J a m;show Y52 this) (fB ∎ (qt (t:=t) hw (by rw[hx.nv];decide) ?_))
  let D:(∀l,dep t.X u l->l∈ls)->Q .none (t\g):=λhd=>by have:=h ls ns (λ_ h=>h) (λ_ h=>.inl h) hd a (λr hr=>.inl hr)<|Δ d;rwa [eh o,eh j] at this
  by_cases C:ls.length=4
  .refine rT (by rw[hx.nv];simp[C]) ?_;show D λl hl=>by have:=bD.t8 c hl;have:=bD.gK c;show all_levels a m C l (ġ ∎ this)<|ì ∎
  refine GP (by rw[hx.nv];simp;show Ń C)<|O8 z j (WB p d) ?_;by_cases A:(aT u:Int)∈ns
  .show nu A (D λl hl=>uC _ A (pS pk<|dm _) l<|(bD.Ek c).mpr hl)
  refine nC A (_,jj z j,⋯,?_);calc gU z j (WB p d);let G:= @Bl ns u.natAbs;rcases bD.split c with⟨qO,Ĉ⟩|⟨qO,_,i,v,w',hs,f,Fq,vU,Ni,Q7,S,Bi,y,E⟩
  .let Ls:∀l,¬dep t.X u l:=λl=>bD.Pm<|qO;calc nu (Zq qO);have:=h ls (ff ns u.natAbs) (λ_ h=>h) (λ_ h=>.inl h) (λl hl=>absurd hl<|Ls l) a (λr hr=>(f5.mp hr).elim .inl λe=>.inr (by rw[e,pk];show dm _,λl hl=>absurd ((bD.Ek c).mp (e▸hl))<|Ls l))<|Ε G d;rwa [eh o] at this
  let U:∀l,dep t.X u l↔l=i\/dep t.X v l\/dep t.X w' l:=λl=>bD.Bk hx.inv.inj c qO hs;refine GP (by simp;show xi ∎)<|cP ∎ (lD ∎ ∎ (w3 (bD.C6 S)<|w3 (bD.C6 Bi) ?_));let I:aB g a2 (.set<|ff ns u.natAbs) a1=Y (.set ls):=by calc pS (aq de);show o
  refine(_,jj NJ I,⋯,?_);refine gU NJ I (by have:=J a m;show Y52 this)<|dR ∎ ?_;let Y?:∀x∈ff ls i,0<=x/\x<4:=λx T=>(f5.mp T).elim (m x) λe=>agG e Fq vU;refine ih (h2:=h2+1) (uG hk) S (Oq f O y) ar (pS (aq<|aE de) ar) (pE a) Y? (λr hr hl l hd=>?_) (i! G d) (agH pC p) λq ώ p1 p2 p3 p4 p5 p6=>?_
  .rcases f5.mp hr with hr|rfl
   .show f5.mpr<|.inl<|uC r hr (ä f hl y) l hd
   .rw[pk] at hl;show(ń f y hl).elim
  calc dR ∎;let alS:∀x∈q,0<=x/\x<4:=λx T=>(p2 x T).elim (Y? x) λhd=>by have:=bD.t8 S hd;have:=bD.gK S;show ajc ∎ Fq y
  let H:∀r∈ώ,r∈ns\/r=u.natAbs\/(lv t.X v<=lv t.X r/\∀l,dep t.X r l->l∈q):=λr hr=>by
   rcases p5 r hr with hr|hr
   .show(f5.mp hr).elim .inl λe=>.inr<|.inl e
   .show .inr<|.inr hr
  refine ih (h2:=h2+1+ic k+1) (uG hk) Bi (Oq f O E) (pS (aq de) ar) ar p4 alS (λr hr hl l hd=>?_) (p6) (agI pC p) λls2 ϓ M q2 q3 q4 q5 q6=>?_
  .rcases H r hr with hr|rfl|⟨_,hr⟩
   .show p1 _<|f5.mpr<|.inl<|uC r hr (ä f hl E) l hd
   .rw[pk] at hl;show(ń f E hl).elim
   .show hr l hd
  let jL:∀l,dep t.X u l->l∈ls2:=λl hl=>by
   clear hs f Fq vU y E Y? p2;rcases(U l).mp hl with rfl|hl|hl
   .show M _<|p1 _<|f5.mpr<|.inr rfl
   .show M _<|p3 l hl
   .show q3 l hl
  have:=h ls2 ϓ (λx T=>M _<|p1 _<|f5.mpr<|.inl T) (λx T=>?_) jL q4 (λr hr=>?_)<|agJ pC q6
  .let hgg:aB (aB (aB (aB (aB (aB g a2<|.set<|ff ns u.natAbs) a1<|.set<|ff ls i) a1<|.set q) a2<|.set ώ) a1<|.set ls2) a2 (.set ϓ)=aB (aB g a1<|.set ls2) a2 (.set ϓ):=by funext b;delta aB;by_cases e1:b=a1<;>by_cases e2:b=a2<;>simp[e1,e2]
   rw[hgg];show this
  .rcases q2 x T with T|T
   .rcases p2 x T with T|T
    .show(f5.mp T).elim .inl λe=>.inr<|(U x).mpr (.inl e)
    .show .inr<|(U x).mpr (.inr<|.inl T)
   .show .inr<|(U x).mpr (.inr<|.inr T)
  .rcases q5 r hr with hr|⟨hl,hr⟩
   .clear q5 q6;rcases H r hr with hr|rfl|⟨hl,hr⟩
    .show .inl hr
    .show .inr (by calc pS pk;show dm _,λl hl=>jL l<|(bD.Ek c).mp hl)
    .show .inr (ä f hl y,λl hl=>M _<|hr l hl)
   .show .inr (ä f hl E,hr)
end
section
variable{w:cC}
@[ext]abbrev aaE(w:cC):List Ix:=[.c<|.raw<|.type "set",.fn,.ca 0 [],.st 3,.c<|.raw<|.type "set",.fn,.ca 0 [],.st 4,.l 0,.tl,.l 1,.l 3,.l 4,.mf 232 3 [],.pop,.l 2,.tr,.iff [.l 3,.ret] [],.er<|xR (dB (K1 w) 225) 0,.ret]
abbrev aaF:List Str:=["self","u","as_levels","levels","nodes"]
def alU(e:Binds ↑hB (iy (K1 w) 225) as d [(ah "as_levels",a),(ah "u",c),(ah "self",x0)])(h:∀ak,bH 5000 ↑hB (Hi ↑hB n 225 (iy (K1 w) 225) aaF Q ak) (aaE w) [] [] %[Y x0,Y c,Y a|2] O):Cl ↑hB (n+1) (!225) as d O Q:=Ct (oc:=.type "function") (od:=R) (osl:= #[]) (fd:=iy (K1 w) 225) (body:=dB (K1 w) 225) (Q:=Q) (nm:=aaF) (m:=%[Y x0,Y c,Y a|2]) (ir:=λ_=>(aaE w)) () () () () e () () () (λak=>⋯) h
def Br{k:Nat}(h:(setItems l)[k]?=Y a):∃i,l[k]?=Y i/\a=.int i:=by
 delta setItems at h;rw[bb] at h
 induction e:l[k]? with|none=>rw[e] at h;cases h|some i=>rw[e] at h;show(aC i rfl<|by simpa using h.symm)
def Bt{V:TA}{g:bf}(hw:Wf V)(hx:TI t e aw)(hn:f6 t)(f:bc t.X Z0 u)(h:∀D xs,D∉V.list->g D=R->xs.Nodup->(∀x,x∈xs↔∃l,dep t.X u l/\x=lH t l)->Q (!D) (t\(aB g D<|.set xs))):Cl ↑hB (n+8) (!225) [.ref V.x,.int u] [] (t\g) Q:=by
 let bD:=hx.inv.good;refine Cl.sub (alU (LB (x:=ah "self") (y:=ah "u") (z:=ah "as_levels") (hx:=220) (dvs:= #[.bool au]) (k0:=0) (d:=.bool au) rfl rfl () λv u=>(aC _ rfl ⋯)) λak=>nh λa1 E Av=>nh λa2 Lx C4=>dR ∎ ?_);let p:a1≠a2:=λe=>by subst e;show cA C4 ar
 rw[aq (aE p)] at C4;rw[show n+7=(n+2)+4+1 from agK];refine JK hw hx E Lx p 4 (h2:=0) ∅ f (by have:=bD.gK f;show Y7 this) (by rw[aq p];show ar) ar .nil (by simp) (by simp) (by simp) ∅ λls ns p1 p2 p3 p4 p5 p6=>?_;rw[show(n+2)+4+1=n+7 from agL];refine jh rfl (U9 (x:=ah "i") (cl:=[(ah "self",ak+1)]) (ks:=[(ah "self",0)]) (it:=[.l 3]) (el:=[.l 1,.tl,.l 0,.mf 157 1 []]) () (⋯,⋯,⋯,⋯,⋯,(⋯,trivial),⋯,⋯) (λ_=>⋯,⋯) () (λ_=>⋯) ?_)
 let zc:ls.length<=4:=by
  have:=bS p4 (l₂:=[0,1,2,3]) λx T=>by
   rcases p2 x T with T|T
   .cases T
   .have:=bD.t8 f T;have:=bD.gK f;simp;show ajd ∎ this
  show this
 refine rj λ_=>AR (bz E<|by rw[aq p];show ar) λl hl=>?_;intro D C UI;let hD:=UI.none;clear Lx UI;let(A,q):=d0 hD;let U:D≠a1:=λe=>by subst e;rw[aq p,ar] at q;cases q
 let O:D≠a2:=λe=>by subst e;show cA q ar
 let DR:g D=R:=by rwa [aq O,aq U,aq O,aq U] at q
 let En:∀i∈l,dep t.X u i:=λi c=>(p2 i<|hl.mem_iff.mp c).elim (λh=>by cases h) id;refine(λk bq=>∃xs:List Int,bq=t\(aB (cD (aB (aB (aB (aB g a1<|.set []) a2<|.set []) a1<|.set ls) a2<|.set ns) a1) D<|.set xs)/\xs.Nodup/\xs.length<=k/\∀x,x∈xs↔∃i∈l.take k,x=lH t i,(kU ([]) ?_ (.nil) (by simp)<|by simp),?_,?_)
 .show aB (cD _ a1) D _=_;rw[eN E,aY A]
 .intro k a bu ha ec;let(xs,rfl,G,M,JL):=ec;let(i,c,rfl):=Br ha;let xe:k<l.length:=(aL.mp c).1;let Ij:k<4:=by have:=hl.length_eq;show agM this zc xe
  let hd:=En i<|bo c;let H:=bD.t8 f hd;let s:=bD.gK f;clear ha hd;let(n1,n2,n3):=hn.nm (l:=i) (ġ H s)<|ì H;refine dR ∎ (vX hw n1 (_,xs,rfl,bz A ar,agN M Ij,?_));refine(kU (ff xs<|lH t i) ?_ (pE G) (by have:= @Bl xs (lH t i);show i! this M)<|λx=>?_)
  .rw[aY A,bQ]
  .rw[f5,JL,fL,c];simp only[Aq,cy,aV];constructor
   .rintro (⟨j,I,rfl⟩|rfl)
    .show aC j (.inl I) rfl
    .show aC i (.inr rfl) rfl
   .clear u f h p2 p3 p5 En c H s n1 n2 n3;rintro ⟨j,I|rfl,rfl⟩
    .show .inl<|aC j I rfl
    .show .inr rfl
 .clear p hD q O;rintro bu ⟨xs,rfl,G,M,JL⟩;refine aC (t\(aB g D<|.set xs)) ?_ (h D xs A DR G λx=>?_)
  .show Sub _ (aB _ a1 _);refine qP (aY E) (qx λb o m=>?_);by_cases J:b=D
   .subst J;rw[ar] at m;rw[aq U,ar];show m
   .rw[aq J] at m;let e2:b≠a1:=λe=>by subst e;show cA Av m
    let e3:b≠a2:=λe=>by subst e;show cA C4 m
    rw[aq e2,aq J,cx e2,aq e3,aq e2,aq e3,aq e2];show m
  .rw[JL,show(setItems l).length=l.length by simp[setItems],jV];constructor
   .rintro ⟨i,c,rfl⟩;show aC i (En i c) rfl
   .rintro ⟨i,c,rfl⟩;show aC i (hl.mem_iff.mpr<|p3 i c) rfl
end
section
variable{w:cC}{n:Nat}
@[ext]abbrev alV:List Ix:=(.l 1::.c ⇑1::.cm .Eq::.tr::.iff [.c ⇑1,.ret] []::.l 1::.c ⇑1::.ng::.cm .Eq::.tr::.iff [.c ⇑0,.ret] []::.l 0::.at "_succ"::.l 1::.ab::.sb::.un 3::.st 4::.st 5::.st 6::.l 5::.tr::.no::.iff [.bad] []::.l 6::.tr::.no::.iff [.bad] []::.l 2::.l 4::.sb::.st 4::.l 1::.ab::.l 3::.cm .In::.tr::.iff [.l 3,.l 1,.ab,.sb,.st 7,.l 1,.c ⇑0,.cm .Lt,.tr,.iff [.c ⇑2,.l 2,.c<|.str "all",.sb,.l 4,.bi .Sub,.bi .Pow,.l 7,.bi .Sub,.st 7] [],.l 0,.ms "_assert_int",.l 7,.mt 1,.ret] []::.l 0::.tl::.l 5::.l 2::.l 3::.mf 430 3 []::.st 8::.l 0::.tl::.l 6::.l 2::.l 3::.mf 430 3 []::.st 9::.l 0::.at "_succ"::.l 5::.ab::.sb::.un 3::.st 10::.st 11::.st 11::.l 0::.at "_succ"::.l 6::.sb::.un 3::.st 12::.st 11::.st 11::.l 2::.l 10::.sb::.st 10::.l 2::.l 12::.sb::.st 12::.l 0::.ms "_assert_int"::.l 8::.c ⇑2::.l 10::.l 4::.bi .Sub::.c ⇑1::.bi .Sub::.bi .Pow::.bi .Mult::.l 9::.c ⇑2::.l 12::.l 4::.bi .Sub::.c ⇑1::.bi .Sub::[.bi .Pow,.bi .Mult,.bi .Add,.mt 1,.st 7,.l 7,.l 3,.l 1,.ab,.ss,.l 1,.c ⇑0,.cm .Lt,.tr,.iff [.c ⇑2,.l 2,.c<|.str "all",.sb,.l 4,.bi .Sub,.bi .Pow,.l 7,.bi .Sub,.st 7] [],.l 0,.ms "_assert_int",.l 7,.mt 1,.ret])
abbrev alW:List Str:=["self","u","map_level","d","i","v","w","n","nv","nw","iv","_","iw"]
def aaG(f:Binds ↑hB (iy (K1 w) 430) as e [(ah "d",a),(ah "map_level",c),(ah "u",d),(ah "self",x0)])(h:FH w B hB n 430 alW alV %[Y x0,Y d,Y c,Y a|9] O Q):Cl ↑hB (n+1) (!430) as e O Q:=RP f h ⋯
@[ext]abbrev alX:List Ix:=[.c<|.raw<|.builtin "isinstance",.fn,.l 0,.c<|.raw<|.type "int",.ca 2 [],.tr,.iff [.l 0,.ret] [],.bad]
abbrev alY:List Str:=["number"]
def alZ(h:FH w B hB n 420 alY alX [Y x0] O Q):Cl ↑hB (n+1) (!420) [x0] [] O Q:=fn1 h ⋯ ⋯
def jO(h:Q ⇑i O):Cl ↑hB (n+1) (!420) [.int i] [] O Q:=by show alZ λak=>pZ<|rT rfl h
def Ik{V:TA}(c:Wf V)(h:P !420):Ms1 ↑hB (t\g) (!V.x) (ah "_assert_int") P:=(.ref 420,by
 let(a,d):=alw (w:=w);show QQ (fi c) k_inst alv alq alr als alu aly alx d rfl,alz,h)
def PD(c:0<=a)(J:a<=16):IntMulOk a b:=CS (by
 let(k,rfl):∃k:Fin 17,a=(k.val:Int):=((a.toNat,by show aje J),(rn c).symm)
 revert k;decide)
structure Z5(BY:List (K0×AV))(ae:Int->Prop)(mp:Int->Int):Prop where
 get:∀l,ae l\/l=4->N BY ⇑l=Y ⇑(mp l)
 all:N BY (.str<|ah "all")=Y ⇑4
 top:mp 4=4
 pos:∀l,ae l->0<=mp l
 lt:∀l l',ae l->ae l'\/l'=4->l<l'->mp l<mp l'
nonrec def LU{hB:cp w B}{V:TA}{aw:Nat}{ac:aW}(hw:Wf V)(hx:TI t e aw)(hR:∀l,ae l->0<=l/\l<4)(d:Z5 BY ae mp)(p:I∉V.list)(M:ac∉V.list)(de:I≠ac):∀(k:Nat) {n:Nat} {h2:Nat} {g:bf} {l:List (Int×Int)} {u:Int} {f:List (Str×AV)} {as:List AV} {Q:AV->bf->Prop},k<=4->bc t.X Z0 u->4-k<=lv t.X u->(∀l,dep t.X u l->ae l)->(as=[.ref V.x,.int u,.ref I,.ref ac]/\f=[]\/as=[.ref V.x,.int u,.ref I]/\f=[(ah "d",.ref ac)])->g I=Y (.dict BY)->g ac=Y (.dict<|eC l)->(∀r c,N l r=Y c->c*2^(mp<|lv t.X r).toNat=cnt (den t.X r))->l.length<=h2->h2+ic k<=80000->(∀c l',c*2^(mp<|lv t.X u).toNat=cnt (den t.X u)->(∀r c,N l' r=Y c->c*2^(mp<|lv t.X r).toNat=cnt (den t.X r))->l'.length<=h2+ic k->Q ⇑c (t\(aB g ac<|.dict<|eC l')))->Cl ↑hB (n+k+2) (!430) as f (t\g) Q:=by
 let bD:=hx.inv.good
 let hb1:∀{u:Int} {as:List AV} {f:List (Str×AV)},(as=[.ref V.x,.int u,.ref I,.ref ac]/\f=[]\/as=[.ref V.x,.int u,.ref I]/\f=[(ah "d",.ref ac)])->Binds ↑hB (iy (K1 w) 430) as f [(ah "d",.ref ac),(ah "map_level",.ref I),(ah "u",.int u),(ah "self",.ref V.x)]:=by
  rintro u as f (⟨rfl,rfl⟩|⟨rfl,rfl⟩)
  .show HZ λv w u q=>by kernel_rfl
  .show Rc λv w u q=>by kernel_rfl
 intro k
 induction k with
 |zero=>
  intro n h2 g l u f as Q hk E lu Ċ o Wk z D m xf h;refine aaG (hb1 o) λak=>?_;clear f as Ċ o;rcases bD.ZG E (æ lu) with rfl|rfl
  .refine rT rfl ?_;have:=h 1 l (by rw[bD.E_,d.top,bD.aaj];decide) D<|Kg m;rwa [eh z] at this
  .refine jh rfl<|rT rfl ?_;have:=h 0 l (by rw[bD.QA,d.top,bD.Z1];decide) D<|Kg m;rwa [eh z] at this
 |succ k ih=>
  intro n h2 g l u f as Q hk E lu Ċ o Wk z D m xf h;let pC:ic (k+1)=2*ic k+2:=rfl;refine aaG (n:=n+k+2) (hb1 o) λak=>?_;clear f as o;rcases bD.split E with⟨qO,Ĉ⟩|⟨qO,_,i,v,w',hs,H,Fq,vU,Ni,Q7,S,Bi,tZ,th⟩
  .clear E lu Ċ Ĉ;rcases(show u=1\/u= -1 from Ζ qO) with rfl|rfl
   .refine rT rfl ?_;have:=h 1 l (by rw[bD.E_,d.top,bD.aaj];decide) D (Kg m);rwa [eh z] at this
   .refine jh rfl (rT rfl ?_);have:=h 0 l (by rw[bD.QA,d.top,bD.Z1];decide) D (Kg m);rwa [eh z] at this
  let NV:∀l,dep t.X u l↔l=i\/dep t.X v l\/dep t.X w' l:=λl=>bD.Bk hx.inv.inj E qO hs;let s:ae i:=Ċ i ((NV i).mpr (.inl rfl))
  let aaJ:∀{x:Int},bc t.X Z0 x->(∀l,dep t.X x l->ae l)->ae (lv t.X x)\/lv t.X x=4:=fun{x} T hd=>by
   rcases bD.split T with⟨_,h4⟩|⟨Cv,_,j,a,b,hsx,hj,_⟩
   .show .inr h4
   .show .inl (hj▸hd j ((bD.Bk hx.inv.inj T Cv hsx).mpr (.inl rfl)))
  let BX:∀l,dep t.X v l->ae l:=λl m=>Ċ l ((NV l).mpr (.inr (.inl m)));let A?:∀l,dep t.X w' l->ae l:=λl m=>Ċ l ((NV l).mpr (.inr (.inr m)));let U:=aaJ S BX;let O:=aaJ Bi A?;let y:=d.pos i s;let BZ:=d.lt i _ s U tZ;let J:=d.lt i _ s O th;let C:mp i<4:=by have:=d.lt i 4 s (.inr rfl) (vU);rw[d.top] at this;show this
  let aaK:∀{x:Int},ae x\/x=4->mp x<=4:=fun{x} T=>by
   rcases T with T|rfl
   .have:=d.lt x 4 T (.inr rfl) (by have:=hR x T;show ì this);rw[d.top] at this;show Ew this
   .rw[d.top];show PW
  let al5:=aaK U;let al6:=aaK O;let aaL:(decide (u<0)=au->den t.X (aT u:Int)=den t.X u):=λhn=>by rw[show(aT u:Int)=u by simp at hn;show Ž hn]
  let Z6:u<0->cnt (den t.X u)=16-cnt (den t.X (aT u:Int)):=λhn=>Yt λG=>by have:bc t.X Z0 (aT u:Int):=Fn.mpr E;rw[show(aT u:Int)= -u from Η hn,bD.iP E];simp
  refine GP (by simp;show Ρ ∎) (GP (by simp;show ajf ∎)<|cP ∎ (lD ∎ ∎ (w3 (bD.C6 S)<|w3 (bD.C6 Bi)<|eQ (bz p Wk) rfl (d.get i<|.inl s)<|Np M z ?_)))
  induction uD:N l (aT u:Int) with
  |some c=>
   let hc:=D _ _ uD;rw[pk,H] at hc;let hbd:=zX<|den t.X (aT u:Int);refine rT rfl<|Nq M z uD ?_;by_cases A:u<0
   .refine nu A<|eQ (bz p Wk) rfl d.all<|pX (Ņ C) (ņ y) ∅ (Ik ∎ (jO ?_));have:=h ((2:Int)^(4-mp i).toNat-c) l (by rw[H,Z6 A,show(4-mp i).toNat=4-(mp i).toNat from Ň y];show Pp hc<|ň C) D (Kg m)
    rwa [eh z] at this
   .refine nC A<|Ik ∎ (jO ?_);have:=h c l (by rw[H,<-aaL (by simp;show R4 A)];show hc) D<|Kg m;rwa [eh z] at this
  |none=>
   refine jh rfl (dR ∎ (ih (h2:=h2) (uG hk) S (Oq H lu tZ) BX (.inl (rfl,rfl)) Wk z D m (VV pC xf) λnv l1 hnv C1 MA=>dR ∎ (ih (h2:=h2+ic k) (uG hk) Bi (Oq H lu th) A? (.inl (rfl,rfl)) (by rw[aq de];show Wk) ar C1 MA (ç pC xf) λnw l2 ó C2 JD=>?_)));rw[bQ];let aaM:aB g ac (.dict<|eC l2) I=Y (.dict BY):=by rw[aq de];show Wk
   let(v1,v2,hgv):=S.get;let(w1,w2,hgw):=Bi.get;rw[show(aT w':Int)=w' from i? Ni] at hgw;refine cP ∎ (gh ∎ ∎ (cP ∎ (gh ∎ ∎ (eQ (bz p aaM) rfl (d.get _ U)<|eQ (bz p aaM) rfl (d.get _ O)<|Ik ∎ ?_))));let hbv:=NK hnv (zX _).1 (zX _).2;let ON:=NK ó (zX _).1 (zX _).2;refine pX (ŉ BZ) (Ŋ y al5) ∅ (vL (PD hbv.1 hbv.2)<|pX (ŉ J) (Ŋ y al6) ∅ (vL (PD ON.1 ON.2)<|jO ?_));let hp:bc t.X Z0 (aT u:Int):=Fn.mpr E
   let GZ:2*cnt (den t.X (aT u:Int))=cnt (den t.X v)+cnt (den t.X w'):=
    UG (bD.in4 S) (bD.in4 Bi) Fq vU (λG b=>bD.dQ S tZ G b) (λG b=>bD.dQ Bi th G b) λG=>by rw[bD.fC hp (ğ ∎) (by rw[show((aT u:Int).natAbs:Int)=u.natAbs from ê];show hs)];rw[show decide ((aT u:Int)<0)=au from decide_eq_false (k?)];simp
   let ú:(nv*2^(mp (lv t.X v)-mp i-1).toNat+nw*2^(mp (lv t.X w')-mp i-1).toNat)*2^(mp i).toNat=cnt (den t.X (aT u:Int)):=by rw[show(mp (lv t.X v)-mp i-1).toNat=(mp<|lv t.X v).toNat-(mp i).toNat-1 from ŋ BZ y,show(mp (lv t.X w')-mp i-1).toNat=(mp<|lv t.X w').toNat-(mp i).toNat-1 from ŋ J y];show UH hnv ó (Ō y BZ) (Ō y J) GZ
   generalize nv*2^(mp (lv t.X v)-mp i-1).toNat+nw*2^(mp (lv t.X w')-mp i-1).toNat=nn at ú⊢;calc Ce M ar (ķ pC xf JD);rw[bQ]
   let C3:∀r c,N (bl l2 (aT u:Int) nn) r=Y c->c*2^(mp<|lv t.X r).toNat=cnt (den t.X r):=λr c hr=>by
    rw[aX] at hr;split at hr
    .rename_i e;subst e;replace hr:=ax hr;subst hr;rw[pk,H];show ú
    .show C2 r c hr
   let cL:= @dO _ _ _ l2 (aT u:Int) nn;by_cases A:u<0
   .refine nu A (eQ (bz p<|by rw[aq de];show Wk) rfl d.all<|pX (Ņ C) (ņ y) ∅ (Ik ∎ (jO ?_)));show h ((2:Int)^(4-mp i).toNat-nn) _ (by rw[H,Z6 A,show(4-mp i).toNat=4-(mp i).toNat from Ň y];show Pp ú<|ň C) C3<|ō pC cL JD
   .show nC A (Ik ∎ (jO<|h nn _ (by rw[H,<-aaL (by simp;show R4 A)];show ú) C3<|ō pC cL JD))
end
section
variable{V:TA}
variable{w:cC}{n:Nat}
@[ext]abbrev i57:List Ix:=[.l 1,.ab,.l 0,.at "_succ",.cm .In,.ret]
abbrev n57:List Str:=["self","u"]
def f57(h:FH w B hB n 57 n57 i57 [Y x0,Y a] O Q):Cl ↑hB (n+1) (!57) [x0,a] [] O Q:=Wh h ⋯ ⋯
@[ext]abbrev YG(w:cC):List Ix:=(.l 2::.st 3::.l 1::.ab::.l 0::.cm .NotIn::.tr::.iff [.bad] []::.sr (za (dB (K1 w) 413) 0)::.c (.raw<|.builtin "len")::.fn::.l 4::.ca 1 []::.st 5::.l 3::.c .none::.cm .Is::.tr::.iff [.l 5,.st 3] []::.l 3::.l 5::.bi .Sub::.st 6::.l 6::.c ⇑0::.cm .Lt::.tr::.iff [.bad] []::.c (.raw<|.type "dict")::.fn::.ca 0 []::.st 7::.sr (za (dB (K1 w) 413) 1)::.l 0::.at "_succ"::.c ⇑1::.sb::.un 3::.st 9::.st 10::.st 10::.l 3::.l 7::.l 9::.ss::.l 3::.l 7::.c (.str "all")::.ss::.l 0::.tl::.l 1::.l 7::.c (.raw<|.type "dict")::.fn::.ca 0 []::.mf 430 2 ["d"]::.st 11::.l 0::.at "_succ"::.l 1::.ab::[.sb,.un 3,.st 12,.st 10,.st 10,.l 7,.l 12,.sb,.st 12,.l 11,.c ⇑2,.l 12,.bi .Pow,.bi .Mult,.st 13,.l 0,.ms "_assert_int",.l 13,.mt 1,.ret])
abbrev Z!:List Str:=["self","u","nvars","n","levels","k","slack","map_level","new","old","_","r","i","n_models"]
def al8(e:Binds ↑hB (iy (K1 w) 413) as d [(ah "nvars",a),(ah "u",c),(ah "self",x0)])(h:∀ak,bH 5000 ↑hB (Hi ↑hB n 413 (iy (K1 w) 413) Z! Q ak) (YG w) [] [] %[Y x0,Y c,Y a|11] O):Cl ↑hB (n+1) (!413) as d O Q:=Ct (oc:=.type "function") (od:=R) (osl:= #[]) (fd:=iy (K1 w) 413) (body:=dB (K1 w) 413) (Q:=Q) (nm:=Z!) (m:=%[Y x0,Y c,Y a|11]) (ir:=λ_=>(YG w)) () () () () e () () () (λak=>⋯) h
def Z?{l:List Int}(i:l.Pairwise (· <=·))(T:x∈l)(g:y∈l)(h:x<y):l.idxOf x<l.idxOf y:=by
 refine Nat.lt_of_not_le λc=>?_;let d:=ft T;let a:=ft g;let f:l[l.idxOf x]=x:=sY d;let e:l[l.idxOf y]=y:=sY a;rcases Nat.lt_or_eq_of_le c with j|heq
 .have:=lZ.mp i _ _ a d j;rw[f,e] at this;show agO this h a
 .have:y=x:=by rw[<-f,<-e];congr 1
  show agP this h a
def Hm(a:Wf V)(h:Q (.bool (N t.X (aT u:Int)).isSome) (t\g)):Cl ↑hB (n+1) (!57) [.ref V.x,.int u] [] (t\g) Q:=by show f57 λak=>cP ∎ (K5 ∎ h)
def vZ(a:Wf V)(c:bc t.X d u)(h:Q (.bool au) (t\g)):pb ↑hB (n+1) .NotIn ⇑(aT u:Int) (!V.x) (t\g) Q:=
 FG (fi a) () () (Hm a<|aC L (by rw[show(((aT u:Int)).natAbs:Int)=u.natAbs from ê,c.1]) h)
def count_tail{hB:cp w B}{g:bf}{aw:Nat}{ak:aW}{Q:AV->bf->Prop}(hw:Wf V)(hx:TI t e aw)(D:bc t.X Z0 u)(wL:D2∉V.list)(C4:g D2=Y (.set ls))(jn:ls.Nodup)(En:∀x,x∈ls↔dep t.X u x)(te:Sub g0 g)(h:Q ⇑(cnt<|den t.X u) (t\g0)):bH (fu+3000) ↑hB (Hi ↑hB (n+11) 413 (iy (K1 w) 413) Z! (λa bq=>∃gB,Sub gB bq/\Q a gB) ak) (ij 9<|YG w) [] [] %[Y !V.x,Y ⇑u,Y ⇑4,Y ⇑4,Y (!D2)|9] (t\g):=by
 let bD:=hx.inv.good;let H:∀{i},dep t.X u i->0<=i/\i<4:=fun{i} hd=>by have:=bD.t8 D hd;have:=bD.gK D;show Τ ∎ this
 let v:ls.length<=4:=by show bS jn (l₂:=[0,1,2,3]) λx T=>by have:=H<|(En x).mp T;simp;show Y44 this
 refine Cq wL C4 (Y52 v) (jh rfl<|GP (by simp;show agQ v)<|pF λDm A Wk=>?_);let aaN:Dm≠D2:=λe=>by subst e;show cA Wk C4
 refine YD (ia:=[.c<|.raw<|.builtin "sorted",.fn,.l 4,.ca 1 []]) (t:=[.un 2,.st 8,.st 9]) (b:=[.l 8,.l 6,.bi .Add,.l 7,.l 9,.ss]) rfl () () () () () () () (t6 (bz wL<|by rw[aq (aE aaN)];show C4) (Ŏ v) λl hl TH=>(aC _ rfl ?_));let Wm:l.length=ls.length:=hl.length_eq;let al9:l.Nodup:=hl.nodup_iff.mpr jn;let cL:(Ba<|l.map AV.int).length=l.length:=by simp[Ba]
 clear aaN;let(G,Ji,Je):∃G:Nat->bf->Lm->Prop,(∀k d q p,d.length<=k->(∀j x,j<k->l[j]?=Y x->N d ⇑x=Y ⇑(j+(4-ls.length)))->G k (t\(aB g Dm<|.dict d)) %[Y !V.x,Y ⇑u,Y ⇑4,Y ⇑4,Y !D2,Y ⇑ls.length,Y ⇑(4-ls.length),Y !Dm,q,p|4])/\(∀k O m,G k O m->∀I:bf->Lm->Prop,(∀d q p,d.length<=k->(∀j x,j<k->l[j]?=Y x->N d ⇑x=Y ⇑(j+(4-ls.length)))->I (t\(aB g Dm<|.dict d)) %[Y !V.x,Y ⇑u,Y ⇑4,Y ⇑4,Y !D2,Y ⇑ls.length,Y ⇑(4-ls.length),Y !Dm,q,p|4])->I O m):=
  (λk O m=>∀I:bf->Lm->Prop,(∀d q p,d.length<=k->(∀j x,j<k->l[j]?=Y x->N d ⇑x=Y ⇑(j+(4-ls.length)))->I (t\(aB g Dm<|.dict d)) %[Y !V.x,Y ⇑u,Y ⇑4,Y ⇑4,Y !D2,Y ⇑ls.length,Y ⇑(4-ls.length),Y !Dm,q,p|4])->I O m,λ_ d q p h0 J _ κ=>κ d q p h0 J,λ_ _ _ h=>h)
 calc dc G ?_ ?_;
 .show Ji _ [] _ _ (dH _) (λj x hj=>absurd hj<|qW _)
 .intro k a bu m' ha az;apply Je _ _ _ az;intro d q p C M;intro _ DS;clear bu m' az;let(b,z,rfl):=H8 ha;rw[bb] at z;clear ha;induction T:l[k]? with
  |none=>rw[T] at z;cases z
  |some x=>
   rw[T] at z;let rfl:AV.int x=b:=by simpa using z
   let xe:k<l.length:=(aL.mp T).1;calc jM (bJ:=d) (k:=.int x) (bz A ar) rfl (agR Wm C v xe);rw[aY A,bQ];refine DS _ _ _ (Ji _ _ _ _ (by have:= @dO _ _ _ d (K0.int x) (AV.int<|k+(4-ls.length));show i! this C)<|λj y hj f=>?_);rw[aX];by_cases e:j=k
   .clear DS G Ji Je C M xe hj;subst e;rw[T] at f;replace f:=ax f;subst f;rw[bj rfl]
   .rw[aK,M j y (j_ e hj) f];intro e2;clear z;injection e2 with e2;subst e2
    let(q1,q2):=aL.mp f;let(q3,q4):=aL.mp T;show lZ.mp al9 j k q1 q3 (j_ e hj)<|q2.trans q4.symm
 .intro bu m' az;apply Je _ _ _ az;intro d q p C M;rw[cL] at C M;let θ:N t.X 1=Y (4,R,R):=bD.one;refine cP ∎ (gh ∎ ∎ (jM (bJ:=d) (bz A ar) rfl (agS Wm C v) ?_));rw[aY A,bQ];let aaO:= @dO _ _ _ d (K0.int 4) (AV.int 4);calc jM (bJ:=bl d (K0.int 4)<|AV.int 4) (bz A ar) rfl (agT Wm aaO v C);rw[aY A,bQ];refine dR ∎ (pF λDc hDc BW=>?_);let s:Dm≠Dc:=λe=>by subst e;show cA BW ar
  let hR:∀x,dep t.X u x->x∈l:=λx T=>hl.mem_iff.mpr<|(En x).mpr T
  let hM:Z5 (bl (bl d (K0.int 4)<|AV.int 4) (K0.str<|ah "all")<|AV.int 4) (dep t.X u) (λx=>if x=4 then 4 else(l.idxOf x:Int)+(4-ls.length)):=by
   refine(λx T=>?_,?_,by simp,λx T=>?_,λx y T f fM=>?_)
   .rw[aX,aK (by intro e;cases e),aX];by_cases e4:x=4
    .subst e4;show rfl
    .rw[aK (by intro e;injection e with e;show e4 e)];simp only[e4,if_false];let Wd:=hR x<|T.resolve_right e4;let E:=ft Wd;show M _ x E (by rw[b9 E,sY E])
   .rw[aX,bj rfl]
   .have:=H T;simp only[show¬x=4 from Y54 this,if_false];show agU v
   .let hx4:=H T;let Wd:=hR x T;let E:=ft Wd;simp only[show¬x=4 from Y54 hx4,if_false];rcases f with f|rfl
    .have:=H f;simp only[show¬y=4 from Y54 this,if_false];have:=Z? TH Wd (hR y f) fM;show agV this
    .simp only[if_true];show agW Wm E
  let aoM:= @dO _ _ _ (bl d (K0.int 4)<|AV.int 4) (K0.str<|ah "all") (AV.int 4);rw[show n+11=(n+5)+4+2 from agX];refine LU hw hx (ae:=dep t.X u) (mp:=λx=>if x=4 then 4 else(l.idxOf x:Int)+(4-ls.length)) (l:=[]) (h2:=0) (u:=u) (λx T=>H T) hM A hDc s 4 ∅ D (by have:=bD.gK D;show Y7 this) (λx T=>T) (.inr (rfl,rfl)) (by rw[aq s];show ar) ar (λr c hr=>by cases hr) (dH _) ∅ λc l' hc _ _=>?_;rw[show(n+5)+4+2=n+11 from agY];clear G Ji Je az hDc;let(u1,u2,hgu):=D.get
  let Wa:dep t.X u (lv t.X u)\/lv t.X u=4:=by
   rcases bD.split D with⟨_,h4⟩|⟨Cv,_,j,a,b,hsx,hj,_⟩
   .show .inr h4
   .show .inl<|hj▸(bD.Bk hx.inv.inj D Cv hsx).mpr (.inl rfl)
  refine cP ∎ (gh ∎ ∎ (eQ (bz A<|by rw[aq s,aq s];show ar) rfl (hM.get _ Wa) ?_))
  let U:0<=(if lv t.X u=4 then(4:Int) else(l.idxOf (lv t.X u):Int)+(4-ls.length))/\(if lv t.X u=4 then(4:Int) else(l.idxOf (lv t.X u):Int)+(4-ls.length))<=4:=by
   rcases Wa with Wa|Wa
   .have:=H Wa;let E:=ft<|hR _ Wa;simp only[show¬lv t.X u=4 from Y54 this,if_false];show agZ Wm v E
   .simp[Wa]
  let hbd:=NK hc (zX _).1 (zX _).2;refine pX U.1 (og U.2 ∅) ∅ (vL (PD hbd.1 hbd.2)<|Ik ∎ (jO<|aC (t\g0) (qx λb o z=>?_) ?_))
  .let ZJ:=te b o z;let e1:b≠Dm:=λe=>by subst e;show cA Wk ZJ
   let e2:b≠Dc:=λe=>by subst e;rw[aq e1] at BW;show cA BW ZJ
   rw[aq e2,aq e2,aq e1];show ZJ
  .rw[show(AV.int<|c*2^(if lv t.X u=4 then(4:Int) else(l.idxOf (lv t.X u):Int)+(4-ls.length)).toNat)=AV.int (cnt<|den t.X u) from congrArg AV.int hc];show h
def NW(I:Wf V)(hx:TI t e aw)(A:f6 t)(G:bc t.X Z0 u)(h:Q ⇑(cnt<|den t.X u) (t\g)):Cl ↑hB (n+12) (!413) [.ref V.x,.int u,.int 4] [] (t\g) Q:=by
 let bD:=hx.inv.good;refine Cl.sub (al8 (Rb (x:=ah "self") (y:=ah "u") (z:=ah "nvars") (hx:=408) (dvs:= #[.none]) (k0:=0) rfl rfl () λv u q=>(aC _ rfl ⋯)) λak=>vZ I G<|jh rfl<|W? (x:=ah "var") (cl:=[(ah "self",ak+1)]) (ks:=[(ah "self",0)]) (y:=ah "levels") (j:=4) (it:=[.l 0,.tl,.l 1,.mf 225 1 []]) (el:=[.l 1,.tl,.l 0,.mf 164 1 []]) (⋯,⋯,⋯,⋯) () (⋯,⋯,⋯,⋯,⋯,(⋯,trivial),⋯,⋯) (λ_=>⋯,⋯) () (λ_=>⋯)<|dR ∎ (Bt I hx A G λD xs U DR amc JL=>rj λ_=>AR (bz U ar) λl hl=>?_));intro D2 C LR;let wL:=LR.none;clear LR;let(J,Ga):=d0 wL;let RR:D2≠D:=λe=>by subst e;show cA Ga ar
 rw[aq RR] at Ga;let M:∀x∈l,∃i,dep t.X u i/\x=lH t i:=λx T=>(JL x).mp (hl.mem_iff.mp T);let c:∀{i},dep t.X u i->0<=i/\i<4:=fun{i} hd=>by have:=bD.t8 G hd;have:=bD.gK G;show Τ ∎ this
 let Z8:l.length<=4:=by
  have:=bS (hl.nodup_iff.mpr amc) (l₂:=[101,102,103,104]) λx T=>by let(i,hd,rfl):=M x T;let(_,_,s,p):=A.nm (c hd).1 (c hd).2;simp;show Y73 s p
  show this
 refine(λk bq=>∃ls:List Int,bq=t\(aB (cD (aB g D<|.set xs) D) D2<|.set ls)/\ls.Nodup/\ls.length<=k/\∀x,x∈ls↔∃v∈l.take k,x=eJ t v,(kU ([]) ?_ (.nil) (by simp)<|by simp),?_,?_)
 .show aB (cD _ D) D2 _=_;rw[eN U,aY J]
 .rintro k a bu ha ⟨ls,rfl,jn,H,f⟩;let(x,T,rfl):=Br ha;let xe:k<l.length:=(aL.mp T).1;clear ha;let(i,hd,d):=M x (bo T);let(O,E,s,p):=A.nm (c hd).1 (c hd).2;let(q1,q2,q3):=A.lvl (x:=x) (s9 d s)<|ag0 d p;refine dR ∎ (Bg I q1 (_,ls,rfl,bz J ar,ag1 H Z8 xe,?_));refine(kU (ff ls<|eJ t x) ?_ (pE jn) (by have:= @Bl ls (eJ t x);show i! this H)<|λy=>?_)
  .rw[aY J,bQ]
  .rw[f5,f,fL,T];simp only[Aq,cy,aV];constructor
   .rintro (⟨j,hj,rfl⟩|rfl)
    .show aC j (.inl hj) rfl
    .show aC x (.inr rfl) rfl
   .clear T i hd d O E s p q1 q2 q3;rintro ⟨j,hj|rfl,rfl⟩
    .show .inl<|aC j hj rfl
    .show .inr rfl
 .clear wL;rintro bu ⟨ls,rfl,jn,H,f⟩;let En:∀x,x∈ls↔dep t.X u x:=λx=>by
   rw[f,show(setItems l).length=l.length by simp[setItems],jV];constructor
   .rintro ⟨v,S,rfl⟩;let(i,hd,rfl):=M v S;let(O,E,s,p):=A.nm (c hd).1 (c hd).2;rw[show eJ t (lH t i)=i by delta eJ;rw[E];rfl];show hd
   .intro hd;let(O,E,s,p):=A.nm (c hd).1 (c hd).2;show(aC (lH t x) (hl.mem_iff.mpr<|(JL _).mpr (aC x hd rfl))<|by delta eJ;rw[E];rfl)
  let zc:ls.length<=4:=by rw[show(setItems l).length=l.length by simp[setItems]] at H;show R3 H Z8
  show bH _ _ _ _ _ _ _ (aB (t\_) D _);rw[aY U]
  let hgg:aB (aB (cD (aB g D<|.set xs) D) D2<|.set ls) D (.set xs)=aB (aB g D<|.set xs) D2 (.set ls):=by
   funext b;by_cases m:b=D
   .subst m;rw[ar,aq<|aE RR,ar]
   .rw[aq m];by_cases e2:b=D2
    .subst e2;rw[ar,ar]
    .rw[aq e2,aq e2,aq m,cx m,aq m]
  rw[hgg];show bH _ _ _ (ij 9<|YG w) [] [] [_,_,_,_,Y !D2,_,_,_,_,_,_,_,_,_] _;refine count_tail (ls:=ls) (g0:=g) I hx G J ar jn En ?_ h;intro b o hb;let m:b≠D:=λe=>by subst e;show cA DR hb
  let e2:b≠D2:=λe=>by subst e;show cA Ga hb
  rw[aq e2,aq m];show hb
end
section
variable{dv:aW}{V:TA}
variable{w:cC}{g:bf}
@[ext]abbrev ame:List Ix:=(.l 0::.tl::.l 2::.mf 177 1 []::.st 3::.c (.raw<|.type "dict")::.fn::.ca 0 []::.st 4::.c (.raw<|.builtin "sorted")::.fn::[.l 3,.ca 1 [],.st 5,.c ⇑0,.st 6,.l 1,.ab,.l 0,.cm .NotIn,.tr,.iff [.bad] [],.l 0,.tl,.l 1,.l 6,.l 5,.l 3,.l 4,.mf 313 5 [],.ret])
abbrev amf:List Str:=["self","u","values","level_values","cache","ordvar","j"]
def amg(h:FH w B hB n 306 amf ame %[Y x0,Y c,Y a|4] O Q):Cl ↑hB (n+1) (!306) [x0,c,a] [] O Q:=T! h ⋯ ⋯
@[ext]abbrev amh:List Ix:=[.l 0,.tl,.l 2,.l 1,.c<|.bool L,.mf 321 2 ["forall"],.ret]
abbrev ami:List Str:=["self","qvars","u"]
def amj(h:FH w B hB n 335 ami amh [Y x0,Y c,Y a] O Q):Cl ↑hB (n+1) (!335) [x0,c,a] [] O Q:=T! h ⋯ ⋯
@[ext]abbrev amk:List Ix:=[.l 0,.tl,.l 2,.l 1,.c<|.bool au,.mf 321 2 ["forall"],.ret]
abbrev aml:List Str:=["self","qvars","u"]
def amm(h:FH w B hB n 342 aml amk [Y x0,Y c,Y a] O Q):Cl ↑hB (n+1) (!342) [x0,c,a] [] O Q:=T! h ⋯ ⋯
@[ext]abbrev aaQ(w:cC):List Ix:=[.c<|.raw<|.type "dict",.fn,.ca 0 [],.st 3,.c<|.raw<|.builtin "len",.fn,.l 2,.ca 1 [],.c ⇑1,.cm .Eq,.tr,.iff [.l 2,.me "items",.mc 0,.un 1,.un 2,.st 4,.st 5,.l 0,.tl,.l 4,.mf 164 1 [],.st 6,.l 0,.tl,.l 1,.l 6,.l 5,.l 3,.mf 278 4 [],.ret] [.sr<|za (dB (K1 w) 271) 0,.l 0,.me "_vector_compose",.l 1,.l 7,.l 3,.mc 3,.ret]]
abbrev aaR:List Str:=["self","f","var_sub","cache","var","g","j","dvars"]
def amn(h:∀ak,bH 5000 ↑hB (Hi ↑hB n 271 (iy (K1 w) 271) aaR Q ak) (aaQ w) [] [] %[Y x0,Y c,Y a|5] O):Cl ↑hB (n+1) (!271) [x0,c,a] [] O Q:=Ct (oc:=.type "function") (od:=R) (osl:= #[]) (fd:=iy (K1 w) 271) (body:=dB (K1 w) 271) (Q:=Q) (nm:=aaR) (m:=%[Y x0,Y c,Y a|5]) (ir:=λ_=>(aaQ w)) () () () () (HY (x:=ah "self") (y:=ah "f") (z:=ah "var_sub") λe v1 d=>⋯) () () () (λak=>⋯) h
@[ext]abbrev amo:List Ix:=(.l 0::.tl::.c (.raw<|.type "set")::.fn::.l 2::.ca 1 []::.mf 177 1 []::.st 2::.c (.raw<|.type "dict")::[.fn,.ca 0 [],.st 4,.c<|.raw<|.builtin "sorted",.fn,.l 2,.ca 1 [],.st 5,.c ⇑0,.st 6,.l 0,.tl,.l 1,.l 6,.l 5,.l 2,.l 3,.l 4,.mf 328 6 [],.ret])
abbrev amq:List Str:=["self","u","qvars","forall","cache","ordvar","j"]
def amr(f:Binds ↑hB (iy (K1 w) 321) as e [(ah "forall",a),(ah "qvars",c),(ah "u",d),(ah "self",x0)])(h:FH w B hB n 321 amq amo %[Y x0,Y d,Y c,Y a|3] O Q):Cl ↑hB (n+1) (!321) as e O Q:=RP f h ⋯
def Hn{hB:cp w B}{n:Nat}(f:Wf V)(hx:TI t e aw)(E:aw<=70000)(p:f6 t)(i:bc t.X Z0 u)(U:dv∉V.list)(z:g dv=Y (.dict [(.int x,.bool b)]))(y:101<=x)(v:x<=104)(h:∀r t',Op t e t' (aw+30)->bc t'.X Z0 r->(∀G,den t'.X r G=den t.X u (fm G (eJ t x) b))->Q ⇑r (t'\g)):Cl ↑hB (n+10) (!306) [.ref V.x,.int u,.ref dv] [] (t\g) Q:=by
 let(S,q,I,H):=p.lvl y v;let bD:=hx.inv.good;refine Cl.sub (amg λak=>dR ∎ (F8 f p U z y v λD s T=>pF λc A m=>?_));let d:D≠c:=λe=>by subst e;show cA m ar
 rw[aq (aE d)] at m;refine Fu (bJ:=[(eJ t x,.bool b)]) (bz s<|pS (aq d) ar) (by simp) λl q _=>?_;let rfl:l=[eJ t x]:=ru.mp q;rw[cj,BK];refine vZ f i<|jh rfl<|dR ∎ ?_;rw[show n+9=(n+1)+4+4 from ag2];refine Hj f I H A s d 4 (h2:=0) ∅ hx (by delta ic;show ĝ E) i (by have:=bD.gK i;show Y7 this) (l:=[]) ar (pS (aq d) ar) (λu r j=>by cases j) ∅ ∅ λr t' l' O C zl j lr M=>(aC (t'\g) (qx λa o k=>?_)<|h r t' O j M);let J:a≠D:=λe=>by subst e;show cA T k
 let e2:a≠c:=λe=>by subst e;show cA m k
 rw[aq e2,aq e2,aq J];show k
def JM{hB:cp w B}{n:Nat}(m:Wf V)(hx:TI t e aw)(A:aw<=70000)(y:f6 t)(p:bc t.X Z0 f)(q:bc t.X Z0 b)(i:dv∉V.list)(k:g dv=Y (.dict [(.int x,.int b)]))(M:101<=x)(J:x<=104)(h:∀r t',Op t e t' (aw+30)->bc t'.X Z0 r->(∀G,den t'.X r G=den t.X f (fm G (eJ t x)<|den t.X b G))->Q ⇑r (t'\g)):Cl ↑hB (n+18) (!271) [.ref V.x,.int f,.ref dv] [] (t\g) Q:=by
 let(S,hl,E,D):=y.lvl M J;let bD:=hx.inv.good;refine Cl.sub (amn λak=>xU λc z u=>?_);let v:dv≠c:=λe=>by subst e;show cA u k
 let d:aB g c (.dg []) dv=Y (.dict [(.int x,.int b)]):=by rw[aq v];show k
 refine qn (bz i d) (ei _)<|rT rfl (_,uY i d,⋯,?_);refine qr (bz i d)<|un1 (bz i d)<|dR ∎ (Bg m S<|dR ∎ ?_);rw[show n+17=(n+1)+4+12 from ŏ];refine JJ m E D z 4 (h2:=0) ∅ hx (by delta ic;show ĝ A) p q (by have:=bD.gK p;show Y7 this) (by have:=bD.gK q;show Y7 this) (l:=[]) ar (λf b r j=>by cases j) ∅ ∅ λr t' U I C O j T H=>(aC (t'\g) (qx λa o s=>?_)<|h r t' I j H);let e2:a≠c:=λe=>by subst e;show cA u s
 rw[aq e2,aq e2];show s
def zv{hB:cp w B}{n:Nat}(E:Wf V)(hx:TI t e aw)(hN:aw<=70000)(I:f6 t)(H:bc t.X Z0 u)(BX:dv∉V.list)(vW:g dv=Y (.set [x]))(U:101<=x)(T:x<=104)(h:∀r t',Op t e t' (aw+49)->bc t'.X Z0 r->(∀G,den t'.X r G=qF fa (eJ t x) (den t.X u) G)->Q ⇑r (t'\g)):Cl ↑hB (n+18) (!321) [.ref V.x,.int u,.ref dv] [(ah "forall",.bool fa)] (t\g) Q:=by
 let(S,J,h0,h4):=I.lvl U T;let bD:=hx.inv.good;refine Cl.sub (amr (UE (x:=ah "self") (y:=ah "u") (z:=ah "qvars") (p:=ah "forall") (hx:=314) (dvs:= #[.bool au]) (k0:=0) rfl rfl () λv u q r=>(aC _ rfl ⋯)) λak=>dR ∎ (Bn BX vW (ei _) λD1 A m=>Gd E I A ar U T λD M s=>?_));let O:D≠D1:=λe=>by subst e;show cA s ar
 rw[aq O] at s;refine pF λc hc f=>?_;let j:D≠c:=λe=>by subst e;show cA f ar
 rw[aq (aE j)] at f;let d:c≠D1:=λe=>by subst e;show cA f ar
 rw[aq d] at f;refine t6 (xs:=[eJ t x]) (bz M<|by rw[aq j];show ar) (by simp) λl J _=>?_;clear A O d;let rfl:l=[eJ t x]:=ru.mp J;calc dR ∎;rw[show n+17=(n+1)+4+12 from ŏ];refine Hl E h0 h4 hc M j 4 (h2:=0) ∅ hx (by delta qc ic;show ag3 hN) H (by have:=bD.gK H;show Y7 this) (l:=[]) ar (by rw[aq j];show ar) (λu r k=>by cases k) ∅ ∅ λr t' l' ao C zl k lr dr=>(aC (t'\g) (qx λa o i=>?_)<|h r t' ao k dr);let e1:a≠D:=λe=>by subst e;show cA s i
 let e2:a≠c:=λe=>by subst e;show cA f i
 let e3:a≠D1:=λe=>by subst e;show cA m i
 rw[aq e2,aq e2,aq e1,aq e3];show i
def LV{hB:cp w B}(c:Wf V)(hx:TI t e aw)(j:aw<=70000)(i:f6 t)(d:bc t.X Z0 u)(q:dv∉V.list)(a:g dv=Y (.set [x]))(p:101<=x)(o:x<=104)(h:∀r t',Op t e t' (aw+49)->bc t'.X Z0 r->(∀G,den t'.X r G=qF L (eJ t x) (den t.X u) G)->Q ⇑r (t'\g)):Cl ↑hB (n+19) (!335) [.ref V.x,.ref dv,.int u] [] (t\g) Q:=by show amj λak=>dR ∎ (zv c hx j i d q a p o λr t' m f k=>h r t' m f k)
def NX{hB:cp w B}(c:Wf V)(hx:TI t e aw)(j:aw<=70000)(i:f6 t)(d:bc t.X Z0 u)(q:dv∉V.list)(a:g dv=Y (.set [x]))(p:101<=x)(o:x<=104)(h:∀r t',Op t e t' (aw+49)->bc t'.X Z0 r->(∀G,den t'.X r G=qF au (eJ t x) (den t.X u) G)->Q ⇑r (t'\g)):Cl ↑hB (n+19) (!342) [.ref V.x,.ref dv,.int u] [] (t\g) Q:=by show amm λak=>dR ∎ (zv c hx j i d q a p o λr t' m f k=>h r t' m f k)
end
@[ext]abbrev amt:List Ix:=[.l 1,.c ⇑0,.cm .Gt,.st 3,.l 1,.ab,.st 1,.wh [.l 1,.c ⇑1,.cm .NotEq,.tr] (.l 0::.tl::.l 1::.mf 93 1 []::.un 3::.st 4::.st 5::.st 6::.l 0::.tl::.l 4::.mf 157 1 []::.st 7::.l 2::.c ⇑2::[.l 7,.c ⇑101,.bi .Sub,.bi .Pow,.bi .FloorDiv,.c ⇑2,.bi .Mod,.c ⇑1,.cm .Eq,.tr,.iff [.l 6] [.l 5],.st 8,.l 8,.c ⇑0,.cm .Lt,.tr,.iff [.l 3,.tr,.no,.st 3] [],.l 8,.ab,.st 1]) [],.l 3,.tr,.iff [.c ⇑1] [.c ⇑0],.ret]
abbrev amu:List Str:=["tool","node","row","value","level","low","high","name","step"]
def amv(h:FH w B hB n 521 amu amt %[Y x0,Y c,Y a|6] O Q):Cl ↑hB (n+1) (!521) [x0,c,a] [] O Q:=T! h ⋯ ⋯
def JN{hB:cp w B}{n:Nat}{V:TA}{g:bf}{Q:AV->bf->Prop}(hw:Wf V)(hx:TI t e aw)(p:f6 t)(m:bc t.X Z0 u)(hr:r<16)(h:Q ⇑(bK t u r) (t\g)):Cl ↑hB (n+4) (!521) [.ref V.x,.int u,.int r] [] (t\g) Q:=by
 let bD:=hx.inv.good;refine amv λak=>ZZ [au,au,au,au,L,L,L,L,L] rfl (λk bq m'=>∀d:bf->Lm->Prop,(∀(v:Int) (b:Bool),0<v->bc t.X Z0 v->4-lv t.X v<=k->den t.X u (eX t r)=(not b^^den t.X v (eX t r))->d (t\g) %[Y !V.x,Y ⇑v,Y ⇑r,Y (.bool b)|5])->d bq m') 4 ?_ λ_ BV=>?_
 .refine λd E=>E (aT u:Int) (decide (u>0)) ?_ (Fn.mpr m) ?_ ?_
  .have:=bD.C6 m;show è this
  .have:=bD.gK m;rw[pk];show ě this
  .by_cases o:u>0
   .rw[show(aT u:Int)=u from i? o];simp[o]
   .have:=bD.C6 m;rw[show(aT u:Int)= -u from aih o,bD.iP m];simp[o]
 .intro k bq m' az;apply az;intro v b D S a hd;rcases bD.split S with⟨j,J⟩|⟨j,_,i,lo,G,hs,hl,Fq,T,Ni,Q7,s,z,Wm,y⟩
  .refine GP (by simp;show ţ j D) ?_;let HE:v=1:=by show ţ j D
   clear k az D S a j J;subst HE;rw[bD.K9] at hd
   induction b with
   |true=>
    refine BV _ _ _<|rT rfl ?_;have:bK t u r=1:=by delta bK;rw[hd];rfl
    rw[<-this];show h
   |false=>
    refine BV _ _ _<|jh rfl ?_;have:bK t u r=0:=by delta bK;rw[hd];rfl
    rw[<-this];show h
  .refine rT (by simp;show Ρ ∎)<|dR ∎ (Q6 hw hs<|dR ∎ ?_);let(n1,n2,n3,U):=p.nm Fq T;calc vX hw n1;let o:(0:Int)<=lH t i-101:=by show l! n3
   let C:(2:Int)^(lH t i-101).toNat=1\/(2:Int)^(lH t i-101).toNat=2\/(2:Int)^(lH t i-101).toNat=4\/(2:Int)^(lH t i-101).toNat=8:=by rcases(show(lH t i-101).toNat=0\/(lH t i-101).toNat=1\/(lH t i-101).toNat=2\/(lH t i-101).toNat=3 from aii U) with q|q|q|q<;>rw[q]<;>simp
   refine pX (o) (aij U) ∅ (yH (aik C) (ail C)<|pW ∅ ?_);let O:=bD.fC S j hs<|eX t r;rw[show decide (v<0)=au from decide_eq_false (Ğ D)] at O
   let fin:∀(st:Int),bc t.X Z0 st->i<lv t.X st->den t.X v (eX t r)=den t.X st (eX t r)->∀A,(A=if st<0 then not b else b)->
     ∃k',k'<k/\∀d:bf->Lm->Prop,(∀(v:Int) (b2:Bool),0<v->bc t.X Z0 v->4-lv t.X v<=(k':Nat)->den t.X u (eX t r)=(not b2^^den t.X v (eX t r))->d (t\g) %[Y !V.x,Y ⇑v,Y ⇑r,Y (.bool b2)|5])->d (t\g) %[Y<|AV.ref V.x,Y ⇑(aT st:Int),Y ⇑r,Y (.bool A)|5]:=by
    intro st I M f A ZJ;let h0:=bD.C6 I;let hle:=bD.OW I;refine(aC (k-1) (aim hl a T)<|λd E=>E (aT st:Int) A (è h0) (Fn.mpr I) (by rw[pk];show ain hl a M) ?_);rw[hd,f,ZJ];by_cases p:st<0
    .rw[show(aT st:Int)= -st from Η p,bD.iP I,bj p];clear u m h az D S a hd j A ZJ E;cases b<;>simp
    .rw[show(aT st:Int)=st from Θ p,aK p]
   by_cases H:((r:Int).fdiv (2^(lH t i-101).toNat)).fmod 2=1
   .refine nu H ?_;let f:den t.X v (eX t r)=den t.X G (eX t r):=by rw[O,show eX t r i=L from decide_eq_true H];simp
    by_cases c:G<0
    .show nu c (fin G z y f _<|by rw[bj c])
    .show nC c (fin G z y f _<|by rw[aK c])
   .refine nC H ?_;let f:den t.X v (eX t r)=den t.X lo (eX t r):=by rw[O,show eX t r i=au from decide_eq_false H];simp
    by_cases c:lo<0
    .show nu c (fin lo s Wm f _<|by rw[bj c])
    .show nC c (fin lo s Wm f _<|by rw[aK c])
section
variable{w:cC}
@[ext]abbrev aaU(w:cC):List Ix:=[.fo L [.un 2,.st 2,.st 3] [.l 1] (.er (xR (dB (K1 w) 526) 0)::.l 3::.cm .NotEq::.tr::.iff [.c<|.bool au,.ret] []::.l 0::.tl::.l 2::.c ⇑4::[.mf 413 2 [],.c<|.raw<|.builtin "sum",.fn,.l 3,.ca 1 [],.cm .NotEq,.tr,.iff [.c<|.bool au,.ret] [],.sr<|za (dB (K1 w) 526) 0,.c<|.raw<|.builtin "sorted",.fn,.l 0,.tl,.l 2,.mf 225 1 [],.ca 1 [],.l 4,.cm .NotEq,.tr,.iff [.c<|.bool au,.ret] []]) [],.fo L [.un 2,.st 2,.st 3] [.l 1] [.fo L [.un 2,.st 5,.st 6] [.l 1] [.l 2,.l 5,.cm .Eq,.l 3,.l 6,.cm .Eq,.cm .NotEq,.tr,.or [.l 2,.l 5,.ng,.cm .Eq,.l 3,.er<|xR (dB (K1 w) 526) 1,.cm .Eq,.cm .NotEq,.tr,.or [.c<|.bool au]],.iff [.c<|.bool au,.ret] []] []] [],.c<|.bool L,.ret]
abbrev aaV:List Str:=["tool","made","node","bits","turns","other","more"]
def amw(h:∀ak,bH 5000 ↑hB (Hi ↑hB n 526 (iy (K1 w) 526) aaV Q ak) (aaU w) [] [] %[Y x0,Y a|5] O):Cl ↑hB (n+1) (!526) [x0,a] [] O Q:=Ct (oc:=.type "function") (od:=R) (osl:= #[]) (fd:=iy (K1 w) 526) (body:=dB (K1 w) 526) (Q:=Q) (nm:=aaV) (m:=%[Y x0,Y a|5]) (ir:=λ_=>(aaU w)) ⋯ ⋯ ⋯ ⋯ (Cd (x:=ah "tool") (y:=ah "made") λc v1=>⋯) ⋯ ⋯ ⋯ (λak=>⋯) h
def Im{V:TA}{g:bf}(hw:Wf V)(hx:TI t e aw)(p:f6 t)(hL:∀u∈ak,bc t.X Z0 u)(h:Q (.bool L) (t\g)):Cl ↑hB (n+14) (!526) [.ref V.x,.lst<|f7 t ak] [] (t\g) Q:=by
 let bD:=hx.inv.good;refine Cl.sub (amw λL0=>lG [au,au,L,L,L,L,L] rfl λ_ BV=>rj λ_=>AQ ?_)
 let(i,Ji,Je):∃i:Nat->bf->Lm->Prop,(∀k g',Sub g g'->i k (t\g') %[Y !V.x,Y (.lst<|f7 t ak)|5])/\(∀k O m,i k O m->∀d:bf->Lm->Prop,(∀g',Sub g g'->d (t\g') %[Y !V.x,Y (.lst<|f7 t ak)|5])->d O m):=
  (λk O m=>∀d:bf->Lm->Prop,(∀g',Sub g g'->d (t\g') %[Y !V.x,Y (.lst<|f7 t ak)|5])->d O m,λ_ g' h0 _ E=>E g' h0,λ_ _ _ h=>h)
 refine dc i ?_ ?_<|My BV ?_
 .show Ji _ g (λ_ _ e=>e)
 .intro k a A H z az;apply Je _ _ _ az;intro g' HR;intro _ DS;let(u,hu,rfl):=Cs z;let f:=hL u<|bo hu;calc NR (x:=ah "row") (cl:=[(ah "tool",L0+1),(ah "node",L0+2)]) (ks:=[(ah "node",2),(ah "tool",0)]) (el:=[.c !521,.fn,.l 2,.l 1,.l 0,.ca 3 []]) (bK t u) ⋯ (⋯,⋯,⋯,⋯,⋯,(⋯,⋯,trivial),⋯,⋯) (λ_=>⋯,⋯) ⋯ (λ_=>⋯) (λk U ak g2=>?_);
  .refine(⋯,?_);show JN (n:=n+9) hw hx p f U (rfl,rfl)
  refine Jr (jh (by simp)<|dR ∎ (NW (n:=n+1) hw hx p f<|H? (λx T=>?_) (by rw[F1];decide) ?_))
  .let(r,_,rfl):=cG.mp T;show JF _
  refine GP (by rw[Yw hx.inv p f];simp) (aan (x:=ah "name") (cl:=[(ah "bits",L0+3)]) (ks:=[(ah "bits",3)]) (y:=ah "turns") (j:=4) (it:=[.c<|.raw<|.type "range",.fn,.c ⇑101,.c ⇑105,.ca 2 []]) (el:=[.er<|alA<|V?<|t9<|za (dB (K1 w) 526) 0,.l 1,.cm .NotEq,.tr]) (el2:=[.l 0]) (⋯,⋯,⋯,⋯) ⋯ (⋯,⋯,⋯,⋯,λ_=>⋯,λ_=>⋯,(⋯,trivial),⋯,⋯,⋯,⋯,λak=>(rfl,rfl,ak+1,rfl,eE ak)) ⋯ (λ_=>⋯) (λ_=>⋯) (B7 λt1 t2 t3=>rj λ_=>rR ∅ ?_));intro D C hD;let(G,wL):=d0 hD;calc dc (λk bq=>bq=t\(aB g' D<|.list<|(xW (bK t u) k).map AV.int)/\k<=4) (?_,∅) ?_;
  .show aB (t\g') D _=_;rw[aY G];rfl
  .rintro k a A z ⟨rfl,U⟩;let(s,rfl):=zW z;let s:k<4:=s;calc NR (x:=ah "row") (cl:=[(ah "name",C+1),(ah "bits",L0+3)]) (ks:=[(ah "bits",1),(ah "name",0)]) (el:=[.l 1,.l 0,.c ⇑2,.l 2,.c ⇑101,.bi .Sub,.bi .Pow,.bi .BitXor,.sb]) (λr=>bK t u<|rk r<|101+k) ⋯ (⋯,⋯,⋯,⋯,⋯,(⋯,⋯,trivial),⋯,⋯) (λ_=>⋯,⋯) ⋯ (λ_=>⋯) (λk' I L2 g2=>?_);
   .refine pX (Ι) (aio U) ∅ (Eb ?_);rw[Cr I (l?) (Ť s)];have:=(yS I (x:=101+k) (y:=101) (l?) (Ť s) PW aip).1;calc Pq (PV) (aiq this);rw[oU];show(rfl,rfl)
   calc Jr;by_cases M:Dl (bK t u) (101+k)=L
   .refine rT M (_,bz G ar,by have:=NQ (bK t u) k;simp;show air this,?_,s);rw[aY G,bQ,LK _ s,bj M];simp
   .refine jh (show Dl (bK t u) (101+k)=au by simpa using M) (?_,s);rw[LK _ s,aK M]
  clear hD;rintro A ⟨rfl,_⟩;calc aC _ (bz G ar);
  let e:cD (aB g' D<|.list<|(xW (bK t u) 4).map AV.int) D=g':=by
   funext b;by_cases e:b=D
   .subst e;rw[di,wL]
   .rw[cx e,aq e]
  rw[eN G,show(l6 101 (105-101:Int).toNat).length=4 from rfl,e,Yy];refine dR ∎ (Bt (n:=n+5) hw hx p f λD2 xs HV hD4 jn JL=>?_)
  let hx4:xs.length<=4:=by
   have:=bS jn (l₂:=[101,102,103,104]) λx T=>by let(l,hd,rfl):=(JL x).mp T;have:=bD.t8 f hd;have:=bD.gK f;let(_,_,q1,q2):=p.nm (l:=l) (ġ ∎ this)<|ì ∎;simp;show Y73 q1 q2
   show this
  refine t6 (bz HV ar) (Ŏ hx4) λl hl hs=>?_;rw[UT hx.inv p f JL jn hl hs];refine Jr (jh (by simp)<|DS _ _ _<|Ji _ _<|λb o hb=>?_);let de:b≠D2:=λq=>by subst q;have:=HR b o hb;show cA hD4 this
  rw[aq de];show HR b o hb
 .intro A H az;apply Je _ _ _ az;intro g' HR;refine lG [au,au,L,L,L,L,L] rfl λ_ κ2=>rj λ_=>AQ ?_;let(J1,YK,Z9):∃i:Nat->bf->Lm->Prop,(∀k,i k (t\g') %[Y !V.x,Y (.lst<|f7 t ak)|5])/\(∀k O m,i k O m->∀d:bf->Lm->Prop,(d (t\g') %[Y !V.x,Y (.lst<|f7 t ak)|5])->d O m):=
   (λk O m=>∀d:bf->Lm->Prop,(d (t\g') %[Y !V.x,Y (.lst<|f7 t ak)|5])->d O m,λ_ _ E=>E,λ_ _ _ h=>h)
  refine dc J1 (YK _) ?_<|My κ2 ?_
  .intro k a A H z az;apply Z9 _ _ _ az;intro _ Rh;let(u,hu,rfl):=Cs z;let f:=hL u<|bo hu;refine lG [au,au,au,au,L,L,L] rfl λ_ κ3=>rj λ_=>AQ ?_;let(J2,ċ,J):∃i:Nat->bf->Lm->Prop,(∀k,i k (t\g') %[Y !V.x,Y<|.lst<|f7 t ak,Y ⇑u,Y (Bo<|bK t u)|3])/\(∀k O m,i k O m->∀d:bf->Lm->Prop,(d (t\g') %[Y !V.x,Y<|.lst<|f7 t ak,Y ⇑u,Y (Bo<|bK t u)|3])->d O m):=
    (λk O m=>∀d:bf->Lm->Prop,(d (t\g') %[Y !V.x,Y<|.lst<|f7 t ak,Y ⇑u,Y (Bo<|bK t u)|3])->d O m,λ_ _ E=>E,λ_ _ _ h=>h)
   refine dc J2 (ċ _) ?_<|My κ3 ?_
   .intro k a A H z az;apply J _ _ _ az;intro _ YL;let(v,S,rfl):=Cs z;let hW:=hL v<|bo S;refine Pb (Px<|jh (by simp[Pu hx.inv p f hW])<|YB (x:=ah "bit") (cl:=[]) (ks:=[]) (el:=[.c ⇑1,.l 0,.bi .Sub]) (λr=>1-bK t v r) ⋯ (⋯,⋯,⋯,⋯,⋯,trivial,⋯,⋯) (λ_=>⋯,⋯) ⋯ (j:=6) rfl (λ_=>⋯) (λk U ak g2=>?_) ?_)
    .show(rfl,rfl)
    show Pb (Px<|jh (by simp[UL hx.inv p f hW])<|jh rfl<|YL _ _ _<|ċ _)
   .intro A H az;apply J _ _ _ az;show Rh _ _ _<|YK _
  .intro A H az;apply Z9 _ _ _ az;show aC (t\g) (qx HR) h
end
section
variable{V:TA}
variable{t:TS}
@[ext]abbrev amy:List Ix:=(.l 2::.c .none::[.cm .Is,.tr,.iff [.c<|.raw<|.builtin "len",.fn,.l 0,.at "vars",.ca 1 [],.st 2] [],.l 2,.c ⇑0,.cm .Lt,.tr,.iff [.bad] [],.l 0,.at "_level_to_var",.me "get",.l 2,.mc 1,.st 3,.l 3,.c .none,.cm .Is,.tr,.iff [.l 2,.ret] [],.bad])
abbrev amz:List Str:=["self","var","level","other"]
def amA(h:FH w B hB n 143 amz amy [Y x0,Y c,Y a,R] O Q):Cl ↑hB (n+1) (!143) [x0,c,a] [] O Q:=T! h ⋯ ⋯
@[ext]abbrev amB:List Ix:=(.l 1::[.l 0,.at "vars",.cm .NotIn,.tr,.iff [.bad] [],.l 0,.at "vars",.l 1,.sb,.st 2,.l 0,.tl,.l 2,.c ⇑1,.ng,.c ⇑1,.mf 363 3 [],.st 3,.l 3,.ret])
abbrev amC:List Str:=["self","var","j","u"]
def amD(h:FH w B hB n 150 amC amB %[Y x0,Y a|2] O Q):Cl ↑hB (n+1) (!150) [x0,a] [] O Q:=Wh h ⋯ ⋯
@[ext]abbrev amE:List Ix:=(.l 1::.l 0::.at "vars"::.cm .In::.tr::.iff [.l 0,.tl,.l 1,.l 2,.mf 136 2 [],.ret] []::.l 0::.tl::.l 1::.l 2::.mf 143 2 []::.st 2::.l 2::[.l 0,.at "vars",.l 1,.ss,.l 1,.l 0,.at "_level_to_var",.l 2,.ss,.l 0,.tl,.c<|.raw<|.builtin "len",.fn,.l 0,.at "vars",.ca 1 [],.mf 86 1 [],.pop,.l 2,.ret])
abbrev amF:List Str:=["self","var","level"]
def amG(e:Binds ↑hB (iy (K1 w) 129) as d [(ah "level",a),(ah "var",c),(ah "self",x0)])(h:FH w B hB n 129 amF amE [Y x0,Y c,Y a] O Q):Cl ↑hB (n+1) (!129) as d O Q:=RP e h ⋯
def Vm(d:Wf V):DQ (t\g) V.pred V.succ V.ref a b c=aA V {t with pred:=a,X:=b,ref:=c} g:=by delta DQ;rw[Fd d,AZ d,Ei d]
def PE(a:Wf V):IT (t\g) V.x V.dx (jD V t) V.pred V.succ V.ref:=
 (fi a,a.nd.sublist<|BD 5 V.list,rfl,rfl,rfl)
def a_(t:TS)(ak:Int):={t with pred:=bl (dz t.pred<|(N t.X 1).getD (ak,R,R)) (ak,R,R) 1,X:=bl t.X 1 (ak,R,R),ref:=if(N t.ref 1).isSome then t.ref else bl t.ref 1 1}
def NY(a:Wf V)(f:t.pred=[]\/(N t.pred<|(N t.X 1).getD (ak,R,R)).isSome)(e:t.pred.length<=1000)(d:t.X.length<=1000)(c:t.ref.length<=1000)(h:Q .none ((a_ t ak)\g)):Cl ↑hB (n+4) (!86) [.ref V.x,.int ak] [] (t\g) Q:=by have:=F7 (n:=n) (hB:=hB) (PE (t:=t) (g:=g) a) f e d c (ak:=ak) (Q:=Q)<|qP (Vm a) h;rwa [Vh (PE a) (ph a) (i7 a) (se a)] at this
def Ge(a:Wf V)(hz:t.vars.length<=1000)(c:N t.e8 (t.vars.length:Int)=R)(h:Q ⇑t.vars.length (t\g)):Cl ↑hB (n+1) (!143) [.ref V.x,.int x,.none] [] (t\g) Q:=by show amA λLC=>rT rfl<|fB ∎ (qt a (Y43 hz)<|jh rfl<|i8 ∎ (JB (K7 ∎) rfl<|Vi a c<|rT rfl h))
def Io(t:TS)(x:Int):=a_ {t with vars:=bl t.vars x t.vars.length,e8:=bl t.e8 t.vars.length x}<|t.vars.length+1
def LW(a:Wf V)(hz:t.vars.length<=1000)(e:t.e8.length<=1000)(T:N t.vars x=R)(k:N t.e8 (t.vars.length:Int)=R)(m:(N t.pred<|(N t.X 1).getD ((t.vars.length+1:Int),R,R)).isSome)(j:t.pred.length<=1000)(i:t.X.length<=1000)(f:t.ref.length<=1000)(h:Q ⇑t.vars.length ((Io t x)\g)):Cl ↑hB (n+5) (!129) [.ref V.x,.int x] [] (t\g) Q:=by
 refine amG (LB (x:=ah "self") (y:=ah "var") (z:=ah "level") (hx:=122) (dvs:= #[.none]) (k0:=0) (d:=.none) rfl rfl () λv u=>(aC _ rfl ⋯)) λLC=>fB ∎ (Fm ∎ (jh (by rw[T];rfl)<|dR ∎ (Ge a hz k<|fB ∎ (Fj a (Y43 hz)<|i8 ∎ (Jk a (by show t.e8.length<=_;show Y43 e)<|dR ∎ (fB ∎ ?_))))));let c:(bl t.vars x (t.vars.length:Int)).length=t.vars.length+1:=by delta bl;rw[T];simp
 calc qt a (by show(bl _ _ _).length<=_;rw[c];show aif hz);rw[c,Int.natCast_add_one];show NY (t:={t with vars:=bl t.vars x t.vars.length,e8:=bl t.e8 t.vars.length x}) a (.inr m) j i f h
def Vn{g:bf}(i:Wf V)(T:N t.vars x=Y j)(k:0<=j)(c:j<t.vars.length)(J:(N t.X 1).isSome=L)(a:t.vars.length<=1000)(o:aw<=90000)(p:kb t aw)(q:1<t.mf)(f:N t.X t.mf=R)(d:(N t.ref 1).isSome=L)(h:∀r t',yZ t j (-1) 1 r t'->Q ⇑r (t'\g)):Cl ↑hB (n+4) (!150) [.ref V.x,.int x] [] (t\g) Q:=by
 refine amD λLC=>fB ∎ (yP ∎ (jh (by rw[T];rfl)<|fB ∎ (A3 ∎ ∎ (dR ∎ ?_))));let e:((-1:Int).natAbs:Int)=1:=by decide
 show F0 (v:= -1) (w':=1) i k c (by rw[e];show J) J a o p q f (by rw[e];show d) d λr t' m=>h r t' m
end
section
variable{n:Nat}
@[ext]abbrev amH:List Ix:=(.c (.raw<|.builtin "isinstance")::.fn::.l 0::.c (.raw<|.type "dict")::.ca 2 []::.tr::.no::.iff [.bad] []::.c (.raw<|.builtin "len")::.fn::.l 0::.ca 1 []::.st 1::[.c<|.raw<|.type "set",.fn,.l 0,.me "values",.mc 0,.ca 1 [],.st 2,.c<|.raw<|.type "set",.fn,.c<|.raw<|.type "range",.fn,.l 1,.ca 1 [],.ca 1 [],.st 3,.l 2,.l 3,.cm .NotEq,.tr,.iff [.bad] []])
abbrev amI:List Str:=["levels","n","numbers","numbers_"]
def amJ(h:FH w B hB n 504 amI amH %[Y x0|3] O Q):Cl ↑hB (n+1) (!504) [x0] [] O Q:=fn1 h ⋯ ⋯
def Gf(c:O D=Y (.dict bJ))(h:Q (.bool L) O):Cl ↑hB n (.builtin "isinstance") [.ref D,.raw<|.type "dict"] [] O Q:=Cl.r2 λU s A x f H a=>by let rfl:=a.bU;let(dN,d,e):=H.dict c;show rp (Tx:="dict") (T:="dict") d.typeIs () (by rw[bM];kernel_rfl)<|dh.now H (.raw _) h
def Vo(a:O D=Y (.dict []))(h:∀A B,O A=R->O B=R->A≠B->Q .none (aB (aB O A<|.set []) B<|.set [])):Cl ↑hB (n+4) (!504) [.ref D] [] O Q:=by
 refine amJ λLC=>Gf a<|GP ∅ (qn a ∅ (_,lA a uv PySem.F.type_dict_values,⋯,?_));calc Qv a;
 let i:∀hx,hx="dict_values"\/hx="range"->nq (.type hx) (.type "set")=pure au/\nq (.type hx) (.type "frozenset")=pure au/\(pP hx==pP "dict")=au:=λhx h=>by
  rcases h with rfl|rfl
  .show(bt (by rw[bM];kernel_rfl) (by rw[bM];kernel_rfl) ∅)
  .show(bt (by rw[bM];kernel_rfl) (by rw[bM];kernel_rfl) ∅)
 let(m,k,j):=i _<|.inl rfl;let(r1,r2,o):=i _<|.inr rfl;refine Ph (target:=.Name (ah "levels") default) (hx:="dict_values") rfl m k j (λA f=>M0 (d:=D) (l:=[]) (pS (aq<|eB a f) a) rfl) λA f=>HO λt u v=>Ph (target:=.Name (ah "levels") default) (hx:="range") rfl r1 r2 o (λB' c=>rR ∅ rfl) λB' c=>?_;let g:A≠B':=λe=>by rw[<-e,ar] at c;cases c
 show X5 (pS (aq g) ar) ar (GP ∅ (h A B' f (by rwa [aq (aE g)] at c) g))
end
section
variable{O:bf}
@[ext]abbrev i36:List Ix:=(.l 1::.c .none::.cm .Is::.tr::.iff [.c<|.raw<|.type "dict",.fn,.ca 0 [],.st 1] []::.c (!504)::.fn::.l 1::.ca 1 []::.pop::.c (.raw<|.type "dict")::.fn::.ca 0 []::.l 0::.sa "_pred"::.c (.raw<|.type "dict")::.fn::.ca 0 []::.l 0::.sa "_succ"::.c (.raw<|.type "dict")::.fn::.ca 0 []::.l 0::.sa "_ref"::.c ⇑2::.l 0::.sa "_min_free"::.c (.raw<|.type "dict")::.fn::.ca 0 []::.l 0::.sa "_ite_table"::.c (.raw<|.type "dict")::.fn::.ca 0 []::.l 0::.sa "vars"::.c (.raw<|.type "dict")::.fn::.ca 0 []::.l 0::.sa "_level_to_var"::.l 0::.tl::.c (.raw<|.builtin "len")::.fn::.l 0::.at "vars"::.ca 1 []::.mf 86 1 []::[.pop,.c<|.bool au,.l 0,.sa "_reordering_context",.c .none,.l 0,.sa "_last_len",.fo L [.un 2,.st 2,.st 3] [.l 1,.me "items",.mc 0] [.l 0,.tl,.l 2,.l 3,.mf 129 2 [],.pop] [],.c<|.raw<|.type "set",.fn,.ca 0 [],.l 0,.sa "roots",.c ⇑2,.c ⇑63,.bi .Pow,.c ⇑1,.bi .Sub,.l 0,.sa "max_nodes"])
abbrev n36:List Str:=["self","levels","var","level"]
def pt(O:bf)(x a:aW)(bJ:List (Str×AV)):=aB (aB O a<|.ns bJ) x<|.raw<|k8 493 a
section
variable{x dx:aW}{bJ:List (Str×AV)}
def Gg(J:a≠x)(M:a≠dx):pt O x dx bJ a=O a:=by delta pt;rw[aq J,aq M]
def Gh(h:pt O x dx bJ D=R):D≠x/\D≠dx/\O D=R:=by
 let J:D≠x:=λe=>by subst e;delta pt at h;show cA h ar
 let M:D≠dx:=λe=>by subst e;delta pt at h;rw[aq J,ar] at h;show nomatch h
 show(bt J M<|by rw[Gg J M] at h;show h)
def tH(J:D≠x)(M:D≠dx):aB (pt O x dx bJ) D o=pt (aB O D o) x dx bJ:=by delta pt;rw[gf (aE J),gf<|aE M]
def Eo(h:dx≠x)(a:dx≠493):Inst (pt O x dx bJ) x 493 dx bJ:=(ar,by delta pt;rw[aq h,ar],aE a)
def Á(h:dx≠x):aB (pt O x dx bJ) dx (.ns dN)=pt O x dx dN:=by delta pt;rw[gf (aE h),bQ]
def sk{K:bf->Prop}(c:dx≠x)(f:dx≠493)(d:takerIn (K1 w) 493 name=Y R)(e:bJ.length<=500)(h:K (pt O x dx<|lz bJ name a)):Sat ↑hB (!x) name a (pt O x dx bJ) K:=
 (x,493,dx,bJ,rfl,Eo c f,k_inst,d,e,by rw[Á c];show h)
def sm(h:∀D c,D≠x->D≠dx->O D=R->c D=Y (.dict [])->(∀a v,O a=Y v->c a=Y v)->Q (!D) (pt c x dx bJ)):Cl ↑hB n (.type "dict") [] [] (pt O x dx bJ) Q:=
 KO λD f=>by let(J,M,e):=Gh f;rw[tH J M];show h D _ J M e ar λa v d=>by rw[aq (eB d e)];show d
def Dp(h:∀D c,D≠x->D≠dx->O D=R->c D=Y (.dg [])->(∀a v,O a=Y v->c a=Y v)->Q (!D) (pt c x dx bJ)):Cl ↑hB n (.type "dict") [] [] (pt O x dx bJ) Q:=
 HN λD f=>by let(J,M,e):=Gh f;rw[tH J M];show h D _ J M e ar λa v d=>by rw[aq (eB d e)];show d
def Ri(h:∀D c,D≠x->D≠dx->O D=R->c D=Y (.set [])->(∀a v,O a=Y v->c a=Y v)->Q (!D) (pt c x dx bJ)):Cl ↑hB n (.type "set") [] [] (pt O x dx bJ) Q:=
 OP λD f=>by let(J,M,e):=Gh f;rw[tH J M];show h D _ J M e ar λa v d=>by rw[aq (eB d e)];show d
def aaY(T:D≠x)(c:D≠dx)(g:O D=Y (.dict []))(h:∀e,(∀a v,O a=Y v->e a=Y v)->Q .none (pt e x dx bJ)):Cl ↑hB (n+4) (!504) [.ref D] [] (pt O x dx bJ) Q:=
 Vo (by rw[Gg T c];show g) λA q i f p=>by let(a1,a2,o):=Gh i;let(m,k,j):=Gh f;rw[tH a1 a2,tH m k];refine h _ λa v d=>?_;rw[aq (eB d j),aq<|eB d o];show d
end
abbrev T0:TS:=([((0,R,R),1)],[(1,(0,R,R))],[(1,1)],[],[],[],2)
def gq(J:O a=Y v)(M:O b=R):a≠b:=eB J M
def Vp(h:∀p∈l,O p.1=Y p.2):Ja l O=O:=by
 induction l with|nil=>rfl|cons p l ih=>show(congrArg (aB · p.1 p.2)<|ih λq m=>h q<|.tail _ m).trans (eh<|h p<|.head _)
def YM{V:TA}(J:O V.pred=Y (.dg<|jf t.pred))(M:O V.succ=Y (.dict<|fq t.X))(g:O V.ref=Y (.dict<|eC t.ref))(f:O V.ite=Y (.dg<|nZ t.ite))(d:O V.vars=Y (.dict<|eC t.vars))(c:O V.e8=Y (.dict<|eC t.e8))(a:O V.roots=Y (.set [])):pt O V.x V.dx (jD V t)=aA V t O:=by let e:Ja ((vals V t).drop 2) O=O:=Vp (ez.mpr (J,ez.mpr (M,ez.mpr (g,ez.mpr (f,ez.mpr (d,ez.mpr (c,ez.mpr (a,λ_ q=>nomatch q))))))));show _=aB (aB (Ja ((vals V t).drop 2) O) V.dx _) V.x _;rw[e];rfl
def aaZ(I:IT (pt O x d bJ) x d bJ P g ae)(y:O P=Y (.dg []))(u:O g=Y (.dict []))(v:O ae=Y (.dict []))(h:∀f,f P=Y (.dg<|jf T0.pred)->f g=Y (.dict<|fq T0.X)->f ae=Y (.dict<|eC T0.ref)->(∀a,a≠P->a≠g->a≠ae->f a=O a)->Q .none (pt f x d bJ)):Cl ↑hB (n+4) (!86) [.ref x,.int 0] [] (pt O x d bJ) Q:=by
 let((A,p,o,m),(k,j,i),(t,s),q):=nd5 I.nd;let e:DQ (pt O x d bJ) P g ae [] [] []=pt O x d bJ:=Vh I (by rw[Gg (aE p) (aE k)];show y) (by rw[Gg (aE o) (aE j)];show u) (by rw[Gg (aE m) (aE i)];show v);let key:=F7 (n:=n) (hB:=hB) (a:=[]) (b:=[]) (c:=[]) (ak:=0) I (.inl rfl) ∅ ∅ ∅ (Q:=Q);rw[e] at key;calc key;
 delta DQ
 rw[tH (aE p) (aE k),tH (aE o)<|aE j,tH (aE m)<|aE i];refine h _ (by rw[aq s,aq t];show ar) (by rw[aq q];show ar) ar λa a1 a2 z=>by rw[aq z,aq a2,aq a1]
def Rj{Q:Fl->bf->Prop}(c:f≠x)(d:f≠493)(h0:O x=R)(J:O f=R)(h:∀V g',Wf V->V.x=x->(∀a o,O a=Y o->g' a=Y o/\a∉V.list)->Q .next (T0\g')):Ex ↑hB (n+6) (k6 (iy (K1 w) 36) ak 36) (dB (K1 w) 36) (pt O x f []) [(ah "levels",.raw .none),(ah "self",.ref x)] λE O _=>Q E O:=by
 refine(Uu (C:=(bs w B hB,n+6,k6 (iy (K1 w) 36) ak 36,n36)) (ir:=i36) (m:=%[Y !x,Y (.raw .none)|2]) (Q:=λE O _=>Q E O) (uW rfl) ⋯ ?_).mono λE bu m2 h=>h.elim λm3 h=>h.2;show bH 5000 ↑hB ((bs w B hB,n+6,k6 (iy (K1 w) 36) ak 36,n36),λE O _=>Q E O) i36 [] [] %[Y !x,Y (.raw .none)|2] (pt O x f []);refine rT rfl (sm λD bh D1 D2 _ gD u1=>(⋯,?_));refine aaY D1 D2 gD λbu u2=>Dp λP js P1 P2 nP A u3=>sk c d ⋯ (bg ⋯) (sm λhv nr S1 S2 u U u4=>sk c d ⋯ (bg ⋯) (sm λae IL R1 R2 j gR u5=>sk c d ⋯ (bg ⋯) (sk c d ⋯ (bg ⋯) (Dp λI Sv I1 I2 nI gI u6=>sk c d ⋯ (bg ⋯) (sm λbc γ7 V1 V2 T gV u7=>sk c d ⋯ (bg ⋯) (sm λW C? W1 W2 s gW i=>sk c d ⋯ (bg ⋯) (ϻ (Eo c d) ⋯ (iG (a:=.ref bc) (Eo c d) k_inst ⋯ ⋯ rfl (qn (bJ:=[]) (by rw[Gg V1 V2];show i _ _ gV) ∅ ?_)))))))));let eP:C? P=Y (.dg<|jf []):=i _ _<|u7 _ _<|u6 _ _<|u5 _ _<|u4 _ _ A;let eS:C? hv=Y (.dict<|fq []):=i _ _<|u7 _ _<|u6 _ _<|u5 _ _ U;let eR:C? ae=Y (.dict<|eC []):=i _ _<|u7 _ _<|u6 _ _ gR;let H:P≠hv:=λe=>by rw[<-e,A] at u;show nomatch u
 let M:P≠ae:=λe=>by rw[<-e,u4 _ _ A] at j;show nomatch j
 let G:hv≠ae:=λe=>by rw[<-e,U] at j;show nomatch j
 generalize y:lz (lz (lz (lz (lz (lz (lz [] (ah "_pred")<|AV.ref P) (ah "_succ")<|AV.ref hv) (ah "_ref")<|AV.ref ae) (ah "_min_free")<|AV.int 2) (ah "_ite_table")<|AV.ref I) (ah "vars")<|AV.ref bc) (ah "_level_to_var") (AV.ref W)=kk;let IT8:IT (pt C? x f kk) x f kk P hv ae:=(Eo c d,(PC (pG (aE c)<|pG (aE P1)<|pG (aE S1)<|pG (aE R1) aM)<|PC (pG (aE P2)<|pG (aE S2)<|pG (aE R2) aM)<|PC (pG H<|pG M aM)<|PC (pG G aM)<|PC aM jW),by rw[<-y];rfl,by rw[<-y];rfl,by rw[<-y];rfl);refine aaZ IT8 eP eS eR λg e1 e2 e3 u9=>?_;clear IT8;subst y;refine sk c d ⋯ (bg ⋯) (sk c d ⋯ (bg ⋯) ?_)
 let qD:g D=Y (.dict []):=by rw[u9 D (λe=>by rw[<-e,u2 _ _ gD] at nP;show nomatch nP) (λe=>by rw[<-e,u3 _ _<|u2 _ _ gD] at u;show nomatch u) (λe=>by rw[<-e,u4 _ _<|u3 _ _<|u2 _ _ gD] at j;show nomatch j)];show i _ _<|u7 _ _<|u6 _ _<|u5 _ _<|u4 _ _<|u3 _ _<|u2 _ _ gD
 refine lG [] rfl λ_ BV=>?_;let pD:∀{bJ:List (Str×AV)},pt g x f bJ D=Y (.dict []):=by intro bJ;rw[Gg D1 D2];show qD
 refine(_,lA pD gY jY,⋯,?_);refine qr pD (mT pD<|dc (λ_ bu m2=>bu=cD (pt g x f _) D/\m2=%[Y !x,Y (!D)|2]) (rfl,rfl) (λk a bu m2 y=>(by show nomatch y))<|My BV ?_)
 rintro bu m2 ⟨rfl,rfl⟩
 dsimp only[iD.back];rw[i6,fN pD];refine Ri λao aa0 O1 O2 q gO p=>sk c d ⋯ (bg ⋯) (pX ∅ ∅ ∅ (sk c d ⋯ (bg ⋯) ?_));let fP:=p _ _ e1;let fS:=p _ _ e2;let fR:=p _ _ e3;let g8I:=i _ _<|u7 _ _ gI;let g8V:=i _ _ gV;let k9:∀a v,C? a=Y v->a≠P->a≠hv->a≠ae->g a=Y v:=λa v h a1 a2 a3=>by rw[u9 a a1 a2 a3];show h
 let dI:=gq (u5 _ _<|u4 _ _ A) nI;let dI':=gq (u5 _ _ U) nI;let aa1:=gq gR nI;let u56:∀a v,IL a=Y v->Sv a=Y v:=u6;let dV:=gq (u6 _ _<|u5 _ _<|u4 _ _ A) T;let dV':=gq (u6 _ _<|u5 _ _ U) T;let aa2:=gq (u6 _ _ gR) T;let dIV:=gq gI T;let dW:=gq (u7 _ _<|u6 _ _<|u5 _ _<|u4 _ _ A) s;let dW':=gq (u7 _ _<|u6 _ _<|u5 _ _ U) s;let aa3:=gq (u7 _ _<|u6 _ _ gR) s;let dIW:=gq (u7 _ _ gI) s;let dVW:=gq gV s;let g9I:=k9 _ _ g8I (aE dI) (aE dI')<|aE aa1;let g9V:=k9 _ _ g8V (aE dV) (aE dV')<|aE aa2;let g9W:=k9 _ _ gW (aE dW) (aE dW')<|aE aa3;let dPO:=gq e1 q;let dSO:=gq e2 q;let dRO:=gq e3 q;let dIO:=gq g9I q;let dVO:=gq g9V q;let dWO:=gq g9W q;let ef:=YM (V:=(x,f,P,hv,ae,I,bc,W,ao)) (t:=T0) fP fS fR (p _ _ g9I) (p _ _ g9V) (p _ _ g9W) gO;refine Eq.mp (congrArg (λz=>Q Fl.next z)<|ef.symm.trans<|congrArg (pt aa0 x f) ?_) (h (x,f,P,hv,ae,I,bc,W,ao) aa0 (?_,d) rfl λa o ha=>?_)
 .kernel_rfl
 .show PC (pG (aE c)<|pG (aE P1)<|pG (aE S1)<|pG (aE R1)<|pG (aE I1)<|pG (aE V1)<|pG (aE W1)<|pG (aE O1) aM)<|PC (pG (aE P2)<|pG (aE S2)<|pG (aE R2)<|pG (aE I2)<|pG (aE V2)<|pG (aE W2)<|pG (aE O2) aM)<|PC (pG H<|pG M<|pG dI<|pG dV<|pG dW<|pG dPO aM)<|PC (pG G<|pG dI'<|pG dV'<|pG dW'<|pG dSO aM)<|PC (pG aa1<|pG aa2<|pG aa3<|pG dRO aM)<|PC (pG dIV<|pG dIW<|pG dIO aM)<|PC (pG dVW<|pG dVO aM)<|PC (pG dWO aM)<|PC aM jW
 .let a2:=u2 _ _<|u1 _ _ ha;let a3:=u3 _ _ a2;let a4:=u4 _ _ a3;let a5:=u5 _ _ a4;let a6:=u6 _ _ a5;let a7:=u7 _ _ a6;let a8:=i _ _ a7;let a9:=k9 _ _ a8 (gq a2 nP) (gq a3 u)<|gq a4 j;refine(p _ _ a9,?_);show pG (gq ha h0)<|pG (gq ha J)<|pG (gq a2 nP)<|pG (gq a3 u)<|pG (gq a4 j)<|pG (gq a5 nI)<|pG (gq a6 T)<|pG (gq a7 s)<|pG (gq a9 q) aM
def Vq(h:∀V g',Wf V->(∀a o,O a=Y o->g' a=Y o/\a∉V.list)->Q (!V.x) (T0\g')):Cl ↑hB (n+8) (!493) [] [] O Q:=by
 refine M_ (f:=36) (oc:=.type "function") (od:=R) (osl:= #[]) (fd:=iy (K1 w) 36) (body:=dB (K1 w) 36) (m₀:=λx=>[(ah "levels",.raw .none),(ah "self",.ref x)]) ⋯ ⋯ ⋯ ⋯ ⋯ ⋯ ⋯
  (λx=>LA (x:=ah "self") (y:=ah "levels") (hx:=29) (dvs:= #[.none]) (k0:=0) (d:=.none) rfl rfl ⋯ λv=>(aC _ rfl ⋯)) (λx=>⋯) (oC:=(Kt w.params|>.lookup 493).get!) ⋯ λx q g c j i ak=>?_
 refine Rj (Q:=λp O=>m7 p=.none/\Q (!x) O) j i c g λV g' m e k=>?_;clear q g c j i;subst e;show(rfl,h V g' m k)
end
section
variable{K:AV->bf->Prop}
set_option backward.match.sparseCases false
section
variable{e:Expr}
def Rk(i:e=.Call (Ą e) [] [] e.pos)(f:iZ (Ą e)=L)(J:cX (Z,n,E,nm) 30 au (Ą e) []=[.c<|.raw g])(d:keepIn Z.K g=L)(h:Cl Z n g [] [] O K):ER Z (Z,n,E,nm) e m O K:=λa A=>
 sX (congrArg (λz=>Ev Z n E z O a K) i) (Q2 f<|j5 (C:=(Z,n,E,nm)) J A<|dc g rfl d h)
def suO(e:Expr):=xE e
def suU(e:Expr):=xE<|xF e
def suP(e:Expr):=(xF e).pos
def coC(e:Expr):=xK e
def NZ{k:Nat}(f:e=.Subscript (suO e) (.Slice R (Y<|.Constant ⇑k (coC<|suU e) (suU e).pos) R (suP e)) e.pos)(d:∀v r,sM (suO e) v r=pure cF)(J:cX (Z,n,E,nm) 30 au (suO e) []=i1)(h:bH 1000 Z ((Z,n,E,nm),rq λa g=>∃l,a=.lst l/\l.length<=1000/\K (.lst<|l.take k) g) i1 [[.ret]] [] m O):ER Z (Z,n,E,nm) e m O K:=λc A=>
 sX (congrArg (λz=>Ev Z n E z O c K) f) (Nv d<|j5 (C:=(Z,n,E,nm)) J A h)
end
end
section
variable{fu:Nat}
variable{w:cC}{B:Fz}{hB:cp w B}{n:Nat}{E:Env}{O:bf}{m:Loc}{V:TA}{t:TS}{g:bf}
@[ext]abbrev qT(w:cC):List Ix:=[.er<|xR (dB (K1 w) 531) 0,.st 1,.er<|xR (dB (K1 w) 531) 1,.st 2,.fo au [.st 3] [.c<|.raw<|.type "range",.fn,.c ⇑101,.c ⇑105,.ca 2 []] [.l 1,.tl,.l 3,.mf 129 1 [],.pop,.l 2,.me "append",.l 1,.tl,.l 3,.mf 150 1 [],.er<|xR (dB (K1 w) 531) 2,.tu 2,.mc 1,.pop] [],.fo L [.un 2,.st 4,.st 5] [.l 2] [.l 1,.tl,.l 4,.mf 100 1 [],.pop] [],.fo au [.st 6] [.er<|xR (dB (K1 w) 531) 3] (.l 2::.l 6::.c ⇑9::.bi .FloorDiv::.c (.raw<|.builtin "len")::.fn::.l 2::.ca 1 []::.bi .Mod::.sb::.un 2::.st 7::.st 8::.l 2::.l 6::.c ⇑81::.bi .FloorDiv::.c (.raw<|.builtin "len")::.fn::.l 2::.ca 1 []::.bi .Mod::.sb::.un 2::.st 9::.st 10::.l 2::.l 6::.c ⇑729::.bi .FloorDiv::.c (.raw<|.builtin "len")::.fn::.l 2::.ca 1 []::.bi .Mod::.sb::.un 2::.st 11::.st 12::.c ⇑101::.l 6::.c ⇑6561::.bi .FloorDiv::.c ⇑4::.bi .Mod::.bi .Add::.st 3::.c ⇑2::.l 3::.c ⇑101::.bi .Sub::.bi .Pow::.st 13::.l 6::[.c ⇑9,.bi .Mod,.st 14,.l 14,.c ⇑2,.cm .Lt,.tr,.iff [.l 1,.tl,.c<|.str "and",.l 7,.l 9,.ng,.mf 460 3 [],.st 15,.sr<|za (dB (K1 w) 531) 0] [.l 14,.c ⇑2,.cm .Eq,.tr,.iff [.l 1,.tl,.c<|.str "or",.l 7,.l 9,.mf 460 3 [],.st 15,.sr<|za (dB (K1 w) 531) 1] [.l 14,.c ⇑3,.cm .Eq,.tr,.iff [.l 1,.tl,.c<|.str "xor",.l 7,.l 9,.mf 460 3 [],.st 15,.sr<|za (dB (K1 w) 531) 2] [.l 14,.c ⇑4,.cm .Eq,.tr,.iff [.l 1,.tl,.l 7,.l 9,.l 11,.mf 349 3 [],.st 15,.sr<|za (dB (K1 w) 531) 3] [.l 14,.c ⇑5,.cm .Eq,.tr,.iff [.l 1,.tl,.l 7,.er<|xR (dB (K1 w) 531) 4,.mf 306 2 [],.st 15,.sr<|za (dB (K1 w) 531) 4] [.l 14,.c ⇑6,.cm .Eq,.tr,.iff [.l 1,.tl,.l 7,.er<|xR (dB (K1 w) 531) 5,.mf 271 2 [],.st 15,.sr<|za (dB (K1 w) 531) 5] [.l 14,.c ⇑7,.cm .Eq,.tr,.iff [.l 1,.tl,.er<|xR (dB (K1 w) 531) 6,.l 7,.mf 342 2 [],.st 15,.sr<|za (dB (K1 w) 531) 6] [.l 1,.tl,.er<|xR (dB (K1 w) 531) 7,.l 7,.mf 335 2 [],.st 15,.sr<|za (dB (K1 w) 531) 7]]]]]]],.l 1,.tl,.l 15,.mf 100 1 [],.pop,.l 2,.me "append",.l 15,.l 5,.tu 2,.mc 1,.pop]) []]
@[ext]abbrev aa4(w:cC):List Ix:=(.c (!526)::.fn::.l 1::.l 2::.ca 2 []::.tr::.no::.iff [.c<|.bool au,.ret] []::.c (.raw<|.builtin "len")::[.fn,.l 0,.ca 1 [],.c ⇑3,.bi .Mod,.st 16,.l 1,.tl,.l 16,.l 16,.c ⇑1,.bi .Add,.mf 393 2 [],.pop,.c !526,.fn,.l 1,.l 2,.ca 2 [],.ret])
abbrev amL:List Str:=["script","tool","made","name","node","bits","number","one","first","two","second","three","third","flip","way","new","place"]
abbrev bT:Nat->TS
 |0=>T0
 |k+1=>pv (Io (bT k)<|101+(k:Int)) k (-1) 1<|(bT k).mf+1
def bF(k r:Nat):=((r:Int).fdiv (2^((101+(k:Int))-101).toNat)).fmod 2
def bL(k:Nat):=(bO k).map λi:Nat=>AV.tup [.int<|2+(i:Int),Bo<|bF i]
def Vr{t:TS}{j r:Int}{t':TS}(h:yZ t j (-1) 1 r t')(J:N t.pred (j,Y<|-1,Y 1)=R)(M:N (bl t.X t.mf (j,Y<|-1,Y 1)) (t.mf+1)=R):r=t.mf/\t'=pv t j (-1) 1 (t.mf+1):=by
 induction h with
 |same e=>cases e
 |hit _ e=>rw[show(sg 1* -1:Int)= -1 from rfl,show(sg 1*1:Int)=1 from rfl,J] at e;cases e
 | @new f _ _ c e2 a=>
  rw[show(sg 1* -1:Int)= -1 from rfl,show(sg 1*1:Int)=1 from rfl] at*
  let d:f=t.mf+1:=by
   rcases Int.lt_trichotomy f (t.mf+1) with q|q|q
   .clear a;let rfl:f=t.mf:=by show ais c q
    rw[aX,bj rfl] at e2;cases e2
   .show q
   .have:=a (t.mf+1) ait q;rw[M] at this;cases this
  clear c e2 a;subst d;show(by show sg 1*t.mf=_;rw[show(sg 1:Int)=1 from rfl];show Ī,rfl)
def aa5:∀k,k<4->(bT k).vars.length=k/\(bT k).e8.length=k/\N (bT k).vars (101+(k:Int))=R/\N (bT k).e8 (k:Int)=R/\(N (bT k).pred<|(N (bT k).X 1).getD ((k+1:Int),R,R)).isSome=L/\(bT k).pred.length<=1000/\(bT k).X.length<=1000/\(bT k).ref.length<=1000:=by lk
def Ã:∀k,k<4->let t:=Io (bT k)<|101+(k:Int);N t.vars (101+(k:Int))=Y (k:Int)/\t.vars.length=k+1/\(N t.X 1).isSome=L/\t.mf=2+(k:Int)/\N t.X t.mf=R/\(N t.ref 1).isSome=L/\
  N t.pred ((k:Int),Y<|-1,Y 1)=R/\N (bl t.X t.mf ((k:Int),Y<|-1,Y 1)) (t.mf+1)=R:=by lk
def PF{t:TS}{aw:Nat}(h:(decide (t.X.length<=aw)&&decide (t.pred.length<=aw)&&decide (t.ref.length<=aw)&&decide (t.mf<=aw+1)&&t.X.all λp=>decide (p.1<=aw))=L):kb t aw:=by simp only[bW,decide_eq_true_eq,ct] at h;let((((J,M),d),c),a):=h;show(J,M,d,c,λu n e=>a _<|lE e)
def Ä:∀k,k<4->kb (Io (bT k)<|101+(k:Int)) 10:=λk a=>PF (by revert k;decide+kernel)
def Rl:∀k:Nat,k<4->(2:Int)^k≠0/\((2:Int)^k).natAbs<1073741824:=∅
@[ext]abbrev LC(w:cC)(B:Fz)(hB:cp w B)(n:Nat)(ak:aW):CC:=(bs w B hB,n+20,mA (iy (K1 w) 531) ak 531,amL)
def aa6{ak:aW}{sc:AV}{Q:Fl->bf->Lm->Prop} (h:∀V g' h2 z,Wf V->(∀a o,O a=Y o->g' a=Y o/\a∉V.list)->h2∉V.list->O h2=R->g' h2=Y (.list<|bL 4)->∀{fu:Nat},bH (fu+4900) ↑hB (LC w B hB n ak,Q) (ij 5<|qT w) [] [] %[Y<|sc,Y !V.x,Y !h2,z|13] ((bT 4)\g')):bH (fu+5000) ↑hB (LC w B hB n ak,Q) (qT w) [] [] %[Y (sc)|16] O:=by
 refine Rk (g:=.ref 493) () () () () (Vq (n:=n+12) λV g0 v k0=>Vd () λh2 hM=>?_);let(d,xf):=d0 hM;rw[aY d]
 let A:O h2=R:=by
  induction e:O h2 with|none=>rfl|some o=>show cA xf ((k0 _ _ e).1)
 refine lG (C:=LC w B hB n ak) [] rfl λ_ BV=>B7 λt1 t2 t3=>rj λ_=>rR ∅ ?_
 let(q,T,U):∃q:Nat->bf->Lm->Prop,(∀k g' z,(∀a o,O a=Y o->g' a=Y o)->g' h2=Y (.list<|bL k)->q k ((bT k)\g') %[Y<|sc,Y !V.x,Y !h2,z|13])/\(∀k u i,q k u i->∀p:bf->Lm->Prop,(∀g' z,(∀a o,O a=Y o->g' a=Y o)->g' h2=Y (.list<|bL k)->p ((bT k)\g') %[Y<|sc,Y !V.x,Y !h2,z|13])->p u i):=
  (λk u i=>∀p:bf->Lm->Prop,(∀g' z,(∀a o,O a=Y o->g' a=Y o)->g' h2=Y (.list<|bL k)->p ((bT k)\g') %[Y<|sc,Y !V.x,Y !h2,z|13])->p u i,λ_ g' z h0 J _ κ=>κ g' z h0 J,λ_ _ _ h=>h)
 refine dc q ?_ ?_<|My BV ?_
 .show T _ _ _ (λa o e=>by rw[aq (gq e A)];show(k0 _ _ e).1) ar
 .intro j a bu i ha az;apply U _ _ _ az;intro g' z D s;intro _ DS;let(H,rfl):=zW ha;let f:j<4:=H;let(y,b2,b3,b4,b5,b6,b7,b8):=aa5 j f;let(c1,M,c3,I,c5,c6,c7,c8):=Ã j f;refine dR ∎ (LW (n:=n+15) v (by rw[y];show ť f) (by rw[b2];show ť f) b3 (by rw[y];show b4) (by rw[y];show b5) b6 b7 b8 (_,KP (bz d s) uz uA,⋯,?_));refine dR ∎ (Vn (n:=n+16) v c1 (PV) (by rw[M];show aiu) c3 (by rw[M];show aiv f) (aw:=10) ∅ ?_ (by rw[I];show aiw) c5 c6 λr t' hf=>?_)
  .show Ä j f
  let(rfl,rfl):=Vr hf c7 c8;rw[show pv (Io (bT j)<|101+(j:Int)) (j:Int) (-1) 1 ((Io (bT j)<|101+(j:Int)).mf+1)=bT (j+1) from rfl,I];calc NR (x:=ah "row") (cl:=[(ah "name",ak+1)]) (ks:=[(ah "name",3)]) (el:=[.l 0,.c ⇑2,.l 1,.c ⇑101,.bi .Sub,.bi .Pow,.bi .FloorDiv,.c ⇑2,.bi .Mod]) (bF j) () (⋯,⋯,⋯,⋯,⋯,(⋯,trivial),⋯,⋯) (λ_=>⋯,⋯) () (λ_=>⋯) (λk H ak g2=>?_);
  .refine pX (Ι) (aix f) ∅ ?_;let G:(2:Int)^(101+(j:Int)-101).toNat≠0/\((2:Int)^(101+(j:Int)-101).toNat).natAbs<1073741824:=by rw[show(101+(j:Int)-101).toNat=j from aiy];show Rl j f
   show yH G.1 G.2<|pW ∅ (rfl,rfl)
  calc B8 (bz d s) (by simp[bL];show Α f);rw[aY d];show DS _ _ _ (T _ _ _ (λa o e=>by rw[aq (gq e A)];show D a o e)<|by rw[ar];simp[bL,hH])
 .intro bu i az;apply U _ _ _ az;intro g' z D s;show bH _ _ _ (ij 5<|qT w) [] [] [Y<|sc,Y !V.x,Y !h2,z,_,_,_,_,_,_,_,_,_,_,_,_,_] _;show h V g' h2 z v (λa o e=>(D a o e,(k0 a o e).2)) d A s
end
section
set_option backward.match.sparseCases false
def mq(A:Int->aW)(k:Nat):=(bO k).map λi:Nat=>bG (K0.int i)<|AV.ref<|A i
def N0:mq A (k+1)=mq A k++[(K0.int k,AV.ref<|A k)]:=by delta mq;rw[hH,hO];rfl
def uZ:(mq A k).length=k:=by simp[mq]
def zY{k:Nat}{i:Int}(c:0<=i)(d:i<k):N (mq A k) ⇑i=Y (!(A i)):=by
 let h:(K0.int i,AV.ref<|A i)∈mq A k:=cG.mpr (aC i.toNat (dS.mpr<|Ĳ c d)<|by rw[show((i.toNat:Nat):Int)=i from í c]);refine xC ?_ h
 delta mq
 rw[fH];refine PR _ (fun(a b:Nat) (e:a<b) q=>?_) kf;have:(a:Int)=b:=by injection q
 show ĳ this e
def DT:N (mq A k) ⇑k=R:=by
 refine yQ.mpr λh=>?_;let(p,a,e):=cG.mp h;let(i,c,rfl):=cG.mp a;have:(i:Int)=k:=by injection e
 show ĳ this (dS.mp c)
def zZ{c:Type}(A:Int->c)(k:Int)(a:c):=λj=>if j=k then a else A j
def ni{A:Int->c}{a:c}:zZ A k a k=a:=bj rfl
def qb{A:Int->c}{a:c}(h:j≠k):zZ A k a j=A j:=aK h
def Gi{a:c}:zZ (λ_=>a) k a=λ_=>a:=by funext j;delta zZ;split<;>rfl
def N1:bl (mq A k) ⇑k (!a)=mq (zZ A k a) (k+1):=by
 rw[Fp DT,N0,ni]
 congr 1
 show cJ λi c=>by rw[qb (by have:=dS.mp c;show agb this)]
def N2:dz (mq A 5) ⇑4=mq A 4:=()
structure B0(V:TA)(g g':bf)(D:aW)(A:Int->aW)(ay:Int->List Int)(k:Nat):Prop where
 dict:g' D=Y (.dict<|mq A k)
 sets:∀i:Int,0<=i->i<k->g' (A i)=Y (.set<|ay i)
 inj:∀i j:Int,0<=i->i<k->0<=j->j<k->A i=A j->i=j
 out:∀i:Int,0<=i->i<k->A i∉V.list/\A i≠D/\g (A i)=R
 Bu:D∉V.list/\g D=R
 sub:Sub g g'
section
variable{V:TA}{g g':bf}{D a:aW}{A:Int->aW}{ay:Int->List Int}{k:Nat}
def B0.start(J:D∉V.list)(M:g D=R):B0 V g (aB g D<|.dict []) D A ay 0:=
 (ar,λi J M=>(agc M J).elim,λi j J M=>agd M J,λi J M=>age J M,(J,M),Sub.aB M)
def B0.new(hS:B0 V g g' D A ay k)(J:a∉V.list)(M:g' a=R):B0 V g (aB (aB g' a<|.set []) D<|.dict<|bl (mq A k) ⇑k !a) D (zZ A k a) (zZ ay k []) (k+1):=by
 let n:a≠D:=qm M hS.dict;let hA:∀i:Int,0<=i->i<k->A i≠a:=λi c f e=>by have:=hS.sets i c f;rw[e,M] at this;cases this
 let VT:∀{i:Int},i<((k+1:Nat):Int)->i=k\/(i<k/\i≠k):=fun{i} h=>agf h;refine(by rw[ar,N1],λi c f=>?_,λi j c f s v e=>?_,λi c f=>?_,hS.Bu,λb o m=>?_)
 .rcases VT f with q|⟨q,d⟩
  .rw[q,ni,ni,aq n,ar]
  .rw[qb d,qb d,aq (hS.out i c q).2.1,aq<|hA i c q];show hS.sets i c q
 .rcases VT f with q|⟨q,d⟩<;>rcases VT v with r|⟨r,p⟩
  .rw[q,r]
  .rw[q,ni,qb p] at e;show absurd e.symm<|hA j s r
  .rw[r,ni,qb d] at e;show absurd e<|hA i c q
  .rw[qb d,qb p] at e;show hS.inj i j c q s r e
 .rcases VT f with q|⟨q,d⟩
  .rw[q,ni];show bt J n<|hS.sub.no M
  .rw[qb d];show hS.out i c q
 .let u:b≠D:=eB m hS.Bu.2;let t:b≠a:=eB m<|hS.sub.no M;rw[aq u,aq t];show hS.sub b o m
def B0.add(hS:B0 V g g' D A ay k){i:Int}(d:0<=i)(c:i<k)(xs:List Int):B0 V g (aB g' (A i)<|.set xs) D A (zZ ay i xs) k:=by
 refine(by rw[aq (aE (hS.out i d c).2.1)];show hS.dict,λj J M=>?_,hS.inj,hS.out,hS.Bu,λb o f=>?_)
 .by_cases q:j=i
  .rw[q,ar,ni]
  .rw[qb q,aq<|λe=>q<|hS.inj j i J M d c e];show hS.sets j J M
 .rw[aq (eB f<|(hS.out i d c).2.2)];show hS.sub b o f
def B0.drop(c:B0 V g g' D A ay 5):B0 V g (aB g' D<|.dict<|mq A 4) D A ay 4:=
 (ar,λi J M=>by rw[aq (c.out i J<|Ĝ M).2.1];show c.sets i J<|Ĝ M,λi j J M f e=>c.inj i j J (Ĝ M) f<|Ĝ e,λi J M=>c.out i J<|Ĝ M,c.Bu,
  λb o d=>by rw[aq (eB d c.Bu.2)];show c.sub b o d)
end
@[ext]abbrev n9:List (Int×Int):=[(101,0),(102,1),(103,2),(104,3)]
@[ext]abbrev DU:List (Int×Int):=[(0,101),(1,102),(2,103),(3,104)]
def N3(h:(nU<|eC n9)[k]?=Y a):k<4/\a=.tup [.int<|101+k,.int k]:=by let c:=(aL.mp h).1;let c:k<4:=c;refine(c,?_);rcases(show k=0\/k=1\/k=2\/k=3 from ı c) with q|q|q|q<;>subst q<;>(cases h;rfl)
def qU(a:SM)(r:Nat)(i:Int)(xs:List Int):=xs.Nodup/\∀u,u∈xs↔∃n,(u,(i,n))∈a.take r
def qU.len(h:qU a r i xs):xs.length<=a.length:=by
 have:=bS h.1 (l₂:=a.map (·.1)) λu c=>by let(n,d):=(h.2 u).mp c;show eL (f:=(·.1))<|qL d
 rwa [cE] at this
def v8:(nU l).length=l.length:=cE _
def Rn{c:SM}{k:Nat}(h:(nU<|fq c)[k]?=Y a):∃u i x y,c[k]?=Y (u,i,x,y)/\a=.tup [.int u,.tup [.int i,oi x,oi y]]:=by
 delta nU fq at h
 rw[bb,bb] at h
 induction d:c[k]? with|none=>rw[d] at h;cases h|some p=>rw[d] at h;cases h;show(RT _ _ _ _ rfl rfl)
def qU.step{d:SM}{r:Nat}(p:(d.map (·.1)).Nodup)(h:d[r]?=Y (u,(i,n)))(g:∀j,qU d r j<|ay j):∀j,qU d (r+1) j (zZ ay i (ff (ay i) u) j):=λj=>by
 let s:d.take (r+1)=d.take r++[(u,(i,n))]:=by rw[fL,h];rfl
 delta qU
 rw[s];by_cases q:j=i
 .subst q;rw[ni];let k:u∉ay j:=λk=>by let(c,t):=((g j).2 u).mp k;rw[<-eO r d,hO] at p;let M:(u,(j,n))∈d.drop r:=bo (i:=0)<|pS (sx) h;show(eM.mp p).2.2 _ (eL (f:=(·.1)) t) _ (eL (f:=(·.1)) M) rfl
  delta ff
  rw[aK k];refine(eM.mpr<|bt ((g j).1) (vA _ u)<|λa z b y e=>k<|by rw[<-aV.mp y,<-e];show z,λv=>?_);rw[cy,aV,(g j).2 v];refine(λh=>h.elim (λo=>by let(c,h):=o;show(c,jk _ h)) λh=>(n,by rw[h];show kR _<|aV.mpr rfl),λm=>m.elim λc h=>(cy.mp h).imp (λh=>(c,h)) λh=>?_);have:=aV.mp h;injection this
 .rw[qb q];refine((g j).1,λv=>((g j).2 v).trans (λo=>by let(c,h):=o;show(c,jk _ h),λm=>m.elim λc h=>(c,(cy.mp h).resolve_right λh=>?_)));have:=aV.mp h;injection this with _ M
  injection M with M
  show q M
abbrev VW:=Int×Int×Int
abbrev fx(a:SM)(u:Int):VW:=match N a u with
 |some (_,Y v,Y w)=>(u,v,w)
 |_=>(u,0,0)
def yT{a:SM}(h:N a u=Y (i,Y v,Y w)):fx a u=(u,v,w):=by delta fx;rw[h]
def fT(l:List VW):=l.map λp=>bG (K0.int p.1)<|AV.tup [.int p.2.1,.int p.2.2]
def vd:(fT l).length=l.length:=cE _
def N4(h:u∉l.map (·.1)):bl (fT l) ⇑u (.tup [.int v,.int w])=fT (l++[(u,v,w)]):=by
 rw[Fp,fT,fT,hO];· rfl
 refine yQ.mpr λq=>h ?_;let(p,a,e):=cG.mp q;let(d,c,rfl):=cG.mp a;injection e with e
 show e▸eL (f:=(·.1)) c
def N5:(fx c u).1=u:=by
 delta fx
 induction N c u with
 |none=>rfl
 |some p=>
  let(i,a,b):=p
  induction a with|none=>rfl|some v=>cases b<;>rfl
def xZ{l:List Int}:(l.map<|fx a).map (·.1)=l:=by rw[fH];show(cJ λu _=>N5).trans (DC l)
def Dq{r:Nat}(h:(setItems l)[r]?=Y a):∃u,l[r]?=Y u/\a=.int u:=by
 delta setItems at h
 rw[bb] at h
 induction c:l[r]? with|none=>rw[c] at h;cases h|some u=>rw[c] at h;cases h;show(aC u rfl rfl)
def v9{l:List Int}(h:l.Nodup)(a:l[r]?=Y u):u∉l.take r:=λc=>by rw[<-eO r l] at h;show(eM.mp h).2.2 u c u (bo (i:=0)<|pS (sx) a) rfl
end
def ua(t:TS)(u i v w:Int):=
 {t with X:=dz t.X u,pred:=dz t.pred (i,Y v,Y w),ref:=n6 (n6 (dz t.ref u) (aT v:Int)) (aT w:Int),mf:=min u t.mf}
def Inv.isin(I:Inv t m e)(h:(N t.X u).isSome=L)(f:∃c,N t.ref u=Y c/\c<=0)(g:0<=e u):jZ t.X u=0/\e u<=0:=by
 let(c,i,d):=I.ref u h;let(k,a,j):=f;rw[i] at a;injection a with a
 have:= @La t.X u;show agg a d this g j
def JO(a:jZ f u=0)(h:N f k=Y (i,Y v,Y w)):(aT v:Int)≠u/\(aT w:Int)≠u:=by
 have:=xH (u:=u) h;let e:nt (i,Y v,Y w) u=kZ (Y v) u+kZ (Y w) u:=rfl;let d:= @xB (Y v) u;let c:= @xB (Y w) u;constructor
 .intro q;rw[<-q] at this e d c a;rw[vV] at e;show agh e a this c
 .intro q;rw[<-q] at this e d c a;rw[vV] at e;show agi e a this d
nonrec def Inv.rem(I:Inv t Z0 e)(g:N t.X u=Y (i,Y v,Y w))(C:u≠1)(hr:N t.ref u=Y 0)(G3:∀x,0<=e x):Inv (ua t u i v w) Z0 e/\(∃c,N (dz t.ref u) (aT v:Int)=Y c/\1<=c)/\(∃c,N (n6 (dz t.ref u) (aT v:Int)) (aT w:Int)=Y c/\1<=c):=by
 let bD:=I.good;let he:=G3 u;let(y,s):=I.isin (by rw[g];rfl) (aC 0 hr<|dm 0) he;clear hr he;let(p1,p2,p3,A,w',e1,e2,p4,p5,p6,p7,p8,p9):=bD.node _ _ _ _ g C (λh=>h);clear p4 p5 p8 p9;replace e1:=ax e1;replace e2:=ax e2;subst e1 e2;let(nv,D):=JO y g;let(cv,f,Q):=I.ref _ p6.1;let(cw,k,LY):=I.ref _ p7.1;let d:∀{x:Int} {n:Nd},x≠u->N t.X x=Y n->N (dz t.X u) x=Y n:=λT h=>by rw[dD,aK T];show h
 let back:∀{x:Int} {n:Nd},N (dz t.X u) x=Y n->x≠u/\N t.X x=Y n:=fun{x n} h=>by
  rw[dD] at h;split at h
  .show nomatch h
  .rename_i q;show(q,h)
 let E:∀{x:Int},bc t.X Z0 x->(aT x:Int)≠u->bc (dz t.X u) Z0 x/\lv (dz t.X u) x=lv t.X x:=fun{x} T p=>by
  unfold bc at T⊢
  delta lv
  rw[dD,aK p];show(T,rfl)
 let r1:N (dz t.ref u) (aT v:Int)=Y cv:=by rw[dD,aK nv];show f
 let r2:N (n6 (dz t.ref u) (aT v:Int)) (aT w:Int)=Y (if(aT w:Int)=v.natAbs then cv-1 else cw):=by rw[jN r1,dD,aK D,k];split<;>rfl
 let m:∀x,nt (i,Y v,Y w) x=(if(aT v:Int)=x then 1 else 0)+(if(aT w:Int)=x then 1 else 0):=λx=>rfl;let o:=xH (u:=(aT v:Int)) g;let H:=xH (u:=(aT w:Int)) g;rw[m] at o H;let ev:=I.e0
 let U:Good (ua t u i v w).X Z0:=by
  show Good (dz t.X u) Z0;refine(?_,λh=>h,?_)
  .show d (aE C) bD.one
  .intro x j a b h Cv _;obtain⟨O,h⟩:=back h;let(q1,q2,q3,A,w',rfl,rfl,q4,q5,q6,q7,q8,q9):=bD.node x j a b h Cv (λh=>h);let(m1,m2):=JO y h;let(k1,k2):=E q6 m1;let(k3,k4):=E q7 m2;show(q1,q2,q3,A,w',rfl,rfl,q4,q5,k1,k3,(by show j<lv (dz t.X u) A;rw[k2];show q8),(by show j<lv (dz t.X u) w';rw[k4];show q9))
 refine bt ((?_,?_,?_,HS I.nd,?_,?_,?_,?_,?_,?_),U,λx h=>h.elim) (aC cv r1 ?_)<|aC _ r2 ?_
 .intro x j A w' h;obtain⟨O,h⟩:=back h;let(m1,m2):=JO y h;have:=I.Jn _ _ _ _ h;show(N (dz t.X u) _).isSome=L/\(N (dz t.X u) _).isSome=L;rw[dD,aK m1,dD,aK m2];show this
 .intro x j a b h;show I.xI _ _ _ _ (back h).2
 .intro n x;show N (dz t.pred (i,Y v,Y w)) n=Y x↔N (dz t.X u) x=Y n/\_;rw[dD,dD];by_cases p:n=(i,Y v,Y w)
  .subst p;rw[bj rfl];constructor
   .intro h;show nomatch h
   .rintro ⟨h,_⟩;split at h
    .show nomatch h
    .rename_i q;show absurd (I.inj _ _ _ h g (λh=>h)<|λh=>h) q
  .rw[aK p];rw[I.pred n x];by_cases q:x=u
   .clear e I C G3 y s p1 nv D cv f Q cw k LY d back E r1 r2 ev U;subst q;rw[bj rfl];constructor
    .rintro ⟨h,_⟩;rw[g] at h;replace h:=ax h;show absurd h.symm p
    .rintro ⟨h,_⟩;show nomatch h
   .rw[aK q]
 .show lU<|lU<|HS I.Mw
 .show 1<min u t.mf;have:=I.G8;show agj p1 this
 .show N (dz t.X u) (min u t.mf)=R;rw[dD];split
  .rfl
  .rename_i q;have:min u t.mf=t.mf:=agk q;rw[this];show I.A8
 .intro x T;let T:(N (dz t.X u) x).isSome=L:=T;show∃c,N (n6 (n6 (dz t.ref u) (aT v:Int)) (aT w:Int)) x=Y c/\jZ (dz t.X u) x+e x<=c;rw[dD] at T;let O:x≠u:=λq=>by rw[bj q] at T;show nomatch T
  rw[aK O] at T;let(c,G,z):=I.ref x T;rw[jN r2,jN r1,dD,aK O,QD I.nd g,m];by_cases J:x=(aT w:Int)
  .rw[bj J];calc aC _ rfl;rw[<-J] at k⊢;rw[G] at k;replace k:=ax k;by_cases M:(x:Int)=v.natAbs
   .rw[bj M,bj M.symm,bj rfl];rw[<-M,G] at f;replace f:=ax f;show agl f z
   .rw[aK M,aK<|λq=>M q.symm,bj rfl];show agm k z
  .rw[aK J,show(if(aT w:Int)=x then(1:Int) else 0)=0 from aK (λq=>J q.symm)];by_cases M:(x:Int)=v.natAbs
   .rw[bj M,bj M.symm];calc aC _ rfl;rw[<-M,G] at f;replace f:=ax f;show agn f z
   .rw[aK M,aK<|λq=>M q.symm];show aC c G<|ago z
 .intro x c h;let h:N (n6 (n6 (dz t.ref u) (aT v:Int)) (aT w:Int)) x=Y c:=h;show(N (dz t.X u) x).isSome=L;rw[jN r2,jN r1] at h;rw[dD];split at h
  .rename_i q;rw[q,aK D];show p7.1
  .split at h
   .rename_i q;rw[q,aK nv];show p6.1
   .rw[dD] at h;split at h
    .show nomatch h
    .rename_i q;rw[aK q];show I.refs _ _ h
 .intro x h;let h:N (dz t.X u) x=R:=h;rw[dD] at h;clear g C y p1 p2 p3 p6 p7 nv D cv f Q cw k LY d back E r1 r2 m o H U;split at h
  .rename_i q;clear I bD ev;subst q;show s
  .show I.e0 x h
 .rw[bj rfl] at o;let J:0<=(if(aT w:Int)=v.natAbs then(1:Int) else 0):=by split<;>(first|exact Y66|exact PW)
  have:=G3 (aT v:Int);show agp o J Q this
 .let J:=G3 (aT v:Int);rw[bj rfl] at o;by_cases q:(aT w:Int)=v.natAbs
  .rw[bj q] at o⊢;show agq o Q J
  .rw[aK q];rw[bj rfl] at H;have:0<=(if(aT v:Int)=w.natAbs then(1:Int) else 0):=by split<;>(first|exact Y66|exact PW)
   show agr H this LY<|G3 (aT w:Int)
structure MB(e:Int->Int)(t0:TS)(P:Int->Prop)(aw:Nat)(t:TS)(W:List Int):Prop where
 inv:Inv t Z0 e
 sub:Ext t.X t0.X
 rem:∀u,(N t0.X u).isSome=L->N t.X u=R->P u
 wnd:W.Nodup
 w:∀u∈W,u≠1/\(N t.X u).isSome=L/\N t.ref u=Y 0/\P u
 vars:t.vars=t0.vars
 e8:t.e8=t0.e8
 ite:t.ite=t0.ite
 vC:kb t aw
 len:t.X.length<=t0.X.length
def YO{a:SM}(h:N a u=Y n):(dz a u).length<a.length:=by
 delta dz
 refine Nat.lt_of_le_of_ne (gb _ _) λe=>?_;have:=List.length_filter_eq_length_iff.mp e (u,n)<|lE h;simp at this
def gcW(t':TS)(W:List Int)(u v w:Int):=
 let a:=if N t'.ref (aT v:Int)=Y 0/\(aT v:Int)≠1 then ff (W.erase u) (aT v:Int) else W.erase u
 if N t'.ref w=Y 0/\w≠1 then ff a w else a
nonrec def MB.step(hS:MB e t0 P aw t W)(he:∀x,0<=e x)(hP:∀u i v w,P u->N t0.X u=Y (i,Y v,Y w)->P (aT v:Int)/\P (aT w:Int))(hu:u∈W):∃i v w,N t.X u=Y (i,Y v,Y w)/\1<u/\0<w/\v≠0/\N t.ref u=Y 0/\N t.pred (i,Y v,Y w)=Y u/\MB e t0 P aw (ua t u i v w) (gcW (ua t u i v w) W u v w)/\(dz t.X u).length<t.X.length/\(∃c,N (dz t.ref u) (aT v:Int)=Y c/\1<=c)/\(∃c,N (n6 (dz t.ref u) (aT v:Int)) (aT w:Int)=Y c/\1<=c):=by
 let I:=hS.inv;let bD:=I.good;let(O,Ez,s,g):=hS.w u hu;clear hu;let(n,d):=bp.mp Ez;let(i,a,b):=n;let(p1,p2,p3,v,w,rfl,rfl,o,p5,A,z,p8,p9):=bD.node _ _ _ _ d O (λh=>h);clear p5 p9;let(H,y,k):=I.rem d O s he;clear O;let(h0,_):=I.isin Ez (aC 0 s<|dm 0)<|he u;clear Ez;let(nv,C):=JO h0 d;let j:(aT w:Int)=w:=i? o;clear h0;let(Pv,D):=hP _ _ _ _ g<|hS.sub _ _ d;rw[j] at D;refine wB i v w d p1 o (bD.C6 A) s ((I.pred _ _).mpr (d,λh=>h)) (H,λx m h=>?_,λx J M=>?_,?_,?_,hS.vars,hS.e8,hS.ite,?_,?_) (YO d) y k
 .let h:N (dz t.X u) x=Y m:=h;rw[dD] at h;split at h
  .show nomatch h
  .show hS.sub _ _ h
 .let M:N (dz t.X u) x=R:=M;rw[dD] at M;clear s p1 p2 p3 o A z p8 d H y k nv C j Pv D;split at M
  .rename_i q;clear W hS he I bD;subst q;show g
  .show hS.rem x J M
 .let J:(W.erase u).Nodup:=hS.wnd.erase u;delta gcW;dsimp only;split<;>split<;>first|exact pE (pE J)|exact pE J|exact J
 .let Vs:∀x∈W.erase u,x≠1/\(N (dz t.X u) x).isSome=L/\N (ua t u i v w).ref x=Y 0/\P x:=λx T=>by
   let a!:x≠u:=λq=>by clear s g i p1 p2 p3 v w o A z p8 d H y k nv C j Pv D;subst q;show(uB hS.wnd) T
   let(q1,q2,Q,q4):=hS.w x<|xb T;refine(ek q1 (by rw[dD,aK a!];show q2) ?_ q4);let(cv,f,Ç):=y;let(cw,G,È):=k
   let p:x≠(aT v:Int):=λq=>by rw[dD,aK nv,<-q,Q] at f;injection f with f;show Ĵ f Ç
   let U:x≠(aT w:Int):=λq=>by let E:=G;rw[jN f,<-q,aK p,dD,aK a!,Q] at E;injection E with E;show Ĵ E È
   show N (n6 (n6 (dz t.ref u) (aT v:Int)) (aT w:Int)) x=Y 0;rw[jN G,aK U,jN f,aK p,dD,aK a!];show Q
  let HE:(N (dz t.X u) (aT v:Int)).isSome=L:=by rw[dD,aK nv];show A.1
  let pd:(N (dz t.X u) w).isSome=L:=by rw[dD,aK (by rw[<-j];show C),<-j];show z.1
  intro x T
  delta gcW at T
  dsimp only at T
  let J:∀x∈(if N (ua t u i v w).ref (aT v:Int)=Y 0/\(aT v:Int)≠1 then ff (W.erase u) (aT v:Int) else W.erase u),x≠1/\(N (dz t.X u) x).isSome=L/\N (ua t u i v w).ref x=Y 0/\P x:=λx T=>by
   split at T
   .rename_i q;rcases f5.mp T with T|rfl
    .show Vs x T
    .show ek q.2 HE q.1 Pv
   .show Vs x T
  clear hS he I o z d H k C j Vs;split at T
  .rename_i q;rcases f5.mp T with T|rfl
   .show J x T
   .show ek q.2 pd q.1 D
  .show J x T
 .let(k1,k2,k3,k4,k5):=hS.vC;let(cv,f,_):=y;let(cw,G,_):=k;refine(bP lB k1,bP lB k2,?_,?_,λx m h=>?_)
  .let e1:(n6 (dz t.ref u) (aT v:Int)).length=(dz t.ref u).length:=jg (by rw[f];rfl);let e2:(n6 (n6 (dz t.ref u) (aT v:Int)) (aT w:Int)).length=(n6 (dz t.ref u) (aT v:Int)).length:=jg (by rw[G];rfl);show(n6 (n6 (dz t.ref u) (aT v:Int)) (aT w:Int)).length<=aw;show ags e2 e1 (@lB _ _ _ t.ref u) k3
  .show min u t.mf<=_;show agt k4
  .let h:N (dz t.X u) x=Y m:=h;rw[dD] at h;split at h
   .show nomatch h
   .show k5 _ _ h
 .have:=hS.len;have:= @lB _ _ _ t.X u;show(dz t.X u).length<=_;show R3 this ∎
section
variable{t:TS}{e:Int->Int}
def Ac.congr(A:Ac t a e)(h:∀u n,N t.X u=Y n->(c u↔a u)):Ac t c e:=
 {A with pred:=λn u=>(A.pred n u).trans (λq=>(q.1,λz=>q.2<|(h u n q.1).mp z),λq=>(q.1,λz=>q.2<|(h u n q.1).mpr z))}
def Ac.out(A:Ac t c e)(a:N t.X u=Y (i,Y v,Y w))(hz:N t.X z=R):nt (i,Y v,Y w) z=0:=by let h:=A.Jn _ _ _ _ a;show kZ (Y v) z+kZ (Y w) z=0;rw[uS (λq=>by rw[q,hz] at h;cases h.1),uS<|λq=>by rw[q,hz] at h;cases h.2];rfl
def Ac.pop(A:Ac t h e)(g:N t.X u=Y n)(hz:¬h u):Ac {t with pred:=dz t.pred n} (λz=>h z\/z=u) e:=
 {Jn:=A.Jn,xI:=A.xI,nd:=A.nd,Mw:=A.Mw,G8:=A.G8,A8:=A.A8,ref:=A.ref,refs:=A.refs,e0:=A.e0
  pred:=λm z=>by
   show N (dz t.pred n) m=Y z↔_;rw[dD];by_cases d:m=n
   .subst d;rw[bj rfl];refine(nofun,λi=>?_);let(c,f):=i;let a:=(A.pred m z).mpr (c,λq=>f<|.inl q);rw[(A.pred m u).mpr (g,hz)] at a;replace a:=ax a;show absurd a.symm λq=>f<|.inr q
   .rw[aK d];refine(A.pred m z).trans (λq=>(q.1,λr=>r.elim q.2 λr=>?_),λq=>(q.1,λr=>q.2<|.inl r));let c:=q.1;rw[r,g] at c;replace c:=ax c;show d c.symm}
nonrec def Ac.put(A:Ac t E e)(o:N t.X u=Y C)(hz:E u)(S:(N t.X (aT v:Int)).isSome=L)(I:(N t.X (aT w:Int)).isSome=L)(O:N t.pred (i,Y v,Y w)=R)(D:∀z,nt (i,Y v,Y w) z+e' z<=nt C z+e z):Ac {t with X:=bl t.X u (i,Y v,Y w),pred:=bl t.pred (i,Y v,Y w) u} (λz=>E z/\z≠u) e':=by
 let mono:∀q,(N (bl t.X u (i,Y v,Y w)) q).isSome=(N t.X q).isSome:=λq=>by
  rw[aX];split
  .rename_i h;rw[h,o];rfl
  .rfl
 let g:∀{P:Prop} {z:Int} {n:Nd},N (bl t.X u (i,Y v,Y w)) z=Y n->(z=u->n=(i,Y v,Y w)->P)->(z≠u->N t.X z=Y n->P)->P:=fun{P z n} h J M=>by
  rw[aX] at h;split at h
  .rename_i q;replace h:=ax h;show J q h.symm
  .rename_i q;show M q h
 exact
 {nd:=lU A.nd,Mw:=A.Mw,G8:=A.G8
  Jn:=λz j a b h=>by show(N (bl t.X u _) _).isSome=L/\(N (bl t.X u _) _).isSome=L;rw[mono,mono];show g h (λ_ q=>by injection q with H f;injection f with f d;replace f:=ax f;replace d:=ax d;rw[f,d];show(S,I)) λ_ q=>A.Jn _ _ _ _ q
  xI:=λz j a b h=>g h (λ_ q=>by injection q with H f;injection f with f d;rw[f,d];rfl) λ_ q=>A.xI _ _ _ _ q
  pred:=λm z=>by
   show N (bl t.pred _ u) m=Y z↔N (bl t.X u _) z=Y m/\_;rw[aX];by_cases p:m=(i,Y v,Y w)
   .rw[bj p];refine(λq=>?_,λk=>g k.1 (λq _=>by rw[q]) λd s=>?_)
    .replace q:=ax q;subst q;show(by rw[aX,bj rfl,p],λr=>r.2 rfl)
    .let a:=(A.pred m z).mpr (s,λq=>k.2 (q,d));rw[p,O] at a;show nomatch a
   .rw[aK p];refine(A.pred m z).trans (λq=>?_,λk=>g k.1 (λ_ q=>absurd q p) λd s=>(s,λq=>k.2 (q,d)));let y:z≠u:=λr=>q.2<|r▸hz;show(by rw[aX,aK y];show q.1,λr=>q.2 r.1)
  A8:=by show N (bl t.X u _) t.mf=R;rw[aX,aK (λq=>by have:=A.A8;rw[q,o] at this;show nomatch this)];show A.A8
  ref:=λz h=>by replace h:(N (bl t.X u (i,Y v,Y w)) z).isSome=L:=h;show∃c,_/\jZ (bl t.X u _) z+e' z<=c;rw[mono] at h;let(c,J,M):=A.ref z h;calc aC c J;have:=D z;rw[QC A.nd o];show ag7 M this
  refs:=λz c h=>by show(N (bl t.X u _) _).isSome=L;rw[mono];show A.refs z c h
  e0:=λz h=>by
   replace h:N (bl t.X u (i,Y v,Y w)) z=R:=h;let hz:N t.X z=R:=by have:=mono z;rw[h] at this;show j7.mp (by rw[<-this];simp)
   let M:=A.e0 z hz;let T:0<=nt (i,Y v,Y w) z:=Jm;let(j,a,b):=C
   let Q:nt (j,a,b) z=0:=by
    let G:=A.xI _ _ _ _ o;cases a<;>cases b
    .rfl
    .cases G
    .cases G
    .show A.out o hz
   show ag8 Q (D z) T M}
nonrec def Ac.YP(A:Ac t g e)(a:N t.ref k=Y c)(f:∀z,e' z<=e z+if z=k then d else 0):Ac {t with ref:=bl t.ref k (c+d)} g e':=
 {Jn:=A.Jn,xI:=A.xI,pred:=A.pred,nd:=A.nd,Mw:=lU A.Mw,G8:=A.G8,A8:=A.A8
  ref:=λz h=>by
   let(c',J,M):=A.ref z h;have:=f z;show∃c',N (bl t.ref k<|c+d) z=Y c'/\jZ t.X z+e' z<=c';rw[aX];by_cases q:z=k
   .rw[bj q] at this⊢;rw[q,a] at J;replace J:=ax J;show aC _ rfl<|ag9 J M this
   .rw[aK q] at this⊢;show aC c' J<|aha M this
  refs:=λz c' h=>by
   replace h:N (bl t.ref k<|c+d) z=Y c':=h;rw[aX] at h;split at h
   .rename_i q;rw[q];show A.refs _ _ a
   .show A.refs _ _ h
  e0:=λz h=>by let J:=f z;let M:=A.e0 z h;rw[aK (λq=>by have:=A.refs _ _ a;rw[<-q,h] at this;show nomatch this)] at J;show ahb J M}
end
abbrev sw(x:Int)(G:uR):uR:=λj=>if j=x then G (x+1) else if j=x+1 then G x else G j
def aa8:sw x (sw x G)=G:=by
 funext j;delta sw;by_cases J:j=x
 .rw[bj J,aK RH,bj rfl,J]
 .by_cases M:j=x+1
  .rw[aK J,bj M,bj rfl,M]
  .rw[aK J,aK M,aK J,aK M]
def aa9:sw x G x=G (x+1):=bj rfl
def aba:sw x G (x+1)=G x:=(aK RH).trans (bj rfl)
def abb(J:j≠x)(M:j≠x+1):sw x G j=G j:=(aK J).trans (aK M)
def low(a:SM)(x v:Int):=bc a Z0 v/\x+1<lv a v
def low.den(bD:Good a Z0)(h:low a x v)(G:uR):den a v (sw x G)=den a v G:=
 bD.agree (4-lv a v).toNat v _ _ h.1 Y38 λj J _=>abb (by have:=h.2;show ahc J this) (by have:=h.2;show ű J this)
def low.fm(bD:Good a Z0)(h:low a x v)(c:j<=x+1)(G:uR)(b:Bool):Bd.den a v (fm G j b)=Bd.den a v G:=bD.dQ h.1 (by have:=h.2;show ahd c this) G b
def DD(a c:SM)(x u:Int)(G:uR):=if(N a (aT u:Int)).isSome=L then den a u (sw x G) else match N c (aT u:Int) with
 |some (_,Y v,Y w)=>(decide (u<0))^^(if G (x+1) then den a w G else den a v G)
 |_=>au
def jv{a:SM}(h:(N a (aT u:Int)).isSome=L):DD a c x u G=den a u (sw x G):=bj h
def x7{a c:SM}(h:N a (aT u:Int)=R)(d:N c (aT u:Int)=Y (i,Y v,Y w)):DD a c x u G=((decide (u<0))^^(if G (x+1) then den a w G else den a v G)):=by delta DD;rw[h,d];rfl
def l8(a c:SM)(x p:Int):=low a x p\/∃v w,N c (aT p:Int)=Y (x+1,Y v,Y w)/\low a x v/\low a x w
structure Dr(S0 hv:SM)(x:Int)(mv dn tr:List Int):Prop where
 same:∀u n,N S0 u=Y n->n.1≠x->n.1≠x+1->N hv u=Y n
 yn:∀u n,N S0 u=Y (x+1,n)->N hv u=Y (if u∈mv then x else x+1,n)
 xn:∀u n,N S0 u=Y (x,n)->u∉tr->N hv u=Y (if u∈dn then x+1 else x,n)
 dnx:∀u,u∈dn->∃v w,N S0 u=Y (x,Y v,Y w)/\low S0 x v/\low S0 x w
 xt:∀u,u∈tr->(∃n,N S0 u=Y (x,n))/\1<u/\u∉dn/\∃p q,N hv u=Y (x,Y p,Y q)/\0<q/\p≠q/\l8 S0 hv x p/\l8 S0 hv x q/\∀G,DD S0 hv x u G=if G x then DD S0 hv x q G else DD S0 hv x p G
 nw:∀u n,N hv u=Y n->N S0 u=R->1<u/\∃v w,n=(x+1,Y v,Y w)/\0<w/\v≠w/\low S0 x v/\low S0 x w
section
variable{S0 hv:SM}{x:Int}{mv dn tr:List Int}
def Zs(S0:SM)(x:Int)(mv dn tr:List Int)(u:Int):=∃n,N S0 u=Y n/\((n.1=x/\u∉dn/\u∉tr)\/(n.1=x+1/\u∉mv))
def Dr.dom(a:Dr S0 hv x mv dn tr)(h:(N S0 u).isSome=L):(N hv u).isSome=L:=by
 let((i,n),c):=bp.mp h;by_cases J:i=x
 .by_cases M:u∈tr
  .let(_,_,_,p,q,d,_):=a.xt u M;rw[d];rfl
  .rw[a.xn u n (J▸c) M];rfl
 .by_cases M:i=x+1
  .rw[a.yn u n (M▸c)];rfl
  .rw[a.same u _ c J M];rfl
def Dr.bc(a:Dr S0 hv x mv dn tr)(h:bc S0 Z0 u):bc hv Z0 u:=(a.dom h.1,h.2)
def Dr.lv(hS:Dr S0 hv x mv dn tr)(h:Bd.bc S0 Z0 u):(lv S0 u≠x/\lv S0 u≠x+1/\lv hv u=lv S0 u)\/((lv S0 u=x\/lv S0 u=x+1)/\(lv hv u=x\/lv hv u=x+1)):=by
 let g:∀{hv:SM} {i:Int} {n:Option Int×Option Int},N hv (aT u:Int)=Y (i,n)->Bd.lv hv u=i:=λh=>by delta Bd.lv;rw[h]
 let((i,n),a):=bp.mp h.1;rw[g a];by_cases J:i=x
 .refine .inr (.inl J,?_);by_cases M:(aT u:Int)∈tr
  .let(_,_,_,p,q,c,_):=hS.xt _ M;show .inl<|g c
  .rw[g (hS.xn _ n (J▸a) M)];split
   .show .inr rfl
   .show .inl rfl
 .by_cases M:i=x+1
  .refine .inr (.inr M,?_);rw[g (hS.yn _ n<|M▸a)];split
   .show .inl rfl
   .show .inr rfl
  .show .inl<|bt J M<|g<|hS.same _ _ a J M
def Dr.low(a:Dr S0 hv x mv dn tr)(h:low S0 x v):Bd.bc hv Z0 v/\x+1<Bd.lv hv v:=(a.bc h.1,by
 have:=h.2;rcases a.lv h.1 with⟨_,_,q⟩|⟨q,_⟩<;>(first|exact s9 q this|exact ajg q this))
def Dr.l8(a:Dr S0 hv x mv dn tr)(h:l8 S0 hv x p):Bd.bc hv Z0 p/\x<Bd.lv hv p:=h.elim (λh=>((a.low h).1,by have:=(a.low h).2;show Ew this)) λc=>by let(v,w,h,_):=c;show((by rw[h];rfl,λz=>z),by delta Bd.lv;rw[h];show x<x+1;show PW)
def Gj(bD:Good S0 Z0)(h:low S0 x v)(G:uR):DD S0 hv x v G=den S0 v G:=(jv h.1.1).trans (h.den bD G)
def Vt(bD:Good S0 Z0)(c:u≠0)(h:Bd.bc S0 Z0 u\/(N S0 (aT u:Int)=R/\∃i v w,N hv (aT u:Int)=Y (i,Y v,Y w)))(G:uR):DD S0 hv x (-u) G= not (DD S0 hv x u G):=by
 rcases h with h|⟨J,i,v,w,M⟩
 .rw[jv h.1,jv h.neg.1,bD.iP h]
 .rw[x7 J M,x7 (i:=i) (v:=v) (w:=w) (by rw[eU];show J)<|by rw[eU];show M];by_cases a:u<0
  .rw[decide_eq_false (show¬-u<0 from ĩ a),decide_eq_true a];simp
  .rw[decide_eq_true (show-u<0 from ahe c a),decide_eq_false a];simp
def Dr.eqn(bD:Good S0 Z0)(T:0<=x)(y:x<3)(hS:Dr S0 hv x mv dn tr)(m:N hv u=Y (i,Y v,Y w))(hz:¬Zs S0 x mv dn tr u)(G:uR):DD S0 hv x u G=if G i then DD S0 hv x w G else DD S0 hv x v G:=by
 induction d:N S0 u with
 |none=>
  let(J,U,w',M,h,s,Q,O):=hS.nw u _ m d;let hu:(aT u:Int)=u:=Y8 J;injection M with g c;injection c with c e;replace c:=ax c;replace e:=ax e
  subst g c e;rw[x7 (hu.symm▸d) (hu.symm▸m),Gj bD Q,Gj bD O,decide_eq_false (show¬u<0 from å J),lN]
 |some n=>
  let(j,a,b):=n
  let D:u≠1:=λq=>by rw[q] at m d;rw[bD.one] at d;have:=hS.same 1 _ bD.one (show(4:Int)≠x from ő y) (show(4:Int)≠x+1 from Œ y);rw[m] at this;cases this
  let(p1,p2,p3,C,A,rfl,rfl,p4,p5,H,E,p8,p9):=bD.node u _ _ _ d D λz=>z;let hu:(aT u:Int)=u:=Y8 p1
  let o:Bd.bc S0 Z0 u:=(by rw[hu,d];rfl,λz=>z)
  let f:∀k,sw x G j=G k->N hv u=Y (k,Y C,Y A)->DD S0 hv x u G=if G i then DD S0 hv x w G else DD S0 hv x v G:=λk I t=>by
   rw[m] at t;injection t with g;injection g with g c;injection c with c e;replace c:=ax c;replace e:=ax e
   subst g c e;rw[jv o.1,jv H.1,jv E.1,bD.fC o (ğ p1)<|hu.symm▸d,decide_eq_false (show¬u<0 from å p1),lN,I]
  by_cases J:j=x
  .subst J;by_cases M:u∈tr
   .let(_,_,_,p,q,h,_,_,_,_,s):=hS.xt u M;rw[m] at h;let g:=ax h;injection g with g c;injection c with c e;replace c:=ax c;replace e:=ax e
    rw[g,c,e];show s G
   .by_cases h:u∈dn
    .show f (j+1) aa9 (by have:=hS.xn u _ d M;rwa [bj h] at this)
    .show absurd (_,d,.inl<|bt rfl h M) hz
  .by_cases M:j=x+1
   .by_cases h:u∈mv
    .show f x (by rw[M];show aba) (by have:=hS.yn u _<|M▸d;rwa [bj h] at this)
    .show absurd (_,d,.inr (M,h)) hz
   .show f j (abb J M)<|hS.same u _ d J M
end
section
variable{t0 t:TS}{x:Int}{mv dn tr:List Int}{e:Int->Int}{aw:Nat}
structure qd(t0 t:TS)(x:Int)(e:Int->Int)(mv dn tr:List Int)(aw:Nat):Prop where
 ac:Ac t (Zs t0.X x mv dn tr) e
 sh:Dr t0.X t.X x mv dn tr
 vars:t.vars=t0.vars
 e8:t.e8=t0.e8
 vC:kb t aw
def Bv(t:TS)(u i v w:Int):={t with X:=bl t.X u (i,Y v,Y w),pred:=bl t.pred (i,Y v,Y w) u}
nonrec def Cw(h:kb t aw)(a:N t.X u=Y n):kb (Bv t u i v w) (aw+1):=by
 let(J,M,g,f,c):=h;let d:(bl t.X u (i,Y v,Y w)).length=t.X.length:=jg (by rw[a];rfl);refine(bP (BO d)<|tJ J,bP dO<|Nat.succ_le_succ M,tJ g,by show t.mf<=_;show Ĭ f,λz m hz=>?_);replace hz:N (bl t.X u (i,Y v,Y w)) z=Y m:=hz;rw[aX] at hz;split at hz
 .rename_i q;have:=c u n a;show ahf q this
 .have:=c z m hz;show ī this
def rF{j:Int}{b:Option Int×Option Int}(h:Y (bG i a)=Y (bG j b)):i=j/\a=b:=by let h:=ax h;injection h with J M;show(J,M)
def qd.mvY(I:Inv t0 Z0 e)(d:qd t0 t x C mv [] [] aw)(hd:∀u,N t0.X u=R->N t.X u=R)(f:N t0.X u=Y (x+1,Y v,Y w))(p:u∉mv):N t.pred (x,Y v,Y w)=R/\qd t0 (Bv t u x v w) x C (u::mv) [] [] (aw+1):=by
 let m:N t.X u=Y (x+1,Y v,Y w):=by have:=d.sh.yn u _ f;rwa [aK p] at this
 let hz:Zs t0.X x mv [] [] u:=(_,f,.inr (rfl,p))
 let s:N t.pred (x,Y v,Y w)=R:=by
  induction y:N t.pred (x,Y v,Y w) with
  |none=>rfl
  |some a=>
   let(J,M):=(d.ac.pred _ _).mp y
   induction g:N t0.X a with
   |none=>show cA (hd a g) J
   |some n=>
    let(j,n):=n;by_cases k:j=x
    .show absurd (_,g,.inl<|bt k aM aM) M
    .by_cases j2:j=x+1
     .let c:=d.sh.yn a n<|j2▸g;rw[J] at c;let(_,c):=rF c;rw[j2,<-c] at g;rw[I.inj a u _ g f (λz=>z) (λz=>z)] at M;show absurd hz M
     .let c:=d.sh.same a _ g k j2;rw[J] at c;show absurd (rF c).1.symm k
 let o:=d.ac.Jn _ _ _ _ m;let ne:∀{a:Int} {n:Nd},N t0.X a=Y n->n.1≠x+1->a≠u:=λJ M c=>by rw[c,f] at J;let J:=ax J;show M (by rw[<-J])
 refine(s,(d.ac.put m hz o.1 o.2 s λz=>dm _).congr λz n _=>?_,(λa n J M c=>?_,λa n J=>?_,λa n J M=>?_,λ_ h=>(nomatch h),λ_ h=>(nomatch h),λa n J M=>?_),d.vars,d.e8,Cw d.vC m)
 .refine(λi=>?_,λA=>by let((n,J,M),c):=A;show(n,J,M.imp id λh=>(h.1,λq=>(aS.mp q).elim c h.2)));let(n,J,M):=i;refine((n,J,M.imp id λh=>(h.1,λq=>h.2<|dG _ q)),λq=>?_);rcases M with M|M
  .show ne J (by rw[M.1];show Zt) q
  .show M.2<|q▸aQ
 .show N (bl t.X u _) a=Y n;rw[aX,aK<|ne J c];show d.sh.same a n J M c
 .show N (bl t.X u _) a=Y (if a∈u::mv then x else x+1,n);rw[aX];by_cases q:a=u
  .subst q;rw[bj rfl,bj aQ];rw[f] at J;rw[(rF J).2]
  .rw[aK q,d.sh.yn a n J];simp only[aS,q,false_or]
 .show N (bl t.X u _) a=_;rw[aX,aK<|ne J<|show x≠x+1 by show Zt];show d.sh.xn a n J M
 .replace J:N (bl t.X u _) a=Y n:=J;rw[aX,aK<|qm M f] at J;show d.sh.nw a n J M
def qd.dnX(I:Inv t0 Z0 e)(c:qd t0 t x D mv dn [] aw)(BZ:∀u n,N t0.X u=Y (x+1,n)->u∈mv)(hd:∀u,N t0.X u=R->N t.X u=R)(f:N t0.X u=Y (x,Y v,Y w))(S:low t0.X x v)(y:low t0.X x w)(p:u∉dn):N t.pred (x+1,Y v,Y w)=R/\qd t0 (Bv t u (x+1) v w) x D mv (u::dn) [] (aw+1):=by
 let m:N t.X u=Y (x,Y v,Y w):=by have:=c.sh.xn u _ f aM;rwa [aK p] at this
 let hz:Zs t0.X x mv dn [] u:=(_,f,.inl<|bt rfl p aM)
 let s:N t.pred (x+1,Y v,Y w)=R:=by
  induction A:N t.pred (x+1,Y v,Y w) with
  |none=>rfl
  |some a=>
   let(J,M):=(c.ac.pred _ _).mp A
   induction g:N t0.X a with
   |none=>show cA (hd a g) J
   |some n=>
    let(j,n):=n;by_cases k:j=x
    .let d:=c.sh.xn a n (k▸g) aM;rw[J] at d;rw[k,<-(rF d).2] at g;rw[I.inj a u _ g f (λz=>z) (λz=>z)] at M;show(M hz).elim
    .by_cases j2:j=x+1
     .let d:=c.sh.yn a n<|j2▸g;rw[J,bj<|BZ a n<|j2▸g] at d;have:=(rF d).1;show(RH this).elim
     .let d:=c.sh.same a _ g k j2;rw[J] at d;show absurd (rF d).1.symm j2
 let o:=c.ac.Jn _ _ _ _ m;let ne:∀{a:Int} {n:Nd},N t0.X a=Y n->n.1≠x->a≠u:=λJ M d=>by rw[d,f] at J;let J:=ax J;show M (by rw[<-J])
 refine(s,(c.ac.put m hz o.1 o.2 s λz=>dm _).congr λz n _=>?_,(λa n J M d=>?_,λa n J=>?_,λa n J M=>?_,λa h=>?_,λ_ h=>(nomatch h),λa n J M=>?_),c.vars,c.e8,Cw c.vC m)
 .refine(λi=>?_,λC=>by let((n,J,M),d):=C;show(n,J,M.imp (λh=>(bt h.1 (λq=>(aS.mp q).elim d h.2.1) h.2.2)) id));let(n,J,M):=i;refine((n,J,M.imp (λh=>(bt h.1 (λq=>h.2.1<|dG _ q) h.2.2)) id),λq=>?_);rcases M with M|M
  .show M.2.1<|q▸aQ
  .show ne J (by rw[M.1];show RH) q
 .show N (bl t.X u _) a=Y n;rw[aX,aK<|ne J M];show c.sh.same a n J M d
 .show N (bl t.X u _) a=_;rw[aX,aK<|ne J<|show x+1≠x by show RH];show c.sh.yn a n J
 .show N (bl t.X u _) a=Y (if a∈u::dn then x+1 else x,n);rw[aX];by_cases q:a=u
  .subst q;rw[bj rfl,bj aQ];rw[f] at J;rw[(rF J).2]
  .rw[aK q,c.sh.xn a n J M];simp only[aS,q,false_or]
 .rcases aS.mp h with q|q
  .show fX v w (q▸f) S y
  .show c.sh.dnx a q
 .replace J:N (bl t.X u _) a=Y n:=J;rw[aX,aK<|qm M f] at J;show c.sh.nw a n J M
end
section
variable{S0 hv:SM}{t0 t:TS}{x:Int}{mv dn tr:List Int}{e:Int->Int}{aw:Nat}
def low.sg(h:low S0 x v):low S0 x (sg w*v):=(h.1.sg,by calc qP Lb;show h.2)
def Ext.l8(ay:Ext hv c)(h:l8 S0 hv x p):l8 S0 c x p:=h.imp id λa=>by let(v,w,h,r):=a;show jo v w (ay _ _ h) r
def Ext.DD(ay:Ext hv d)(h:Bd.l8 S0 hv x p)(G:uR):DD S0 d x p G=DD S0 hv x p G:=by
 induction a:(N S0 (aT p:Int)).isSome with
 |true=>rw[jv a,jv a]
 |false=>
  let c:N S0 (aT p:Int)=R:=j7.mp (by rw[a];simp);rcases h with h|⟨v,w,h,_⟩
  .rw[h.1.1] at a;show nomatch a
  .rw[x7 c h,x7 c<|ay _ _ h]
def Dr.ext(hS:Dr S0 hv x mv dn tr)(ay:Ext hv k)(h:∀u n,N k u=Y n->N hv u=R->1<u/\∃v w,n=(x+1,Y v,Y w)/\0<w/\v≠w/\Bd.low S0 x v/\Bd.low S0 x w):Dr S0 k x mv dn tr:=
 {same:=λu n J M c=>ay _ _<|hS.same u n J M c,yn:=λu n J=>ay _ _<|hS.yn u n J,xn:=λu n J M=>ay _ _<|hS.xn u n J M,dnx:=hS.dnx
  xt:=λu J=>by
   let((n,f),j,M,p,q,c,y,s,i,g,o):=hS.xt u J;let d:(N S0 (aT u:Int)).isSome=L:=by rw[show(aT u:Int)=u from Y8 j,f];rfl
   show(ek (n,f) j M<|rZ p q (ay _ _ c) y s (ay.l8 i) (ay.l8 g)<|λG=>by rw[ay.DD i,ay.DD g,jv d,<-o G,jv d])
  nw:=λu n J M=>by
   induction a:N hv u with|none=>show h u n J a|some m=>rw[ay _ _ a] at J;replace J:=ax J;show hS.nw u n (J▸a) M}
def Dr.pos(bD:Good S0 Z0)(a:Dr S0 hv x mv dn tr)(h:N hv u=Y (i,Y v,Y w))(f:i≠4):1<u:=by
 induction c:N S0 u with
 |none=>show(a.nw u _ h c).1
 |some n=>
  by_cases q:u=1
  .subst q;rw[bD.one] at c;cases c;by_cases d:x=4
   .by_cases q2:(1:Int)∈tr
    .show absurd (a.xt 1 q2).2.1 WD
    .have:=a.xn 1 _ (d▸bD.one) q2;rw[h] at this;cases this
   .by_cases q2:x+1=4
    .have:=a.yn 1 _<|q2▸bD.one;rw[h] at this;cases this
    .have:=a.same 1 _ bD.one (aE d)<|aE q2;rw[h] at this;cases this
  .show(bD.node u n.1 n.2.1 n.2.2 c q λz=>z).casesOn λh _ _ _ _ _ _ _ _ _ _ _ _=>h
nonrec def abe(bD:Good S0 Z0)(a:0<u)(h:bc S0 Z0 u\/(N S0 (aT u:Int)=R/\∃i v w,N hv (aT u:Int)=Y (i,Y v,Y w)))(G:uR):DD S0 hv x (sg c*u) G=(decide (c<0)^^DD S0 hv x u G):=by
 delta Bd.sg
 split
 .rename_i q;rw[show(-1:Int)*u= -u from PU,Vt bD (xi a) h,decide_eq_true q,Hx]
 .rename_i q;rw[Int.one_mul,decide_eq_false q,lN]
nonrec def qd.Ϟ(I:Inv t0 Z0 e)(T:0<=x)(y:x<3)(a:qd t0 t x O mv dn tr aw)(S:low t0.X x v)(hw:low t0.X x w)(h:yZ t (x+1) v w r t'):qd t0 t' x O mv dn tr (aw+1)/\Ext t.X t'.X/\l8 t0.X t'.X x r/\(∀G,DD t0.X t'.X x r G=if G (x+1) then den t0.X w G else den t0.X v G)/\(0<w->0<r):=by
 let bD:=I.good
 let A:∀(hv:SM) (u:Int),bc t0.X Z0 u\/N t0.X (aT u:Int)=R->(∀G,DD t0.X hv x u G=if G (x+1) then den t0.X (sg w*w) G else den t0.X (sg w*v) G)->0<u->(∃i v w,N hv (aT u:Int)=Y (i,Y v,Y w))->∀G,DD t0.X hv x (sg w*u) G=if G (x+1) then den t0.X w G else den t0.X v G:=λhv u J M E D G=>by rw[abe bD E (J.imp id λh=>(h,D)),M,bD.xJ hw.1,bD.xJ S.1];cases G (x+1)<;>simp
 induction h with
 |same q=>subst q;show(tA ({a with vC:=a.vC.le (lM aw)}) Ext.refl (.inl S) (λG=>by rw[Gj bD S];split<;>rfl)<|λq=>q)
 | @hit u o k=>
  let(c,hz):=(a.ac.pred _ _).mp k;let g:=a.sh.pos bD c (show x+1≠4 from ahg y);let BS:(aT u:Int)=u:=Y8 g
  refine(tA ({a with vC:=a.vC.le (lM aw)}) Ext.refl (.inr<|fX _ _ (by rw[Tz,BS];show c) S.sg hw.sg) (A _ u ?_ (λG=>?_) (l_ g)<|Iv _ _ _<|by rw[BS];show c)<|λq=>?_)
  .rw[BS];induction j:N t0.X u with|none=>show .inr rfl|some n=>show .inl (by rw[BS,j];rfl,λz=>z)
  .rw[a.sh.eqn bD T y c hz,Gj bD hw.sg,Gj bD S.sg]
  .delta Bd.sg;rw[aK (Ğ q)];show œ g
 | @new f o k C U s=>
  let d:=a.ac.G8;let BS:(t.mf.natAbs:Int)=t.mf:=Y8 d
  let m:N t0.X t.mf=R:=by
   induction j:N t0.X t.mf with|none=>rfl|some n=>have:=a.sh.dom (u:=t.mf) (by rw[j];rfl);rw[a.ac.A8] at this;show nomatch this
  let ay:Ext t.X (pv t (x+1) (sg w*v) (sg w*w) f).X:=λu n h=>by show N (bl t.X _ _) u=_;rw[aX,aK,h];intro e;rw[e,a.ac.A8] at h;show nomatch h
  let c:N (pv t (x+1) (sg w*v) (sg w*w) f).X t.mf=Y (x+1,Y<|sg w*v,Y<|sg w*w):=by show N (bl t.X t.mf _) t.mf=_;rw[aX,bj rfl]
  let Ca:0<sg w*w:=by rw[Tw];have:=bD.C6 hw.1;show è this
  let E?:sg w*v≠sg w*w:=by delta Bd.sg;split<;>(first|exact ahh o|exact Ŷ o)
  let v1:=(a.sh.low<|S.sg (w:=w)).1.1;let p:=(a.sh.low<|hw.sg (w:=w)).1.1;let Q:=s;refine(tA (a.ac.new (λH=>by let(n,z,_):=H;show cA m z) v1 p k C U,a.sh.ext ay λu n J M=>?_,a.vars,a.e8,a.ac.TC a.vC v1 p s) ay (.inr<|fX _ _ (by rw[Tz,BS];show c) S.sg hw.sg) (A _ t.mf (.inr<|BS.symm▸m) (λG=>?_) (l_ d)<|Iv _ _ _<|by rw[BS];show c)<|λq=>?_)
  .replace J:N (bl t.X t.mf (x+1,Y<|sg w*v,Y<|sg w*w)) u=Y n:=J;rw[aX] at J;split at J
   .rename_i q;replace J:=ax J;show((s9 q d),(Hy _ _ J.symm Ca E? S.sg hw.sg))
   .show cA M J
  .rw[x7 (BS.symm▸m) (by rw[BS];show c),decide_eq_false (show¬t.mf<0 from å d),lN]
  .delta Bd.sg;rw[aK (Ğ q)];show œ d
end
section
variable{t0 t:TS}{x:Int}{mv dn tr:List Int}{e:Int->Int}{aw:Nat}
def z0(bD:Good t0.X Z0)(p:x<3)(S:bc t0.X Z0 v)(m:x<lv t0.X v):low t0.X x (kN t0.X v<|x+1).1/\low t0.X x (kN t0.X v<|x+1).2/\(∀G,den t0.X v (sw x G)=if G x then den t0.X (kN t0.X v<|x+1).2 G else den t0.X (kN t0.X v<|x+1).1 G)/\((low t0.X x v/\kN t0.X v (x+1)=(v,v))\/(kN t0.X v<|x+1).1≠(kN t0.X v<|x+1).2/\∃a b,N t0.X (aT v:Int)=Y (x+1,Y a,Y b)/\0<b/\a≠0/\low t0.X x a/\low t0.X x b/\kN t0.X v (x+1)=if v<0 then(-a,-b) else(a,b)):=by
 let(J,M,o,n,D,C):=bD.kN S (i:=x+1) (m)<|Y3 p;calc ek (J,o) (M,n) (λG=>?_);
 .let A:low t0.X x (kN t0.X v<|x+1).1:=(J,o);let z:low t0.X x (kN t0.X v<|x+1).2:=(M,n);rw[yR bD S (sw x G) (x+1),aba,<-D,<-C,A.den bD,z.den bD]
 .rcases bD.split S with⟨q,d⟩|⟨q,_,i,a,b,f,j,H,E,d,h,g,y,u,s⟩
  .show .inl ((S,by show ahi d p),by delta kN;rw[bj q])
  .by_cases c:x+1<i
   .show .inl ((S,by show s9 j c),by delta kN;rw[aK q,f];show bj c)
   .let c:i=x+1:=by show Ų c j m
    subst c;let k:kN t0.X v (x+1)=if v<0 then(-a,-b) else(a,b):=by delta kN;rw[aK q,f];show aK<|ux _
    refine .inr (?_,(rZ a b f d (bD.C6 g) (g,u) (y,s) k));rw[k];split
    .show λr=>h<|Int.neg_inj.mp r
    .show h
def abf(I:Inv t0 Z0 e)(a:x<3)(S:bc t0.X Z0 v)(j:x<lv t0.X v)(i:bc t0.X Z0 w)(f:x<lv t0.X w)(g:¬(low t0.X x v/\low t0.X x w))(h:∀G:uR,(if G (x+1) then den t0.X (kN t0.X w<|x+1).1 G else den t0.X (kN t0.X v<|x+1).1 G)=if G (x+1) then den t0.X (kN t0.X w<|x+1).2 G else den t0.X (kN t0.X v<|x+1).2 G):False:=by
 let bD:=I.good;let(a1,a2,_,a3):=z0 bD a S j;let(d,c,_,b3):=z0 bD a i f
 let k:(kN t0.X w<|x+1).1=(kN t0.X w<|x+1).2:=I.canon d.1 c.1 λG=>by have:=h<|fm G (x+1) L;rw[pz,bj rfl,bj rfl,d.fm bD<|dm _,c.fm bD<|dm _] at this;show this
 let ev:(kN t0.X v<|x+1).1=(kN t0.X v<|x+1).2:=I.canon a1.1 a2.1 λG=>by have:=h<|fm G (x+1) au;rw[pz,aK aI,aK aI,a1.fm bD<|dm _,a2.fm bD<|dm _] at this;show this
 rcases a3 with a3|a3
 .rcases b3 with b3|b3
  .show g (a3.1,b3.1)
  .show b3.1 k
 .show a3.1 ev
def qd.turn(I:Inv t0 Z0 e)(T:0<=x)(A:x<3)(hS:qd t0 t x e' mv dn tr aw)(c:N t0.X u=Y (x,Y v,Y w))(J:u∉dn)(M:u∉tr)(jn:¬(low t0.X x v/\low t0.X x w))(U:l8 t0.X t.X x p)(Q:l8 t0.X t.X x q)(O:0<q)(dp:∀G,DD t0.X t.X x p G=if G (x+1) then den t0.X (kN t0.X w<|x+1).1 G else den t0.X (kN t0.X v<|x+1).1 G)(dq:∀G,DD t0.X t.X x q G=if G (x+1) then den t0.X (kN t0.X w<|x+1).2 G else den t0.X (kN t0.X v<|x+1).2 G):p≠q/\N t.pred (x,Y p,Y q)=R/\∀e3,(∀z,nt (x,Y p,Y q) z+e3 z<=nt (x,Y v,Y w) z+e' z)->qd t0 (Bv t u x p q) x e3 mv dn (u::tr) (aw+1):=by
 let bD:=I.good;let qO:u≠1:=λr=>by rw[r,bD.one] at c;injection c with c;injection c with _ c;injection c with c;show nomatch c
 let(p1,p2,p3,D,w',e1,e2,p4,p5,p6,p7,p8,p9):=bD.node u _ _ _ c qO λz=>z;injection e1 with e1;injection e2 with e2;subst e1 e2
 let BS:(aT u:Int)=u:=Y8 p1;let k:bc t0.X Z0 u:=(by rw[BS,c];rfl,λz=>z);let H:N t.X u=Y (x,Y v,Y w):=by have:=hS.sh.xn u _ c M;rwa [aK J] at this
 let hz:Zs t0.X x mv dn tr u:=(_,c,.inl<|bt rfl J M);let de:p≠q:=λr=>abf I A p6 p8 p7 p9 jn λG=>by rw[<-dp,<-dq,r]
 let du:∀G,DD t0.X t.X x u G=if G x then DD t0.X t.X x q G else DD t0.X t.X x p G:=λG=>by rw[jv k.1,bD.fC k (ğ p1)<|BS.symm▸c,decide_eq_false (show¬u<0 from å p1),lN,aa9,(z0 bD A p6 p8).2.2.1,(z0 bD A p7 p9).2.2.1,dp,dq];cases G x<;>cases G (x+1)<;>rfl
 let J8:N t.pred (x,Y p,Y q)=R:=by
  induction hr:N t.pred (x,Y p,Y q) with
  |none=>rfl
  |some u'=>
   exfalso;let(m,C):=(hS.ac.pred _ _).mp hr;let amR:(aT u':Int)=u':=Y8<|hS.sh.pos bD m<|ahj A
   induction g:N t0.X u' with
   |none=>
    let(_,_,_,y,_):=hS.sh.nw u' _ m g;injection y with y;show Zt y
   |some n=>
    let o:bc t0.X Z0 u':=(by rw[amR,g];rfl,λz=>z)
    have:u'=u:=I.canon o k λG=>by let h:=hS.sh.eqn bD T A m C<|sw x G;rw[<-du,jv o.1,jv k.1,aa8] at h;show h
    show C<|this▸hz
 refine bt de J8 (λe3 he=>?_);let ne:∀{u':Int} {n:Nd},N t0.X u'=Y n->n.1≠x->u'≠u:=λJ M s=>by rw[s,c] at J;injection J with J;show M (by rw[<-J])
 let d:∀{a:Int},l8 t0.X t.X x a->l8 t0.X (bl t.X u (x,Y p,Y q)) x a:=fun{a} h=>h.imp id λec=>by let(D,w',h,r):=ec;show(jo D w' (by rw[aX,aK,h];intro r;rw[r,H] at h;injection h with h;injection h with h;show Zt h) r)
 let f:∀{a:Int} (G),l8 t0.X t.X x a->DD t0.X (bl t.X u (x,Y p,Y q)) x a G=DD t0.X t.X x a G:=fun{a} G h=>by
  induction g:(N t0.X (aT a:Int)).isSome with
  |true=>rw[jv g,jv g]
  |false=>
   let Mp:N t0.X (aT a:Int)=R:=j7.mp (by rw[g];simp);rcases h with h|⟨D,w',h,_⟩
   .rw[h.1.1] at g;show nomatch g
   .rw[x7 Mp h,x7 Mp<|pS aX<|pS (aK<|qm Mp c)<|pS h rfl]
 refine((hS.ac.put H hz (hS.sh.l8 U).1.1 (hS.sh.l8 Q).1.1 J8 he).congr λz n _=>?_,(λu' n J M s=>?_,λu' n J=>?_,λu' n J M=>?_,hS.sh.dnx,λu' h=>?_,λu' n J M=>?_),hS.vars,hS.e8,Cw hS.vC H)
 .refine(λE=>?_,λec=>by let((n,J,M),s):=ec;show(n,J,M.imp (λh=>(bt h.1 h.2.1<|λq=>(aS.mp q).elim s h.2.2)) id));let(n,J,M):=E;refine((n,J,M.imp (λh=>(bt h.1 h.2.1<|λq=>h.2.2<|dG _ q)) id),λq=>?_);rcases M with M|M
  .show M.2.2<|q▸aQ
  .show ne J (pS M.1 RH) q
 .show N (bl t.X u _) u'=Y n;rw[aX,aK<|ne J M];show hS.sh.same u' n J M s
 .show N (bl t.X u _) u'=_;rw[aX,aK<|ne J<|show x+1≠x by show RH];show hS.sh.yn u' n J
 .show N (bl t.X u _) u'=_;rw[aX,aK (λz:u'=u=>M<|by rw[z];show aQ)];show hS.sh.xn u' n J λr=>M<|dG _ r
 .show(∃n,N t0.X u'=Y (x,n))/\1<u'/\u'∉dn/\∃j i,N (bl t.X u _) u'=Y (x,Y j,Y i)/\0<i/\j≠i/\l8 t0.X (bl t.X u _) x j/\l8 t0.X (bl t.X u _) x i/\∀G,DD t0.X (bl t.X u _) x u' G=if G x then DD t0.X (bl t.X u _) x i G else DD t0.X (bl t.X u _) x j G
  rcases aS.mp h with r|r
  .subst r;show(ek (_,c) p1 J<|rZ p q (pS aX<|pS (bj rfl) rfl) O de (d U) (d Q)<|λG=>by rw[f G U,f G Q,<-du,jv k.1,jv k.1])
  .let((n,g0),m,C,j,i,y,g4,g5,g6,g7,g8):=hS.sh.xt u' r;let hd:(N t0.X (aT u':Int)).isSome=L:=by rw[show(aT u':Int)=u' from Y8 m,g0];rfl
   show(ek (n,g0) m C<|rZ j i (pS aX<|pS (aK (λz:u'=u=>M<|by rw[<-z];show r)) y) g4 g5 (d g6) (d g7)<|λG=>by rw[f G g6,f G g7,<-g8 G,jv hd,jv hd])
 .replace J:N (bl t.X u _) u'=Y n:=J;rw[aX,aK<|qm M c] at J;show hS.sh.nw u' n J M
end
section
variable{S0 hv:SM}{t0 t:TS}{x:Int}{mv dn tr:List Int}{e:Int->Int}{aw:Nat}
def amS(hs:N hv u=Y (i,a,b))(J:1<u)(e:N hv u=Y (k,Y v,Y w))(M:0<=k)(h:k<4)(g:0<w)(f:v≠w)(d:Bd.bc hv Z0 v/\k<lv hv v)(c:Bd.bc hv Z0 w/\k<lv hv w):Ts hv Z0 u i a b:=by let e:=ax<|hs.symm.trans e;clear hs;cases e;show(J,M,h,_,_,rfl,rfl,g,f,d.1,c.1,d.2,c.2)
def LZ(bD:Good S0 Z0)(T:0<=x)(y:x<3)(hS:Dr S0 hv x mv dn tr)(hz:∀u,¬Zs S0 x mv dn tr u):Good hv Z0:=by
 refine(hS.same 1 _ bD.one (show(4:Int)≠x from ő y) (show(4:Int)≠x+1 from Œ y),λz=>z,λu i a b A D _=>?_);refine hide λP fin=>?_;replace fin:=λJ {k v w} (e:N hv u=Y (k,Y v,Y w)) M f s o m G=>fin<|amS A J e M f s o m G
 induction hn:N S0 u with
 |none=>
  clear D;let(J,v,w,M,f,s,o,m):=hS.nw u _ A hn;show fin J (M▸A) (Y2 T) (Y3 y) f s (hS.low o)<|hS.low m
 |some n=>
  clear A;let(j,c,d):=n;let(p1,p2,p3,v,w,U,e2,Q,O,I,H,p8,p9):=bD.node u j c d hn D λz=>z;rw[U,e2] at hn;clear D U e2;replace fin:= @fin p1;clear p1
  let h:∀k,N hv u=Y (k,Y v,Y w)->0<=k->k<4->(∀c,bc S0 Z0 c->j<lv S0 c->k<lv hv c)->P:=λk C k0 k4 g=>
   fin C k0 k4 Q O (hS.bc I,g _ I p8) (hS.bc H,g _ H p9)
  by_cases J:j=x
  .by_cases M:u∈tr
   .let(_,_,_,p,q,f,s,o,m,G,_):=hS.xt u M;show fin f T (Y0 y) s o (hS.l8 m)<|hS.l8 G
   .by_cases f:u∈dn
    .let(v',w',s,o,m):=hS.dnx u f;let q:=(rF<|hn.symm.trans s).2;let q1:=ax (j8 q).1;let q2:=ax (j8 q).2;let C:=hS.xn u _ (J▸hn) M;rw[bj f] at C;show fin C (Y2 T) (Y3 y) Q O (hS.low<|q1▸o)<|hS.low<|q2▸m
    .show absurd (_,hn,.inl<|bt J f M)<|hz u
  .by_cases M:j=x+1
   .by_cases f:u∈mv
    .refine h x (by have:=hS.yn u _<|M▸hn;rwa [bj f] at this) T (Y0 y) λc E g=>?_;rcases hS.lv E with⟨_,_,q⟩|⟨q,_⟩<;>(first|exact ahk q M g|exact ajh q M g)
    .show absurd (_,hn,.inr (M,f))<|hz u
   .refine h j (hS.same u _ hn J M) p2 p3 λc E g=>?_;rcases hS.lv E with⟨_,_,q⟩|⟨q,q'⟩<;>(first|exact s9 q g|exact ahl J q' q g)
def YQ(bD:Good S0 Z0)(T:0<=x)(o:x<3)(k:Dr S0 hv x mv dn tr)(hz:∀u,¬Zs S0 x mv dn tr u)(G:uR):∀(n:Nat) (u:Int),bc hv Z0 u->4-Bd.lv hv u<=n->Bd.den hv u G=DD S0 hv x u G:=by
 let f:=LZ bD T o k hz
 let a:∀{u:Int},u.natAbs=1->Bd.den hv u G=DD S0 hv x u G:=fun{u} h=>by rw[f.mI h,jv (by rw[show(aT u:Int)=1 from Zq h,bD.one];rfl),bD.mI h]
 intro n
 induction n with
 |zero=>
  intro u c d;rcases f.split c with⟨h,_⟩|⟨_,_,i,v,w,_,h,_,J,_⟩
  .show a h
  .show(Y63 d J h).elim
 |succ n j=>
  intro u c d;rcases f.split c with⟨h,_⟩|⟨H,y,i,v,w,g,h,J,M,Q,O,E,D,C,A⟩
  .show a h
  .let I:=k.eqn bD T o g (hz _) G;rw[f.fC c H g,j v E<|Zp h d C,j w D<|Zp h d A,<-I];let s:bc S0 Z0 (aT u:Int)\/(N S0 ((aT u:Int).natAbs:Int)=R/\∃i v w,N hv ((aT u:Int).natAbs:Int)=Y (i,Y v,Y w)):=by
    rw[show((aT u:Int).natAbs:Int)=u.natAbs from ê]
    induction p:N S0 (aT u:Int) with|none=>show .inr (rfl,(Iv _ _ _ g))|some m=>show .inl (by rw[show((aT u:Int).natAbs:Int)=u.natAbs from ê,p];rfl,λz=>z)
   by_cases q:u<0
   .rw[decide_eq_true q,Hx,<-Vt bD (ahm y) s,show-(aT u:Int)=u from ahn q]
   .rw[decide_eq_false q,lN,show(aT u:Int)=u from Θ q]
def qd.fin(I:Inv t0 Z0 e)(T:0<=x)(d:x<3)(a:qd t0 t x e mv dn tr aw)(hz:∀u,¬Zs t0.X x mv dn tr u):Inv t Z0 e/\∀u,bc t0.X Z0 u->bc t.X Z0 u/\∀G,den t.X u G=den t0.X u (sw x G):=
 ((a.ac.congr λu _ _=>(Gr,hz u),LZ I.good T d a.sh hz,λ_ h=>h.elim),λu c=>(a.sh.bc c,λG=>(YQ I.good T d a.sh hz G (4-lv t.X u).toNat u (a.sh.bc c) Y38).trans (jv c.1)))
end
def N6(e:Int->Int)(k:Int):=λx=>e x+if x=k then 1 else 0
nonrec def Inv.incref(I:Inv t Z0 e)(a:(N t.X k).isSome=L):Inv {t with ref:=pq t.ref k} Z0 (N6 e k):=by
 let(c,g,f):=I.ref k a;refine{Jn:=I.Jn,xI:=I.xI,pred:=I.pred,nd:=I.nd,Mw:=lU I.Mw,G8:=I.G8,A8:=I.A8,good:=I.good,Wb:=I.Wb,ref:=λu d=>?_,refs:=λu c' h=>?_,e0:=λu d=>?_}
 .show∃c,N (pq t.ref k) u=Y c/\_;rw[uT g];delta N6;split
  .rename_i e;subst e;show(aC _ rfl<|by show jZ t.X u+_<=_;show aiz f)
  .let(m,M,j):=I.ref u d;show(aC m M<|by show jZ t.X u+_<=_;show aiA j)
 .let h:N (pq t.ref k) u=Y c':=h;rw[uT g] at h;split at h
  .rename_i e;subst e;show a
  .show I.refs u c' h
 .delta N6;let i:N t.X u=R:=d;rw[aK (λe=>by subst e;rw[i] at a;show nomatch a)];have:=I.e0 u i;show aiB this
structure Mk(t:TS)(e:Int->Int)(ak:List Int)(aw:Nat):Prop where
 ti:TI t e aw
 vars:t.vars=n9
 e8:t.e8=DU
 e0:∀u,0<=e u
 made:∀u∈ak,bc t.X Z0 u/\0<e (aT u:Int)
def Vu(J:t.vars=n9)(M:t.e8=DU):f6 t:=by
 let a:∀k:Fin 4,∃x,N DU (k.1:Int)=Y x/\N n9 x=Y (k.1:Int)/\101<=x/\x<=104:=f4 (101,∅) (102,∅) (103,∅) (104,∅);refine(λl f e=>?_,λx d c=>?_)
 .rw[J,M];have:=a (l.toNat,Y87 e);rwa [show((l.toNat:Nat):Int)=l from í f] at this
 .rw[J,M];let b:∀k:Fin 4,N n9 (101+(k.1:Int))=Y (k.1:Int)/\N DU (k.1:Int)=Y (101+(k.1:Int)):=by decide
  have:=b ((x-101).toNat,by show Zr c);rw[show(101:Int)+(((x-101).toNat:Nat):Int)=x from Zu d] at this;show kU _ this.1 this.2 (PV)<|rH.mpr<|Zr c
section
variable{t:TS}{e:Int->Int}{ak:List Int}{aw:Nat}
def Mk.names(h2:Mk t e ak aw):f6 t:=Vu h2.vars h2.e8
def Mk.op(h2:Mk t e ak aw)(o:Op t e t' N'):Mk t' e ak N':=(o.ti,o.vars.trans h2.vars,o.e8.trans h2.e8,h2.e0,λu a=>(o.ext.bc (h2.made u a).1,(h2.made u a).2))
def Ro(bD:Good t.X Z0)(o:Ext t.X t'.X)(c:t'.e8=t.e8)(a:bc t.X Z0 u):bK t' u=bK t u:=by funext r;delta bK eX lH;rw[c,o.den bD a]
def Rp(h2:Mk t e ak aw)(o:Op t e t' c):f7 t' ak=f7 t ak:=by
 refine cJ λu a=>?_
 delta pairOf
 rw[Ro h2.ti.inv.good o.ext o.e8 (h2.made u a).1]
def Mk.incref(h2:Mk t e ak aw)(a:bc t.X Z0 u):Mk {t with ref:=pq t.ref (aT u:Int)} (N6 e (aT u:Int)) (ak++[u]) aw:=by
 let(c,d,_):=h2.ti.inv.ref _ a.1;let g:(pq t.ref (aT u:Int)).length=t.ref.length:=jg (by rw[d];rfl);let(n,m,k,j,i):=h2.ti.vC;refine((h2.ti.inv.incref a.1,h2.ti.ite,(n,m,by rw[g];show k,j,i),h2.ti.TF,h2.ti.nv),h2.vars,h2.e8,λx=>?_,λx T=>?_)
 .have:=h2.e0 x;delta N6;split<;>(first|exact Y2 this|exact aiC this)
 .let f:∀y,0<=e y:=h2.e0;delta N6;rcases cy.mp T with h|h
  .let(J,M):=h2.made x h;show(J,by split<;>(first|exact aiD M|exact aiE M))
  .let rfl:=aV.mp h;have:=f (aT x:Int);show(a,by rw[bj rfl];show aiF this)
end
abbrev bI:Nat->TS
 |0=>bT 4
 |k+1=>{bI k with ref:=pq (bI k).ref (2+(k:Int))}
abbrev bE:Nat->Int->Int
 |0=>λ_=>0
 |k+1=>N6 (bE k)<|2+(k:Int)
def bT4:bT 4=([((0,Y<|-1,Y 1),2),((1,Y<|-1,Y 1),3),((2,Y<|-1,Y 1),4),((4,R,R),1),((3,Y<|-1,Y 1),5)],[(1,(4,R,R)),(2,(0,Y<|-1,Y 1)),(3,(1,Y<|-1,Y 1)),(4,(2,Y<|-1,Y 1)),(5,(3,Y<|-1,Y 1))],[(1,9),(2,0),(3,0),(4,0),(5,0)],[],n9,DU,6):=by kernel_rfl
def mk0:Mk (bT 4) (λ_=>0) [] 10:=by
 generalize k:bT 4=t;rw[bT4] at k;subst k;let j:∀p∈([(1,(4,R,R)),(2,(0,Y<|-1,Y 1)),(3,(1,Y<|-1,Y 1)),(4,(2,Y<|-1,Y 1)),(5,(3,Y<|-1,Y 1))]:SM),p=(1,(4,R,R))\/(1<p.1/\0<=p.2.1/\p.2.1<4/\p.2.2=(Y<|-1,Y 1)):=by decide
 refine((((λu i v w h=>?_,λu i a b h=>?_,λn u=>(λh=>?_,λh=>?_),∅,∅,∅,∅,λu h=>?_,λu c h=>?_,λu h=>dm 0),(∅,λz=>z,λu i a b h J _=>?_),λu z=>z.elim),λg u v w h=>(by cases h),PF ∅,∅,rfl),rfl,rfl,λ_=>dm 0,λu m=>by cases m)
 .rcases j _ (lE h) with e|⟨_,_,_,e⟩
  .cases e
  .injection e with f e2;injection f with f;injection e2 with e2;subst f e2;decide
 .rcases j _ (lE h) with e|⟨_,_,_,e⟩
  .cases e;rfl
  .cases e;rfl
 .let key:∀p∈([((0,Y<|-1,Y 1),2),((1,Y<|-1,Y 1),3),((2,Y<|-1,Y 1),4),((4,R,R),1),((3,Y<|-1,Y 1),5)]:List (Nd×Int)),N ([(1,(4,R,R)),(2,(0,Y<|-1,Y 1)),(3,(1,Y<|-1,Y 1)),(4,(2,Y<|-1,Y 1)),(5,(3,Y<|-1,Y 1))]:SM) p.2=Y p.1:=by decide
  show(key _<|lE h,λz=>z)
 .let key:∀p∈([(1,(4,R,R)),(2,(0,Y<|-1,Y 1)),(3,(1,Y<|-1,Y 1)),(4,(2,Y<|-1,Y 1)),(5,(3,Y<|-1,Y 1))]:SM),N ([((0,Y<|-1,Y 1),2),((1,Y<|-1,Y 1),3),((2,Y<|-1,Y 1),4),((4,R,R),1),((3,Y<|-1,Y 1),5)]:List (Nd×Int)) p.2=Y p.1:=by decide
  show key _<|lE h.1
 .let(n,o):=bp.mp h;let key:∀p∈([(1,(4,R,R)),(2,(0,Y<|-1,Y 1)),(3,(1,Y<|-1,Y 1)),(4,(2,Y<|-1,Y 1)),(5,(3,Y<|-1,Y 1))]:SM),∃c∈[9,0],N ([(1,9),(2,0),(3,0),(4,0),(5,0)]:List (Int×Int)) p.1=Y c/\jZ [(1,(4,R,R)),(2,(0,Y<|-1,Y 1)),(3,(1,Y<|-1,Y 1)),(4,(2,Y<|-1,Y 1)),(5,(3,Y<|-1,Y 1))] p.1+0<=c:=by decide
  let(c,_,h):=key _<|lE o;show(c,h)
 .let key:∀p∈([(1,9),(2,0),(3,0),(4,0),(5,0)]:List (Int×Int)),(N ([(1,(4,R,R)),(2,(0,Y<|-1,Y 1)),(3,(1,Y<|-1,Y 1)),(4,(2,Y<|-1,Y 1)),(5,(3,Y<|-1,Y 1))]:SM) p.1).isSome=L:=by decide
  show key _<|lE h
 .rcases j _ (lE h) with e|⟨M,q,d,e⟩
  .cases e;show(J rfl).elim
  .cases e;show(M,q,d,-1,1,rfl,rfl,∅,∅,(∅,λz=>z),(∅,λz=>z),d,d)
def roots(k:Nat):=(bO k).map λi:Nat=>2+(i:Int)
def YR:∀k,(bI k).X=(bT 4).X:=by
 intro k;induction k with|zero=>rfl|succ k a=>show a
def mkI:∀k,k<=4->Mk (bI k) (bE k) (roots k) 10:=by
 intro a
 induction a with
 |zero=>
  intro _;show mk0
 |succ k c=>
  intro hk;let S:∀k:Nat,k<4->(N (bT 4).X<|2+(k:Int)).isSome=L:=by rw[bT4];decide
  have:=(c<|uG hk).incref (u:=2+(k:Int)) (by rw[YR,show(((2:Int)+(k:Int)).natAbs:Int)=2+(k:Int) from m_];show S k<|hk,λz=>z);rw[show(((2:Int)+(k:Int)).natAbs:Int)=2+(k:Int) from m_] at this;rw[show roots (k+1)=roots k++[2+(k:Int)] by simp[roots,hH]];show this
def amT:∀i:Nat,i<4->iV (bK (bI 4)<|2+(i:Int))=iV (bF i):=by lk
def abi:bL 4=f7 (bI 4) (roots 4):=by
 delta bL f7 roots
 rw[fH];refine cJ λi a=>?_;show _=pairOf _ _
 delta pairOf Bo
 rw[amT i (dS.mp a)]
def É(h:(bL 4)[k]?=Y a):k<4/\a=.tup [.int<|2+(k:Int),Bo<|bF k]:=by
 delta bL at h
 rw[bb] at h
 let c:k<4:=by
  rcases oe k 4 with q|q
  .show q
  .rw[List.getElem?_eq_none q] at h;cases h
 rw[jI c] at h;show(c,by simpa using h.symm)
def abj:∀k:Nat,k<4->(N (bI k).ref<|2+(k:Int)).isSome=L/\(bI k).ref.length<=100000:=by lk
def abk{hB:cp w B}{n:Nat}{V:TA}{g:bf}(t:Wf V)(i:h2∉V.list)(j:g h2=Y (.list<|bL 4))(h:∀{fu:Nat},bH (fu+4800) ↑hB (LC w B hB n ak,Q) (ij 6<|qT w) [] [] %[Y<|sc,Y !V.x,Y !h2,z|13] ((bI 4)\g)):bH (fu+4900) ↑hB (LC w B hB n ak,Q) (ij 5<|qT w) [] [] %[Y<|sc,Y !V.x,Y !h2,z|13] ((bI 0)\g):=by
 refine lG (C:=LC w B hB n ak) [au,au,au,au,L,L] rfl λ_ E=>rj λ_=>SQ (bz i j) ?_
 let(e,Ji,o):∃e:Nat->bf->Lm->Prop,(∀k,e k ((bI k)\cD g h2) %[Y<|sc,Y !V.x,Y !h2,z|13])/\(∀k f c,e k f c->∀d:bf->Lm->Prop,(d ((bI k)\cD g h2) %[Y<|sc,Y !V.x,Y !h2,z|13])->d f c):=
  (λk f c=>∀d:bf->Lm->Prop,(d ((bI k)\cD g h2) %[Y<|sc,Y !V.x,Y !h2,z|13])->d f c,λ_ _ p=>p,λ_ _ _ h=>h)
 refine dc e ?_ ?_<|My E ?_
 .refine Wg ?_<|Ji _;show cD ((bI 0)\g) h2=_;rw[eN i]
 .intro k a A c y az;apply o _ _ _ az;intro _ D;let(v,rfl):=É y;calc dR ∎;let m:(((2:Int)+(k:Int)).natAbs:Int)=2+(k:Int):=m_;let(s,q):=abj k v;calc Bf t (u:=2+(k:Int)) (by rw[m];show s) q;rw[m];show D _ _ _<|Ji _
 .intro A c az;apply o _ _ _ az;dsimp only[iD.back];rw[aY i,i6,fN j];show bH _ _ _ (ij 6<|qT w) [] [] [Y<|sc,Y !V.x,Y !h2,z,R,R,_,_,_,_,_,_,_,_,_,_,_] _;show h
def w4(b:Bool)(r:Nat)(x:Int):=if b=L then r|||2^(x-101).toNat else r&&&(15-2^(x-101).toNat)
def YS:∀b:Bool,∀r:Fin 16,∀x y:Fin 4,w4 b r (101+(x:Nat))<16/\kq (w4 b r<|101+(x:Nat)) (101+(y:Nat))=(if x=y then b else kq r (101+(y:Nat))):=∅
def x8(d:r<16)(c:101<=x)(J:x<=104)(M:101<=y)(a:y<=104):w4 b r x<16/\kq (w4 b r x) y=(if x=y then b else kq r y):=by
 have:=YS b (r,d) ((x-101).toNat,Zr J) ((y-101).toNat,Zr a);simp only[show(101:Int)+((x-101).toNat:Int)=x from Zu c,show(101:Int)+((y-101).toNat:Int)=y from Zu M,JZ] at this;by_cases q:x=y
 .clear M a;subst q;simpa using this
 .rw[aK (İ q c M)] at this;rw[aK q];show this
def Ê:∀r:Fin 16,∀x:Fin 4,zE ((r:Nat):Int) (2^(x:Nat))=((w4 L r (101+(x:Nat)):Nat):Int)/\yg ((r:Nat):Int) (15-2^(x:Nat))=((w4 au r (101+(x:Nat)):Nat):Int):=∅
def Ep{r:Nat}(a:r<16)(c:101<=x)(J:x<=104):zE (r:Int) (2^(x-101).toNat)=((w4 L r x:Nat):Int)/\yg (r:Int) (15-2^(x-101).toNat)=((w4 au r x:Nat):Int):=by have:=Ê (r,a) ((x-101).toNat,Zr J);simpa only[show(101:Int)+((x-101).toNat:Int)=x from Zu c] using this
def YT(a:f6 t)(m:r<16)(h:101<=x)(J:x<=104):∀j,0<=j->j<4->eX t (w4 b r x) j=fm (eX t r) (eJ t x) b j:=λj d c=>by
 let(k,i,g,f):=a.nm d c
 delta eX
 rw[(x8 m h J g f).2];by_cases q:j=eJ t x
 .clear d c k i g f;subst q;rw[bj (a.UK h J).symm,pz]
 .rw[mR q,aK];intro e;show q (by rw[e];show(a.Pr d c).symm)
section
def JP(bD:Good t.X Z0)(d:f6 t)(a:bc t.X Z0 u)(c:r<16)(e:101<=x)(J:x<=104):bK t u (w4 b r x)=b2i (den t.X u<|fm (eX t r) (eJ t x) b):=by delta bK;rw[bD.in4 a _ _ (YT d c e J)]
def L1(bD:Good t.X Z0)(d:f6 t)(a:bc t.X Z0 u)(c:r<16)(e:101<=x)(J:x<=104):bK t u (rk r x)=b2i (den t.X u<|fm (eX t r) (eJ t x)<|not (eX t r<|eJ t x)):=by delta bK;rw[bD.in4 a _ _ (F3 d c e J)]
def tab_of{f:uR->Bool}(a:t'.e8=t.e8)(h:∀G,den t'.X u G=f G)(k:Nat):bK t' u k=b2i (f<|eX t k):=by delta bK;rw[h];delta eX lH;rw[a]
def Ë(c:t'.e8=t.e8)(bD:Good t.X Z0)(d:bc t.X Z0 b)(h:∀G,den t'.X u G=(den t.X a G&&den t.X (-b) G)):iV (bK t' u)=iV λk=>bK t a k*(1-bK t b k):=n8.mpr λk _=>by rw[tab_of c h,bD.iP d];delta bK;cases den t.X a (eX t k)<;>cases den t.X b (eX t k)<;>rfl
def abl(c:t'.e8=t.e8)(h:∀G,den t'.X u G=(den t.X a G||den t.X b G)):iV (bK t' u)=iV λk=>max (bK t a k) (bK t b k):=n8.mpr λk _=>by rw[tab_of c h];delta bK;cases den t.X a (eX t k)<;>cases den t.X b (eX t k)<;>rfl
def Ì(c:t'.e8=t.e8)(h:∀G,den t'.X u G=(den t.X a G^^den t.X b G)):iV (bK t' u)=iV λk=>ox (bK t a k) (bK t b k):=n8.mpr λk _=>by rw[tab_of c h];delta bK;cases den t.X a (eX t k)<;>cases den t.X b (eX t k)<;>decide
def Í(d:t'.e8=t.e8)(h:∀G,den t'.X u G=if den t.X a G then den t.X b G else den t.X c G):iV (bK t' u)=iV λk=>if bK t a k=1 then bK t b k else bK t c k:=n8.mpr λk _=>by rw[tab_of d h];delta bK;cases den t.X a (eX t k)<;>rfl
def Î(d:t'.e8=t.e8)(bD:Good t.X Z0)(c:f6 t)(f:bc t.X Z0 a)(g:101<=x)(J:x<=104)(h:∀G,den t'.X u G=den t.X a (fm G (eJ t x) b)):iV (bK t' u)=iV λk=>bK t a (w4 b k x):=n8.mpr λk e=>by rw[tab_of d h,JP bD c f e g J]
def YU(i:t'.e8=t.e8)(bD:Good t.X Z0)(d:f6 t)(f:bc t.X Z0 a)(g:101<=x)(J:x<=104)(h:∀G,den t'.X u G=den t.X a (fm G (eJ t x)<|den t.X c G)):iV (bK t' u)=iV λk=>if bK t c k=1 then bK t a (w4 L k x) else bK t a (w4 au k x):=n8.mpr λk e=>by
 rw[tab_of i h,JP bD d f e g J,JP bD d f e g J]
 delta bK
 cases den t.X c (eX t k)<;>rfl
def abm(d:t'.e8=t.e8)(bD:Good t.X Z0)(c:f6 t)(f:bc t.X Z0 a)(g:101<=x)(J:x<=104)(h:∀G,den t'.X u G=qF au (eJ t x) (den t.X a) G):iV (bK t' u)=iV λk=>max (bK t a k) (bK t a<|rk k x):=n8.mpr λk e=>by
 rw[tab_of d h,L1 bD c f e g J];let i:bK t a k=b2i (den t.X a<|fm (eX t k) (eJ t x)<|eX t k<|eJ t x):=by rw[Bp];rfl
 rw[i]
 delta qF
 cases eX t k (eJ t x)<;>simp only[yf,zB]<;>generalize den t.X a (fm (eX t k) (eJ t x) au)=A<;>generalize den t.X a (fm (eX t k) (eJ t x) L)=C<;>cases A<;>cases C<;>rfl
def Ï(d:t'.e8=t.e8)(bD:Good t.X Z0)(c:f6 t)(f:bc t.X Z0 a)(g:101<=x)(J:x<=104)(h:∀G,den t'.X u G=qF L (eJ t x) (den t.X a) G):iV (bK t' u)=iV λk=>min (bK t a k) (bK t a<|rk k x):=n8.mpr λk e=>by
 rw[tab_of d h,L1 bD c f e g J];let i:bK t a k=b2i (den t.X a<|fm (eX t k) (eJ t x)<|eX t k<|eJ t x):=by rw[Bp];rfl
 rw[i]
 delta qF
 cases eX t k (eJ t x)<;>simp only[yf,zB]<;>generalize den t.X a (fm (eX t k) (eJ t x) au)=A<;>generalize den t.X a (fm (eX t k) (eJ t x) L)=C<;>cases A<;>cases C<;>rfl
end
section
set_option backward.match.sparseCases false
def Gri(h:Y (bD.raw o)=Y (bD.raw o')):o=o':=by let h:=ax h;injection h
variable{w:cC}{B:Fz}{hB:cp w B}{n:Nat}{m:Loc}{V:TA}{t:TS}{g:bf}
@[ext]abbrev i50:List Ix:=[.c<|.raw<|.builtin "len",.fn,.l 0,.at "_succ",.ca 1 [],.ret]
abbrev n50:List Str:=["self"]
def f50(h:FH w B hB n 50 n50 i50 [Y x0] O Q):Cl ↑hB (n+1) (!50) [x0] [] O Q:=fn1 h ⋯ ⋯
@[ext]abbrev zd(w:cC):List Ix:=(.c (.raw<|.builtin "len")::.fn::.l 0::.ca 1 []::.st 2::.l 1::.c .none::.cm .Is::.tr::.iff [.l 0,.at "_ref",.st 1] []::.sr (za (dB (K1 w) 378) 0)::.c (.raw<|.type "filter")::.fn::.l 3::.l 1::.ca 2 []::.st 4::.er (xR (dB (K1 w) 378) 0)::.st 4::.c ⇑1::.l 4::.cm .In::.tr::.iff [.l 4,.me "remove",.c ⇑1,.mc 1,.pop] []::[.wh [.l 4,.tr] (.l 4::.me "pop"::.mc 0::.st 5::.l 5::.c ⇑1::.cm .Eq::.tr::.iff [.bad] []::.l 0::.at "_succ"::.me "pop"::.l 5::.mc 1::.un 3::.st 6::.st 7::.st 8::.l 7::.tr::.no::.iff [.bad] []::.l 8::.tr::.no::.iff [.bad] []::.l 0::.at "_pred"::.me "pop"::.l 6::.l 7::.l 8::.tu 3::.mc 1::.st 9::.l 0::.at "_ref"::.me "pop"::.l 5::.mc 1::.st 10::.c (.raw<|.builtin "min")::.fn::.l 5::.l 0::.at "_min_free"::.ca 2 []::.l 0::.sa "_min_free"::.l 5::.l 9::.cm .NotEq::.tr::.iff [.bad] []::.l 10::.tr::.iff [.bad] []::.l 0::.at "_min_free"::.c ⇑1::.cm .LtE::.tr::.iff [.bad] []::.l 0::.tl::.l 7::.mf 107 1 []::.pop::.l 0::.tl::[.l 8,.mf 107 1 [],.pop,.l 0,.at "_ref",.l 7,.ab,.sb,.tr,.no,.an [.l 7,.ab,.c ⇑1,.cm .NotEq,.tr,.an [.c<|.bool L]],.iff [.l 4,.me "add",.l 7,.ab,.mc 1,.pop] [],.l 0,.at "_ref",.l 8,.sb,.tr,.no,.an [.l 8,.c ⇑1,.cm .NotEq,.tr,.an [.c<|.bool L]],.iff [.l 4,.me "add",.l 8,.mc 1,.pop] []]) [],.c<|.raw<|.type "dict",.fn,.ca 0 [],.l 0,.sa "_ite_table",.c<|.raw<|.builtin "len",.fn,.l 0,.ca 1 [],.st 11,.l 2,.l 11,.bi .Sub,.st 12,.l 12,.c ⇑0,.cm .Lt,.tr,.iff [.bad] []])
abbrev Ð:List Str:=["self","roots","n","is_unused","unused","u","i","v","w","u_","uref","m","k"]
def abn(d:Binds ↑hB (iy (K1 w) 378) as c [(ah "roots",a),(ah "self",x0)])(h:∀ak,bH 5000 ↑hB (Hi ↑hB n 378 (iy (K1 w) 378) Ð Q ak) (zd w) [] [] %[Y x0,Y a|11] O):Cl ↑hB (n+1) (!378) as c O Q:=Ct (oc:=.type "function") (od:=R) (osl:= #[]) (fd:=iy (K1 w) 378) (body:=dB (K1 w) 378) (Q:=Q) (nm:=Ð) (m:=%[Y x0,Y a|11]) (ir:=λ_=>(zd w)) ⋯ ⋯ ⋯ ⋯ d ⋯ ⋯ ⋯ (λak=>⋯) h
def Vv{O:bf}{ks:List (Int×AV)}(hd:O d=Y (.raw o))(c:Known Z (.dict<|ks.map λp=>bG (K0.int p.1) p.2) o):∃a IO,IO 0 a/\(∀h,h d=Y (.raw o)->QV Z h d a)/\∀I,Sp Z.prog Z.w I d o (ks.map (·.1)) IO:=by
 let(es,ep,J,_,_):=Pe (I:=d) (d:=d) c;refine fX (Fw d 0 es.size ep) (λk a=>KdkIter a d k es.size ep) ?_ (λh i=>?_) (λI=>?_)
 .show(rfl,rfl)
 .let(es',j,M,f):=H9 i c;rw[J] at M;injection M with M e;subst M e;show f
 .let(es',j,M,_,f):=Pe (I:=I) (d:=d) c;rw[J] at M;injection M with M e;subst M e;show f
@[ext]abbrev abo:Pos:={line:=484,col:=8,endLine:=485,endCol:=40}
abbrev Gk:=ah "BDD.collect_garbage.<locals>.is_unused"
structure BM(B:Fz)(ob:Obj):Prop where
 at4:B 4=Y ob
 cls:ob.cls=.type "module"
 dict:ob.dict=Y jx
 data:ob.data=.plain
def oW(V:TA)(g:bf):=373∉V.list/\Ua (λa=>if a∈V.list then R else g a) 373 abo Gk
def Gl(a:Wf V)(hz:t.X.length<=100000)(h:Q ⇑t.X.length (t\g)):Cl ↑hB (n+1) (!50) [.ref V.x] [] (t\g) Q:=by show f50 λak=>cP ∎ (Fg a hz h)
def Gm(h:Known Z (.dict l) o):∃es ep,o.data=.dict es ep:=by let(es,ep,J,_):=H9 (O:=λa=>if a=0 then Y (.raw o) else R) (d:=0) (bj rfl) h;show rY es ep J
abbrev b_:bD->Bool
 |.raw o=>match o.data with
  |.fields _=>L
  |_=>au
 |_=>au
def Rq(i:Known ↑hB (.dict<|eC t.ref) o)(d:Wf V)(S:c.data=.fields vs)(h:aB (t\g) V.ref (.raw o) a=Y (.raw c)):a∉V.list:=by
 intro f;let j:b_ (.raw c)=L:=by show(match c.data with|.fields _=>L|_=>au)=L;rw[S]
 by_cases e:a=V.ref
 .rw[e,ar] at h;let(es,ep,hd):=Gm i;rw[<-Gri h,hd] at S;show nomatch S
 .rw[aq e] at h;let(v,q,r):=D! (l:=vals V t) (g:=g) d.nd f;have:=ct.mp (rfl:(vals V t).all (λp=> not (b_ p.2))=L) _ q;rw[<-ax (h.symm.trans r),j] at this;show nomatch this
abbrev wM(t:TS)(i:Int):=not (decide ((N t.ref (aT i:Int)).getD 0≠0))
abbrev Vw(w:cC):=za (dB (K1 w) 378) 0
def reE(l:List fz):=l.head?.elim dX sE
def reP(l:List fz):=l.head?.elim default sP
def L3(I:Inst O V.x 493 V.dx (jD V t))(z:O V.ref=Y (.raw o))(A:Known ↑hB (.dict<|eC t.ref) o)(E:O f=Y (.raw<|GI (ah "is_unused") Gk (F6<|Vw w) (Ii<|Vw w) (NS<|Vw w) [(ah "self",c)] doc pm G J7))(M:O G=Y (.raw d))(Q:d.data=.fields vs)(s:vs[1]?=Y (.str Gk U))(p:O c=Y (.raw oc))(u:oc.data=.cell (Y !V.x))(h:c≠V.x)(k:c≠V.dx)(j:c≠V.ref)(D:∃r,N t.ref (aT i:Int)=Y r):Cl ↑hB (n+1) (!f) [.int i] [] O λa H=>a=.bool (wM t i)/\H=O:=by
 let(r,q):=D;refine XZ (x:=ah "self") (y:=ah "u") (v:=.ref V.x) (e:=reE<|Ii<|Vw w) (pos:=reP<|Ii<|Vw w) E M rfl Q s p u rfl ⋯ ⋯ ⋯ ⋯ (λx T=>?_) ⋯ ?_ (λv=>⋯) λak=>?_
 .let J:((NS<|Vw w).names.all λx=>x.2 !=.cell)=L:=by kernel_rfl
  have:=ct.mp J x T;simpa using this
 .let J:((NS<|Vw w).names.lookup (ah "self") !=Y .local)=L:=by kernel_rfl
  show bne_iff_ne.mp J
 refine j5 (C:=(bs w B hB,n,_,[ah "u",ah "self"])) (m:=[Y ⇑i,Y !V.x]) (el:=[.l 1,.at "_ref",.l 0,.ab,.sb,.tr,.no]) ⋯ (uW ⋯) (iG (by rw[cx (aE h)];show I.obj,by rw[cx (aE k)];show I.ns,I.kind) k_inst Ti Tj rfl<|X2 (by rw[cx (aE j)];show z) A rfl (by rw[g9,q];rfl) (by rw[wM,q];rfl,?_));rw[i6,eh p]
def da(h:aB O a x c=R):c≠a/\O c=R:=by
 by_cases e:c=a
 .rw[e,ar] at h;show nomatch h
 .rw[aq e] at h;show(e,h)
def abp(c:O I=R)(d:O F=R):cD (cD (aB (aB O I a) F b) I) F=O:=by
 funext x
 delta cD aB
 by_cases J:x=F
 .rw[bj J,J,d]
 .rw[aK J];by_cases M:x=I
  .rw[bj M,M,c]
  .rw[aK M,aK J,aK M]
def gsf(h:c∉V.list):aB (aB (t\g) V.ref ae) c x=aB (t\aB g c x) V.ref ae:=by rw[gf (show V.ref≠c from λe=>h<|e▸TA.XP),aY h]
@[ext]abbrev RS(w:cC)(B:Fz)(hB:cp w B)(n:Nat)(ak:aW):CC:=(bs w B hB,n+11,mA (iy (K1 w) 378) ak 378,Ð)
def JQ{O:bf}(J:O a=Y (.raw o))(M:O a=Y (.raw o')):o=o':=Gri<|J.symm.trans M
def b!{l:List aW}(h:l.Nodup)(i j:Nat)(c:l[i]?=Y a)(d:l[j]?=Y b)(f:i≠j):a≠b:=λe=>
 f ((List.getElem?_inj (aL.mp c).1 h).mp (c.trans<|e▸d.symm))
nonrec def b?{ak:aW}{IO:Nat->Obj->Prop}{z2:Option AV}(E:Wf V)(Cm:BM B ob)(u:oW V g)(Ar:Known ↑hB (.dict<|eC t.ref) o)(hd:aB (t\g) V.ref (.raw o) d=Y (.raw od))(Mt:∀vs,od.data≠.fields vs)(h0:IO 0 io)(ZN:∀bq,bq d=Y (.raw od)->QV ↑hB bq d io)(Mn:∀I,Sp (↑hB).prog (↑hB).w I d od xs IO)(JL:∀i∈xs,∃r,N t.ref (aT i:Int)=Y r)(hz:xs.length<=4000)(h:∀(g':bf) (D F f:aW),D∉V.list->D≠d->D≠373->oW V g'->(∀a x,a≠373->g a=Y x->(∃o' vs,x=.raw o'/\o'.data=.fields vs)\/g' a=Y x)->(∀a,g' a=R->g a=R)->g D=R->g' D=Y (.set<|n7 (xs.filter<|wM t) [])->∀fu:Nat,bH (fu+2000) ↑hB (RS w B hB n ak,Q) (ij 19<|zd w) [] [] %[Y !V.x,Y !d,z2,Y !f,Y (!D)|8] (t\g')):SR ↑hB (RS w B hB n ak) (Vw w) %[Y !V.x,Y !d,z2|10] (aB (t\g) V.ref<|.raw o) (ϳ (RS w B hB n ak,Q) (bH (fu+3000) ↑hB (RS w B hB n ak,Q) (ij 11<|zd w) [] [])):=by
 let C:V.ref∈V.list:=TA.XP;let Wd:V.x∈V.list:=TA.mx;let Ñ:V.dx∈V.list:=TA.mdx;let nl:∀{a b:aW},a∉V.list->b∈V.list->b≠a:=λJ M e=>J<|e▸M;let JR:∀{G0:bD},g 373=Y G0->aB (t\g) V.ref (.raw o) 373=Y G0:=λh=>by rw[aq (aE<|nl u.1 C),pj u.1,h]
 let L4:∀{a:aW} {x:bD},(if a∈V.list then R else g a)=Y x->aB (t\g) V.ref (.raw o) a=Y x:=fun{a x} h=>by
  split at h
  .show nomatch h
  .rename_i q;rw[aq (aE<|nl q C),pj q,h]
 refine X! (name:=ah "is_unused") (j:=3) (c:=377) (P:=373) (bm:=4) (ob:=ob) (qual:=Gk) (clos:=[(ah "self",ak+1)]) ⋯ ⋯ ⋯ ⋯ ⋯ ⋯ ⋯ ⋯ ⋯ Cm.at4 Cm.cls Cm.dict Cm.data ∅ ∅ ⋯ ⋯ ⋯ ?_ λf cc oc vs tq doc J7 pm hf ϯ hfP NC abr L_ ÿ=>?_
 .rcases u.2 with q|⟨cc,oc,vs,tq,q1,q2,q3,q4,q5⟩
  .show .inl (L4 q)
  .show .inr (lj cc oc vs tq (L4 q1) (L4 q2) q3 q4 q5)
 let A:cc∉V.list:=NC.elim (λq=>(d0 (da q).2).1) λq=>Rq Ar E L_ q;let G:f∉V.list/\g f=R:=d0 (da hf).2;let hfs:∃Mm,(kT #[]).data=.fields Mm:=⟨_,rfl⟩
 let hd3:d≠373:=λe=>by let hd:=e▸hd;show u.2.elim (λq=>Mt _ (congrArg Mj (JQ hd (L4 q)))) λec=>by let(_,_,_,_,q1,_):=ec;show Mt _ (congrArg Mj (JQ hd (L4 q1)))
 let hdc:d≠cc:=λe=>by let hd:=e▸hd;show NC.elim (λq=>nomatch q.symm.trans hd) λq=>Mt _ ((congrArg Mj (JQ hd q)).trans L_)
 let hdf:d≠f:=eB hd hf;generalize GJ:(bD.raw (GI (ah "is_unused") Gk (F6 (Vw w)) (Ii (Vw w)) (NS (Vw w)) [(ah "self",ak+1)] doc pm cc J7))=fn;generalize htb:(bD.raw (kT #[eK _,eK _,jc cc]))=tb;generalize Vx:aB (aB (aB (aB (aA V t g) V.ref (.raw o)) 373 tb) cc (.raw oc)) f fn=s;let kY:∀{a:aW} {x:bD},a≠373->a≠cc->a≠f->aB (aA V t g) V.ref (.raw o) a=x->s a=x:=fun{a x} e1 e2 e3 h=>by rw[<-Vx,aq e3,aq e2,aq e1];show h
 let Ov:s f=Y fn:=by rw[<-Vx];show ar
 let amV:s cc=Y (.raw oc):=by rw[<-Vx,aq<|aE ϯ];show ar
 let X6:s d=Y (.raw od):=kY hd3 hdc hdf hd;let Cv:s V.x=Y (.raw<|k8 493 V.dx):=kY (nl u.1 Wd) (nl A Wd) (nl G.1 Wd)<|(aq<|b! E.nd 0 4 rfl rfl ∅).trans Th;let abu:s V.dx=Y (.ns<|jD V t):=kY (nl u.1 Ñ) (nl A Ñ) (nl G.1 Ñ)<|(aq<|b! E.nd 1 4 rfl rfl ∅).trans (OV E);let H:s V.ref=Y (.raw o):=kY (nl u.1 C) (nl A C) (nl G.1 C) ar;refine QW (ZN _ X6) λI F O hF z=>ER.conv<|Rg (x:=ah "self") (j:=0) (v:=.ref V.x) (g:=.type "set") (ia:=[.c<|.raw<|.type "map",.fn,.c<|.raw<|.builtin "abs",.l 4,.ca 2 []]) ⋯ ⋯ ⋯ ⋯ ⋯ rfl ⋯ ⋯ ⋯ ?_;let Mx:F≠I:=aE z;let up:∀{a:aW} {x:bD},s a=Y x->aB (aB s I<|.raw io) F (.raw<|jH f I) a=Y x:=fun{a x} h=>d5 (d5 h<|eB h O)<|eB h hF;refine J_ ar λhx h2 Ď hM ZQ=>?_;intro c oc' hc GZ wD
 let uH:c=ak+1:=by
  let e2:(mA (iy (K1 w) 378) ak 378).cells.lookup (ah "self")=Y (ak+1):=by kernel_rfl
  show ax<|hc.symm.trans e2
 clear hc;obtain⟨L!,abv⟩:=da GZ;clear L!;let(Ā,abw):=da abv;clear abv Ā;let(hcF,abx):=da abw;clear abw hcF;let(hcI,Vy):=da abx;let y:∀{a:aW} {x:bD},s a=Y x->c≠a:=λh=>(eB h Vy).symm;refine Q0 (Mn I) (p:=wM t) (I:=I) ar (up X6) (by rw[aq z];show ar) h0 (eB X6 O) Mx hz Ď hM ZQ GZ (λbq aby vB i hi=>?_) λD hD hDc=>?_
 .let k:∀{a:aW} {x:bD},s a=Y x->bq a=Y x:=λh=>aby _ _ (eB h O)<|up h;clear io h0 ZN h I F O hF z Mx up hx h2 Ď hM ZQ GZ abx hcI Vy aby;subst uH;rw[<-GJ] at Ov;show L3 (n:=n+5) (k Cv,k abu,λe=>E.cls e.symm) (k H) Ar (k Ov) (k amV) L_ ÿ vB wD (y Cv) (y abu) (y H)<|JL i hi
 .rw[abp O hF];let(hDF,mJ):=da hD;let(ý,U):=da mJ;let hD4:=U;rw[<-Vx] at hD4;let(hDf,hD5):=da hD4;let(amY,hD6):=da hD5;let(HV,hD7):=da hD6;let(hDr,hD8):=da hD7;let(hDl,DR):=d0 hD8;let abz:=h (aB (aB (aB (aB g 373 tb) cc<|.raw oc) f fn) D<|.set<|n7 (xs.filter<|wM t) []) D F f hDl (eB X6 U).symm HV (u.1,.inr<|lj cc oc vs tq ?_ ?_ L_ ÿ abr) (λa x ha T=>?_) (λa ha=>?_) DR ar
  .rw[<-Vx,gsf u.1,gsf A,gsf G.1,gsf hDl];calc aC _ (Cb ar Ar);rw[bQ,Ei E];show abz _
  .dsimp only;rw[aK u.1,aq<|aE HV,aq<|aE hfP,aq<|aE abr,ar,<-htb];kernel_rfl
  .dsimp only;rw[aK A,aq<|aE amY,aq<|aE ϯ,ar]
  .let e1:a≠D:=eB T DR;let e2:a≠f:=eB T G.2;by_cases e3:a=cc
   .let T:=e3▸T;let e4:cc≠V.ref:=λe=>A<|e▸C;refine .inl (NC.elim (λq=>nomatch (d0 (da q).2).2.symm.trans T) λq=>(jo oc vs ?_ L_));rw[aq e4,pj A,T] at q;show ax q
   .right;rw[aq e1,aq e2,aq e3,aq ha];show T
  .show(da (da (da (da ha).2).2).2).2
section
variable{e:Int->Int}
def Vz(c:D∉V.list)(a:g D=Y (.set xs)):J5 ↑hB (t\g) (!D) (ah "pop") (.builtin "set.pop"):=Eg (bz c a) yu PySem.F.type_set_pop
def VA(c:D∉V.list)(a:g D=Y (.set xs)):J5 ↑hB (t\g) (!D) (ah "remove") (.builtin "set.remove"):=Eg (bz c a) vz PySem.F.type_set_remove
def L5(a:Wf V)(hz:t.pred.length<=100000)(c:N t.pred (i,Y v,Y w')=Y u)(h:Q ⇑u ({t with pred:=dz t.pred (i,Y v,Y w')}\g)):Cl ↑hB n (.builtin "dict.pop") [.ref V.pred,.tup [.int i,.int v,.int w']] [] (t\g) Q:=by calc X4 (ph a) (XC i (Y v)<|Y w') (by rw[tD];show Y5 hz) (by rw[rD,c];rfl);rw[AY,Fd a];show h
def PG(a:MB e d P aw t W):W.length<=aw:=by
 let J:=bS a.wnd (l₂:=t.X.map (·.1)) λx T=>by let(_,M,_):=a.w x T;let(f,c):=bp.mp M;show cG.mpr<|aC _ (lE c) rfl
 let M:=a.vC.1;rw[cE] at J;show R3 J M
@[ext]abbrev dM(l:List Ix)(j:Nat):List Ix:=match ij j l with
 |.wh _ b _::_=>b
 |.fo _ _ _ b _::_=>b
 |_=>[]
def Ò(C:Wf V)(d:D∉V.list)(u:W.length<=4000)(c:N t.ref (aT v:Int)=Y r)(h:∀{fu:Nat},bH (fu+2000) ↑hB (RS w B hB n ak,Q) (ij 82<|dM (zd w) 24) [] [] [Y !V.x,s,p,o,Y !D,k,j,Y ⇑v,i,f,A,y,z] (t\(aB g D<|.set<|if N t.ref (aT v:Int)=Y 0/\(aT v:Int)≠1 then ff W (aT v:Int) else W))):bH (fu+2500) ↑hB (RS w B hB n ak,Q) (ij 73<|dM (zd w) 24) [] [] [Y !V.x,s,p,o,Y !D,k,j,Y ⇑v,i,f,A,y,z] (t\(aB g D<|.set W)):=by
 refine xy ∎ (A1 ∎ ∎ ?_);by_cases a:r=0
 .refine rT (by rw[a];rfl) ?_;by_cases J:(aT v:Int)≠1
  .refine nu J<|rT rfl (_,jj d ar,⋯,?_);calc gU d ar u;rw[bQ];rw[bj (by rw[c,a],J)] at h;show h
  .refine nC J<|jh rfl ?_;rw[aK (λq=>J q.2)] at h;show h
 .refine w3 a<|jh rfl ?_;rw[aK (λq=>a<|by rw[c] at q;show ax q.1)] at h;show h
def Ó(C:Wf V)(d:D∉V.list)(u:W.length<=4000)(c:N t.ref v=Y r)(h:∀{fu:Nat},bH (fu+1500) ↑hB (RS w B hB n ak,Q) (ij 90<|dM (zd w) 24) [] [] [Y !V.x,s,p,o,Y !D,k,j,i,Y ⇑v,f,A,y,z] (t\(aB g D<|.set<|if N t.ref v=Y 0/\v≠1 then ff W v else W))):bH (fu+2000) ↑hB (RS w B hB n ak,Q) (ij 82<|dM (zd w) 24) [] [] [Y !V.x,s,p,o,Y !D,k,j,i,Y ⇑v,f,A,y,z] (t\(aB g D<|.set W)):=by
 refine xy ∎ (A1 ∎ ∎ ?_);by_cases a:r=0
 .refine rT (by rw[a];rfl) ?_;by_cases J:v≠1
  .refine nu J<|rT rfl (_,jj d ar,⋯,?_);calc gU d ar u;rw[bQ];rw[bj (by rw[c,a],J)] at h;show bH _ _ _ (ij 90<|dM (zd w) 24) [] [] _ _;show h
  .refine nC J<|jh rfl ?_;rw[aK (λq=>J q.2)] at h;show bH _ _ _ (ij 90<|dM (zd w) 24) [] [] _ _;show h
 .refine w3 a<|jh rfl ?_;rw[aK (λq=>a<|by rw[c] at q;show ax q.1)] at h;show bH _ _ _ (ij 90<|dM (zd w) 24) [] [] _ _;show h
def YV(d:Wf V)(c:aw<=3900)(k:D∉V.list)(A:MB e o P aw t W)(de:W≠[])(he:∀x,0<=e x)(hP:∀u i v w,P u->N o.X u=Y (i,Y v,Y w)->P (aT v:Int)/\P (aT w:Int))(h:∀t' T M J I H G O,MB e o P aw t' T->t'.X.length<t.X.length->Q .next (t'\(aB g D<|.set T)) [Y !V.x,y1,Y ⇑o.X.length,y3,Y !D,M,J,I,H,G,O,c_,c!]):bH (fu+3000) ↑hB (RS w B hB n ak,Q) (dM (zd w) 24) [] [] [Y !V.x,y1,Y ⇑o.X.length,y3,Y !D,M,J,I,H,G,O,c_,c!] (t\(aB g D<|.set W)):=by
 let a:=PG A;refine(_,Vz k ar,⋯,?_);refine Xm (bz k ar) de (WA a c) λu hu=>?_;let(i,v,w',hs,qO,U,Il,z,hp,H',fM,(cv,p,Ç),(cw,E,È)):=A.step he hP hu;let(z1,z2,q,z4,z5):=A.vC;rw[aY k,bQ];refine nC (xi qO) (cP ∎ (JB (Jl ∎) rfl<|To d (j! z1 c) hs<|jh (by simp[Il])<|jh (by simp;show xi U)<|n5 ∎ (JB (A6 ∎) rfl<|L5 (t:={t with X:=dz t.X u}) d (by show t.pred.length<=100000;show j! z2 c) hp<|xy ∎ (JB (K8 ∎) rfl<|XD (t:={t with X:=dz t.X u,pred:=dz t.pred (i,Y v,Y w')}) d (by show t.ref.length<=100000;show j! q c) z<|xA ∎ (IW<|Uw ∎ (nC (λh=>h rfl)<|jh rfl<|xA ∎ ?_))))));let HT:=H'.inv.G8;refine nC (Ad.mpr HT)<|dR ∎ ?_;let hvr:N (dz t.ref u) (aT v:Int)=Y cv:=p;let j:= @lB _ _ _ t.ref u;refine Lv (t:={t with X:=dz t.X u,pred:=dz t.pred (i,Y v,Y w'),ref:=dz t.ref u,mf:=min u t.mf}) d p (by show(dz t.ref u).length<=100000;show aji j q c) (Υ Ç)<|dR ∎ ?_;let C:(n6 (dz t.ref u) (aT v:Int)).length=(dz t.ref u).length:=jg (by rw[p];rfl);calc Lv (t:={t with X:=dz t.X u,pred:=dz t.pred (i,Y v,Y w'),ref:=n6 (dz t.ref u) (aT v:Int),mf:=min u t.mf}) d E (by show(n6 (dz t.ref u) (aT v:Int)).length<=100000;show ajj C j q c) (Υ È);let f:(W.erase u).length<=W.length:=List.length_erase_le
 let(rv,y):∃r,N (ua t u i v w').ref (aT v:Int)=Y r:=by
  show∃r,N (n6 (n6 (dz t.ref u) (aT v:Int)) (aT w':Int)) (aT v:Int)=Y r;rw[jN E];split
  .show(_,rfl)
  .rw[jN p,bj rfl];show(_,rfl)
 let s:N (ua t u i v w').ref w'=Y (cw-1):=by show N (n6 (n6 (dz t.ref u) (aT v:Int)) (aT w':Int)) w'=_;rw[jN E,bj<|ajk U]
 show bH _ _ _ (ij 73<|dM (zd w) 24) [] [] [Y !V.x,_,_,_,Y !D,_,_,Y ⇑v,Y ⇑w',_,_,_,_] ((ua t u i v w')\(aB g D<|.set<|W.erase u));calc Ò d k (o_ f a c) y;intro _;let MA:= @i9 (W.erase u) (aT v:Int);calc Ó d k (by split<;>(first|exact ajl MA f a c|exact o_ f a c)) s;intro _;show h _ _ _ _ _ _ _ _ H' fM
def N8{p:List aW}(h:(p++a::q).Nodup)(c:b∉p++a::q):(p++b::q).Nodup:=
 jS.nodup_iff.mpr (dj.mpr (λm=>c<|(cy.mp m).elim (λm=>jk _ m) λm=>kR _<|.tail _ m,(dj.mp<|jS.nodup_iff.mp h).2))
def Rr(h:g a=g' a):Ja l g a=Ja l g' a:=by
 induction l with
 |nil=>show h
 |cons p l c=>
  by_cases e:a=p.1
  .rw[e];show ar.trans ar.symm
  .show(aq e).trans (c.trans (aq e).symm)
def VB(u:g d=Y j):∀{p:List (aW×bD)},((p++(i,v)::q).map (·.1)).Nodup->d∉(p++(i,v)::q).map (·.1)->Ja (p++(i,v)::q) g=Ja (p++(d,j)::q) (aB g i v):=by
 intro p
 induction p with
 |cons k p o=>show λh hd=>congrArg (aB · k.1 k.2) (o (dj.mp h).2 λm=>hd<|.tail _ m)
 |nil=>
  intro h hd;let s:i∉q.map (·.1):=(dj.mp h).1
  let c:d∉q.map (·.1):=λm=>hd<|.tail _ m
  let f:d≠i:=λe=>hd (by rw[e];show .head _);funext a;show aB (Ja q g) i v a=aB (Ja q<|aB g i v) d j a;by_cases e:a=i
  .rw[e,ar,aq<|aE f,Jb s,ar]
  .rw[aq e];by_cases e2:a=d
   .rw[e2,ar,Jb c,u]
   .rw[aq e2];show Rr (aq e).symm
def L6(c:Wf V)(d:D∉V.list)(f:g D=Y (.dg [])):Wf {V with ite:=D}/\aB (t\g) V.dx (.ns<|lz (jD V t) (ah "_ite_table") !D)=aA {V with ite:=D} {t with ite:=[]} (aB g V.ite<|.dg<|nZ t.ite):=by
 refine((N8 (p:=[V.x,V.dx,V.pred,V.succ,V.ref]) (a:=V.ite) c.nd d,c.cls),?_);let h:lz (jD V t) (ah "_ite_table") (!D)=jD {V with ite:=D} {t with ite:=[]}:=by kernel_rfl
 rw[h];refine(OU (p:=(vals V t).take 1) (q:=(vals V t).drop 2) (g:=g) (a:=V.dx) c.nd).trans ?_;let i:(vals V t).take 1++(V.dx,.ns<|jD {V with ite:=D} {t with ite:=[]})::(vals V t).drop 2=((V.x,.raw<|k8 493 V.dx)::(V.dx,.ns<|jD {V with ite:=D} {t with ite:=[]})::((vals V t).drop 2).take 3)++(V.ite,.dg<|nZ t.ite)::(vals V t).drop 6:=rfl;rw[i];show VB f (p:=(V.x,.raw<|k8 493 V.dx)::(V.dx,.ns<|jD {V with ite:=D} {t with ite:=[]})::((vals V t).drop 2).take 3) c.nd d
def PH{K:bf->Prop}(a:Wf V)(d:D∉V.list)(c:g D=Y (.dg []))(h:Wf {V with ite:=D}->K (aA {V with ite:=D} {t with ite:=[]}<|aB g V.ite<|.dg<|nZ t.ite)):Sat ↑hB (!V.x) (ah "_ite_table") (!D) (t\g) K:=
 (V.x,493,V.dx,jD V t,rfl,fi a,k_inst,⋯,by simp[jD],by rw[(L6 (t:=t) a d c).2];show h (L6 (t:=t) a d c).1)
def YW{Q:AV->bf->Prop}(G:Wf V)(hT:oW V g)(s:aw<=3900)(j:D∉V.list)(HV:D≠373)(q:g D=Y (.set W))(I:W.length<=4000)(hS:MB e t P aw t (W.erase 1))(he:∀x,0<=e x)(hP:∀u i v w,P u->N t.X u=Y (i,Y v,Y w)->P (aT v:Int)/\P (aT w:Int))(h:∀f t' a,f∉V.list->aB g D (.set a) f=R->Wf {V with ite:=f}->MB e t P aw t' []->Q .none (aA {V with ite:=f} {t' with ite:=[]}<|aB (aB (aB g D<|.set a) f<|.dg []) V.ite<|.dg<|nZ t'.ite)):bH (fu+2000) ↑hB (RS w B hB n ak,λA C _=>Q (m7 A) C) (ij 19<|zd w) [] [] %[Y !V.x,y1,Y ⇑t.X.length,y3,Y (!D)|8] (t\g):=by
 let c:∀{fu:Nat},bH (fu+1500) ↑hB (RS w B hB n ak,λA C _=>Q (m7 A) C) (ij 24<|zd w) [] [] %[Y !V.x,y1,Y ⇑t.X.length,y3,Y (!D)|8] (t\(aB g D<|.set<|W.erase 1)):=by
  intro _
  let(y,M,Je):∃y:Nat->bf->Lm->Prop,(∀t' a,MB e t P aw t' a->y t'.X.length (t'\(aB g D<|.set a)) %[Y !V.x,R,Y ⇑t.X.length,R,Y (!D)|8])/\(∀k O m,y k O m->∀o:Nat->bf->Lm->Prop,(∀t' a,MB e t P aw t' a->o t'.X.length (t'\(aB g D<|.set a)) %[Y !V.x,R,Y ⇑t.X.length,R,Y (!D)|8])->o k O m):=
   (λk O m=>∀o:Nat->bf->Lm->Prop,(∀t' a,MB e t P aw t' a->o t'.X.length (t'\(aB g D<|.set a)) %[Y !V.x,R,Y ⇑t.X.length,R,Y (!D)|8])->o k O m,λt' a h _ U=>U t' a h,λ_ _ _ h=>h)
  refine ZZ [au,L,au,L,au,L,L,L,L,L,L] rfl y _ (M _ _ hS) λ_ BV k O m az=>?_;apply Je _ _ _ az;intro t' a p;let H:=PG p;calc HM (bz j ar) (WA H s);by_cases d:a=[]
  .refine jh (by rw[d];rfl) ?_;clear H;subst d;refine BV _ _ _ (xU λf T VC=>PH G T ar λz=>xO (fi z) Fe Ff ?_);let hz:t'.X.length<=t.X.length:=p.len;let E:=p.vC.1;refine Gl z (by show t'.X.length<=100000;show j! E s)<|kU _ rfl PV (mY (we.mpr<|bP E s) ∅) ?_;show nC (by show¬((t.X.length:Int)-(t'.X.length:Int)<0);show ajm hz)<|h f t' [] T VC z p
  .show nu d (YV G s j p d he hP λt2 W2 y5 y6 y7 y8 y9 Wn H2 fM=>(_,fM,M _ _ H2))
 calc O8 j q I;by_cases J:(1:Int)∈W
 .refine nu J (_,VA j q,⋯,?_);calc NG (bz j q) J I;rw[aY j];show c
 .refine nC J ?_;rw[List.erase_of_not_mem J,eh q] at c;show c
end
end
def JS{z:Int}(c:0<ak.length):∃u∈ak,0<=z.fmod ak.length/\z.fmod ak.length<ak.length/\(f7 t ak)[(z.fmod ak.length).toNat]?=Y (.tup [.int u,Bo<|bK t u]):=by
 let d:=oV z (b:=(ak.length:Int))<|Ŧ c;let J:=sZ z (b:=(ak.length:Int))<|Ŧ c;let a:(z.fmod ak.length).toNat<ak.length:=Ĳ d J;calc kU (ak[(z.fmod ak.length).toNat]) (pN a) d J;
 delta f7;rw[bb,b9 a];rfl
def Rt{hB:cp w B}{n:Nat}{V:TA}{g:bf}{ak:List Int}{Q:Fl->bf->Lm->Prop}(E:Wf V)(k:h2∉V.list)(j:g h2=Y (.list<|f7 t ak))(p:0<ak.length)(o:ak.length<=100)(h:∀a b c x,a∈ak->b∈ak->c∈ak->101<=x->x<=104->∀{fu:Nat},bH (fu+3900) ↑hB (LC w B hB n D,Q) (ij 57<|dM (qT w) 6) [] [] %[Y<|sc,Y !V.x,Y !h2,Y ⇑x,R,R,Y ⇑i,Y ⇑a,Y<|Bo<|bK t a,Y ⇑b,Y<|Bo<|bK t b,Y ⇑c,Y<|Bo<|bK t c,Y ⇑(2^(x-101).toNat),Y ⇑(i.fmod 9)|2] (t\g)):bH (fu+3990) ↑hB (LC w B hB n D,Q) (dM (qT w) 6) [] [] %[Y<|sc,Y !V.x,Y !h2,R,R,R,Y ⇑i|10] (t\g):=by
 let m:(f7 t ak).length=ak.length:=by simp[f7]
 let q:(ak.length:Int)≠0:=aiG p;refine yH ∅ ∅ (xM (bz k j) (Y89 m o) ?_);rw[m];calc pW q;let(a,C,f,e,d):=JS (t:=t) (z:=i.fdiv 9) p;calc ET (bz k j) f (Y90 o e) d;clear f e d;refine yH ∅ ∅ (xM (bz k j) (Y89 m o) ?_);rw[m];calc pW q;let(b,A,f,e,d):=JS (t:=t) (z:=i.fdiv 81) p;calc ET (bz k j) f (Y90 o e) d;clear f e d;refine yH ∅ ∅ (xM (bz k j) (Y89 m o) ?_);rw[m];calc pW q;let(c,v,f,e,d):=JS (t:=t) (z:=i.fdiv 729) p;calc ET (bz k j) f (Y90 o e) d;clear f e d;refine yH ∅ ∅ (pW ∅ ?_);let u:=oV (i.fdiv 6561) (b:=4) ∅;let s:=sZ (i.fdiv 6561) (b:=4) ∅;generalize (i.fdiv 6561).fmod 4=y at*;refine pX (aiH u) (aiI s) ∅ (pW ∅ ?_);show bH _ _ _ (ij 57<|dM (qT w) 6) [] [] [Y<|sc,Y !V.x,Y !h2,Y ⇑(101+y),_,_,Y ⇑i,_,_,_,_,_,_,_,_,_,_] _;show h a b c (101+y) C A v (m? u)<|ŧ s
section
variable{w:cC}
@[ext]abbrev am1:List Ix:=(.l 2::.ab::.l 0::.cm .NotIn::.tr::.iff [.bad] []::.l 3::[.c .none,.cm .IsNot,.tr,.an [.l 3,.ab,.l 0,.cm .NotIn,.tr,.an [.c<|.bool L]],.iff [.bad] [],.l 4,.c .none,.cm .IsNot,.tr,.an [.l 4,.ab,.l 0,.cm .NotIn,.tr,.an [.c<|.bool L]],.iff [.bad] [],.l 1,.c<|.str "~",.c<|.str "not",.c<|.str "!",.tu 3,.cm .In,.tr,.iff [.l 2,.ng,.ret] [.l 3,.c .none,.cm .Is,.tr,.iff [.bad] [.l 1,.c<|.str "or",.c<|.str "\\/",.c<|.str "|",.c<|.str "||",.tu 4,.cm .In,.tr,.iff [.l 0,.tl,.l 2,.c ⇑1,.l 3,.mf 349 3 [],.ret] [.l 1,.c<|.str "and",.c<|.str "/\\",.c<|.str "&",.c<|.str "&&",.tu 4,.cm .In,.tr,.iff [.l 0,.tl,.l 2,.l 3,.c ⇑1,.ng,.mf 349 3 [],.ret] [.l 1,.c<|.str "#",.c<|.str "xor",.c<|.str "^",.tu 3,.cm .In,.tr,.iff [.l 0,.tl,.l 2,.l 3,.ng,.l 3,.mf 349 3 [],.ret] [.l 1,.c<|.str "=>",.c<|.str "->",.c<|.str "implies",.tu 3,.cm .In,.tr,.iff [.l 0,.tl,.l 2,.l 3,.c ⇑1,.mf 349 3 [],.ret] [.l 1,.c<|.str "<=>",.c<|.str "<->",.c<|.str "equiv",.tu 3,.cm .In,.tr,.iff [.l 0,.tl,.l 2,.l 3,.l 3,.ng,.mf 349 3 [],.ret] [.l 1,.c<|.str "diff",.c<|.str "-",.tu 2,.cm .In,.tr,.iff [.l 0,.tl,.l 2,.l 3,.ng,.c ⇑1,.ng,.mf 349 3 [],.ret] [.l 1,.c<|.str "\\A",.c<|.str "forall",.tu 2,.cm .In,.tr,.iff [.l 0,.tl,.l 2,.mf 225 1 [],.st 5,.l 0,.tl,.l 3,.l 5,.c<|.bool L,.mf 321 2 ["forall"],.ret] [.l 1,.c<|.str "\\E",.c<|.str "exists",.tu 2,.cm .In,.tr,.iff [.l 0,.tl,.l 2,.mf 225 1 [],.st 5,.l 0,.tl,.l 3,.l 5,.c<|.bool au,.mf 321 2 ["forall"],.ret] [.l 4,.c .none,.cm .Is,.tr,.iff [.bad] [.l 1,.c<|.str "ite",.cm .Eq,.tr,.iff [.l 0,.tl,.l 2,.l 3,.l 4,.mf 349 3 [],.ret] []]]]]]]]]]]],.bad])
abbrev am2:List Str:=["self","op","u","v","w","qvars"]
def am3(g:Binds ↑hB (iy (K1 w) 460) as f [(ah "w",a),(ah "v",c),(ah "u",d),(ah "op",e),(ah "self",x0)])(h:FH w B hB n 460 am2 am1 [Y x0,Y e,Y d,Y c,Y a,R] O Q):Cl ↑hB (n+1) (!460) as f O Q:=RP g h ⋯
def Aa{hB:cp w B}{n:Nat}{V:TA}{g:bf}{aw:Nat}(i:Wf V)(hx:TI t e aw)(s:aw<=70000)(f:bc t.X Z0 a)(c:bc t.X Z0 b)(o:(op=ah "and"/\F=λx y=>x&&y)\/(op=ah "or"/\F=λx y=>x||y)\/(op=ah "xor"/\F=λx y=>x^^y))(h:∀r t',Op t e t' (aw+30)->bc t'.X Z0 r->(∀G,den t'.X r G=F (den t.X a G) (den t.X b G))->Q ⇑r (t'\g)):Cl ↑hB (n+12) (!460) [.ref V.x,.str op,.int a,.int b] [] (t\g) Q:=by
 let bD:=hx.inv.good;refine am3 (UD (x:=ah "self") (y:=ah "op") (z:=ah "u") (p:=ah "v") (u:=ah "w") (hx:=453) (dvs:= #[.none,.none]) (k0:=0) (d:=.none) rfl rfl () λv u q r=>(aC _ rfl ⋯)) λak=>vZ i f<|jh rfl<|rT rfl<|vZ i c<|jh rfl<|jh rfl<|jh rfl<|jh rfl ?_;rcases o with⟨rfl,rfl⟩|⟨rfl,rfl⟩|⟨rfl,rfl⟩
 .refine tG (jh ()<|jh rfl<|qy<|jh ()<|qy<|rT ()<|dR ∎ (sj i 4 ∅ hx (by delta ic;show ĝ s) f c bD.vm1 (by have:=bD.gK f;show Y7 this) (by have:=bD.gK c;show Y7 this) (by rw[bD.QA];decide) λr t' m j A k=>?_));show h r t' m j λG=>by rw[k,bD.Fo];cases den t.X a G<;>simp
 .refine tG (jh ()<|jh rfl<|qy<|rT ()<|dR ∎ (sj i 4 ∅ hx (by delta ic;show ĝ s) f bD.v1 c (by have:=bD.gK f;show Y7 this) (by rw[bD.E_];decide) (by have:=bD.gK c;show Y7 this) λr t' m j A k=>?_));show h r t' m j λG=>by rw[k,bD.K9];cases den t.X a G<;>simp
 .refine tG (jh ()<|jh rfl<|qy<|jh ()<|qy<|jh ()<|tG<|rT ()<|dR ∎ (sj i 4 ∅ hx (by delta ic;show ĝ s) f c.neg c (by have:=bD.gK f;show Y7 this) (by rw[vT];have:=bD.gK c;show Y7 this) (by have:=bD.gK c;show Y7 this) λr t' m j A k=>?_));show h r t' m j λG=>by rw[k,bD.iP c];cases den t.X a G<;>simp
end
section
variable{t:TS}
def kQ{k:Nat}{K:AV->bf->Prop}(a:k<16)(h:K ⇑(F k) O):Ed ↑hB n (Bo F) ⇑k O K:=Pq (so k) (rH.mpr a) h
def wN(a:aw<=2000):aw<=70000:=bP a ∅
def ď(aw:Nat):aw+30<=aw+49:=ro ∅ aw
@[ext]abbrev abA(sc:AV)(o h2:aW)(x:Int)(d:Option AV)(i a b c:Int)(t:TS)(e:Option AV):Lm:=[Y<|sc,Y !o,Y !h2,Y ⇑x,R,d,Y ⇑i,Y ⇑a,Y<|Bo<|bK t a,Y ⇑b,Y<|Bo<|bK t b,Y ⇑c,Y<|Bo<|bK t c,Y ⇑(2^(x-101).toNat),Y ⇑(i.fmod 9),e,R]
def VD{fu:Nat}{w:cC}{hB:cp w B}{n:Nat}{V:TA}{sc:AV}{i x c:Int}{ak:List Int}{aw:Nat}(A:Wf V)(K:Mk t e ak aw)(E:aw<=2000)(ha:a∈ak)(hb:b∈ak)(hc:c∈ak)(x0:101<=x)(f:x<=104)(h:∀r t' g' F,Op t e t' (aw+49)->bc t'.X Z0 r->iV (bK t' r)=iV F->(∀z o,g z=Y o->g' z=Y o)->∀{fu:Nat},bH (fu+3800) ↑hB (LC w B hB n m,Q) (ij 62<|dM (qT w) 6) [] [] (abA sc V.x h2 x (Y<|Bo F) i a b c t<|Y ⇑r) (t'\g')):bH (fu+3900) ↑hB (LC w B hB n m,Q) (ij 57<|dM (qT w) 6) [] [] (abA sc V.x h2 x R i a b c t R) (t\g):=by
 let v:=K.ti;let C:=K.names;let bD:=v.inv.good;let u:=(K.made a ha).1;let H:=(K.made b hb).1;let vc:=(K.made c hc).1;clear K;by_cases y2:i.fmod 9<2
 .refine nu y2 (dR ∎ (Aa (n:=n+8) A v (wN E) u (bc.neg H) (.inl (rfl,rfl)) λr t' o s hd=>xX (x:=ah "row") (cl:=[(ah "second",m+4),(ah "first",m+3)]) (ks:=[(ah "first",8),(ah "second",10)]) (y:=ah "bits") (j:=5) (el:=[.l 1,.l 0,.sb,.c ⇑1,.l 2,.l 0,.sb,.bi .Sub,.bi .Mult]) (λk=>bK t a k*(1-bK t b k)) (⋯,⋯,⋯,⋯) () (⋯,⋯,⋯,⋯,⋯,(⋯,⋯,trivial),⋯,⋯) (λ_=>⋯,⋯) () (λ_=>⋯) (λk d ak J=>?_) ?_))
  .show kQ d<|kQ d<|vL (PD (JF _).1<|og (JF _).2 ∅) (rfl,rfl)
  show bH _ _ _ (ij 62<|dM (qT w) 6) [] [] [Y<|sc,Y !V.x,Y !h2,_,_,_,_,_,_,_,_,_,_,_,_,Y ⇑r,_] _;show h r t' _ _ (o.le<|ď aw) s (Ë o.e8 bD H hd) (λ_ _ z=>z)
 calc nC y2;by_cases y3:i.fmod 9=2
 .refine nu y3 (dR ∎ (Aa (n:=n+8) A v (wN E) u H (.inr<|.inl (rfl,rfl)) λr t' o s hd=>xX (x:=ah "row") (cl:=[(ah "second",m+4),(ah "first",m+3)]) (ks:=[(ah "first",8),(ah "second",10)]) (y:=ah "bits") (j:=5) (el:=[.c<|.raw<|.builtin "max",.fn,.l 1,.l 0,.sb,.l 2,.l 0,.sb,.ca 2 []]) (λk=>max (bK t a k)<|bK t b k) (⋯,⋯,⋯,⋯) () (⋯,⋯,⋯,⋯,⋯,(⋯,⋯,trivial),⋯,⋯) (λ_=>⋯,⋯) () (λ_=>⋯) (λk d ak J=>?_) ?_))
  .show kQ d<|kQ d<|OI (rfl,rfl)
  show bH _ _ _ (ij 62<|dM (qT w) 6) [] [] [Y<|sc,Y !V.x,Y !h2,_,_,_,_,_,_,_,_,_,_,_,_,Y ⇑r,_] _;show h r t' _ _ (o.le<|ď aw) s (abl o.e8 hd) (λ_ _ z=>z)
 calc nC y3;by_cases y4:i.fmod 9=3
 .refine nu y4 (dR ∎ (Aa (n:=n+8) A v (wN E) u H (.inr<|.inr (rfl,rfl)) λr t' o s hd=>xX (x:=ah "row") (cl:=[(ah "second",m+4),(ah "first",m+3)]) (ks:=[(ah "first",8),(ah "second",10)]) (y:=ah "bits") (j:=5) (el:=[.l 1,.l 0,.sb,.l 2,.l 0,.sb,.bi .BitXor]) (λk=>ox (bK t a k)<|bK t b k) (⋯,⋯,⋯,⋯) () (⋯,⋯,⋯,⋯,⋯,(⋯,⋯,trivial),⋯,⋯) (λ_=>⋯,⋯) () (λ_=>⋯) (λk d ak J=>?_) ?_))
  .show kQ d<|kQ d<|Eb (rfl,rfl)
  show bH _ _ _ (ij 62<|dM (qT w) 6) [] [] [Y<|sc,Y !V.x,Y !h2,_,_,_,_,_,_,_,_,_,_,_,_,Y ⇑r,_] _;show h r t' _ _ (o.le<|ď aw) s (Ì o.e8 hd) (λ_ _ z=>z)
 calc nC y4;by_cases U:i.fmod 9=4
 .refine nu U (dR ∎ (sj (n:=n+11) A 4 ∅ v (bP (Nat.add_le_add_right E 30) ∅) u H vc (bD.gK u) (bD.gK H) (bD.gK vc) λr t' o s _ hd=>xX (x:=ah "row") (cl:=[(ah "third",m+5),(ah "second",m+4),(ah "first",m+3)]) (ks:=[(ah "first",8),(ah "second",10),(ah "third",12)]) (y:=ah "bits") (j:=5) (el:=[.l 1,.l 0,.sb,.c ⇑1,.cm .Eq,.tr,.iff [.l 2,.l 0,.sb] [.l 3,.l 0,.sb]]) (λk=>if bK t a k=1 then bK t b k else bK t c k) (⋯,⋯,⋯,⋯) () (⋯,⋯,⋯,⋯,⋯,(⋯,⋯,⋯,trivial),⋯,⋯) (λ_=>⋯,⋯) () (λ_=>⋯) (λk d ak J=>?_) ?_))
  .refine kQ d ?_;by_cases q:bK t a k=1
   .show nu q<|kQ d (congrArg AV.int (bj q).symm,rfl)
   .show nC q<|kQ d (congrArg AV.int (aK q).symm,rfl)
  show bH _ _ _ (ij 62<|dM (qT w) 6) [] [] [Y<|sc,Y !V.x,Y !h2,_,_,_,_,_,_,_,_,_,_,_,_,Y ⇑r,_] _;show h r t' _ _ (o.le<|ď aw) s (Í o.e8 hd) (λ_ _ z=>z)
 calc nC U;by_cases T:i.fmod 9=5
 .refine nu T (dR ∎ (LN (i1:=[.l 3]) (i2:=[.l 6,.c ⇑2,.bi .Mod,.c ⇑0,.cm .Eq]) () () () λD I=>?_));let(p,G):=d0 I;rw[aY p];refine pW ∅ (dc _ rfl (bz p ar) ?_);rw[aY p,bQ];refine Hn (n:=n+10) A v (wN E) C u p ar x0 f λr t' o s hd=>xX (x:=ah "row") (cl:=[(ah "number",m+2),(ah "flip",m+6),(ah "first",m+3)]) (ks:=[(ah "first",8),(ah "flip",13),(ah "number",6)]) (y:=ah "bits") (j:=5) (el:=[.l 3,.c ⇑2,.bi .Mod,.c ⇑0,.cm .Eq,.tr,.iff [.l 1,.l 0,.l 2,.bi .BitOr,.sb] [.l 1,.l 0,.c ⇑15,.l 2,.bi .Sub,.bi .BitAnd,.sb]]) (λk=>bK t a<|w4 (decide (i.fmod 2=0)) k x) (⋯,⋯,⋯,⋯) () (⋯,⋯,⋯,⋯,⋯,(⋯,⋯,⋯,trivial),⋯,⋯) (λ_=>⋯,⋯) () (λ_=>⋯) (λk d ak J=>?_) ?_
  .refine pW ∅ ?_;by_cases q:i.fmod 2=0
   .refine nu q<|Si ?_;rw[(Ep d x0 f).1];show kQ (x8 (b:=L) d x0 f (y:=101) ∅ ∅).1 (congrArg (λb=>AV.int<|bK t a<|w4 b k x) (decide_eq_true q).symm,rfl)
   .refine nC q<|OA ?_;rw[(Ep d x0 f).2];show kQ (x8 (b:=au) d x0 f (y:=101) ∅ ∅).1 (congrArg (λb=>AV.int<|bK t a<|w4 b k x) (decide_eq_false q).symm,rfl)
  show bH _ _ _ (ij 62<|dM (qT w) 6) [] [] [Y<|sc,Y !V.x,Y !h2,_,_,_,_,_,_,_,_,_,_,_,_,Y ⇑r,_] _;show h r t' _ _ (o.le<|ď aw) s (Î o.e8 bD C u x0 f hd) (λz o hz=>by rw[aq (gq hz G)];show hz)
 calc nC T;by_cases O:i.fmod 9=6
 .refine nu O (dR ∎ (LN (i1:=[.l 3]) (i2:=[.l 9]) () () () λD I=>?_));let(p,G):=d0 I;rw[aY p];calc dc _ rfl (bz p ar);rw[aY p,bQ];refine JM (n:=n+2) A v (wN E) C u H p ar x0 f λr t' o s hd=>xX (x:=ah "row") (cl:=[(ah "second",m+4),(ah "flip",m+6),(ah "first",m+3)]) (ks:=[(ah "first",8),(ah "flip",13),(ah "second",10)]) (y:=ah "bits") (j:=5) (el:=[.l 3,.l 0,.sb,.c ⇑1,.cm .Eq,.tr,.iff [.l 1,.l 0,.l 2,.bi .BitOr,.sb] [.l 1,.l 0,.c ⇑15,.l 2,.bi .Sub,.bi .BitAnd,.sb]]) (λk=>if bK t b k=1 then bK t a (w4 L k x) else bK t a (w4 au k x)) (⋯,⋯,⋯,⋯) () (⋯,⋯,⋯,⋯,⋯,(⋯,⋯,⋯,trivial),⋯,⋯) (λ_=>⋯,⋯) () (λ_=>⋯) (λk d ak J=>?_) ?_
  .refine kQ d ?_;by_cases q:bK t b k=1
   .refine nu q<|Si ?_;rw[(Ep d x0 f).1];show kQ (x8 (b:=L) d x0 f (y:=101) ∅ ∅).1 (congrArg AV.int (bj q).symm,rfl)
   .refine nC q<|OA ?_;rw[(Ep d x0 f).2];show kQ (x8 (b:=au) d x0 f (y:=101) ∅ ∅).1 (congrArg AV.int (aK q).symm,rfl)
  show bH _ _ _ (ij 62<|dM (qT w) 6) [] [] [Y<|sc,Y !V.x,Y !h2,_,_,_,_,_,_,_,_,_,_,_,_,Y ⇑r,_] _;show h r t' _ _ (o.le<|ď aw) s (YU o.e8 bD C u x0 f hd) (λz o hz=>by rw[aq (gq hz G)];show hz)
 calc nC O;by_cases M:i.fmod 9=7
 .refine nu M (dR ∎ (PB (i1:=[.l 3]) () () () () λD I=>?_));let(p,G):=d0 I;rw[aY p];calc dc _ rfl (bz p ar);rw[aY p,bQ];refine NX (n:=n+1) A v (wN E) C u p ar x0 f λr t' o s hd=>xX (x:=ah "row") (cl:=[(ah "flip",m+6),(ah "first",m+3)]) (ks:=[(ah "first",8),(ah "flip",13)]) (y:=ah "bits") (j:=5) (el:=[.c<|.raw<|.builtin "max",.fn,.l 1,.l 0,.sb,.l 1,.l 0,.l 2,.bi .BitXor,.sb,.ca 2 []]) (λk=>max (bK t a k)<|bK t a<|rk k x) (⋯,⋯,⋯,⋯) () (⋯,⋯,⋯,⋯,⋯,(⋯,⋯,trivial),⋯,⋯) (λ_=>⋯,⋯) () (λ_=>⋯) (λk d ak J=>?_) ?_
  .refine kQ d<|Eb ?_;rw[Cr d x0 f];show kQ (yS d x0 f (y:=101) ∅ ∅).1<|OI (rfl,rfl)
  show bH _ _ _ (ij 62<|dM (qT w) 6) [] [] [Y<|sc,Y !V.x,Y !h2,_,_,_,_,_,_,_,_,_,_,_,_,Y ⇑r,_] _;show h r t' _ _ (o.le<|dH _) s (abm o.e8 bD C u x0 f hd) (λz o hz=>by rw[aq (gq hz G)];show hz)
 refine nC M (dR ∎ (PB (i1:=[.l 3]) () () () () λD I=>?_));let(p,G):=d0 I;rw[aY p];calc dc _ rfl (bz p ar);rw[aY p,bQ];refine LV (n:=n+1) A v (wN E) C u p ar x0 f λr t' o s hd=>xX (x:=ah "row") (cl:=[(ah "flip",m+6),(ah "first",m+3)]) (ks:=[(ah "first",8),(ah "flip",13)]) (y:=ah "bits") (j:=5) (el:=[.c<|.raw<|.builtin "min",.fn,.l 1,.l 0,.sb,.l 1,.l 0,.l 2,.bi .BitXor,.sb,.ca 2 []]) (λk=>min (bK t a k)<|bK t a<|rk k x) (⋯,⋯,⋯,⋯) () (⋯,⋯,⋯,⋯,⋯,(⋯,⋯,trivial),⋯,⋯) (λ_=>⋯,⋯) () (λ_=>⋯) (λk d ak J=>?_) ?_
 .refine kQ d<|Eb ?_;rw[Cr d x0 f];show kQ (yS d x0 f (y:=101) ∅ ∅).1<|IW (rfl,rfl)
 show bH _ _ _ (ij 62<|dM (qT w) 6) [] [] [Y<|sc,Y !V.x,Y !h2,_,_,_,_,_,_,_,_,_,_,_,_,Y ⇑r,_] _;show h r t' _ _ (o.le<|dH _) s (Ï o.e8 bD C u x0 f hd) (λz o hz=>by rw[aq (gq hz G)];show hz)
end
section
variable{sc:AV}{ak:List Int}{aw fu n:Nat}{V:TA}{w:cC}
def Ru{hB:cp w B}{g:bf}{I:aW}{m k j i v q:Option AV}{s:TS}{r:Int}{Q:Fl->bf->Lm->Prop}(A:Wf V)(K:Mk t e ak aw)(D:aw<=3000)(d:h2∉V.list)(u:g h2=Y (.list<|f7 s ak))(c:f7 t ak=f7 s ak)(E:ak.length<=100)(p:bc t.X Z0 r)(G:iV (bK t r)=iV F)(h:∀a e2 f,Mk a e2 (ak++[r]) aw->f h2=Y (.list<|f7 a<|ak++[r])->(∀z o,z≠h2->g z=Y o->f z=Y o)->Q .next (a\f) [Y<|sc,Y !V.x,Y !h2,m,R,Y<|Bo F,y,k,j,i,v,O,U,T,q,Y ⇑r,R]):bH (fu+3800) ↑hB (LC w B hB n I,Q) (ij 62<|dM (qT w) 6) [] [] [Y<|sc,Y !V.x,Y !h2,m,R,Y<|Bo F,y,k,j,i,v,O,U,T,q,Y ⇑r,R] (t\g):=by
 let(cc,C,_):=K.ti.inv.ref _ p.1;let H:=K.ti.vC.2.2.1;refine dR ∎ (Bf A (by rw[C];rfl) (aiJ H D) (_,KP (bz d u) uz uA,⋯,?_));calc B8 (bz d u) (by simp[f7];show aiK E);rw[aY d];refine h _ _ _ (K.incref p) ?_ λz o J M=>by rw[aq J];show M
 rw[ar,<-c]
 delta f7
 rw[hO];show Y (Bd.bD.list<|ak.map (pairOf t)++[AV.tup [.int r,.lst<|(iV F).map AV.int]])=Y (Bd.bD.list<|ak.map (pairOf t)++[AV.tup [.int r,.lst<|(iV<|bK t r).map AV.int]]);rw[G]
def am4{hB:cp w B}{i:Int}(q:Wf V)(K:Mk t e ak aw)(u:aw<=2000)(v:h2∉V.list)(s:g h2=Y (.list<|f7 t ak))(hL:0<ak.length)(y:ak.length<=100)(h:∀r d e2 f I H G E D C A Wn c_ c! p m k j,Mk d e2 (ak++[r]) (aw+49)->f h2=Y (.list<|f7 d<|ak++[r])->(∀z o,z≠h2->g z=Y o->f z=Y o)->Q .next (d\f) [Y<|sc,Y !V.x,Y !h2,I,H,G,E,D,C,A,Wn,c_,c!,p,m,k,j]):bH (fu+3990) ↑hB (LC w B hB n L0,Q) (dM (qT w) 6) [] [] %[Y<|sc,Y !V.x,Y !h2,R,R,R,Y ⇑i|10] (t\g):=
 Rt q v s hL y λa b c x ha hb hc x0 O=>VD q K u ha hb hc x0 O λr t' g' F o T hF hs=>
  Ru q (K.op o) (aiL u) v (hs _ _ s) (Rp K o) y T hF λd e2 f q1 q2 U=>h r d e2 f _ _ _ _ _ _ _ _ _ _ _ _ _ _ q1 q2 (λz o J M=>U z o J<|hs _ _ M)
end
section
variable{V:TA}{t:TS}{g:bf}
inductive LI(V:TA)(h2:aW)(ns:List Int)(g:bf)(k:Nat):bf->Lm->Prop
 |mk {t:TS} {e:Int->Int} {ak:List Int} {g':bf} (K:Mk t e ak (10+49*k)) (hL:ak.length=4+k) (hk:k<=6) (hg:g' h2=Y (.list<|f7 t ak)) (hs:∀z o,z≠h2->g z=Y o->g' z=Y o):LI V h2 ns g k (t\g') %[Y<|.lst<|ns.map AV.int,Y !V.x,Y (!h2)|14]
nonrec def abB{hB:cp w B}{n:Nat}{ns:List Int}{A:Option AV}(hw:Wf V)(K:Mk t e ak 10)(hM:h2∉V.list)(hg:g h2=Y (.list<|f7 t ak))(hL:ak.length=4)(I:ns.length<=1000)(h:∀p e2 y q,Mk p e2 y 310->q h2=Y (.list<|f7 p y)->(∀z o,z≠h2->g z=Y o->q z=Y o)->Q .next (p\q) %[Y<|.lst<|ns.map AV.int,Y !V.x,Y (!h2)|14]):bH (fu+4800) ↑hB (LC w B hB n L0,Q) (ij 6<|qT w) [] [] %[Y<|.lst<|ns.map AV.int,Y !V.x,Y !h2,A|13] (t\g):=by
 refine lG (C:=LC w B hB n L0) [au,au,au,L,L,L,L,L,L,L,L,L,L,L,L,L,L] rfl λ_ BV=>NZ (k:=6) () (λ_ _=>rfl) (i1:=[.l 0]) () (dc _ rfl (by simpa using I) ?_);refine rj λ_=>AQ ?_;refine dc (LI V h2 ns g) (.mk K hL ∅ hg λ_ _ _ z=>z) ?_<|My BV ?_
 .intro k a bu U m u _ s;induction u with
  |mk f d c v Mv=>
  rw[Ah] at m;split at m
  rotate_left
  .show nomatch m
  rename_i hk;rw[bb] at m;let(i,_,rfl):=cM.mp m;show bH _ _ _ (dM (qT w) 6) [] [] %[Y<|.lst<|ns.map AV.int,Y !V.x,Y !h2,R,R,R,Y ⇑i|10] _
  show am4 (i:=i) hw f (aiM c) hM v (aiN d) (aiO d c) λr p e2 q y3 y4 y5 y6 y7 y8 y9 Wn c_ c! H G E D j T O=>s _ _ _
   (LI.mk (j.ti.le aiP,j.vars,j.e8,j.e0,j.made) (by simp;show aiQ d) (hk) T λz o J M=>O z o J<|Mv z o J M)
 .intro bu U u;induction u with
  |mk f d c v Mv=>
  show h _ _ _ _ (f.ti.le (aiR c),f.vars,f.e8,f.e0,f.made) v Mv
end
section
variable{w:cC}{n:Nat}
@[ext]abbrev am5(w:cC):List Ix:=(.c (.raw<|.builtin "len")::[.fn,.l 0,.at "vars",.ca 1 [],.st 1,.sr<|za (dB (K1 w) 245) 0,.c<|.raw<|.type "set",.fn,.ca 0 [],.l 2,.l 1,.ss,.fo L [.un 2,.st 3,.un 3,.st 4,.st 5,.st 6] [.l 0,.at "_succ",.me "items",.mc 0] [.l 2,.l 4,.sb,.me "add",.l 3,.mc 1,.pop] [],.l 2,.me "pop",.l 1,.mc 1,.pop,.l 2,.ret])
abbrev am6:List Str:=["self","n","levels","u","i","v","w"]
def am7(h:FH w B hB n 245 am6 (am5 w) %[Y x0|6] O Q):Cl ↑hB (n+1) (!245) [x0] [] O Q:=fn1 h ⋯ ⋯
def L7{V:TA}(f:Wf V)(I:Inv t Z0 e)(S:t.vars=n9)(hc:kb t aw)(hN:aw<=3900)(h:∀D A ay g',B0 V g g' D A ay 4->(∀j:Int,0<=j->j<4->(ay j).Nodup/\(ay j).length<=aw/\∀u,u∈ay j↔∃n,N t.X u=Y (j,n))->Q (!D) (t\g')):Cl ↑hB (n+2) (!245) [.ref V.x] [] (t\g) Q:=by
 let bD:=I.good;refine am7 λak=>fB ∎ (qt f (by rw[S];decide) ?_);rw[show(t.vars.length:Int)=4 by rw[S];rfl];refine YA (x:=ah "var") (y:=ah "i") (cl:=[]) (ks:=[]) (z:=ah "levels") (j:=2) (it:=[.l 0,.at "vars",.me "items",.mc 0]) (el:=[.l 0]) (el2:=[.c<|.raw<|.type "set",.fn,.ca 0 []]) (⋯,⋯,⋯,⋯) () (⋯,⋯,⋯,⋯,⋯,trivial,⋯,⋯) (λ_=>⋯,⋯) (λ_=>⋯,⋯) () (λ_=>⋯) (λ_=>⋯)<|fB ∎ (_,lA (lT f) gY jY,⋯,?_);refine qr (lT f)<|mT (lT f) ?_;intro D C UI;let(d,wL):=d0 UI.none;let fM:V.vars<D:=UI _ _<|lT f;let o:V.vars≠D:=bX fM;refine(λk bu=>∃A g',B0 V g g' D A (λ_=>[]) k/\bu=cD (t\g') V.vars,(jo (λ_=>0) _ (B0.start d wL) ?_),?_,?_)
 .show aB (cD (t\g) V.vars) D _=_;rw[<-fA (aE o),aY d]
 .rintro k a bu s ⟨A,g',v,rfl⟩;rw[S] at s;let(hk,rfl):=N3 s;calc jo _ _ rfl;let HV:cD (t\g') V.vars D=Y (.dict<|mq A k):=by rw[cx (aE o)];show bz d v.dict
  refine KL λa s=>?_;let U:D<a:=s _ _ HV;let G:a≠V.vars:=kh<|d7 fM U;let H:=s.none;rw[cx G] at H;let(J,M):=d0 H;refine(nE _ (mq A k) rfl (by rw[aq (bX U)];show HV) (by rw[uZ];show Α hk)<|jo (zZ A k a) _ (Gi▸v.new J M) ?_);rw[<-fA G,<-fA (aE o),aY J,aY d]
 .rintro bu ⟨A,g1,H0,rfl⟩;let v:B0 V g g1 D A (λ_=>[]) 4:=by rw[S] at H0;show H0
  dsimp only[iD.back];rw[i6,K2 f];refine nh λa J M=>?_;let U:a≠D:=qm M v.dict;let H5:=v.new J M;calc jM (bz d<|by rw[aq (aE U)];show v.dict) rfl (by rw[uZ];decide);rw[aY d];rw[Gi] at H5;refine lG [au,au,au,L,L,L,L] rfl λ_ BV=>cP ∎ (_,lA (i7 f) gY jY,⋯,?_);refine qr (i7 f)<|mT (i7 f) ?_;let p:∀{b:aW},b∉V.list->b≠V.succ:=λhb q=>hb<|q▸TA.Ϥ
  let(h1,Ji,Je):∃h1:Nat->bf->Lm->Prop,(∀k ay g',B0 V g g' D (zZ A 4 a) ay 5->(∀j,qU t.X k j<|ay j)->h1 k (cD (t\g') V.succ) %[Y !V.x,Y ⇑4,Y (!D)|4])/\(∀k O m,h1 k O m->∀E:bf->Lm->Prop,(∀ay g',B0 V g g' D (zZ A 4 a) ay 5->(∀j,qU t.X k j<|ay j)->E (cD (t\g') V.succ) %[Y !V.x,Y ⇑4,Y (!D)|4])->E O m):=
   (λk O m=>∀E:bf->Lm->Prop,(∀ay g',B0 V g g' D (zZ A 4 a) ay 5->(∀j,qU t.X k j<|ay j)->E (cD (t\g') V.succ) %[Y !V.x,Y ⇑4,Y (!D)|4])->E O m,λ_ ay g' h0 J _ κ=>κ ay g' h0 J,λ_ _ _ h=>h)
  refine dc h1 ?_ ?_<|My BV ?_
  .show Ji _ _ _ H5 (λj=>(jW,λu=>(nofun,λT=>by let(_,q):=T;show nomatch q)))
  .intro k av bq m' s az;apply Je _ _ _ az;intro ay g' H6 hX;intro _ DS;let(u,i,n1,n2,hu,rfl):=Rn s;let hi:0<=i/\i<5:=by
    let hs:=xC I.nd<|bo hu;by_cases q:u=1
    .rw[q,bD.one] at hs;cases hs;decide
    .let(_,p2,p3,_):=bD.node u i n1 n2 hs q λz=>z;show(p2,agu p3)
   let(i0,i5):=hi;let DR:cD (t\g') V.succ D=Y (.dict<|mq (zZ A 4 a) 5):=by rw[cx (p d)];show bz d H6.dict
   calc eQ DR rfl (zY i0 i5);let hA:=(H6.out i i0 i5).1;let hg:cD (t\g') V.succ (zZ A 4 a i)=Y (.set<|ay i):=by rw[cx (p hA)];show bz hA<|H6.sets i i0 i5
   refine(_,Eg hg qJ yB,⋯,?_);show I5 hg (bP (qU.len<|hX i) (by have:=hc.1;show WA this hN)) (DS _ _ _<|Wg (by rw[<-fA (p hA),aY hA])<|Ji _ _ _ (H6.add i0 i5 _)<|qU.step I.nd hu hX)
  .intro bq m' az;apply Je _ _ _ az;intro ay g' H6 hX;dsimp only[iD.back];rw[i6,AZ f];let hX4:∀j:Int,0<=j->j<4->(ay j).Nodup/\(ay j).length<=aw/\∀u,u∈ay j↔∃n,N t.X u=Y (j,n):=λj _ _=>by let q:=hX j;refine bt q.1 (bP (qU.len q) hc.1) (λu=>(q.2 u).trans ?_);rw[om (by rw[v8,lC];show dH _)];show(λT=>by let(n,hn):=T;show(n,xC I.nd hn),λT=>by let(n,hn):=T;show(n,lE hn))
   refine(_,lA (bz d H6.dict) ee iU,⋯,?_);calc MV (bz d H6.dict) rfl (by rw[uZ];decide) (zY ∅ ∅);rw[aY d,N2];show h _ _ _ _ H6.drop hX4
end
section
variable{V:TA}{t:TS}{g:bf}
section
variable{P:Int->Prop}{aw:Nat}{e:Int->Int}
structure PJ(V:TA)(t:TS)(g:bf)(e:Int->Int)(P:Int->Prop)(aw:Nat)(D:aW)(t':TS)(g':bf):Prop where
 wf:Wf {V with ite:=D}
 I:MB e t P aw t' []
 tab:oW {V with ite:=D} g'
 keep:∀a x,a∉V.list->a≠373->g a=Y x->(∃o' vs,x=.raw o'/\o'.data=.fields vs)\/g' a=Y x
 new:D∉V.list/\g D=R
def Gn:Fv (.dict<|eC l)=L:=ct.mpr λx T=>by let(p,_,rfl):=cG.mp T;rfl
nonrec def VE(M:Wf V)(f:oW V g)(O:D∉V.list)(U:D≠373)(I:g D=Y (.set Q))(GL:D'∉V.list)(H:aB g D (.set W) D'=R):oW {V with ite:=D'} (aB (aB (aB g D<|.set W) D'<|.dg []) V.ite x):=by
 let(T,d):=da H;let(n,f):=f;let j:V.ite∈V.list:=TA.F?;let sub:∀{a:aW},a∈({V with ite:=D'}:TA).list->a∈V.list\/a=D':=fun{a} h=>tx (l:=V.list) (i:=5) h
 let k:(373:aW)≠D':=λe=>by rw[<-e] at d;rcases f with q|⟨p,oc,vs,m,q,_⟩<;>dsimp only at q<;>rw[aK n,d] at q<;>cases q
 let c:∀{a:aW} {y:bD},(if a∈V.list then R else g a)=Y y->(∀z,y≠.set z)->(if a∈({V with ite:=D'}:TA).list then R else aB (aB (aB g D (.set W)) D' (.dg [])) V.ite x a)=Y y:=fun{a y} h G=>by
  split at h
  .cases h
  .rename_i q;let o:a≠D':=eB h d;let e2:a≠D:=λe=>by rw[e,I] at h;cases h;show G _ rfl
   let J:a≠V.ite:=λe=>q<|e▸j;rw[aK (λE=>(sub E).elim q o),aq J,aq o,aq e2];show h
 refine(λq=>(sub q).elim n k,?_);rcases f with q|⟨p,oc,vs,m,C,A,v,u,s⟩
 .show .inl (c q<|by simp)
 .show .inr (lj p oc vs m (c C<|by simp) (c A<|by simp) v u s)
def L8(I:Inv t Z0 e)(n:∀x,0<=e x)(j:kb t aw){xs:List Int}(k:∀x∈xs,(N t.ref (aT x:Int)).isSome=L/\P (aT x:Int)):MB e t P aw t ((n7 (xs.filter<|wM t) []).erase 1):=by
 let c:= @Ju (xs.filter<|wM t) [] jW;refine(I,Ext.refl,λu J M=>(by rw[M] at J;cases J),c.erase 1,λu d=>?_,rfl,rfl,rfl,j,dH _);let J:u≠1:=λq=>by subst q;show uB c d
 rcases ND.mp (xb d) with q|⟨x,T,rfl⟩
 .cases q
 .let(m,f):=mO.mp T;let(i,h):=k x m;let(r,a):=bp.mp i;refine ek J (I.refs _ _ a) ?_ h;simp only[wM,a,CN,ne_eq,fE,decide_eq_false_iff_not,Decidable.not_not] at f;rw[a,f]
def L9{hB:cp w B}{n:Nat}{ak:aW}{Q:AV->bf->Prop}(m:Wf V)(O:aw<=3900)(s:oW V c)(y:D∉V.list)(z:D≠373)(o:c D=Y (.set U))(I:U.length<=4000)(J:MB e t P aw t (U.erase 1))(H:∀x,0<=e x)(M:∀u i v w,P u->N t.X u=Y (i,Y v,Y w)->P (aT v:Int)/\P (aT w:Int))(G:∀a x,a∉V.list->a≠373->g a=Y x->(∃k vs,x=.raw k/\k.data=.fields vs)\/c a=Y x)(C:∀a,c a=R->g a=R)(DR:g D=R)(h:∀D t' g',PJ V t g e P aw D t' g'->Q .none (aA {V with ite:=D} {t' with ite:=[]} g')):bH (fu+2000) ↑hB (RS w B hB n ak,λfl bq _=>Q (m7 fl) bq) (ij 19<|zd w) [] [] %[Y !V.x,Y !d,Y ⇑t.X.length,Y !f,Y (!D)|8] (t\c):=by
 refine YW m s O y z o I J H M λD' t' W' A j E H'=>h D' t' _ (E,H',VE m s y z o A j,λa x p h3 T=>?_,A,C _ (da j).2);rcases G a x p h3 T with q|q
 .show .inl q
 .right;let e1:a≠D':=eB q<|(da j).2;let e2:a≠D:=eB T DR;rw[aq (λe=>p<|by rw[e];first|exact TA.XP|exact TA.F?),aq e1,aq e2];show q
def VF(j:Wf V)(Cm:BM B ob)(hT:oW V g)(k:aw<=3900)(I:Inv t Z0 e)(C:∀x,0<=e x)(hc:kb t aw)(h:∀D t' g',PJ V t g e (λ_=>True) aw D t' g'->Q .none (aA {V with ite:=D} {t' with ite:=[]} g')):Cl ↑hB (n+12) (!378) [.ref V.x] [] (t\g) Q:=by
 let(s,z2,m,z4,U):=hc;refine abn (LA (x:=ah "self") (y:=ah "roots") (hx:=371) (dvs:= #[.none]) (k0:=0) (d:=.none) rfl rfl () λv=>(aC _ rfl ⋯)) λak=>xO (fi j) Fe Ff (Gl j (j! s k)<|kU _ rfl (by show PV) (by show Ő s k) ?_);refine rT rfl (xy ∎ (SR.bare (se j) Gn λo z=>?_));let(io,IO,h0,ZN,G):=Vv (O:=aB (t\g) V.ref<|.raw o) (d:=V.ref) (ks:=t.ref.map λp=>bG p.1<|AV.int p.2) ar (by rw[fH];show z);let(es,ep,O9):=Gm z;let JL:(t.ref.map λp=>bG p.1<|AV.int p.2).map (·.1)=t.ref.map (·.1):=by rw[fH];rfl
 rw[JL] at G
 let H:∀i∈t.ref.map (·.1),∃r,N t.ref (aT i:Int)=Y r:=λi hi=>by
  let(p,hp,rfl):=cG.mp hi;let J:=xC I.Mw hp
  let u:0<p.1:=by
   by_cases q:p.1=1
   .show ag4 q
   .let(nd,jn):=bp.mp<|I.refs _ _ J;let(a,b,c):=nd;let(this,_):=I.good.node _ _ _ _ jn q (λh=>h);show l_ this
  show(p.2,by rw[show(p.1.natAbs:Int)=p.1 from i? u];show J)
 refine b? j Cm hT z ar (λvs q=>by rw[O9] at q;cases q) h0 ZN G H (by rw[cE];show WA m k) λg' D F f hD þ HV M hk wZ DR VC _=>?_;let E:= @FP ((t.ref.map (·.1)).filter (wM t)) []
 let A:=gb (wM t) (t.ref.map (·.1))
 rw[cE] at A;show L9 j k M hD HV VC (by simp at E;show ag5 E A m k) (L8 I C (s,z2,m,z4,U) λx T=>(by let(r,hr):=H x T;rw[hr];rfl,trivial)) C (λ_ _ _ _ _ _=>(trivial,trivial)) (λa x ha u T=>hk a x u T) wZ DR h
def YY{O:bf}(h:jr Z.w o xs):∃f IO a,a.Perm xs/\IO 0 f/\(∀c,c d=Y (.raw o)->QV Z c d f)/\(∀I,Sp Z.prog Z.w I d o a IO)/\∀vs,o.data≠.fields vs:=by let(es,ep,n,a,J,i,M,k,j):=I! (d:=d) h;refine(Eu (fZ 0 0 d es.size ep) _ a k (fj _,?_) (λc m=>T8 m h.1 J i) j<|λvs q=>by rw[J] at q;cases q);simp[slotAt]
nonrec def VG(s:Wf V)(Cm:BM B ob)(hT:oW V g)(G:aw<=3900)(I:Inv t Z0 e)(M:∀x,0<=e x)(U:kb t aw)(A:k∉V.list)(C4:g k=Y (.set xs))(p:xs.length<=4000)(JL:∀x∈xs,(N t.X (aT x:Int)).isSome=L/\P (aT x:Int))(hP:∀u i v w,P u->N t.X u=Y (i,Y v,Y w)->P (aT v:Int)/\P (aT w:Int))(h:∀D t' g',PJ V t (cD g k) e P aw D t' g'->Q .none (aA {V with ite:=D} {t' with ite:=[]} g')):Cl ↑hB (n+12) (!378) [.ref V.x,.ref k] [] (t\g) Q:=by
 let vB:=U;let(J,z2,z3,z4,z5):=U;refine abn (Ra (x:=ah "self") (y:=ah "roots") (hx:=371) (dvs:= #[.none]) (k0:=0) rfl rfl () λv u=>(aC _ rfl ⋯)) λak=>xO (fi s) Fe Ff (Gl s (j! J G)<|kU _ rfl (by show PV) (by show Ő J G) ?_);refine EG ()<|jh rfl ?_;let H:k≠V.ref:=λe=>A<|e▸TA.XP;refine SR.bare (se s) Gn λo Ar=>SR.bare (d:=k) (g:=.set xs) (pS (aq H)<|bz A C4) rfl λod E=>?_;rw[gsf A];let(io,IO,C,kj,h0,ZN,Mn,V5):=YY (O:=t\g) (d:=k) (Z:=bs w B hB) (E λ_=>R)
 let Ez:∀i∈C,∃r,N t.ref (aT i:Int)=Y r:=λi hi=>by let(c,NC,_):=I.ref _ (JL i<|kj.mem_iff.mp hi).1;show(c,NC)
 let m:=kj.length_eq
 let F!:oW V (aB g k<|.raw od):=by
  refine(hT.1,?_)
  let j:∀{a:aW} {y:bD},(if a∈V.list then R else g a)=Y y->(∀z,y≠.set z)->(if a∈V.list then R else aB g k (.raw od) a)=Y y:=fun{a y} h hy=>by
   split at h
   .cases h
   .rename_i q;rw[aK q,aq<|λe=>by rw[e,C4] at h;cases h;show hy _ rfl];show h
  rcases hT.2 with q|⟨cc,oc,vs,tq,q1,q2,q3,q4,q5⟩
  .show .inl (j q<|by simp)
  .show .inr (lj cc oc vs tq (j q1<|by simp) (j q2<|by simp) q3 q4 q5)
 refine b? s Cm F! Ar (pS (aq H)<|bz A ar) V5 h0 ZN Mn Ez (k_ m p) λg' D F f hD þ HV Ď hk wZ DR VC _=>?_;let cL:= @FP (C.filter<|wM t) [];let wF:=gb (wM t) C;let te:Sub (cD g k) g:=Sub.cD
 show L9 (g:=cD g k) s G Ď hD HV VC (by simp at cL;show ag6 m cL p wF) (L8 I M vB λx T=>(by let(r,hr):=Ez x T;rw[hr];rfl,(JL x<|kj.mem_iff.mp T).2)) M hP
  (λa x ha h3 T=>hk a x h3<|pS (aq<|eB T di)<|te _ _ T) (λa ha=>by have:=wZ a ha;show te.no (da this).2) (by rw[aq þ] at DR;show te.no DR) h
end
end
section
variable{w:cC}{B:Fz}{hB:cp w B}{n:Nat}{V:TA}{g:bf}
@[ext]abbrev fQ(w:cC):List Ix:=(.l 3::.c .none::.cm .Is::.tr::.iff [.l 0,.tl,.mf 378 0 [],.pop,.l 0,.tl,.mf 245 0 [],.st 3] []::.l 1::.l 0::.at "vars"::.cm .In::.tr::.iff [.l 0,.at "vars",.l 1,.sb,.st 1] []::.l 2::.l 0::.at "vars"::.cm .In::.tr::.iff [.l 0,.at "vars",.l 2,.sb,.st 2] []::.c (.raw<|.builtin "isinstance")::.fn::.l 1::.c (.raw<|.type "int")::.ca 2 []::.tr::.no::.iff [.bad] []::.c (.raw<|.builtin "isinstance")::.fn::.l 2::.c (.raw<|.type "int")::.ca 2 []::.tr::.no::.iff [.bad] []::.c ⇑0::.l 1::.c2 .LtE [.c<|.raw<|.builtin "len",.fn,.l 0,.at "vars",.ca 1 [],.cm .Lt,.tr]::.no::.iff [.bad] []::.c ⇑0::.l 2::.c2 .LtE [.c<|.raw<|.builtin "len",.fn,.l 0,.at "vars",.ca 1 [],.cm .Lt,.tr]::.no::.iff [.bad] []::.l 1::.l 2::.cm .Gt::.tr::.iff [.l 2,.l 1,.tu 2,.un 2,.st 1,.st 2] []::.l 1::.l 2::.cm .GtE::.tr::.iff [.bad] []::.l 1::.l 2::.bi .Sub::.ab::.c ⇑1::.cm .NotEq::.tr::.iff [.bad] []::.c (.raw<|.builtin "len")::.fn::.l 0::.at "_succ"::.ca 1 []::.st 4::.er (xR (dB (K1 w) 393) 0)::.st 5::.fo au [.st 6] [.l 1,.l 2,.tu 2] [.fo au [.st 7] [.l 3,.l 6,.sb] (.l 0::.at "_succ"::.l 7::.ab::.sb::.un 3::.st 8::.st 9::.st 10::.l 8::.l 6::.cm .NotEq::.tr::.iff [.bad] []::.l 0::.at "_pred"::[.me "pop",.l 8,.l 9,.l 10,.tu 3,.mc 1,.st 11,.l 7,.l 11,.cm .NotEq,.tr,.iff [.bad] [],.l 9,.l 10,.tu 2,.l 5,.l 6,.sb,.l 7,.ss]) []] []::.fo L [.un 2,.st 7,.un 2,.st 9,.st 10] [.l 5,.l 2,.sb,.me "items",.mc 0] (.l 0::.at "_succ"::.l 7::.sb::.un 3::.st 8::.st 12::.st 12::.l 8::.l 2::.cm .NotEq::.tr::.iff [.bad] []::.l 1::[.l 9,.l 10,.tu 3,.st 13,.l 13,.l 0,.at "_succ",.l 7,.ss,.l 13,.l 0,.at "_pred",.cm .In,.tr,.iff [.bad] [],.l 7,.l 0,.at "_pred",.l 13,.ss]) []::.c (.raw<|.type "set")::.fn::.ca 0 []::.st 14::.fo L [.un 2,.st 7,.un 2,.st 9,.st 10] [.l 5,.l 1,.sb,.me "items",.mc 0] (.l 0::.at "_succ"::.l 7::.sb::.un 3::.st 8::.st 12::.st 12::.l 8::.l 1::.cm .NotEq::.tr::.iff [.bad] []::.l 9::.tr::.no::.iff [.bad] []::.l 10::.tr::.no::.iff [.bad] []::.l 0::.tl::.l 9::.mf 400 1 []::.un 3::.st 15::.st 16::.st 17::.l 0::.tl::.l 10::.mf 400 1 []::.un 3::.st 18::.st 19::.st 20::.l 15::.l 2::.cm .LtE::.tr::.or [.l 18,.l 2,.cm .LtE,.tr,.or [.c<|.bool au]]::.iff [.con] []::.l 2::.l 9::.l 10::.tu 3::.st 13::.l 13::[.l 0,.at "_succ",.l 7,.ss,.l 13,.l 0,.at "_pred",.cm .In,.tr,.iff [.bad] [],.l 7,.l 0,.at "_pred",.l 13,.ss,.l 14,.me "add",.l 7,.mc 1,.pop]) []::.c (.raw<|.type "set")::.fn::.ca 0 []::.st 21::.c (.raw<|.type "set")::.fn::.ca 0 []::.st 22::.fo L [.un 2,.st 7,.un 2,.st 9,.st 10] [.l 5,.l 1,.sb,.me "items",.mc 0] (.c (.raw<|.builtin "isinstance")::.fn::.l 7::.c (.raw<|.type "int")::.ca 2 []::.tr::.no::.iff [.bad] []::.l 7::.l 14::.cm .In::.tr::.iff [.con] []::.l 0::.at "_succ"::.l 7::.sb::.un 3::.st 8::.st 12::.st 12::.l 8::.l 1::.cm .NotEq::.tr::.iff [.bad] []::.l 9::.tr::.no::.iff [.bad] []::.l 10::.tr::.no::.iff [.bad] []::.l 0::.tl::.l 9::.mf 107 1 []::.pop::.l 0::.tl::.l 10::.mf 107 1 []::.pop::.l 21::.me "add"::.l 9::.ab::.mc 1::.pop::.l 21::.me "add"::.l 10::.mc 1::.pop::.l 0::.tl::.l 9::.l 2::.mf 407 2 []::.un 3::.st 15::.st 16::.st 17::.l 0::.tl::.l 10::.l 2::.mf 407 2 []::.un 3::.st 18::.st 19::.st 20::.l 2::.l 15::.cm .LtE::.tr::.an [.l 2,.l 18,.cm .LtE,.tr,.an [.c<|.bool L]]::.no::.iff [.bad] []::.l 2::.l 15::.cm .Eq::.tr::.or [.l 2,.l 18,.cm .Eq,.tr,.or [.c<|.bool au]]::.no::.iff [.bad] []::.l 9::.c ⇑0::.cm .Lt::.tr::.an [.l 2,.l 15,.cm .Eq,.tr,.an [.c<|.bool L]]::.iff [.l 16,.ng,.l 17,.ng,.tu 2,.un 2,.st 16,.st 17] []::.l 0::.tl::.l 2::.l 16::.l 19::.mf 363 3 []::.st 23::.l 0::.tl::.l 2::.l 17::.l 20::.mf 363 3 []::.st 24::.l 24::.c ⇑0::.cm .Lt::.tr::.iff [.bad] []::.l 23::.l 24::.cm .Eq::.tr::.iff [.bad] []::.l 0::.at "_succ"::.l 23::.ab::.sb::.c ⇑0::.sb::.l 2::.cm .Eq::.tr::.iff [.l 22,.me "add",.l 23,.ab,.mc 1,.pop] []::.l 0::.at "_succ"::.l 24::.sb::.c ⇑0::.sb::.l 2::.cm .Eq::.tr::.iff [.l 22,.me "add",.l 24,.mc 1,.pop] []::.l 1::.l 23::.l 24::.tu 3::.st 13::.l 13::.l 0::.at "_succ"::.l 7::.ss::.l 13::[.l 0,.at "_pred",.cm .In,.tr,.iff [.bad] [],.l 7,.l 0,.at "_pred",.l 13,.ss,.l 0,.tl,.l 23,.mf 100 1 [],.pop,.l 0,.tl,.l 24,.mf 100 1 [],.pop]) []::.l 0::.tl::.l 1::.mf 157 1 []::.st 25::.l 2::.l 0::.at "vars"::.l 25::.ss::.l 0::.tl::.l 2::.mf 157 1 []::.st 26::.l 1::.l 0::.at "vars"::.l 26::.ss::.l 25::.l 0::.at "_level_to_var"::.l 2::.ss::.l 26::.l 0::.at "_level_to_var"::.l 1::.ss::.c (.raw<|.type "dict")::.fn::.ca 0 []::.l 0::.sa "_ite_table"::.l 0::.tl::.l 21::.mf 378 1 []::.pop::.c (.raw<|.builtin "len")::.fn::.l 0::.at "_succ"::.ca 1 []::.st 27::.c (.raw<|.type "set")::.fn::.ca 0 []::[.st 28,.c<|.raw<|.type "set",.fn,.ca 0 [],.st 29,.fo au [.st 7] [.l 5,.l 1,.sb] [.l 7,.l 0,.at "_succ",.cm .NotIn,.tr,.iff [.con] [],.l 0,.at "_succ",.l 7,.sb,.un 3,.st 8,.st 12,.st 12,.l 8,.l 1,.cm .Eq,.tr,.iff [.l 29,.me "add",.l 7,.mc 1,.pop] [.l 8,.l 2,.cm .Eq,.tr,.iff [.l 28,.me "add",.l 7,.mc 1,.pop] [.bad]]] [],.fo au [.st 7] [.l 22] [.l 0,.at "_succ",.l 7,.sb,.un 3,.st 8,.st 12,.st 12,.l 8,.l 2,.cm .NotEq,.tr,.iff [.bad] [],.l 28,.me "add",.l 7,.mc 1,.pop] [],.fo au [.st 7] [.l 5,.l 2,.sb] (.l 7::.l 0::.at "_succ"::.cm .NotIn::[.tr,.iff [.con] [],.l 0,.at "_succ",.l 7,.sb,.un 3,.st 8,.st 12,.st 12,.l 8,.l 1,.cm .NotEq,.tr,.iff [.bad] [],.l 29,.me "add",.l 7,.mc 1,.pop]) [],.l 29,.l 3,.l 1,.ss,.l 28,.l 3,.l 2,.ss,.l 4,.l 27,.tu 2,.ret])
abbrev abC:List Str:=["self","x","y","all_levels","oldsize","levels","j","u","i","v","w","u_","_","r","done","iv","v0","v1","iw","w0","w1","garbage","xfresh","p","q","vx","vy","newsize","newx","newy"]
def anb(f:Binds ↑hB (iy (K1 w) 393) as e [(ah "all_levels",a),(ah "y",c),(ah "x",d),(ah "self",x0)])(h:FH w B hB n 393 abC (fQ w) %[Y x0,Y d,Y c,Y a|26] O Q):Cl ↑hB (n+1) (!393) as e O Q:=RP f h ⋯
def Inv.ite(I:Inv t a e):Inv {t with ite:=l} a e:=
 {Jn:=I.Jn,xI:=I.xI,pred:=I.pred,nd:=I.nd,Mw:=I.Mw,G8:=I.G8,A8:=I.A8,ref:=I.ref,refs:=I.refs,e0:=I.e0,good:=I.good,Wb:=I.Wb}
def Gp(h:x<101):N n9 x=R:=yQ.mpr λJ=>by simp at J;show aho J h
structure Er(V:TA)(g:bf)(D ak Dx Dy:aW)(A:Int->aW)(ay:Int->List Int)(x:Int)(lx ly:List (K0×AV)):Prop where
 lv:B0 V (λ_=>R) g D A ay 4
 l:g ak=Y (.dict [(.int x,.ref Dx),(.int<|x+1,.ref Dy)])
 dx:g Dx=Y (.dict lx)
 dy:g Dy=Y (.dict ly)
 nl:ak∉V.list/\ak≠D
 nx:Dx∉V.list/\Dx≠D/\Dx≠ak
 ny:Dy∉V.list/\Dy≠D/\Dy≠ak/\Dy≠Dx
def B0.weak(hS:B0 V g g' D A ay k)(h:∀a x,g' a=Y x->d a=Y x):B0 V (λ_=>R) d D A ay k:=
 (h _ _ hS.dict,λi c J=>h _ _<|hS.sets i c J,hS.inj,λi c J=>(bt ((hS.out i c J).1) ((hS.out i c J).2.1) rfl),(hS.Bu.1,rfl),λ_ _ q=>(nomatch q))
section
@[ext]abbrev tm(w:cC)(B:Fz)(hB:cp w B)(n:Nat)(ak:aW):CC:=(bs w B hB,n,k6 (iy (K1 w) 393) ak 393,abC)
def YZ(p:Wf V)(E:BM B ob)(y:oW V g)(k:aw<=3900)(I:Inv t Z0 e)(q:∀x,0<=e x)(s:kb t aw)(S:t.vars=n9)(h:∀d a i f D A ay,Wf {V with ite:=d}->PJ V t g e (λ_=>True) aw d a i->B0 {V with ite:=d} i f D A ay 4->(∀j:Int,0<=j->j<4->(ay j).Nodup/\(ay j).length<=aw/\∀u,u∈ay j↔∃n,N a.X u=Y (j,n))->∀{fu:Nat},bH (fu+4900) ↑hB (tm w B hB (n+12) ak,Q) (ij 5<|fQ w) [] [] %[Y !V.x,Y ⇑x,Y ⇑(x+1),Y (!D)|26] (aA {V with ite:=d} {a with ite:=[]} f)):bH (fu+5000) ↑hB (tm w B hB (n+12) ak,Q) (fQ w) [] [] %[Y !V.x,Y ⇑x,Y ⇑(x+1),Y (.none)|26] (t\g):=by refine rT rfl (dR ∎ (VF p E y k I q s λd a i c=>?_));let m:=c.wf;let z:=c.I.inv.ite (l:=[]);let o:a.vars=n9:=c.I.vars.trans S;refine dR ∎ (L7 m z o c.I.vC k λD A ay f C v=>?_);show bH _ _ _ (ij 5<|fQ w) [] [] _ _;show h _ _ _ _ _ _ _ m c C v
def Y1(v:Wf V)(hN:aw<=3900)(hc:kb t aw)(S:t.vars=n9)(T:0<=x)(k:x<3)(O:B0 V (λ_=>R) g D A ay 4)(h:∀z LL i f,Er V z D LL i f A ay x [] []->Sub g z->∀{fu:Nat},bH (fu+4700) ↑hB (tm w B hB (n+1) ak,Q) (ij 69<|fQ w) [] [] %[Y !V.x,Y ⇑x,Y ⇑(x+1),Y !D,Y ⇑t.X.length,Y (!LL)|24] (t\z)):bH (fu+4900) ↑hB (tm w B hB (n+1) ak,Q) (ij 5<|fQ w) [] [] %[Y !V.x,Y ⇑x,Y ⇑(x+1),Y (!D)|26] (t\g):=by
 refine fB ∎ (Fm ∎ (jh (by rw[S,Gp<|ahp k];rfl)<|fB ∎ (Fm ∎ (jh (by rw[S,Gp<|ahq k];rfl)<|pZ<|jh rfl<|pZ<|jh rfl ?_))));let I:(t.vars.length:Int)=4:=by rw[S];rfl
 let e:∀{p:Prop} [Decidable p],p->(not (decide p))=au:=fun{p} _ h=>by rw[decide_eq_true h];rfl
 refine nu T (fB ∎ (qt v (by rw[S];decide)<|jh (e<|qP I<|Y0 k)<|nu (show(0:Int)<=x+1 from Y2 T)<|fB ∎ (qt v (by rw[S];decide)<|jh (e<|qP I<|Y3 k)<|nC (show¬x>x+1 from ahr)<|nC (show¬x>=x+1 from WD)<|jh (by rw[show(((x-(x+1)).natAbs:Nat):Int)=1 from ahs];rfl)<|cP ∎ (Fg v (by have:=hc.1;show j! this hN)<|Vc (i1:=[.l 1]) (i2:=[.c<|.raw<|.type "dict",.fn,.ca 0 []]) (i3:=[.l 2]) (i4:=[.c<|.raw<|.type "dict",.fn,.ca 0 []]) () () () () () λLL y=>?_))));let(j,u):=d0 y;rw[aY j];refine pF λi x1 G=>pF λf y1 U=>?_;let xL:i≠LL:=(da G).1;let(C,E):=da U;let m:f≠LL:=(da E).1;let M:=(da G).2;let J:=(da E).2;calc Hy _ _ rfl rfl (λq=>by injection q with q;show Zt q) (bz j<|by rw[aq (aE m),aq<|aE xL,ar]);rw[aY j]
 let H:Sub g (aB (aB (aB (aB g LL<|.dict []) i<|.dict []) f<|.dict []) LL<|.dict [(.int x,.ref i),(.int<|x+1,.ref f)]):=λa o d=>by rw[aq (eB d u),aq<|eB d J,aq<|eB d M,aq<|eB d u];show d
 let s:∀{a:aW},g a=R->a≠D:=λh q=>by rw[q,O.dict] at h;cases h
 refine h _ _ _ _ (O.weak H,ar,by rw[aq xL,aq<|aE C,ar],by rw[aq m,ar],(j,s u),(bt x1 (s M) xL),y1,s J,m,C) H
end
end
section
variable{ak:aW}{V:TA}
variable{w:cC}{n:Nat}{t:TS}
section
variable{aw:Nat}{x:Int}{ay:Int->List Int}
def Ma{fu:Nat}{a:Int->Prop}{D Dj:aW}{A:Int->aW}{j:Int}{LD:List (K0×AV)}{f z7 z8 z9 GQ:Option AV}(hw:Wf V)(Ac0:Ac t a e)(hc:kb t aw)(hN:aw<=90000)(h0:0<=j)(h4:j<4)(hj:∀u n,N t.X u=Y (j,n)->1<u/\∃v w,n=(Y v,Y w))(nL:LL∉V.list)(nJ:Dj∉V.list)(nD:D∉V.list)(I:A j∉V.list)(gL:g LL=Y (.dict LD))(U:N LD ⇑j=Y !Dj)(gJ:g Dj=Y (.dict []))(gD:g D=Y (.dict<|mq A 4))(c:g (A j)=Y (.set<|ay j))(hJL:Dj≠LL)(T:(ay j).Nodup/\(ay j).length<=aw/\∀u,u∈ay j↔∃n,N t.X u=Y (j,n))(hZ:∀u∈ay j,¬a u)(h:∀P (l:List Int),l.Perm (ay j)->Ac {t with pred:=P} (λu=>a u\/u∈ay j) e->kb {t with pred:=P} aw->Q .next ({t with pred:=P}\(aB g Dj<|.dict<|fT<|l.map<|fx t.X)) %[Y !V.x,f,G,Y !D,E,Y !LL,Y ⇑j|23]):bH (fu+3900) ↑hB (tm w B hB (n+1) ak,Q) (dM (fQ w) 69) [] [] %[Y !V.x,f,G,Y !D,E,Y !LL,Y ⇑j,z7,z8,z9,GQ,Ds|18] (t\g):=by
 let s:A j≠Dj:=λq=>by rw[q,gJ] at c;cases c
 let hAL:A j≠LL:=λq=>by rw[q,gL] at c;cases c
 refine lG (C:=tm w B hB (n+1) ak) [au,au,au,au,au,au,au,L,L,L,L,L] rfl λ_ BV=>eQ (bz nD gD) rfl (zY h0 h4) (rj λ_=>AR (bz I c) λl p=>?_);let jn:l.Nodup:=p.nodup_iff.mpr T.1
 let(H,Ji,Je):∃H:Nat->bf->Lm->Prop,(∀r P,Ac {t with pred:=P} (λu=>a u\/u∈l.take r) e->kb {t with pred:=P} aw->H r ({t with pred:=P}\(aB (cD g<|A j) Dj<|.dict<|fT<|(l.take r).map (fx t.X))) %[Y !V.x,f,G,Y !D,E,Y !LL,Y ⇑j|23])/\(∀r O m,H r O m->∀d:bf->Lm->Prop,(∀P,Ac {t with pred:=P} (λu=>a u\/u∈l.take r) e->kb {t with pred:=P} aw->d ({t with pred:=P}\(aB (cD g<|A j) Dj<|.dict<|fT<|(l.take r).map (fx t.X))) %[Y !V.x,f,G,Y !D,E,Y !LL,Y ⇑j|23])->d O m):=
  (λr O m=>∀d:bf->Lm->Prop,(∀P,Ac {t with pred:=P} (λu=>a u\/u∈l.take r) e->kb {t with pred:=P} aw->d ({t with pred:=P}\(aB (cD g<|A j) Dj<|.dict<|fT<|(l.take r).map (fx t.X))) %[Y !V.x,f,G,Y !D,E,Y !LL,Y ⇑j|23])->d O m,λ_ P h0 J _ κ=>κ P h0 J,λ_ _ _ h=>h)
 refine dc H ?_ ?_<|My BV ?_
 .refine Wg ?_ (Ji _ t.pred (Ac0.congr λu _ _=>(λq=>q.elim id nofun,.inl)) hc);show cD (t\g) (A j)=_;rw[eN I]
  congr 1
  funext b;by_cases q:b=Dj
  .rw[q,ar,cx<|aE s,gJ];rfl
  .rw[aq q]
 .intro r av bq m' ha az;apply Je _ _ _ az;intro P y d_;intro _ DS;let(u,M,rfl):=Dq ha;let i:u∈ay j:=p.mem_iff.mp<|bo M;let(n1,k):=(T.2.2 u).mp i;let(qO,v,w',rfl):=hj u n1 k;let Wo:u∉l.take r:=λq=>v9 jn M q;let o:¬(a u\/u∈l.take r):=λq=>q.elim (hZ u i) Wo;let hp:=(y.pred _ _).mpr (k,o);let BS:((u.natAbs:Nat):Int)=u:=Y8 qO;let gH:N t.X ((u.natAbs:Nat):Int)=Y (j,Y v,Y w'):=by rw[BS];show k
  let(y1,y2,y3,y4,y5):=d_;refine cP ∎ (lD ∎ ∎ (nC (λq=>q rfl)<|n5 ∎ (JB (A6 ∎) rfl<|L5 hw (by show P.length<=100000;show bP y2<|Y83 hN) hp<|nC (λq=>q rfl)<|eQ (bz nL<|by rw[aq (aE hJL),cx<|aE hAL];show gL) rfl U<|jM (bz nJ ar) rfl (by rw[vd,cE,CT];show bP (Nat.min_le_right _ _)<|bP (BO p.length_eq)<|bP T.2.1<|bP hN ∅) ?_)));rw[aY nJ,bQ,N4<|by rw[xZ];show Wo];let ht:l.take (r+1)=l.take r++[u]:=by rw[fL,M];rfl
  refine DS _ _ _ (Wg ?_<|Ji _ (dz P (j,Y v,Y w')) ((y.pop k o).congr λz _ _=>?_) (y1,bP lB y2,y3,y4,y5))
  .rw[ht,hO,List.map_singleton,yT k]
  .rw[ht,cy,aV,or_assoc]
 .intro bq m' az;apply Je _ _ _ az;intro P y d_;rw[om (by rw[setItems,cE];show dH _)] at y⊢;dsimp only[iD.back];rw[aY I,gf<|aE s,i6,fN c];show h P l p (y.congr λz _ _=>by rw[p.mem_iff]) d_
def B0.aB(c:B0 V g g' D A ay k)(J:a≠D)(M:∀xs,g' a≠Y (.set xs)):B0 V (λ_=>R) (Bd.aB g' a y) D A ay k:=
 (by rw[aq (aE J)];show c.dict,λi d J=>by rw[aq (λq=>M _<|q▸c.sets i d J)];show c.sets i d J,c.inj,λi d J=>(bt ((c.out i d J).1) ((c.out i d J).2.1) rfl),(c.Bu.1,rfl),λ_ _ q=>(nomatch q))
variable{Dx Dy:aW}
def Er.ane{l:List (K0×AV)}(a:Er V g D LL Dx Dy A ay x c ly):Er V (aB g Dx<|.dict l) D LL Dx Dy A ay x l ly:=
 (a.lv.aB a.nx.2.1 (λ_ q=>by rw[a.dx] at q;show nomatch q),by rw[aq (aE a.nx.2.2)];show a.l,ar,by rw[aq a.ny.2.2.2];show a.dy,a.nl,a.nx,a.ny)
def Er.anf{l:List (K0×AV)}(a:Er V g D LL Dx Dy A ay x c d):Er V (aB g Dy<|.dict l) D LL Dx Dy A ay x c l:=
 (a.lv.aB a.ny.2.1 (λ_ q=>by rw[a.dy] at q;show nomatch q),by rw[aq (aE a.ny.2.2.1)];show a.l,by rw[aq (aE a.ny.2.2.2)];show a.dx,ar,a.nl,a.nx,a.ny)
@[ext]abbrev LDx(x:Int)(Dx Dy:aW):List (K0×AV):=[(.int x,.ref Dx),(.int<|x+1,.ref Dy)]
def PK:N (LDx x Dx Dy) ⇑x=Y (!Dx):=by simp[N]
def VH:N (LDx x Dx Dy) ⇑(x+1)=Y (!Dy):=by
 have:¬x=x+1:=Zt
 simp[N,this]
structure Wq(t:TS)(ay:Int->List Int)(aw:Nat):Prop where
 mem:∀j:Int,0<=j->j<4->(ay j).Nodup/\(ay j).length<=aw/\∀u,u∈ay j↔∃n,N t.X u=Y (j,n)
 node:∀(j u:Int) n,j<4->N t.X u=Y (j,n)->1<u/\∃v w,n=(Y v,Y w)
def Õ{hB:cp w B}{g:bf}(hw:Wf V)(Ac0:Ac t Z0 e)(hc:kb t aw)(hN:aw<=90000)(T:0<=x)(f:x<3)(s:Wq t ay aw)(hS:Er V g D LL Dx Dy A ay x [] [])(h:∀P d (kx ky:List Int),kx.Perm (ay x)->ky.Perm (ay<|x+1)->Er V d D LL Dx Dy A ay x (fT<|kx.map<|fx t.X) (fT<|ky.map<|fx t.X)->Ac {t with pred:=P} (λu=>u∈ay x\/u∈ay (x+1)) e->kb {t with pred:=P} aw->(∀a,a≠Dx->a≠Dy->d a=g a)->∀{fu:Nat},bH (fu+4650) ↑hB (tm w B hB (n+1) ak,Q) (ij 70<|fQ w) [] [] %[Y !V.x,Y ⇑x,Y ⇑(x+1),Y !D,z,Y (!LL)|24] ({t with pred:=P}\d)):bH (fu+4700) ↑hB (tm w B hB (n+1) ak,Q) (ij 69<|fQ w) [] [] %[Y !V.x,Y ⇑x,Y ⇑(x+1),Y !D,z,Y (!LL)|24] (t\g):=by
 refine lG (C:=tm w B hB (n+1) ak) [au,au,au,au,au,au,L,L,L,L,L,L] rfl λ_ I=>rj λ_=>Xi ?_
 let(J1,YK,Z9):∃h1:Nat->bf->Lm->Prop,(∀k P d (kx ky:List Int),kx.Perm (if 1<=k then ay x else [])->ky.Perm (if 2<=k then ay (x+1) else [])->Er V d D LL Dx Dy A ay x (fT<|kx.map<|fx t.X) (fT<|ky.map<|fx t.X)->Ac {t with pred:=P} (λu=>u∈kx\/u∈ky) e->kb {t with pred:=P} aw->(∀a,a≠Dx->a≠Dy->d a=g a)->h1 k ({t with pred:=P}\d) %[Y !V.x,Y ⇑x,Y ⇑(x+1),Y !D,z,Y (!LL)|24])/\(∀k O m,h1 k O m->∀v:bf->Lm->Prop,(∀P d (kx ky:List Int),kx.Perm (if 1<=k then ay x else [])->ky.Perm (if 2<=k then ay (x+1) else [])->Er V d D LL Dx Dy A ay x (fT<|kx.map<|fx t.X) (fT<|ky.map<|fx t.X)->Ac {t with pred:=P} (λu=>u∈kx\/u∈ky) e->kb {t with pred:=P} aw->(∀a,a≠Dx->a≠Dy->d a=g a)->v ({t with pred:=P}\d) %[Y !V.x,Y ⇑x,Y ⇑(x+1),Y !D,z,Y (!LL)|24])->v O m):=
  (λk O m=>∀v:bf->Lm->Prop,(∀P d (kx ky:List Int),kx.Perm (if 1<=k then ay x else [])->ky.Perm (if 2<=k then ay (x+1) else [])->Er V d D LL Dx Dy A ay x (fT<|kx.map<|fx t.X) (fT<|ky.map<|fx t.X)->Ac {t with pred:=P} (λu=>u∈kx\/u∈ky) e->kb {t with pred:=P} aw->(∀a,a≠Dx->a≠Dy->d a=g a)->v ({t with pred:=P}\d) %[Y !V.x,Y ⇑x,Y ⇑(x+1),Y !D,z,Y (!LL)|24])->v O m,λ_ P d kx ky h0 J M h3 h4 h5 _ κ=>κ P d kx ky h0 J M h3 h4 h5,λ_ _ _ h=>h)
 refine dc J1 ?_ ?_<|My I ?_
 .show YK _ t.pred g [] [] (.refl _) (.refl _) hS (Ac0.congr λu _ _=>(λq=>q.elim (λq=>nomatch q) (λq=>nomatch q),Gr)) hc λ_ _ _=>rfl
 .intro k av bq m' ha az;apply Z9 _ _ _ az;intro P d kx ky i p c G H E;intro _ Rh;let nA:∀j:Int,0<=j->j<4->A j∉V.list:=λj h0 h4=>(c.lv.out j h0 h4).1;rcases k with _|_|k
  .skip;cases ha;let rfl:kx=[]:=i.eq_nil;let rfl:ky=[]:=p.eq_nil;show bH _ _ _ (dM (fQ w) 69) [] [] [Y !V.x,_,_,Y !D,_,Y !LL,Y ⇑x,_,_,_,_,_,_,_,_,_,_,_,_,_,_,_,_,_,_,_,_,_,_,_] _;refine Ma (ay:=ay) (A:=A) (D:=D) (LL:=LL) (Dj:=Dx) hw G H hN T (Y0 f) (λu n q=>s.node _ u n (Y0 f) q) c.nl.1 c.nx.1 c.lv.Bu.1 (nA _ T<|Y0 f) c.l PK c.dx c.lv.dict (c.lv.sets _ T<|aht f) c.nx.2.2 (s.mem _ T<|Y0 f) (λu _ q=>q.elim (λq=>nomatch q)<|λq=>nomatch q) λP' l y o U=>?_;calc Rh _ _ _;show YK _ P' _ l [] y (.refl _) c.ane (o.congr λu _ _=>by simp[y.mem_iff]) U λa J M=>by rw[aq J];show E a J M
  .skip;cases ha;let i:kx.Perm (ay x):=i;let rfl:ky=[]:=p.eq_nil;let Xc:∀u∈ay (x+1),¬(u∈kx\/u∈([]:List Int)):=λu hu q=>by let(n1,q1):=((s.mem x T<|Y0 f).2.2 u).mp (i.mem_iff.mp<|q.resolve_right λq=>nomatch q);let(n2,q2):=((s.mem (x+1) (Y2 T)<|Y3 f).2.2 u).mp hu;rw[q1] at q2;have:=(rF q2).1;show Zt this
   show bH _ _ _ (dM (fQ w) 69) [] [] [Y !V.x,_,_,Y !D,_,Y !LL,Y ⇑(x+1),_,_,_,_,_,_,_,_,_,_,_,_,_,_,_,_,_,_,_,_,_,_,_] _;refine Ma (ay:=ay) (A:=A) (D:=D) (LL:=LL) (Dj:=Dy) hw G H hN (show(0:Int)<=x+1 from Y2 T) (Y3 f) (λu n q=>s.node _ u n (Y3 f) q) c.nl.1 c.ny.1 c.lv.Bu.1 (nA _ (Y2 T)<|Y3 f) c.l VH c.dy c.lv.dict (c.lv.sets _ (Y2 T)<|Ŕ f) c.ny.2.2.1 (s.mem _ (Y2 T)<|Y3 f) Xc λP' l y o U=>?_;calc Rh _ _ _;show YK _ P' _ kx l i y c.anf (o.congr λu _ _=>by simp[y.mem_iff]) U λa J M=>by rw[aq M];show E a J M
  .cases ha
 .intro bq m' az;apply Z9 _ _ _ az;intro P d kx ky i p c G H E;let i:kx.Perm (ay x):=i;let p:ky.Perm (ay<|x+1):=p;show h P d kx ky i p c (G.congr λu _ _=>by rw[i.mem_iff,p.mem_iff]) H E
end
end
section
def Rv:Dr a a x [] [] []:=
 (λ_ _ h _ _=>h,λ_ _ h=>h,λ_ _ h _=>h,λ_ h=>(nomatch h),λ_ h=>(nomatch h),λu n J M=>cA M J)
def Wq.zs(c:Wq e ay aw)(T:0<=x)(a:x<3):Zs e.X x [] [] [] u↔(u∈ay x\/u∈ay (x+1)):=by
 constructor
 .rintro ⟨⟨i,n⟩,J,⟨h,_⟩|⟨h,_⟩⟩
  .show .inl (((c.mem x T<|Y0 a).2.2 u).mpr (n,by rw[J,<-h]))
  .show .inr (((c.mem (x+1) (Y2 T)<|Y3 a).2.2 u).mpr (n,by rw[J,<-h]))
 rintro (h|h)
 .let(n,d):=((c.mem x T<|Y0 a).2.2 u).mp h;show(_,d,.inl<|bt rfl aM aM)
 .let(n,d):=((c.mem (x+1) (Y2 T)<|Y3 a).2.2 u).mp h;show(_,d,.inr (rfl,aM))
def qd.start(g:Wq a ay aw)(T:0<=x)(f:x<3)(d:Ac {a with pred:=P} (λu=>u∈ay x\/u∈ay (x+1)) e)(c:kb {a with pred:=P} aw):qd a {a with pred:=P} x e [] [] [] aw:=
 (d.congr λu _ _=>g.zs T f,Rv,rfl,rfl,c)
def Oa{r:Nat}(h:(nU<|fT l)[r]?=Y a):∃u v w,l[r]?=Y (u,v,w)/\a=.tup [.int u,.tup [.int v,.int w]]:=by
 delta nU fT at h
 rw[bb,bb] at h
 induction c:l[r]? with|none=>rw[c] at h;cases h|some p=>rw[c] at h;cases h;show(Oi _ _ _ rfl rfl)
def Ö{fu:Nat}{w:cC}{hB:cp w B}{n:Nat}{V:TA}{g:bf}{a:TS}{aw:Nat}{x:Int}{D:aW}{A:Int->aW}{lx:List (K0×AV)}{ky:List Int}{ak:aW}{j:Option AV}{Q:Fl->bf->Lm->Prop}(hw:Wf V)(I:Inv a Z0 e)(T:0<=x)(s:x<3)(hS:qd a t x e [] [] [] aw)(hd:∀u,N a.X u=R->N t.X u=R)(hN:aw<=40000)(E:Wq a ay aw)(U:ky.Perm (ay<|x+1))(c:Er V g D LL Dx Dy A ay x lx (fT<|ky.map<|fx a.X))(h:∀t',qd a t' x e ky.reverse [] [] (aw+ky.length)->(∀u,N a.X u=R->N t'.X u=R)->∀{fu:Nat},bH (fu+4600) ↑hB (tm w B hB (n+1) ak,Q) (ij 71<|fQ w) [] [] %[Y !V.x,Y ⇑x,Y ⇑(x+1),j,o,Y (!LL)|24] (t'\g)):bH (fu+4650) ↑hB (tm w B hB (n+1) ak,Q) (ij 70<|fQ w) [] [] %[Y !V.x,Y ⇑x,Y ⇑(x+1),j,o,Y (!LL)|24] (t\g):=by
 let xe:ky.length<=aw:=U.length_eq▸(E.mem _ (Y2 T)<|Y3 s).2.1;refine lG (C:=tm w B hB (n+1) ak) [au,au,au,au,au,au,au,L,L,L,L,au,L,L] rfl λ_ BV=>eQ (bz c.nl.1 c.l) rfl VH (_,uY c.ny.1 c.dy,⋯,?_);refine qr (bz c.ny.1 c.dy)<|mT (bz c.ny.1 c.dy) ?_
 let(p,Ji,Je):∃p:Nat->bf->Lm->Prop,(∀k t',qd a t' x e (ky.take k).reverse [] [] (aw+k)->(∀u,N a.X u=R->N t'.X u=R)->p k (t'\cD g Dy) %[Y !V.x,Y ⇑x,Y ⇑(x+1),j,o,Y (!LL)|24])/\(∀k O m,p k O m->∀i:bf->Lm->Prop,(∀t',qd a t' x e (ky.take k).reverse [] [] (aw+k)->(∀u,N a.X u=R->N t'.X u=R)->i (t'\cD g Dy) %[Y !V.x,Y ⇑x,Y ⇑(x+1),j,o,Y (!LL)|24])->i O m):=
  (λk O m=>∀i:bf->Lm->Prop,(∀t',qd a t' x e (ky.take k).reverse [] [] (aw+k)->(∀u,N a.X u=R->N t'.X u=R)->i (t'\cD g Dy) %[Y !V.x,Y ⇑x,Y ⇑(x+1),j,o,Y (!LL)|24])->i O m,λ_ t' h0 J _ κ=>κ t' h0 J,λ_ _ _ h=>h)
 refine dc p ?_ ?_<|My BV ?_
 .show Wg (eN c.ny.1)<|Ji _ t hS hd
 .intro k av bq m' ha az;apply Je _ _ _ az;intro t' f G;intro _ DS;let(u,v,w',H,rfl):=Oa ha;rw[bb] at H;clear ha;let(d,y,M):=cM.mp H;let Ar:k<ky.length:=(aL.mp y).1;clear H;let((q1,q2),J):=((E.mem (x+1) (Y2 T)<|Y3 s).2.2 d).mp (U.mem_iff.mp<|bo y);let(qO,v1,w1,e1):=E.node (x+1) d _ (Y3 s) J;rw[e1] at J;rw[yT J] at M;let(rfl,e2):=j8 M;clear M;let(rfl,rfl):=j8 e2;let Wo:d∉(ky.take k).reverse:=λq=>v9 (U.nodup_iff.mpr (E.mem _ (Y2 T)<|Y3 s).1) y<|gm.mp q;let(J8,H2):=f.mvY I G J Wo;let hs:=f.sh.yn d _ J;rw[aK Wo] at hs;let(y1,y2,y3,y4,y5):=f.vC;refine cP ∎ (lD ∎ ∎ (nC (λq=>q rfl)<|cP ∎ (A0 hw (bP y1<|ŕ hN xe Ar)<|n5 ∎ (Fh ∎ (jh (by show(N t'.pred _).isSome=au;rw[J8];rfl)<|n5 ∎ (A2 hw (bP y2<|ŕ hN xe Ar) ?_))))));let ht:(ky.take<|k+1).reverse=d::(ky.take k).reverse:=by rw[fL,y,zj];rfl
  refine DS _ _ _ (Ji _ (Bv t' d x v1 w1) (ht▸H2)<|λz hz=>?_);show N (bl t'.X d _) z=R;rw[aX,aK<|qm hz J];show G z hz
 .intro bq m' az;apply Je _ _ _ az;intro t' f G;rw[v8,vd,cE,jV] at f;dsimp only[iD.back];rw[aY c.ny.1,i6,fN c.dy];show h t' f G
end
section
variable{g:bf}{mv:List Int}{V:TA}
variable{w:cC}
section
variable{S0:SM}{x:Int}
def Cx(bD:Good S0 Z0)(y:x<3)(o:Dr S0 j x mv E D)(C:∀u n,N S0 u=Y (x+1,n)->u∈mv)(S:bc S0 Z0 v)(f:x<lv S0 v):∃k a b,N j (aT v:Int)=Y (k,a,b)/\(v.natAbs=1\/(v.natAbs≠1/\∃e d,a=Y e/\b=Y d/\e≠0/\d≠0))/\(low S0 x v/\x+1<k\/¬low S0 x v/\k=x/\v.natAbs≠1/\N S0 (aT v:Int)=Y (x+1,a,b)):=by
 let g:∀{j:SM} {i:Int} {n:Option Int×Option Int},N j (aT v:Int)=Y (i,n)->lv j v=i:=λh=>by delta lv;rw[h]
 let((i,a,b),c):=bp.mp S.1;rw[g c] at f
 let p:v.natAbs=1\/(v.natAbs≠1/\∃e d,a=Y e/\b=Y d/\e≠0/\d≠0):=by
  by_cases q:v.natAbs=1
  .show .inl q
  .let(_,_,_,e,d,A,e2,t,_,s,_):=bD.node _ i a b c (Wz q) λz=>z;show .inr (q,(nE e d A e2 (bD.C6 s)<|xi t))
 by_cases q:i=x+1
 .clear f;subst q;let m:=o.yn _ _ c;rw[bj (C _ _ c)] at m;refine(xg x a b m p<|.inr<|ek (λh=>by have:=h.2;rw[g c] at this;show WD this) rfl (λq=>?_) c);rw[show(aT v:Int)=1 from Zq q,bD.one] at c;have:=(rF c).1;show ahu this y
 .show(xg i a b (o.same _ _ c (show i≠x from xi f) q) p<|.inl ((S,by rw[g c];show Ŗ q f),by show Ŗ q f))
def Du{hB:cp w B}{t:TS}(d:Wf V)(e:N t.X (aT u:Int)=Y (c,v,w'))(f:u.natAbs=1\/(u.natAbs≠1/\∃a b,v=Y a/\w'=Y b/\a≠0/\b≠0))(h:∀a b,Q (.tup [.int c,.int a,.int b])<|t\g):Cl ↑hB (n+1) (!400) [.ref V.x,.int u] [] (t\g) Q:=
 JC d e f (λ_=>h _ _) λa b _ _ _=>h a b
def DV(S0:SM)(x:Int)(l dl:List Int):=dl.Nodup/\∀u,u∈dl↔u∈l/\∃v w,N S0 u=Y (x,Y v,Y w)/\low S0 x v/\low S0 x w
def DV.skip{dl:List Int}{w:Int}(h:DV S0 x l dl)(i:N S0 u=Y (x,Y v,Y w))(j:¬(low S0 x v/\low S0 x w)):DV S0 x (l++[u]) dl:=
 (h.1,λz=>(h.2 z).trans (λq=>(jk _ q.1,q.2),λk=>by let(q,f,w',c,e,d):=k;show(((cy.mp q).resolve_right λr=>j (by
  rw[aV.mp r,i] at c;replace c:=ax c;injection c with _ c;injection c with a b;replace a:=ax a;replace b:=ax b
  rw[a,b];show(e,d))),(fX f w' c e d))))
def DV.add{dl:List Int}{w:Int}(h:DV S0 x l dl)(d:N S0 u=Y (x,Y v,Y w))(J:low S0 x v)(M:low S0 x w)(j:u∉l):DV S0 x (l++[u]) (ff dl u)/\(ff dl u).reverse=u::dl.reverse:=by
 let c:u∉dl:=λq=>j ((h.2 u).mp q).1
 delta ff
 rw[aK c];refine((eM.mpr<|bt h.1 (vA _ u)<|λa i b f e=>c<|by rw[<-aV.mp f,<-e];show i,λz=>?_),by rw[zj];rfl);rw[cy,cy,aV,h.2 z];refine(λq=>q.elim (λq=>(.inl q.1,q.2)) λq=>((.inr q),(fX v w (q▸d) J M)),λk=>by let(q,r):=k;show q.imp (λq=>(q,r)) id)
def Y4 [Decidable p](h:p):(not (decide p))=au:=by rw[decide_eq_true h];rfl
def Ø{fu:Nat}{hB:cp w B}{n:Nat}{c:TS}{aw:Nat}{D:aW}{A:Int->aW}{ly:List (K0×AV)}{kx:List Int}{ak:aW}{H:Option AV}{Q:Fl->bf->Lm->Prop}(hw:Wf V)(I:Inv c Z0 e)(T:0<=x)(y:x<3)(hS:qd c t x e mv [] [] aw)(BZ:∀u n,N c.X u=Y (x+1,n)->u∈mv)(hd:∀u,N c.X u=R->N t.X u=R)(hN:aw<=40000)(hM:h2<=3900)(HX:Wq c ay h2)(Dt:kx.Perm (ay x))(i:Er V g D LL Dx Dy A ay x (fT<|kx.map<|fx c.X) ly)(h:∀t' dl d,qd c t' x e mv dl.reverse [] (aw+kx.length)->(∀u,N c.X u=R->N t'.X u=R)->DV c.X x kx dl->d∉V.list->g d=R->∀{fu:Nat},bH (fu+4500) ↑hB (tm w B hB (n+2) ak,Q) (ij 76<|fQ w) [] [] %[Y !V.x,Y ⇑x,Y ⇑(x+1),H,z4,Y !LL,R,R,R,R,R,R,R,R,Y (!d)|15] (t'\(aB g d<|.set dl))):bH (fu+4600) ↑hB (tm w B hB (n+2) ak,Q) (ij 71<|fQ w) [] [] %[Y !V.x,Y ⇑x,Y ⇑(x+1),H,z4,Y (!LL)|24] (t\g):=by
 let bD:=I.good;let jn:kx.Nodup:=Dt.nodup_iff.mpr (HX.mem _ (T)<|Y0 y).1;let xe:kx.length<=h2:=Dt.length_eq▸(HX.mem _ (T)<|Y0 y).2.1;refine nh λd d1 d2=>?_;let dX:d≠Dx:=qm d2 i.dx;let dL:d≠LL:=qm d2 i.l;refine lG (C:=tm w B hB (n+2) ak) [au,au,au,au,au,au,au,L,L,L,L,au,L,L,au,L,L,L,L,L,L] rfl λ_ BV=>eQ (bz i.nl.1<|by rw[aq (aE dL)];show i.l) rfl PK ?_;let Y6:aB g d (.set []) Dx=Y (.dict<|fT<|kx.map<|fx c.X):=by rw[aq (aE dX)];show i.dx
 refine(_,uY i.nx.1 Y6,⋯,?_);refine qr (bz i.nx.1 Y6)<|mT (bz i.nx.1 Y6) ?_
 let(h1,Ji,Je):∃h1:Nat->bf->Lm->Prop,(∀k t' dl,qd c t' x e mv dl.reverse [] (aw+k)->(∀u,N c.X u=R->N t'.X u=R)->DV c.X x (kx.take k) dl->h1 k (t'\(aB (cD g Dx) d<|.set dl)) %[Y !V.x,Y ⇑x,Y ⇑(x+1),H,z4,Y !LL,R,R,R,R,R,R,R,R,Y (!d)|15])/\(∀k O m,h1 k O m->∀G:bf->Lm->Prop,(∀t' dl,qd c t' x e mv dl.reverse [] (aw+k)->(∀u,N c.X u=R->N t'.X u=R)->DV c.X x (kx.take k) dl->G (t'\(aB (cD g Dx) d<|.set dl)) %[Y !V.x,Y ⇑x,Y ⇑(x+1),H,z4,Y !LL,R,R,R,R,R,R,R,R,Y (!d)|15])->G O m):=
  (λk O m=>∀G:bf->Lm->Prop,(∀t' dl,qd c t' x e mv dl.reverse [] (aw+k)->(∀u,N c.X u=R->N t'.X u=R)->DV c.X x (kx.take k) dl->G (t'\(aB (cD g Dx) d<|.set dl)) %[Y !V.x,Y ⇑x,Y ⇑(x+1),H,z4,Y !LL,R,R,R,R,R,R,R,R,Y (!d)|15])->G O m,λ_ t' dl h0 J M _ κ=>κ t' dl h0 J M,λ_ _ _ h=>h)
 refine dc h1 ?_ ?_<|My BV ?_
 .show Wg (by show cD (t\_) Dx=_;rw[eN i.nx.1,fA dX]) (Ji _ t [] hS hd (jW,λu=>(nofun,λq=>(nomatch q.1))))
 .intro k av bq m' ha az;apply Je _ _ _ az;intro t' dl j E s;intro _ DS;let(u,v,w',hu,rfl):=Oa ha;rw[bb] at hu;clear ha;let(f,J9,e'):=cM.mp hu;let Ar:k<kx.length:=(aL.mp J9).1;clear hu;let((q1,q2),J):=((HX.mem x T<|Y0 y).2.2 f).mp (Dt.mem_iff.mp<|bo J9);let(qO,v1,w1,e1):=HX.node x f _ (Y0 y) J;rw[e1] at J;rw[yT J] at e';let(rfl,e2):=j8 e';clear e';let(rfl,rfl):=j8 e2;let Wo:f∉kx.take k:=v9 jn J9;let hud:f∉dl.reverse:=λq=>Wo ((s.2 f).mp (gm.mp q)).1;let ht:kx.take (k+1)=kx.take k++[f]:=by rw[fL,J9];rfl
  let hs:=j.sh.xn f _ J aM;rw[aK hud] at hs;let(_,_,_,v2,w2,e3,e4,p4,_,p6,p7,p8,p9):=bD.node f x _ _ J (xi qO) λz=>z;replace e3:=ax e3;replace e4:=ax e4;subst e3 e4;let Il:=bD.C6 p6;let(iv,va,vb,cv1,cv2,cv3):=Cx bD y j.sh BZ p6 p8;let(iw,wa,wb,cw1,cw2,cw3):=Cx bD y j.sh BZ p7 p9;let(y1,y2,y3,y4,y5):=j.vC;refine cP ∎ (lD ∎ ∎ (nC (λq=>q rfl)<|jh (Y4 Il)<|jh (Y4<|show w1≠0 by show xi p4)<|dR ∎ (Du hw cv1 cv2 λa b=>dR ∎ (Du hw cw1 cw2 λa2 b2=>?_))));let skip:(¬(low c.X x v1/\low c.X x w1))->qd c t' x e mv dl.reverse [] (aw+(k+1))/\DV c.X x (kx.take<|k+1) dl:=λhn=>({j with vC:=j.vC.le ahv},ht▸s.skip J hn);by_cases p:iv<=x+1
  .refine nu p<|rT rfl ?_;let(s1,U):=skip λq=>cv3.elim (λq=>ŗ q p) λr=>r.1 q.1;show DS _ _ _<|Ji _ t' dl s1 E U
  .refine nC p ?_;by_cases o:iw<=x+1
   .refine nu o<|rT rfl ?_;let(s1,U):=skip λq=>cw3.elim (λq=>ŗ q o) λr=>r.1 q.2;show DS _ _ _<|Ji _ t' dl s1 E U
   .refine nC o<|jh rfl<|cP ∎ ?_;let lv:low c.X x v1:=cv3.elim And.left λr=>(Ř r p).elim;let lw:low c.X x w1:=cw3.elim And.left λr=>(Ř r o).elim;let(J8,H2):=j.dnX I BZ E J lv lw hud;refine A0 hw (bP y1<|ř hN hM xe Ar) (n5 ∎ (Fh ∎ (jh (by show(N t'.pred _).isSome=au;rw[J8];rfl)<|n5 ∎ (A2 hw (bP y2<|ř hN hM xe Ar) (_,jj d1 ar,⋯,?_)))));let(s1,U):=s.add J lv lw Wo;let cL:dl.length<=kx.length:=bS s.1 λz hz=>qL ((s.2 z).mp hz).1;calc gU d1 ar (o_ cL xe hM);rw[bQ];refine DS _ _ _ (Ji _ (Bv t' f (x+1) v1 w1) (ff dl f) (U▸H2) (λz hz=>?_)<|ht▸s1);show N (bl t'.X f _) z=R;rw[aX,aK<|qm hz J];show E z hz
 .intro bq m' az;apply Je _ _ _ az;intro t' dl j E s;rw[v8,vd,cE] at j s;rw[jV] at s;dsimp only[iD.back];rw[aY i.nx.1,gf dX,i6,fN i.dx];show h t' dl d j E s d1 d2
end
end
section
variable{Df ak:aW}{w':Int}{mv:List Int}{fu n:Nat}{GQ Cu vD N9 Ob Mb Aw Oc Od z3 z7 z8 z9:Option AV}{V:TA}
variable{w:cC}
section
variable{S0:SM}{e:Int->Int}{x:Int}
structure Cof(S0:SM)(x v iv v0 v1:Int):Prop where
 ge:x+1<=iv
 lo:x+1=iv↔¬low S0 x v
 tc:kN S0 v (x+1)=if v<0/\x+1=iv then(-v0,-v1) else(v0,v1)
def Dv{hB:cp w B}{g:bf}{f:TS}(o:Wf V)(bD:Good f.X Z0)(z:x<3)(H:Dr f.X t.X x mv dn O)(I:∀u n,N f.X u=Y (x+1,n)->u∈mv)(S:bc f.X Z0 v)(p:x<lv f.X v)(h:∀m k v1,Cof f.X x v m k v1->Q (.tup [.int m,.int k,.int v1]) (t\g)):Cl ↑hB (n+1) (!407) [.ref V.x,.int v,.int<|x+1] [] (t\g) Q:=by
 let(T,a,b,J,M,d):=Cx bD z H I S p;clear M;let(_,_,_,s):=z0 bD z S p;rcases d with⟨d,c⟩|⟨d,c,U,y⟩
 .refine Bh o J (.inl c) (λ_=>h _ _ _ (Ew c,(λq=>ahw q c,λq=>absurd d q),?_)) λ_ _ q _ _=>absurd c q;rw[aK (λq=>ahx c q)];show s.elim And.right λq=>by let(_,C,A,i,_):=q;have:=d.2;unfold lv at this;rw[i] at this;show absurd this<|ux _
 .let(_,C,A,i,G,E,_,_,D):=s.resolve_left λq=>d q.1;rw[i] at y;let(rfl,rfl):=j8 (rF y).2;refine Bh o J (.inr ((ahy c),(nE C A rfl rfl E<|xi G))) (λq=>(ahz q c).elim) λa b _ j e2=>?_;replace j:=ax j;replace e2:=ax e2;subst j e2;refine h _ _ _ (dm _,(λ_=>d,λ_=>rfl),?_);rw[D];by_cases q:v<0
  .rw[bj q,bj (q,rfl)]
  .rw[aK q,aK λr=>q r.1]
def qd.YP(g:qd j t x e mv m i aw)(h:N t.ref k=Y c):qd j {t with ref:=bl t.ref k (c+d)} x (λz=>e z+if z=k then d else 0) mv m i aw:=
 (g.ac.YP h λz=>dm _,g.sh,g.vars,g.e8,by let(a,b,p,o,f):=g.vC;show(a,b,by show(bl t.ref k _).length<=aw;rw[jg (h▸rfl)];show p,o,f))
def Ip{hB:cp w B}{g:bf}(p:Wf V)(f:qd m t x e mv u j aw)(s:aw<=90000)(q:(N t.X (aT k:Int)).isSome=L)(o:0<jZ t.X (aT k:Int)+e (aT k:Int))(h:∀a,qd m a x (λz=>e z+if z=(aT k:Int) then-1 else 0) mv u j aw->a.X=t.X->a.pred=t.pred->Q .none (a\g)):Cl ↑hB (n+1) (!107) [.ref V.x,.int k] [] (t\g) Q:=by let(c,i,v):=f.ac.ref _ q;show Dk p i (bP f.vC.2.2.1<|Y83 s) (ë o v)<|h _ (f.YP (d:= -1) i) rfl rfl
def Iq{hB:cp w B}{g:bf}(o:Wf V)(f:qd m t x e mv s j aw)(q:aw<=90000)(p:(N t.X (aT k:Int)).isSome=L)(h:∀a,qd m a x (λz=>e z+if z=(aT k:Int) then 1 else 0) mv s j aw->a.X=t.X->Q .none (a\g)):Cl ↑hB (n+1) (!100) [.ref V.x,.int k] [] (t\g) Q:=by let(c,i,u):=f.ac.ref _ p;show Dh o i (bP f.vC.2.2.1<|Y83 q)<|h _ (f.YP (d:=1) i) rfl
def PL(e:Int->Int)(v w:Int):=λz=>(e z+if z=(aT v:Int) then-1 else 0)+if z=(aT w:Int) then-1 else 0
def Ù{B:Fz}{hB:cp w B}{t:TS}{g:bf}{a:TS}{C:List Int}{aw:Nat}{u v:Int}{d:aW}{z4 Ds:Option AV}{Q:Fl->bf->Lm->Prop}(s:Wf V)(bD:Good a.X Z0)(T:0<=x)(I:x<3)(he:∀z,0<=e z)(y:qd a t x e mv dn C aw)(hN:aw<=40000)(BZ:∀u n,N a.X u=Y (x+1,n)->u∈mv)(J:N a.X u=Y (x,Y v,Y w'))(hu:u∉dn)(V0:u∉C)(m:d∉V.list)(gG:g d=Y (.set H))(Đ:H.length<=3900)(h:∀k p j v1 o i f z8 Cu,qd a k x (PL e v w') mv dn C aw->k.X=t.X->Cof a.X x v p j v1->Cof a.X x w' o i f->∀{fu:Nat},bH (fu+3800) ↑hB (tm w B hB (n+2) ak,Q) (ij 73<|dM (fQ w) 84) [] [] %[Y !V.x,Y ⇑x,Y ⇑(x+1),z3,z4,z5,z6,Y ⇑u,z8,Y ⇑v,Y ⇑w',Ds,Cu,Dn,vD,Y ⇑p,Y ⇑j,Y ⇑v1,Y ⇑o,Y ⇑i,Y ⇑f,Y !d,GR,Oc,Od|5] (k\(aB g d<|.set<|ff (ff H (aT v:Int)) w'))):bH (fu+3950) ↑hB (tm w B hB (n+2) ak,Q) (ij 13<|dM (fQ w) 84) [] [] %[Y !V.x,Y ⇑x,Y ⇑(x+1),z3,z4,z5,z6,Y ⇑u,z8,Y ⇑v,Y ⇑w',Ds,Cu,Dn,vD,N9,Ob,Rw,Rx,Oe,Mb,Y !d,GR,Oc,Od|5] (t\g):=by
 let(p1,_,_,v2,w2,O,M,p4,_,E,p7,p8,p9):=bD.node u x _ _ J (λq=>by rw[q,bD.one] at J;have:=(rF J).1;show Y84 this I T) λz=>z;replace O:=ax O;replace M:=ax M;subst O M;let G:=y.sh.xn u _ J V0;rw[aK hu] at G;let Il:=bD.C6 E;let Æ:((w'.natAbs:Nat):Int)=w':=i? p4;let sv:=(y.sh.bc E).1;let D:=(y.sh.bc p7).1;let gv:=xH (u:=(aT v:Int)) G;let gw:=xH (u:=(aT w':Int)) G;let ev:nt (x,Y v,Y w') (aT v:Int)=1+kZ (Y w') (aT v:Int):=by show kZ _ _+_=_;rw[vV]
 let A:nt (x,Y v,Y w') (aT w':Int)=(if(aT v:Int)=w'.natAbs then 1 else 0)+1:=by show kZ (Y v) _+kZ _ _=_;rw[vV];rfl
 let nn:0<=kZ (Y w') (aT v:Int):=xB;let Wc:=he (aT v:Int);let c:=he (aT w':Int);refine cP ∎ (lD ∎ ∎ (nC (λq=>q rfl)<|jh (Y4 Il)<|jh (Y4<|show w'≠0 by show xi p4)<|dR ∎ (Ip s y (Ś hN) sv (ahA ev Wc nn gv) λt1 H1 U _=>dR ∎ (Ip s H1 (Ś hN) (by rw[U];show D) ?_ λk H2 e2 _=>?_))))
 .rw[U];by_cases q:(aT w':Int)=v.natAbs
  .rw[bj q];rw[bj q.symm] at A;show ahB A c gw
  .rw[aK q];rw[aK (λr=>q r.symm)] at A;show ahC A c gw
 refine(_,jj m gG,⋯,?_);refine gU m gG (Y85 Đ) (_,jj m ar,⋯,?_);calc gU m ar (by have:= @i9 H (aT v:Int);show ahD this Đ);rw[bQ];refine dR ∎ (Dv s bD I H2.sh BZ E p8 λp j v1 c1=>dR ∎ (Dv s bD I H2.sh BZ p7 p9 λo i f c2=>?_));show bH _ _ _ (ij 73<|dM (fQ w) 84) [] [] _ _;show h _ p j v1 o i f _ _ H2 (e2.trans U) c1 c2
def Za{hB:cp w B}{c a:Int}{d:Option AV}{Q:Fl->bf->Lm->Prop}(j:x+1<=c)(i:x+1<=a)(h:∀{fu:Nat},bH (fu+3770) ↑hB (tm w B hB (n+1) ak,Q) (ij 80<|dM (fQ w) 84) [] [] %[Y !V.x,Y ⇑x,Y ⇑(x+1),z3,g,d,f,z7,z8,z9,GQ,p,Cu,q,vD,Y ⇑c,Ob,k,Y ⇑a,m,Mb,Aw,o,Oc,Od|5] O):bH (fu+3800) ↑hB (tm w B hB (n+1) ak,Q) (ij 73<|dM (fQ w) 84) [] [] %[Y !V.x,Y ⇑x,Y ⇑(x+1),z3,g,d,f,z7,z8,z9,GQ,p,Cu,q,vD,Y ⇑c,Ob,k,Y ⇑a,m,Mb,Aw,o,Oc,Od|5] O:=by refine nu j<|nu i<|jh () ?_;show bH _ _ _ (ij 80<|dM (fQ w) 84) [] [] _ _;show h
def Zb{hB:cp w B}{a c:Int}{d:Option AV}{Q:Fl->bf->Lm->Prop}(i:x+1=a\/x+1=c)(h:∀{fu:Nat},bH (fu+3740) ↑hB (tm w B hB (n+1) ak,Q) (ij 87<|dM (fQ w) 84) [] [] %[Y !V.x,Y ⇑x,Y ⇑(x+1),z3,g,d,f,z7,z8,z9,GQ,o,Cu,p,vD,Y ⇑a,Ob,j,Y ⇑c,k,Mb,Aw,m,Oc,Od|5] O):bH (fu+3770) ↑hB (tm w B hB (n+1) ak,Q) (ij 80<|dM (fQ w) 84) [] [] %[Y !V.x,Y ⇑x,Y ⇑(x+1),z3,g,d,f,z7,z8,z9,GQ,o,Cu,p,vD,Y ⇑a,Ob,j,Y ⇑c,k,Mb,Aw,m,Oc,Od|5] O:=by
 by_cases J:x+1=a
 .refine nu J<|jh rfl ?_;show bH _ _ _ (ij 87<|dM (fQ w) 84) [] [] _ _;show h
 .refine nC J<|nu (i.resolve_left J)<|jh rfl ?_;show bH _ _ _ (ij 87<|dM (fQ w) 84) [] [] _ _;show h
def Zc{hB:cp w B}{v c f:Int}{d g:Option AV}{Q:Fl->bf->Lm->Prop}(k:Cof S0 x v c f v1)(h:∀{fu:Nat},bH (fu+3700) ↑hB (tm w B hB (n+1) ak,Q) (ij 93<|dM (fQ w) 84) [] [] %[Y !V.x,Y ⇑x,Y ⇑(x+1),z3,j,d,i,z7,z8,Y ⇑v,GQ,s,Cu,g,vD,Y ⇑c,Y ⇑(kN S0 v<|x+1).1,Y ⇑(kN S0 v<|x+1).2,m,o,Mb,Aw,p,Oc,Od|5] O):bH (fu+3740) ↑hB (tm w B hB (n+1) ak,Q) (ij 87<|dM (fQ w) 84) [] [] %[Y !V.x,Y ⇑x,Y ⇑(x+1),z3,j,d,i,z7,z8,Y ⇑v,GQ,s,Cu,g,vD,Y ⇑c,Y ⇑f,Y ⇑v1,m,o,Mb,Aw,p,Oc,Od|5] O:=by
 let a:=k.tc;by_cases J:v<0
 .refine nu J ?_;by_cases M:x+1=c
  .rw[bj (J,M)] at a;refine nu M<|rT rfl ?_;rw[a] at h;show bH _ _ _ (ij 93<|dM (fQ w) 84) [] [] _ _;show h
  .rw[aK (λq=>M q.2)] at a;refine nC M<|jh rfl ?_;rw[a] at h;show bH _ _ _ (ij 93<|dM (fQ w) 84) [] [] _ _;show h
 .rw[aK (λq=>J q.1)] at a;refine nC J<|jh rfl ?_;rw[a] at h;show bH _ _ _ (ij 93<|dM (fQ w) 84) [] [] _ _;show h
def VI{hB:cp w B}{g:bf}{aw:Nat}(s:Wf V)(I:Inv a Z0 e)(T:0<=x)(o:x<3)(J:a.vars=n9)(d:qd a t x z mv A p aw)(y:aw<=80000)(S:low a.X x v)(i:low a.X x w')(h:∀r t',qd a t' x z mv A p (aw+1)->Ext t.X t'.X->l8 a.X t'.X x r->(∀G,DD a.X t'.X x r G=if G (x+1) then den a.X w' G else den a.X v G)->(0<w'->0<r)->Q ⇑r (t'\g)):Cl ↑hB (n+3) (!363) [.ref V.x,.int<|x+1,.int v,.int w'] [] (t\g) Q:=by
 let v1:=(d.sh.low S).1.1;let f:=(d.sh.low i).1.1;let j:∀{k:Int},(N t.X k).isSome=L->(N t.ref k).isSome=L:=λq=>by let(c,C,_):=d.ac.ref _ q;rw[C];rfl
 let m:t.vars.length=4:=by rw[d.vars,J];rfl
 refine F0 s (Y2 T) (by rw[m];show Ŕ o) v1 f (by rw[m];decide) (ahE y) d.vC d.ac.G8 d.ac.A8 (j v1) (j f) λr t' u=>?_;let(a1,a2,H,E,D):=d.Ϟ I T o S i u;show h r t' a1 a2 H E D
def Zd{B:Fz}{hB:cp w B}{t c:TS}{o:List Int}{A:Int->Int}{aw:Nat}{u v:Int}{D Ds:Option AV}{Q:Fl->bf->Lm->Prop}(M:Wf V)(I:Inv c Z0 e)(T:0<=x)(i:x<3)(U:c.vars=n9)(hS:qd c t x A mv C o aw)(O:aw<=70000)(J:N c.X u=Y (x,Y v,Y w'))(hu:u∉C)(V0:u∉o)(jn:¬(low c.X x v/\low c.X x w'))(h:∀d p q,qd c d x A mv C o (aw+2)->Ext t.X d.X->l8 c.X d.X x p->l8 c.X d.X x q->0<q->(N d.pred (x,Y p,Y q)=R/\∀j,(∀z,nt (x,Y p,Y q) z+j z<=nt (x,Y v,Y w') z+A z)->qd c (Bv d u x p q) x j mv C (u::o) (aw+3))->∀{fu:Nat},bH (fu+3640) ↑hB (tm w B hB (n+4) ak,Q) (ij 117<|dM (fQ w) 84) [] [] %[Y !V.x,Y ⇑x,Y ⇑(x+1),z3,D,z5,z6,z7,z8,z9,GQ,Ds,Cu,Dn,vD,N9,Y ⇑(kN c.X v<|x+1).1,Y ⇑(kN c.X v<|x+1).2,Rx,Y ⇑(kN c.X w'<|x+1).1,Y ⇑(kN c.X w'<|x+1).2,Aw,GR,Y ⇑p,Y ⇑q|5] (d\g)):bH (fu+3700) ↑hB (tm w B hB (n+4) ak,Q) (ij 93<|dM (fQ w) 84) [] [] %[Y !V.x,Y ⇑x,Y ⇑(x+1),z3,D,z5,z6,z7,z8,z9,GQ,Ds,Cu,Dn,vD,N9,Y ⇑(kN c.X v<|x+1).1,Y ⇑(kN c.X v<|x+1).2,Rx,Y ⇑(kN c.X w'<|x+1).1,Y ⇑(kN c.X w'<|x+1).2,Aw,GR,Oc,Od|5] (t\g):=by
 refine hide λ_ kP=>?_;let bD:=I.good;let(p1,_,_,v2,w2,j,y,H,_,p6,p7,p8,p9):=bD.node u x _ _ J (λq=>by rw[q,bD.one] at J;have:=(rF J).1;show Y84 this i T) λz=>z;replace j:=ax j;replace y:=ax y;subst j y;let(a1,a2,_,_):=z0 bD i p6 p8;let(b1,b2,_,k):=z0 bD i p7 p9
 let Ca:0<(kN c.X w'<|x+1).2:=by
  rcases k with⟨_,k⟩|⟨_,a,b,_,b5,_,_,_,k⟩
  .rw[k];show H
  .rw[k,aK<|Ğ H];show b5
 refine kP (dR ∎ (VI M I T i U hS (ahF O) a1 b1 λp t1 H1 x1 s d1 _=>dR ∎ (VI M I T i U H1 (ahG O) a2 b2 λq t2 H2 m E d2 q0=>?_)));let f:=q0 Ca;calc nC (show¬q<0 from Ğ f);let(k1,k2,k3):=H2.turn I T i J hu V0 jn (m.l8 s) E f (λG=>by rw[m.DD s];show d1 G) d2;calc nC k1;show bH _ _ _ (ij 117<|dM (fQ w) 84) [] [] _ _;show h t2 p q H2 (x1.trans m) (m.l8 s) E f (k2,k3)
def Ze{B:Fz}{hB:cp w B}{t:TS}{g:bf}{s:TS}{G:List Int}{p:Int}{o A:Option AV}{Q:Fl->bf->Lm->Prop}(T:Wf V)(y:Dr s.X t.X x mv U G)(c:l8 s.X t.X x p)(u:Df∉V.list)(k:g Df=Y (.set j))(E:j.length<=3900)(h:∀m:List Int,(∀z∈m,z∈j\/∃v w,N t.X z=Y (x+1,Y v,Y w))->m.length<=j.length+1->∀{fu:Nat},bH (fu+3600) ↑hB (tm w B hB (n+1) ak,Q) (ij 128<|dM (fQ w) 84) [] [] %[Y !V.x,Y ⇑x,Y ⇑(x+1),z3,o,D,C,z7,z8,z9,GQ,A,Cu,O,vD,N9,Ob,J,I,M,Mb,Aw,Y !Df,Y ⇑p,Od|5] (t\(aB g Df<|.set m))):bH (fu+3640) ↑hB (tm w B hB (n+1) ak,Q) (ij 117<|dM (fQ w) 84) [] [] %[Y !V.x,Y ⇑x,Y ⇑(x+1),z3,o,D,C,z7,z8,z9,GQ,A,Cu,O,vD,N9,Ob,J,I,M,Mb,Aw,Y !Df,Y ⇑p,Od|5] (t\g):=by
 let((i,a,b),d):=bp.mp (y.l8 c).1.1;refine cP ∎ (gh ∎ ∎ (AN ∅ (bg rfl) rfl ?_));by_cases f:i=x+1
 .refine nu f (_,jj u k,⋯,?_);calc gU u k (Y85 E);show bH _ _ _ (ij 128<|dM (fQ w) 84) [] [] _ _;refine h _ (λz hz=>?_) i9;rcases f5.mp hz with q|q
  .show .inl q
  .refine .inr ?_;rw[q,d,f];rcases c with c|⟨v,w',H,_⟩
   .have:=(y.low c).2;unfold lv at this;rw[d] at this;have:x+1<i:=this;show(xi this f).elim
   .rw[H] at d;show(rY v w'<|by rw[(rF d).2])
 .refine nC f ?_;let hh:=λfu=>h (fu:=fu) j (λz hz=>.inl hz)<|lM _;show bH _ _ _ (ij 128<|dM (fQ w) 84) [] [] _ _;rw[fN k] at hh;show hh _
def Zf{B:Fz}{hB:cp w B}{t:TS}{g:bf}{y:TS}{J:List Int}{p:Int}{u E:Option AV}{Q:Fl->bf->Lm->Prop}(hw:Wf V)(D:Dr y.X t.X x mv dn J)(c:l8 y.X t.X x p)(k:0<p)(A:Df∉V.list)(m:g Df=Y (.set j))(I:j.length<=3900)(h:∀o:List Int,(∀z∈o,z∈j\/∃v w,N t.X z=Y (x+1,Y v,Y w))->o.length<=j.length+1->∀{fu:Nat},bH (fu+3560) ↑hB (tm w B hB (n+1) ak,Q) (ij 138<|dM (fQ w) 84) [] [] %[Y !V.x,Y ⇑x,Y ⇑(x+1),z3,u,H,G,z7,z8,z9,GQ,E,Cu,U,vD,N9,Ob,O,M,T,Mb,Aw,Y !Df,Oc,Y ⇑p|5] (t\(aB g Df<|.set o))):bH (fu+3600) ↑hB (tm w B hB (n+1) ak,Q) (ij 128<|dM (fQ w) 84) [] [] %[Y !V.x,Y ⇑x,Y ⇑(x+1),z3,u,H,G,z7,z8,z9,GQ,E,Cu,U,vD,N9,Ob,O,M,T,Mb,Aw,Y !Df,Oc,Y ⇑p|5] (t\g):=by
 let s:((p.natAbs:Nat):Int)=p:=i? k;let((i,a,b),d):=bp.mp (D.l8 c).1.1;rw[s] at d;refine cP ∎ (gh ∎ ∎ (AN ∅ (bg rfl) rfl ?_));by_cases f:i=x+1
 .refine nu f (_,jj A m,⋯,?_);calc gU A m (Y85 I);show bH _ _ _ (ij 138<|dM (fQ w) 84) [] [] _ _;refine h _ (λz hz=>?_) i9;rcases f5.mp hz with q|q
  .show .inl q
  .refine .inr ?_;rw[q,d,f];rcases c with c|⟨v,w',C,_⟩
   .have:=(D.low c).2;unfold lv at this;rw[s,d] at this;have:x+1<i:=this;show(xi this f).elim
   .rw[s,d] at C;show(rY v w'<|by rw[(rF C).2])
 .refine nC f ?_;let hh:=λfu=>h (fu:=fu) j (λz hz=>.inl hz)<|lM _;show bH _ _ _ (ij 138<|dM (fQ w) 84) [] [] _ _;rw[fN m] at hh;show hh _
def qd.Ú(f:qd d t x e mv g c aw)(h:∀z,e z=a z):qd d t x a mv g c aw:=(funext h:e=a)▸f
def Zg{B:Fz}{hB:cp w B}{t:TS}{g:bf}{s:TS}{o:List Int}{aw:Nat}{u v p q:Int}{i C:Option AV}{Q:Fl->bf->Lm->Prop}(d:Wf V)(f:aw<=70000)(hu:(N t.X u).isSome=L)(T:kb t aw)(M:(N t.X (aT p:Int)).isSome=L)(J:(N t.X (aT q:Int)).isSome=L)(J8:N t.pred (x,Y p,Y q)=R)(U:∀y,(∀z,nt (x,Y p,Y q) z+y z<=nt (x,Y v,Y w') z+PL e v w' z)->qd s (Bv t u x p q) x y mv dn (u::o) (aw+1))(h:∀j D,qd s j x e mv dn (u::o) (aw+1)->j.X=bl t.X u (x,Y p,Y q)->Q .next (j\g) %[Y !V.x,Y ⇑x,Y ⇑(x+1),z3,i,m,E,Y ⇑u,z8,z9,GQ,C,Cu,D,vD,N9,Ob,Rw,Rx,Oe,Mb,Aw,GR,Y ⇑p,Y ⇑q|5]):bH (fu+3560) ↑hB (tm w B hB (n+2) ak,Q) (ij 138<|dM (fQ w) 84) [] [] %[Y !V.x,Y ⇑x,Y ⇑(x+1),z3,i,m,E,Y ⇑u,z8,z9,GQ,C,Cu,D,vD,N9,Ob,Rw,Rx,Oe,Mb,Aw,GR,Y ⇑p,Y ⇑q|5] (t\g):=by
 let mono:∀k,(N t.X k).isSome=L->(N (Bv t u x p q).X k).isSome=L:=λk O=>by
  show(N (bl t.X u _) k).isSome=L;rw[aX];split
  .rfl
  .show O
 let(H,G,z3,i,m):=T;let H0:=U (λz=>nt (x,Y v,Y w') z+PL e v w' z-nt (x,Y p,Y q) z) λz=>ahH;refine cP ∎ (A0 d (bP H<|ś f)<|n5 ∎ (Fh ∎ (jh (by show(N t.pred _).isSome=au;rw[J8];rfl)<|n5 ∎ (A2 d (bP G<|ś f)<|dR ∎ (Iq d H0 (Ŝ f) (mono _ M) λt1 H1 A=>dR ∎ (Iq d H1 (Ŝ f) (by rw[A];show mono _ J) λI H2 e2=>h I _ (H2.Ú λz=>?_)<|e2.trans A))))))
 delta PL nt kZ
 let flip:∀{a b:Int},(if a=b then(1:Int) else 0)=if b=a then 1 else 0:=fun{a b}=>by
  by_cases q:a=b
  .rw[bj q,bj q.symm]
  .rw[aK q,aK<|λr=>q r.symm]
 let neg:∀{c:Prop} [Decidable c],(if c then(-1:Int) else 0)= -(if c then 1 else 0):=fun{c} _=>by split<;>rfl
 rw[neg,neg, @flip z (v.natAbs), @flip z (w'.natAbs), @flip z (p.natAbs), @flip z (q.natAbs)];show ahI
end
end
section
def VJ{fu:Nat}{w:cC}{B:Fz}{hB:cp w B}{n:Nat}{V:TA}{t:TS}{g:bf}{c:TS}{mv G:List Int}{e:Int->Int}{aw:Nat}{x u v w':Int}{i j ak:aW}{z3 z4 C Ds E vD N9 Ob Mb Oc Od:Option AV}{Q:Fl->bf->Lm->Prop}(o:Wf V)(I:Inv c Z0 e)(T:0<=x)(eG:x<3)(Il:c.vars=n9)(he:∀z,0<=e z)(hS:qd c t x e mv dn G aw)(U:aw<=40000)(BZ:∀u n,N c.X u=Y (x+1,n)->u∈mv)(J:N c.X u=Y (x,Y v,Y w'))(M:u∉dn)(V0:u∉G)(jn:¬(low c.X x v/\low c.X x w'))(nG:i∉V.list)(gG:g i=Y (.set gl))(Đ:gl.length<=3800)(nF:j∉V.list)(gF:g j=Y (.set D))(wF:D.length<=3800)(Û:i≠j)(h:∀d (Ky:List Int) C E Dn N9 Ob Rw Rx Oe Mb Oc Od,qd c d x e mv dn (u::G) (aw+3)->(∀z v w,N t.X z=Y (x+1,Y v,Y w)->N d.X z=Y (x+1,Y v,Y w))->(∀z∈Ky,z∈D\/∃v w,N d.X z=Y (x+1,Y v,Y w))->Ky.length<=D.length+2->Q .next (d\(aB (aB g i<|.set<|ff (ff gl (aT v:Int)) w') j<|.set Ky)) %[Y !V.x,Y ⇑x,Y ⇑(x+1),z3,z4,z5,z6,Y ⇑u,C,Y ⇑v,Y ⇑w',Ds,E,Dn,vD,N9,Ob,Rw,Rx,Oe,Mb,Y !i,Y !j,Oc,Od|5]):bH (fu+3950) ↑hB (tm w B hB (n+4) ak,Q) (ij 13<|dM (fQ w) 84) [] [] %[Y !V.x,Y ⇑x,Y ⇑(x+1),z3,z4,z5,z6,Y ⇑u,C,Y ⇑v,Y ⇑w',Ds,E,Dn,vD,N9,Ob,Rw,Rx,Oe,Mb,Y !i,Y !j,Oc,Od|5] (t\g):=by
 let bD:=I.good;refine Ù o bD T eG he hS U BZ J M V0 nG gG (ŝ Đ) λt2 iv v0 v1 iw w0 w1 C E H2 e2 c1 c2=>?_;intro _
 let anh:x+1=iv\/x+1=iw:=by
  by_cases q:x+1=iv
  .show .inl q
  .show .inr (c2.lo.mpr λr=>jn (Classical.not_not.mp λs=>q<|c1.lo.mpr s,r))
 let Ni:0<w':=by let(_,_,_,v2,w2,e3,A,p4,_):=bD.node u x _ _ J (λq=>by rw[q,bD.one] at J;have:=(rF J).1;show Y84 this eG T) λz=>z;replace A:=ax A;show s9 A p4
 let f:=c2.tc;rw[aK (λq=>ahJ q Ni)] at f;calc Za c1.ge c2.ge;intro _;calc Zb anh;intro _;calc Zc c1;intro _;rw[show w0=(kN c.X w'<|x+1).1 by rw[f],show w1=(kN c.X w'<|x+1).2 by rw[f]];refine Zd o I T eG Il H2 (ahK U) J M V0 jn λt3 p q k X3 lp lq q0 qo=>?_;intro _;let gF2:aB g i (.set<|ff (ff gl (aT v:Int)) w') j=Y (.set D):=by rw[aq (aE Û)];show gF
 refine Ze o k.sh lp nF gF2 (ŝ wF) λf1 Ov m=>?_;intro _;refine Zf o k.sh lq q0 nF ar (ahL m wF) λf2 O H=>?_;intro _;rw[bQ];let y:N t3.X u=Y (x,Y v,Y w'):=by have:=k.sh.xn u _ J V0;rwa [aK M] at this
 refine Zg o (ahM U) (by rw[y];rfl) k.vC (k.sh.l8 lp).1.1 (k.sh.l8 lq).1.1 qo.1 qo.2 λd Dn H4 A=>?_
 let keep:∀z v w,N t3.X z=Y (x+1,Y v,Y w)->N d.X z=Y (x+1,Y v,Y w):=λz a b hz=>by rw[A,aX,aK (λq=>by rw[q,y] at hz;have:=(rF hz).1;show Zt this)];show hz
 refine h d f2 _ _ _ _ _ _ _ _ _ _ _ H4 (λz a b hz=>keep z a b<|X3 _ _<|by rw[e2];show hz) (λz hz=>?_)<|ahN H m;rcases O z hz with r|⟨a,b,r⟩
 .show(Ov z r).imp id λec=>by let(a,b,r):=ec;show rY a b<|keep z a b r
 .show .inr<|rY a b<|keep z a b r
end
section
variable{w:cC}
section
variable{S0 hv:SM}{tr:List Int}{x:Int}
def abE:aB (aB (aB (aB O a p) b q) a r) b s=aB (aB O a r) b s:=by
 funext c;by_cases J:c=b
 .rw[J,ar,ar]
 .rw[aq J,aq J];by_cases M:c=a
  .rw[M,ar,ar]
  .rw[aq M,aq M,aq J,aq M]
def anj(S0:SM)(x:Int)(a:List Int):=∀z∈a,bc S0 Z0 z/\x<lv S0 z/\0<z
def ank(x:Int)(hv:SM)(a:List Int):=∀z∈a,∃v w,N hv z=Y (x+1,Y v,Y w)
structure VK(S0:SM)(kx dl:List Int)(k:Nat)(tr gl fl:List Int)(x:Int)(hv:SM):Prop where
 trm:∀u,u∈tr↔u∈kx.take k/\u∉dl
 glo:anj S0 x gl
 flo:ank x hv fl
 Ü:gl.length<=2*k
 Ý:fl.length<=2*k
def Þ{fu:Nat}{hB:cp w B}{n:Nat}{V:TA}{g:bf}{j:TS}{mv:List Int}{aw:Nat}{D:aW}{A:Int->aW}{ly:List (K0×AV)}{dl:List Int}{h2:Nat}{kx:List Int}{ak:aW}{z3:Option AV}{Q:Fl->bf->Lm->Prop}(hw:Wf V)(I:Inv j Z0 e)(T:0<=x)(eG:x<3)(Il:j.vars=n9)(he:∀z,0<=e z)(hS:qd j t x e mv dl.reverse [] aw)(BZ:∀u n,N j.X u=Y (x+1,n)->u∈mv)(hM:h2<=1800)(hN:aw<=20000)(HX:Wq j ay h2)(Dt:kx.Perm (ay x))(o:Er V g D LL Dx Dy A ay x (fT<|kx.map<|fx j.X) ly)(En:DV j.X x kx dl)(nDd:E∉V.list)(d!:g E=Y (.set dl))(h:∀t' d i tr c f,qd j t' x e mv dl.reverse tr (aw+3*kx.length)->VK j.X kx dl kx.length tr c f x t'.X->d∉V.list->g d=R->i∉V.list->g i=R->d≠i->∀{fu:Nat},bH (fu+4300) ↑hB (tm w B hB (n+4) ak,Q) (ij 85<|fQ w) [] [] %[Y !V.x,Y ⇑x,Y ⇑(x+1),z3,z4,Y !LL,R,R,R,R,R,R,R,R,Y !E,R,R,R,R,R,R,Y !d,Y (!i)|7] (t'\(aB (aB g d<|.set c) i<|.set f))):bH (fu+4500) ↑hB (tm w B hB (n+4) ak,Q) (ij 76<|fQ w) [] [] %[Y !V.x,Y ⇑x,Y ⇑(x+1),z3,z4,Y !LL,R,R,R,R,R,R,R,R,Y (!E)|15] (t\g):=by
 let bD:=I.good;let jn:kx.Nodup:=Dt.nodup_iff.mpr (HX.mem _ (T)<|Y0 eG).1;let xe:kx.length<=h2:=Dt.length_eq▸(HX.mem _ (T)<|Y0 eG).2.1;let abF:dl.length<=kx.length:=bS En.1 λz hz=>((En.2 z).mp hz).1;refine nh λd g1 G=>nh λi f1 f2=>?_;let(fG,H):=da f2;let nn:∀{a b:aW} {y:Bd.bD},g a=R->g b=Y y->a≠b:=λJ M q=>by rw[q,M] at J;cases J
 refine lG (C:=tm w B hB (n+4) ak) [au,au,au,au,au,au,au,L,L,L,L,au,L,L,au,L,L,L,L,L,L,au,au,L,L] rfl λ_ BV=>eQ (bz o.nl.1<|by rw[aq (aE<|nn H o.l),aq<|aE<|nn G o.l];show o.l) rfl PK ?_;let Y6:aB (aB g d<|.set []) i (.set []) Dx=Y (.dict<|fT<|kx.map<|fx j.X):=by rw[aq (aE<|nn H o.dx),aq<|aE<|nn G o.dx];show o.dx
 refine(_,uY o.nx.1 Y6,⋯,?_);refine qr (bz o.nx.1 Y6)<|mT (bz o.nx.1 Y6) ?_
 let(h1,Ji,Je):∃h1:Nat->bf->Lm->Prop,(∀k t' tr c f,qd j t' x e mv dl.reverse tr (aw+3*k)->VK j.X kx dl k tr c f x t'.X->h1 k (t'\(aB (aB (cD g Dx) d<|.set c) i<|.set f)) %[Y !V.x,Y ⇑x,Y ⇑(x+1),z3,z4,Y !LL,R,R,R,R,R,R,R,R,Y !E,R,R,R,R,R,R,Y !d,Y (!i)|7])/\(∀k O m,h1 k O m->∀Ψ:bf->Lm->Prop,(∀t' tr c f,qd j t' x e mv dl.reverse tr (aw+3*k)->VK j.X kx dl k tr c f x t'.X->Ψ (t'\(aB (aB (cD g Dx) d<|.set c) i<|.set f)) %[Y !V.x,Y ⇑x,Y ⇑(x+1),z3,z4,Y !LL,R,R,R,R,R,R,R,R,Y !E,R,R,R,R,R,R,Y !d,Y (!i)|7])->Ψ O m):=
  (λk O m=>∀Ψ:bf->Lm->Prop,(∀t' tr c f,qd j t' x e mv dl.reverse tr (aw+3*k)->VK j.X kx dl k tr c f x t'.X->Ψ (t'\(aB (aB (cD g Dx) d<|.set c) i<|.set f)) %[Y !V.x,Y ⇑x,Y ⇑(x+1),z3,z4,Y !LL,R,R,R,R,R,R,R,R,Y !E,R,R,R,R,R,R,Y !d,Y (!i)|7])->Ψ O m,λ_ t' tr c f h0 J _ κ=>κ t' tr c f h0 J,λ_ _ _ h=>h)
 refine dc h1 ?_ ?_<|My BV ?_
 .let q:cD (t\(aB (aB g d<|.set []) i<|.set [])) Dx=aA V t (aB (aB (cD g Dx) d<|.set []) i<|.set []):=by rw[eN o.nx.1,fA<|nn H o.dx,fA<|nn G o.dx]
  show Wg q (Ji _ t [] [] [] hS (λu=>(nofun,λq=>(nomatch q.1)),λ_ q=>(nomatch q),λ_ q=>(nomatch q),dH _,dH _))
 .intro k av bq m' ha az;apply Je _ _ _ az;intro t' tr c f U hx _ DS;let(u,v,w',hu,rfl):=Oa ha;rw[bb] at hu;clear ha;let(p,J9,e'):=cM.mp hu;let Ar:k<kx.length:=(aL.mp J9).1;clear hu;let((q1,q2),J):=((HX.mem x T<|Y0 eG).2.2 p).mp (Dt.mem_iff.mp<|bo J9);let(qO,v1,w1,e1):=HX.node x p _ (Y0 eG) J;rw[e1] at J;rw[yT J] at e';let(rfl,e2):=j8 e';clear e';let(rfl,rfl):=j8 e2;let Wo:p∉kx.take k:=v9 jn J9;let ht:kx.take (k+1)=kx.take k++[p]:=by rw[fL,J9];rfl
  let(_,_,_,v2,w2,e3,e4,p4,_,p6,p7,p8,p9):=bD.node p x _ _ J (xi qO) λz=>z;replace e3:=ax e3;replace e4:=ax e4;subst e3 e4;refine pZ<|jh rfl ?_
  let anp:aB (aB (cD g Dx) d<|.set c) i (.set f) E=Y (.set dl):=by rw[aq (aE<|nn H d!),aq<|aE<|nn G d!,cx<|λq=>by rw[q,o.dx] at d!;cases d!];show d!
  calc HJ (bz nDd anp) (ahO abF xe hM);by_cases hd:p∈dl
  .refine nu hd (DS _ _ _<|Ji _ t' tr c f {U with vC:=U.vC.le ahP} (λz=>(hx.trm z).trans ?_,hx.glo,hx.flo,bP hx.Ü Ş,bP hx.Ý Ş));rw[ht,cy,aV];show(λq=>(.inl q.1,q.2),λec=>by let(q,r):=ec;show(q.resolve_right λs=>r<|s▸hd,r))
  .refine nC hd ?_;let gG':aB (aB (cD g Dx) d<|.set c) i (.set f) d=Y (.set c):=by rw[aq (aE fG),ar]
   let anq:p∉tr:=λq=>Wo ((hx.trm p).mp q).1;let abG:¬(low j.X x v1/\low j.X x w1):=λq=>hd<|(En.2 p).mpr ((bo J9),(fX v1 w1 J q.1 q.2));let Av:=hx.Ü;let Ov:=hx.Ý;show bH _ _ _ (ij 13<|dM (fQ w) 84) [] [] [Y !V.x,Y ⇑x,Y ⇑(x+1),_,_,_,_,Y ⇑p,_,Y ⇑v1,Y ⇑w1,_,_,_,_,_,_,_,_,_,_,Y !d,Y !i,_,_,_,_,_,_,_] _;refine VJ hw I T eG Il he U (ahQ hN hM xe Ar) BZ J (λq=>hd<|gm.mp q) anq abG g1 gG' (ş Av hM xe Ar) f1 ar (ş Ov hM xe Ar) (aE fG) λt4 Ky _ _ _ _ _ _ _ _ _ _ _ H4 kp anr cL=>?_;rw[abE];let MA:= @i9 c (aT v1:Int);let JD:= @i9 (ff c (aT v1:Int)) w1;refine DS _ _ _ (Ji _ t4 (p::tr) _ Ky H4 (λz=>?_,λz hz=>?_,λz hz=>?_,ahR JD MA Av,ahS cL Ov))
   .rw[ht,cy,aS,aV,hx.trm z];show(λq=>q.elim (λq=>(.inr q,q▸hd)) λq=>(.inl q.1,q.2),λec=>by let(q,r):=ec;show q.elim (λq=>.inr (q,r)) .inl)
   .rcases f5.mp hz with q|q
    .rcases f5.mp q with q|q
     .show hx.glo z q
     .rw[q];show(bt (Fn.mpr p6) (by rw[pk];show p8) (by have:=bD.C6 p6;show è this))
    .rw[q];show bt p7 p9 p4
   .rcases anr z hz with q|q
    .let(a,b,q):=hx.flo z q;show rY a b<|kp _ _ _ q
    .show q
 .intro bq m' az;apply Je _ _ _ az;intro t' tr c f U hx;rw[v8,vd,cE] at U hx;dsimp only[iD.back];let nX:∀{a:aW},g a=R->a≠Dx:=λq r=>by rw[r,o.dx] at q;cases q
  rw[aY o.nx.1,gf<|nX H,gf<|nX G,i6,fN o.dx];show bH _ _ _ (ij 85<|fQ w) [] [] _ _;show h t' d i tr c f U hx g1 G f1 H<|aE fG
end
end
section
variable{D ak:aW}{Q:Fl->bf->Lm->Prop}{g:bf}{x:Int}{lv:List VW}{fu n:Nat}{vD PM z3:Option AV}{V:TA}{t:TS}{w:cC}
section
def d?{r:Nat}(h:(AO<|fT l)[r]?=Y a):∃u,(l.map (·.1))[r]?=Y u/\a=.int u:=by
 delta AO fT at h
 rw[bb,bb] at h;rw[bb]
 induction c:l[r]? with|none=>rw[c] at h;cases h|some p=>rw[c] at h;cases h;show(aC _ rfl rfl)
def Ry:(AO<|fT l).length=l.length:=by delta AO;rw[cE,vd]
def Zh{hB:cp w B}{ly:List (K0×AV)}{z:List Int}{I H:Option AV}(hw:Wf V)(hz:t.X.length<=100000)(o:Er V g D LL Dx Dy A ay x (fT lv) ly)(hk:lv.map (·.1)=z)(xe:z.length<=1900)(hf:∀u∈z,∀i n,N t.X u=Y (i,n)->i=x\/i=x+1)(h:∀j e c d,j∉V.list->g j=R->e∉V.list->g e=R->j≠e->c.length+d.length<=z.length->∀{fu:Nat},bH (fu+3500) ↑hB (tm w B hB (n+1) ak,Q) (ij 140<|fQ w) [] [] [Y !V.x,Y ⇑x,Y ⇑(x+1),z3,T,Y !LL,R,R,R,R,R,R,R,R,vD,R,R,R,R,R,R,I,GR,R,R,H,PM,Y ⇑(t.X.length:Int),Y !j,Y !e] (t\(aB (aB g j<|.set c) e<|.set d))):bH (fu+4000) ↑hB (tm w B hB (n+1) ak,Q) (ij 125<|fQ w) [] [] %[Y !V.x,Y ⇑x,Y ⇑(x+1),z3,T,Y !LL,R,R,R,R,R,R,R,R,vD,R,R,R,R,R,R,I,GR,R,R,H,PM|3] (t\g):=by
 refine cP ∎ (Fg hw hz<|nh λj g1 E=>nh λe f1 f2=>?_);let(fG,G):=da f2;let nn:∀{a b:aW} {y:Bd.bD},g a=R->g b=Y y->a≠b:=λJ M q=>by rw[q,M] at J;cases J
 refine lG (C:=tm w B hB (n+1) ak) [au,au,au,au,au,au,au,L,L,au,au,au,L] rfl λ_ BV=>eQ (bz o.nl.1<|by rw[aq (aE<|nn G o.l),aq<|aE<|nn E o.l];show o.l) rfl PK ?_;let Y6:aB (aB g j<|.set []) e (.set []) Dx=Y (.dict<|fT lv):=by rw[aq (aE<|nn G o.dx),aq<|aE<|nn E o.dx];show o.dx
 refine rj λ_=>KI (bz o.nx.1 Y6) ?_
 let(U,Ji,Je):∃U:Nat->bf->Lm->Prop,(∀k (c d:List Int),c.length+d.length<=k->U k (t\(aB (aB (cD g Dx) j<|.set c) e<|.set d)) [Y !V.x,Y ⇑x,Y ⇑(x+1),z3,T,Y !LL,R,R,R,R,R,R,R,R,vD,R,R,R,R,R,R,I,GR,R,R,H,PM,Y ⇑(t.X.length:Int),Y !j,Y !e])/\(∀k O m,U k O m->∀v:bf->Lm->Prop,(∀(c d:List Int),c.length+d.length<=k->v (t\(aB (aB (cD g Dx) j<|.set c) e<|.set d)) [Y !V.x,Y ⇑x,Y ⇑(x+1),z3,T,Y !LL,R,R,R,R,R,R,R,R,vD,R,R,R,R,R,R,I,GR,R,R,H,PM,Y ⇑(t.X.length:Int),Y !j,Y !e])->v O m):=
  (λk O m=>∀v:bf->Lm->Prop,(∀(c d:List Int),c.length+d.length<=k->v (t\(aB (aB (cD g Dx) j<|.set c) e<|.set d)) [Y !V.x,Y ⇑x,Y ⇑(x+1),z3,T,Y !LL,R,R,R,R,R,R,R,R,vD,R,R,R,R,R,R,I,GR,R,R,H,PM,Y ⇑(t.X.length:Int),Y !j,Y !e])->v O m,λ_ c d h0 _ κ=>κ c d h0,λ_ _ _ h=>h)
 refine dc U ?_ ?_<|My BV ?_
 .refine Wg ?_<|Ji _ [] []<|dH _;show cD (t\_) Dx=_;rw[eN o.nx.1,fA<|nn G o.dx,fA<|nn E o.dx]
 .intro k av bq m' ha az;apply Je _ _ _ az;intro c d s;intro _ DS;let(u,hu,rfl):=d? ha;rw[hk] at hu;let Ar:k<z.length:=(aL.mp hu).1;let huk:=hf u<|bo hu;refine cP ∎ (uQ ∎ ?_);induction hs:N t.X u with
  |none=>show rT rfl (DS _ _ _<|Ji _ c d<|Y91 s)
  |some nd=>
   let(i,a,b):=nd;let hi:=huk i _ hs;refine jh rfl<|cP ∎ (gh ∎ ∎ ?_);by_cases J:i=x
   .refine nu J (_,jj f1 ar,⋯,?_);calc gU f1 ar (ahT s xe Ar);rw[bQ];have:= @i9 d u;show DS _ _ _<|Ji _ c _<|ahU s this
   .refine nC J (nu (hi.resolve_left J) (_,jj g1 (by rw[aq (aE fG),ar]),⋯,?_));calc gU g1 (by rw[aq (aE fG),ar]) (ahV s xe Ar);rw[gf fG,bQ];have:= @i9 c u;show DS _ _ _<|Ji _ (ff c u) d<|ahW s this
 .intro bq m' az;apply Je _ _ _ az;intro c d s;rw[Ry,<-cE (f:=λp:VW=>p.1),hk] at s;dsimp only[iD.back];let nX:∀{a:aW},g a=R->a≠Dx:=λq r=>by rw[r,o.dx] at q;cases q
  rw[aY o.nx.1,gf<|nX G,gf<|nX E,i6,fN o.dx];show bH _ _ _ (ij 140<|fQ w) [] [] _ _;show h j e c d g1 E f1 G (aE fG) s
def Zi{hB:cp w B}{c:aW}{i:List Int}{d:Option AV}(hw:Wf V)(H:c∉V.list)(gN:g c=Y (.set i))(E:e∉V.list)(M:g e=Y (.set T))(o:c≠e)(hl:i.length+T.length<=3900)(hf:∀u∈T,∃v w,N t.X u=Y (x+1,Y v,Y w))(h:∀a,∀{fu:Nat},bH (fu+3400) ↑hB (tm w B hB (n+1) ak,Q) (ij 141<|fQ w) [] [] [Y !V.x,Y ⇑x,Y ⇑(x+1),z3,s,p,R,R,R,R,R,R,R,R,vD,R,R,R,R,R,R,z,Y !e,R,R,y,PM,f,Y !c,d] (t\(aB g c<|.set a))):bH (fu+3500) ↑hB (tm w B hB (n+1) ak,Q) (ij 140<|fQ w) [] [] [Y !V.x,Y ⇑x,Y ⇑(x+1),z3,s,p,R,R,R,R,R,R,R,R,vD,R,R,R,R,R,R,z,Y !e,R,R,y,PM,f,Y !c,d] (t\g):=by
 refine lG (C:=tm w B hB (n+1) ak) [au,au,au,au,au,au,au,L,L,au,au,au,L] rfl λ_ A=>rj λ_=>AR (bz E M) λl hp=>?_;let Wm:=hp.length_eq
 let(J1,YK,U):∃J:Nat->bf->Lm->Prop,(∀k (a:List Int),a.length<=i.length+k->J k (t\(aB (cD g e) c<|.set a)) [Y !V.x,Y ⇑x,Y ⇑(x+1),z3,s,p,R,R,R,R,R,R,R,R,vD,R,R,R,R,R,R,z,Y !e,R,R,y,PM,f,Y !c,d])/\(∀k O m,J k O m->∀j:bf->Lm->Prop,(∀(a:List Int),a.length<=i.length+k->j (t\(aB (cD g e) c<|.set a)) [Y !V.x,Y ⇑x,Y ⇑(x+1),z3,s,p,R,R,R,R,R,R,R,R,vD,R,R,R,R,R,R,z,Y !e,R,R,y,PM,f,Y !c,d])->j O m):=
  (λk O m=>∀j:bf->Lm->Prop,(∀(a:List Int),a.length<=i.length+k->j (t\(aB (cD g e) c<|.set a)) [Y !V.x,Y ⇑x,Y ⇑(x+1),z3,s,p,R,R,R,R,R,R,R,R,vD,R,R,R,R,R,R,z,Y !e,R,R,y,PM,f,Y !c,d])->j O m,λ_ a h0 _ κ=>κ a h0,λ_ _ _ h=>h)
 refine dc J1 ?_ ?_<|My A ?_
 .refine Wg ?_<|YK _ i<|dH _;show cD (t\g) e=_;rw[eN E,<-fA o,fN gN]
 .intro k av bq m' ha az;apply U _ _ _ az;intro a G;intro _ Rh;let(u,I,rfl):=Dq ha;let Ar:k<l.length:=(aL.mp I).1;let(v,w',hs):=hf u<|hp.mem_iff.mp<|bo I;refine cP ∎ (lD ∎ ∎ (nC (λq=>q rfl) (_,jj H ar,⋯,?_)));calc gU H ar (ahX Wm hl G Ar);rw[bQ];have:= @i9 a u;show Rh _ _ _<|YK _ (ff a u)<|Š this G
 .intro bq m' az;apply U _ _ _ az;intro a G;dsimp only[iD.back];rw[aY E,gf o,i6,fN M];show bH _ _ _ (ij 141<|fQ w) [] [] _ _;show h a
def Zj{hB:cp w B}{ay:Int->List Int}{lx:List (K0×AV)}{H:aW}{j:List Int}{v s:Int}{I G:Option AV}(hw:Wf V)(c:Er V g D LL Dx Dy A ay x lx (fT lv))(hk:lv.map (·.1)=U)(T:0<=x)(eG:x<3)(nN:e∉V.list)(f:g e=Y (.set j))(hl:j.length+U.length<=3900)(hf:∀u∈U,∀i n,N t.X u=Y (i,n)->i=x)(h:∀g2 M,(∀a o,g a=Y (.raw o)->g2 a=Y (.raw o))->Q (.ret<|.tup [.int v,.int s]) (t\g2) M):bH (fu+3400) ↑hB (tm w B hB (n+1) ak,Q) (ij 141<|fQ w) [] [] [Y !V.x,Y ⇑x,Y ⇑(x+1),Y !D,Y ⇑v,Y !LL,R,R,R,R,R,R,R,R,vD,R,R,R,R,R,R,I,GR,R,R,G,PM,Y ⇑s,Y !H,Y !e] (t\g):=by
 let hND:e≠D:=λq=>by rw[q,c.lv.dict] at f;cases f
 let hNL:e≠LL:=λq=>by rw[q,c.l] at f;cases f
 let y:e≠Dy:=λq=>by rw[q,c.dy] at f;cases f
 refine lG (C:=tm w B hB (n+1) ak) [au,au,au,au,au,au,au,L,L,au,au,au,L] rfl λ_ J=>eQ (bz c.nl.1 c.l) rfl VH (rj λ_=>KI (bz c.ny.1 c.dy) ?_)
 let(J2,ċ,z):∃h1:Nat->bf->Lm->Prop,(∀k (d:List Int),d.length<=j.length+k->h1 k (t\(aB (cD g Dy) e<|.set d)) [Y !V.x,Y ⇑x,Y ⇑(x+1),Y !D,Y ⇑v,Y !LL,R,R,R,R,R,R,R,R,vD,R,R,R,R,R,R,I,GR,R,R,G,PM,Y ⇑s,Y !H,Y !e])/\(∀k O m,h1 k O m->∀p:bf->Lm->Prop,(∀(d:List Int),d.length<=j.length+k->p (t\(aB (cD g Dy) e<|.set d)) [Y !V.x,Y ⇑x,Y ⇑(x+1),Y !D,Y ⇑v,Y !LL,R,R,R,R,R,R,R,R,vD,R,R,R,R,R,R,I,GR,R,R,G,PM,Y ⇑s,Y !H,Y !e])->p O m):=
  (λk O m=>∀p:bf->Lm->Prop,(∀(d:List Int),d.length<=j.length+k->p (t\(aB (cD g Dy) e<|.set d)) [Y !V.x,Y ⇑x,Y ⇑(x+1),Y !D,Y ⇑v,Y !LL,R,R,R,R,R,R,R,R,vD,R,R,R,R,R,R,I,GR,R,R,G,PM,Y ⇑s,Y !H,Y !e])->p O m,λ_ d h0 _ κ=>κ d h0,λ_ _ _ h=>h)
 refine dc J2 ?_ ?_<|My J ?_
 .refine Wg ?_<|ċ _ j (dH _);show cD (t\g) Dy=_;rw[eN c.ny.1,<-fA y,fN f]
 .intro k av bq M ha az;apply z _ _ _ az;intro d E;intro _ YL;let(u,hu,rfl):=d? ha;rw[hk] at hu;let Ar:k<U.length:=(aL.mp hu).1;let huk:=hf u<|bo hu;refine cP ∎ (uQ ∎ ?_);induction hs:N t.X u with
  |none=>show rT rfl (YL _ _ _<|ċ _ d (ahY E))
  |some nd=>
   let(i,a,b):=nd;let hi:=huk i _ hs;refine jh rfl (cP ∎ (gh ∎ ∎ (nC (λq=>q hi) (_,jj nN ar,⋯,?_))));calc gU nN ar (ahZ hl E Ar);rw[bQ];have:= @i9 d u;show YL _ _ _<|ċ _ (ff d u) (Š this E)
 .intro bq M az;apply z _ _ _ az;intro d E;dsimp only[iD.back];rw[aY c.ny.1,gf y,i6,fN c.dy];let gD:aB g e (.set d) D=Y (.dict<|mq A 4):=by rw[aq (aE hND)];show c.lv.dict
  calc jM (bz c.lv.Bu.1 gD) rfl (by rw[uZ];decide);rw[aY c.lv.Bu.1];calc jM (bz c.lv.Bu.1 ar) rfl (bP dO<|by rw[uZ];decide);rw[aY c.lv.Bu.1];show h _ _ λa o q=>by rw[aq (λr=>by rw[r,c.lv.dict] at q;cases q),aq (λr=>by rw[r,c.lv.dict] at q;cases q),aq<|λr=>by rw[r,f] at q;cases q];show q
end
end
section
variable{x:Int}
nonrec def oW.move{V:TA}(j:oW V g)(h:∀a o,a∉V.list->g a=Y (.raw o)->a∉f.list/\g2 a=Y (.raw o)):oW f g2:=by
 let(s,j):=j
 let c:∀{a:aW} {o:Obj},(if a∈V.list then R else g a)=Y (.raw o)->a∉f.list/\(if a∈f.list then R else g2 a)=Y (.raw o):=fun{a o} q=>by
  split at q
  .show nomatch q
  .rename_i e;let(d,i):=h a o e q;show(d,by rw[aK d];show i)
 rcases j with q|⟨p,oc,vs,k,e,d,i,n,m⟩
 .show((c q).1,.inl (c q).2)
 .show((c e).1,.inr<|lj p oc vs k ((c e).2) ((c d).2) i n m)
def Md(c:0<=x)(a:x<4):N DU x=Y (101+x):=by rcases(show x=0\/x=1\/x=2\/x=3 from Y72 c a) with q|q|q|q<;>subst q<;>rfl
def Rz(x:Int):=bl (bl n9 (101+x)<|x+1) (101+(x+1)) x
def Ē(x:Int):=bl (bl DU (x+1)<|101+x) x<|101+(x+1)
def Inv.names(I:Inv t a e):Inv {t with ite:=i,vars:=v,e8:=l} a e:=
 {Jn:=I.Jn,xI:=I.xI,pred:=I.pred,nd:=I.nd,Mw:=I.Mw,G8:=I.G8,A8:=I.A8,ref:=I.ref,refs:=I.refs,e0:=I.e0,good:=I.good,Wb:=I.Wb}
def ß{fu:Nat}{w:cC}{hB:cp w B}{n:Nat}{V:TA}{g:bf}{aw:Nat}{j ak:aW}{z3 vD:Option AV}{Q:Fl->bf->Lm->Prop}(c:Wf V)(Cm:BM B ob)(hT:oW V g)(hN:aw<=3900)(I:Inv t Z0 e)(he:∀x,0<=e x)(hc:kb t aw)(S:t.vars=n9)(m:t.e8=DU)(T:0<=x)(eG:x<3)(nG:j∉V.list)(gG:g j=Y (.set gl))(Đ:gl.length<=4000)(E:∀z∈gl,(N t.X (aT z:Int)).isSome=L/\P (aT z:Int))(hP:∀u i v w,P u->N t.X u=Y (i,Y v,Y w)->P (aT v:Int)/\P (aT w:Int))(h:∀Dj k A,Wf {V with ite:=Dj}->MB e {t with ite:=[],vars:=Rz x,e8:=Ē x} P aw k []->oW {V with ite:=Dj} A->(∀a y,a∉V.list->a≠j->(∀o,y≠.raw o)->g a=Y y->A a=Y y/\a∉({V with ite:=Dj}:TA).list)->∀{fu:Nat},bH (fu+4000) ↑hB (tm w B hB (n+12) ak,Q) (ij 125<|fQ w) [] [] %[Y !V.x,Y ⇑x,Y ⇑(x+1),z3,z4,z5,R,R,R,R,R,R,R,R,vD,R,R,R,R,R,R,Y !j,GR,R,R,Y ⇑(101+x),Y ⇑(101+(x+1))|3] (aA {V with ite:=Dj} {k with ite:=[]} A)):bH (fu+4300) ↑hB (tm w B hB (n+12) ak,Q) (ij 85<|fQ w) [] [] %[Y !V.x,Y ⇑x,Y ⇑(x+1),z3,z4,z5,R,R,R,R,R,R,R,R,vD,R,R,R,R,R,R,Y !j,GR|7] (t\g):=by
 refine dR ∎ (vX c (by rw[m];show Md T<|Y0 eG)<|fB ∎ (Fj c (by rw[S];decide)<|dR ∎ (vX c (by show N t.e8 (x+1)=_;rw[m];show Md (Y2 T)<|Y3 eG)<|fB ∎ (Fj c (by rw[S];show bP dO ∅)<|i8 ∎ (Jk c (by show t.e8.length<=100000;rw[m];decide)<|i8 ∎ (Jk c (by show(bl t.e8 _ _).length<=100000;rw[m];show bP dO ∅)<|xU λDi G H=>PH c G ar λpd=>dR ∎ ?_))))));let D:V.ite∈V.list:=TA.F?;let sub:∀{O a:aW},a∉V.list->a≠O->a∉({V with ite:=O}:TA).list:=fun{O a} J M q=>(tx (l:=V.list) (i:=5) q).elim J M;let de:∀{a:aW} {y:Bd.bD},g a=Y y->a≠Di:=λq r=>by rw[r,H] at q;show nomatch q
 let U:∀{a:aW} {y z:Bd.bD},a∉V.list->g a=Y y->aB (aB g Di<|.dg []) V.ite z a=Y y:=λq r=>by rw[aq (λs:_=V.ite=>q<|qP s D),aq<|de r];show r
 let JR:∃o,g 373=Y (.raw o):=by
  obtain⟨h3,q|⟨_,_,_,_,q,_⟩⟩:=hT
  .dsimp only at q;rw[aK h3] at q;show(_,q)
  .dsimp only at q;rw[aK h3] at q;show(_,q)
 refine VG (P:=P) pd Cm ?_ hN ?_ he ?_ (sub nG<|de gG) ?_ Đ ?_ ?_ λDj k A p=>?_
 .show hT.move λa o f C=>(sub f<|de C,U f C)
 .show I.names
 .show hc
 .show U nG gG
 .show E
 .show hP
 let HI:MB e {t with ite:=[],vars:=bl (bl t.vars (101+x)<|x+1) (101+(x+1)) x,e8:=bl (bl t.e8 (x+1)<|101+x) x (101+(x+1))} P aw k []:=p.I;rw[S,m] at HI;show bH _ _ _ (ij 125<|fQ w) [] [] _ _;refine h Dj k A p.wf HI p.tab λa y f C q3 d=>?_;let q5:cD (aB (aB g Di<|.dg []) V.ite<|.dg<|nZ t.ite) j a=Y y:=by rw[cx C];show U f d
 refine(?_,sub f λr=>?_)
 .rcases p.keep a y (sub f<|de d) (λr=>by let(o,ho):=JR;rw[r,ho] at d;replace d:=ax d;show q3 o d.symm) q5 with⟨o,_,r,_⟩|r
  .show absurd r<|q3 o
  .show r
 .have:=p.new.2;rw[<-r,q5] at this;show nomatch this
end
section
variable{t:TS}
section
variable{e:Int->Int}{aw:Nat}{x:Int}
structure PN(t:TS)(e:Int->Int)(x:Int)(aw:Nat)(t':TS):Prop where
 inv:Inv t' Z0 e
 vC:kb t' (6*aw)
 vars:t'.vars=Rz x
 e8:t'.e8=Ē x
 ite:t'.ite=[]
 den:∀u,bc t.X Z0 u->0<e (aT u:Int)->bc t'.X Z0 u/\∀G,den t'.X u G=den t.X u (sw x G)
def à(bD:Good t.X Z0)(h:∀j:Int,0<=j->j<4->(ay j).Nodup/\(ay j).length<=aw/\∀u,u∈ay j↔∃n,N t.X u=Y (j,n)):Wq t ay aw:=
 (h,λj u n d c=>by let(a,b):=n;let(p1,_,_,v,w,rfl,rfl,_):=bD.node u j a b c (λq=>by rw[q,bD.one] at c;have:=(rF c).1;show ah0 this d) λz=>z;show(p1,(rY v w rfl)))
def abI{d dl:List Int}(g:Wq c ay aw)(T:0<=x)(f:x<3)(m:kx.Perm (ay x))(JT:d.Perm (ay<|x+1))(hx:VK c.X kx dl kx.length h p s x o):∀u,¬Zs c.X x d.reverse dl.reverse h u:=by
 rintro u ⟨⟨i,n⟩,J,⟨M,a,k⟩|⟨M,a⟩⟩
 .let j:u∈kx:=m.mem_iff.mpr (((g.mem x T<|Y0 f).2.2 u).mpr (n,by rw[J,<-M]));show k ((hx.trm u).mpr (by rw[jV];show j,λq=>a<|gm.mpr q))
 .show a (gm.mpr<|JT.mem_iff.mpr<|((g.mem (x+1) (Y2 T)<|Y3 f).2.2 u).mpr (n,by rw[J,<-M]))
def Er.move{V:TA}{g:bf}{v:aW}{k:List (K0×AV)}(c:Er V g D LL v z A ay x k ly)(h:∀a y,a∉V.list->(∀o,y≠Bd.bD.raw o)->g a=Y y->u a=Y y/\a∉j.list):Er j u D LL v z A ay x k ly:=
 have hd:=h _ _ c.lv.Bu.1 (λ_=>by simp) c.lv.dict;have p:=h _ _ c.nl.1 (λ_=>by simp) c.l;have n:=h _ _ c.nx.1 (λ_=>by simp) c.dx;have m:=h _ _ c.ny.1 (λ_=>by simp) c.dy;have s:∀i:Int,0<=i->i<(4:Nat)->u (A i)=Y (.set<|ay i)/\A i∉j.list:=λi f d=>h _ _ (c.lv.out i f d).1 (λ_=>by simp) (c.lv.sets i f d)
 ((hd.1,λi f d=>(s i f d).1,c.lv.inj,λi f d=>(bt ((s i f d).2) ((c.lv.out i f d).2.1) rfl),(hd.2,rfl),λ_ _ q=>(nomatch q)),p.1,n.1,m.1,(p.2,c.nl.2),(n.2,c.nx.2),m.2,c.ny.2)
def kr{x:Bd.bD}(c:O a=R)(h:O b=Y y):aB O a x b=Y y:=by rw[aq (eB h c)];show h
def Ir{mv:List Int}(bD:Good d Z0)(p:Dr d C x mv U T)(H:∀u n,N d u=Y (x+1,n)->u∈mv)(D:bc d Z0 u/\x<lv d u/\0<u)(o:N C u=Y (i,n)):i≠x+1/\∀v w,n=(Y v,Y w)->(bc d Z0 (aT v:Int)/\x<lv d (aT v:Int)/\0<(aT v:Int))/\bc d Z0 (aT w:Int)/\x<lv d (aT w:Int)/\0<(aT w:Int):=by
 refine hide λ_ A=>?_;let(J,M,G):=D;let I:(aT u:Int)=u:=i? G
 let((j,m),c):=bp.mp J.1;let E:lv d u=j:=by delta lv;rw[c]
 calc A;rw[E] at M;rw[I] at c
 let key:i≠x+1/\n=m:=by
  by_cases q:j=x+1
  .subst q;have:=p.yn u m c;rw[bj (H u m c),o] at this;let(a,b):=rF this;show(ah1 a,b)
  .have:=p.same u _ c (show j≠x from xi M) q;rw[o] at this;let(a,b):=rF this;show(by show ah2 q a,b)
 refine(key.1,λv w' e=>?_);rw[<-key.2,e] at c;let(_,_,_,Q,O,g,f,_,_,k,h,y,s):=bD.node u j _ _ c (λq=>by rw[q,bD.one] at c;have:=(rF c).2;cases this) λz=>z;replace g:=ax g;replace f:=ax f;subst g f;let a1:=bD.C6 k;let a2:=bD.C6 h;show(ek (bt (Fn.mpr k) (by rw[pk];show š M y)<|è a1) (Fn.mpr h) (by rw[pk];show š M s)<|ajn ∎)
def RA{hB:cp w B}{n:Nat}{V:TA}{g:bf}{ak:aW}(hw:Wf V)(Cm:BM B ob)(hT:oW V g)(f:aw<=400)(I:Inv t Z0 e)(he:∀x,0<=e x)(hc:kb t aw)(S:t.vars=n9)(hl:t.e8=DU)(T:0<=x)(c:x<3)(HL:B0 V (λ_=>R) g D A ay 4)(k:Wq t ay aw)(h:∀a Dj t' g' m',Wf {V with ite:=Dj}->PN t e x aw t'->oW {V with ite:=Dj} g'->Q (.ret a) (aA {V with ite:=Dj} t' g') m'):bH (fu+4900) ↑hB (tm w B hB (n+12) ak,Q) (ij 5<|fQ w) [] [] %[Y !V.x,Y ⇑x,Y ⇑(x+1),Y (!D)|26] (t\g):=by
 let bD:=I.good;refine Y1 (n:=n+11) hw (Y86 f) hc S T c HL λg2 LL Dx Dy HG sg=>?_;intro _;refine Õ (n:=n+11) hw (I.toAc) hc (ah3 f) T c k HG λP g3 kx ky Dt JT HG3 hA ZP hg=>?_;intro _;let xe:kx.length<=aw:=Dt.length_eq▸(k.mem _ (T)<|Y0 c).2.1;let Zk:ky.length<=aw:=JT.length_eq▸(k.mem _ (Y2 T)<|Y3 c).2.1;let BZ:∀u n,N t.X u=Y (x+1,n)->u∈ky.reverse:=λu n q=>gm.mpr<|JT.mem_iff.mpr<|((k.mem (x+1) (Y2 T)<|Y3 c).2.2 u).mpr (n,q);refine Ö (n:=n+11) hw I T c (qd.start k T c hA ZP) (λu q=>q) (ah4 f) k JT HG3 λt2 H2 hd2=>?_;intro _;refine Ø (n:=n+10) hw I T c H2 BZ hd2 (ah5 f Zk) (h2:=aw) (Y86 f) k Dt HG3 λt3 dl Dd H3 hd3 En nDd d!=>?_;intro _;let HG4:Er V (aB g3 Dd<|.set dl) D LL Dx Dy A ay x (fT<|kx.map<|fx t.X) (fT<|ky.map<|fx t.X):=HG3.move λa y j m d=>(kr d! d,j);refine Þ (n:=n+8) hw I T c S he H3 BZ (h2:=aw) (ah6 f) (ah7 f Zk xe) k Dt HG4 En nDd ar λt4 Dg Df tr gl fl s hx nG gG nF gF Û=>?_;intro _;let HG5:Er V (aB (aB (aB g3 Dd<|.set dl) Dg<|.set gl) Df<|.set fl) D LL Dx Dy A ay x (fT<|kx.map<|fx t.X) (fT<|ky.map<|fx t.X):=HG4.move λa y j m d=>(kr (pS (aq<|aE Û) gF)<|kr gG d,j);let(I4,anw):=s.fin I T c<|abI k T c Dt JT hx;let abJ:=hx.Ü;let abK:=hx.Ý
 let hT5:oW V (aB (aB (aB g3 Dd<|.set dl) Dg<|.set gl) Df<|.set fl):=hT.move λa o j m=>(j,by
  let d:g2 a=Y (.raw o):=sg a _ m;let q4:g3 a=Y (.raw o):=by rw[hg a (λr=>by rw[r,HG.dx] at d;show nomatch d) (λr=>by rw[r,HG.dy] at d;show nomatch d)];show d
  show kr (pS (aq<|aE Û) gF)<|kr gG<|kr d! q4)
 refine ß (n:=n) (P:=λz=>bc t.X Z0 z/\x<lv t.X z/\0<z) hw Cm hT5 (aw:=6*aw) (ah8 f) I4 he (s.vC.le<|ah9 Zk xe) (s.vars.trans S) (s.e8.trans hl) T c nG (pS (aq Û)<|pS ar rfl) (aia abJ xe f) (λz hz=>?_) (λu i v w' H M=>(Ir bD s.sh BZ H M).2 v w' rfl) λDj t5 g6 E U T5 keep=>?_
 .let q:=hx.glo z hz;let q0:=q.2.2;rw[show(aT z:Int)=z from Ţ q];refine(?_,q);have:=(s.sh.bc q.1).1;rwa [show(aT z:Int)=z from Ţ q] at this
 let HG6:Er {V with ite:=Dj} g6 D LL Dx Dy A ay x (fT<|kx.map<|fx t.X) (fT<|ky.map<|fx t.X):=by
  let nDG:∀{a:aW} {y:Bd.bD},aB g3 Dd (.set dl) a=Y y->a≠Dg:=λq r=>by rw[r,gG] at q;show nomatch q
  show HG4.move λa y j m d=>keep a y j (nDG d) m<|kr (pS (aq<|aE Û) gF)<|kr gG d
 let gF6:=keep Df (.set fl) nF (aE Û) (λo=>by simp) ar;let C:Ext t5.X t4.X:=U.sub;intro _;refine Zh (n:=n+11) (V:={V with ite:=Dj}) (t:={t5 with ite:=[]}) E (bP U.vC.1<|aib f) HG6 xZ (aic xe f) (λu H i n M=>?_) λNx Ny xl yl n1 n2 n3 n4 O cL=>?_
 .let J:=C u _ M;let(n0,h0):=((k.mem x T<|Y0 c).2.2 u).mp (Dt.mem_iff.mp H);by_cases q:u∈tr
  .let(_,_,_,p,q',h3,_):=s.sh.xt u q;rw[J] at h3;show .inl (rF h3).1
  .have:=s.sh.xn u n0 h0 q;rw[J] at this;let e1:=(rF this).1;by_cases r:u∈dl.reverse
   .rw[bj r] at e1;show .inr e1
   .rw[aK r] at e1;show .inl e1
 let hNF:∀{a:aW},g6 a=R->a≠Df:=λq r=>by rw[r,gF6.1] at q;show nomatch q
 intro _;refine Zi (n:=n+11) (x:=x) (V:={V with ite:=Dj}) (t:={t5 with ite:=[]}) E n1 (pS (aq O)<|pS ar rfl) gF6.2 (kr (pS (aq<|aE O) n4)<|kr n2 gF6.1) (hNF n2) (aid cL abK xe f) (λu H=>?_) λJU=>?_
 .let(v,w',M):=hx.flo u H;induction hs5:N t5.X u with
  |none=>
   let hP:=U.rem u (by show(N t4.X u).isSome=L;rw[M];rfl) hs5;show absurd rfl (Ir bD s.sh BZ hP M).1
  |some n=>
   have:=C u n hs5;rw[M] at this;replace this:=ax this;show(rY v w'<|by rw[this])
 intro _;rw[gf (aE O),bQ];let HG7:Er {V with ite:=Dj} (aB (aB g6 Nx<|.set JU) Ny<|.set yl) D LL Dx Dy A ay x (fT<|kx.map<|fx t.X) (fT<|ky.map<|fx t.X):=HG6.move λa y j m d=>(kr (pS (aq<|aE O) n4)<|kr n2 d,j);refine Zj (n:=n+11) (V:={V with ite:=Dj}) (t:={t5 with ite:=[]}) E HG7 xZ T c n3 ar (aie cL Zk xe f) (λu H i n M=>?_) λg8 mh anz=>?_
 .let J:=C u _ M;let(n0,h0):=((k.mem (x+1) (Y2 T)<|Y3 c).2.2 u).mp (JT.mem_iff.mp H);have:=s.sh.yn u n0 h0;rw[bj (BZ u n0 h0),J] at this;show(rF this).1
 refine h _ Dj {t5 with ite:=[]} g8 mh E (U.inv.ite,U.vC,U.vars,U.e8,rfl,λu H rx=>?_) (T5.move λa o j m=>(j,anz a o<|pS (aq<|eB m n4)<|pS (aq<|eB m n2) m))
 let hv5:bc t5.X Z0 u:=(by
  induction hq:N t5.X (aT u:Int) with|none=>have:=U.inv.e0 _ hq;show(n? rx this).elim|some n=>rfl,λz=>z)
 show(hv5,λG=>(C.den U.inv.good hv5 G).symm.trans ((anw u H).2 G))
def RB{V:TA}(U:Wf V)(M:BM B ob)(hT:oW V g)(C:aw<=400)(I:Inv t Z0 e)(s:∀x,0<=e x)(hc:kb t aw)(S:t.vars=n9)(hl:t.e8=DU)(T:0<=x)(eG:x<3)(h:∀a Dj t' g',Wf {V with ite:=Dj}->PN t e x aw t'->oW {V with ite:=Dj} g'->Q a (aA {V with ite:=Dj} t' g')):Cl ↑hB (n+13) (!393) [.ref V.x,.int x,.int<|x+1] [] (t\g) Q:=by
 refine anb (UC (x:=ah "self") (y:=ah "x") (z:=ah "y") (u:=ah "all_levels") (hx:=386) (dvs:= #[.none]) (k0:=0) (d:=.none) rfl rfl () λv u q=>(aC _ rfl ⋯)) λak=>YZ U M hT (Y86 C) I s hc S λJ i g1 g2 D A ay Ca c H hX=>?_;intro _;let E:=c.I.inv.ite (l:=[]);let F!:oW {V with ite:=J} g2:=c.tab.move λa o k j=>(k,H.sub a _ j);refine RA (V:={V with ite:=J}) (t:={i with ite:=[]}) Ca M F! C E s c.I.vC (c.I.vars.trans S) (c.I.e8.trans hl) T eG (H.weak λ_ _ q=>q) (à E.good hX) λa Dj t' g' m' O f T'=>h a Dj t' g' O (f.inv,f.vC,f.vars,f.e8,f.ite,λu hu m=>?_) T'
 let p:bc i.X Z0 u:=(by
  induction hq:N i.X (aT u:Int) with|none=>have:=c.I.inv.e0 _ hq;show(n? m this).elim|some n=>rfl,λz=>z)
 let(k,j):=f.den u p m;show(k,λG=>(j G).trans (c.I.sub.den c.I.inv.good p _).symm)
end
end
def RC(x l:Int):=if l=x then x+1 else if l=x+1 then x else l
def PO:∀x:Fin 3,(Rz (x.1:Int)).length=4/\∀l:Fin 4,N (Ē (x.1:Int)) (l.1:Int)=Y (101+RC (x.1:Int) (l.1:Int))/\N (Rz (x.1:Int)) (101+(l.1:Int))=Y (RC (x.1:Int) (l.1:Int)):=∅
def VL:∀l:Fin 4,N DU (l.1:Int)=Y (101+(l.1:Int)):=∅
section
variable{x:Int}(T:0<=x)(eG:x<3)
include T eG
def Gq(c:0<=l)(a:l<4):N (Ē x) l=Y (101+RC x l)/\N (Rz x) (101+l)=Y (RC x l):=by have:=(PO (x.toNat,Ũ eG)).2 (l.toNat,Y87 a);rwa [show((x.toNat:Nat):Int)=x from í T,show((l.toNat:Nat):Int)=l from í c] at this
def VM(c:0<=l)(d:l<4):0<=RC x l/\RC x l<4/\RC x (RC x l)=l:=by
 delta RC
 by_cases a:l=x
 .clear T;subst a;rw[bj rfl,aK RH,bj rfl];show aiS c eG
 .rw[aK a];by_cases b:l=x+1
  .rw[bj b,bj rfl];show aiT b T eG
  .rw[aK b,aK a,aK b];show aiU c d
def VN(J:t.vars=Rz x)(M:t.e8=Ē x):f6 t:=by
 refine(λl g f=>?_,λy e d=>?_)
 .rw[J,M];let(a,b,c):=VM T eG g f;have:=(Gq T eG a b).2;rw[c] at this;show kU _ ((Gq T eG g f).1) this (m? a)<|ŧ b
 .rw[J,M];let(a,b,c):=VM T eG (l:=y-101) (l! e)<|Κ d;let h:=(Gq T eG (l:=y-101) (l! e)<|Κ d).2;rw[show(101:Int)+(y-101)=y from ũ] at h;let i:=(Gq T eG a b).1;rw[c,show(101:Int)+(y-101)=y from ũ] at i;show kU _ h i a b
def á(J:t.e8=DU)(M:t'.e8=Ē x):∀j,0<=j->j<4->sw x (eX t' r) j=eX t r j:=λj c j4=>by
 let key:∀l,0<=l->l<4->eX t' r l=kq r (101+RC x l):=λl f e=>by delta eX lH;rw[M,(Gq T eG f e).1];rfl
 let d:eX t r j=kq r (101+j):=by
  have:=VL (j.toNat,by show Y87 j4);rw[show((j.toNat:Nat):Int)=j from í c] at this
  delta eX lH;rw[J,this];rfl
 calc qP d;
 delta sw
 by_cases a:j=x
 .clear T M;subst a;rw[bj rfl,key _ (Y2 c)<|Y3 eG];delta RC;rw[aK RH,bj rfl]
 .rw[aK a];by_cases b:j=x+1
  .rw[bj b,key _ T<|Y0 eG];delta RC;rw[bj rfl,b]
  .rw[aK b,key _ c j4];delta RC;rw[aK a,aK b]
def abL(a:PN t e x aw t'):TI t' e (6*aw):=
 (a.inv,λg u v w h=>(by rw[a.ite] at h;cases h),a.vC,by rw[a.ite];show fj _,by
  rw[a.vars];have:=(PO (x.toNat,Ũ eG)).1;rwa [show((x.toNat:Nat):Int)=x from í T] at this)
def Zl(K:Mk t e ak aw)(c:PN t e x aw t'):(∀u∈ak,bc t'.X Z0 u)/\f7 t' ak=f7 t ak:=by
 refine(λu a=>(c.den u (K.made u a).1 (K.made u a).2).1,cJ λu a=>?_);let(J,M):=K.made u a;let hd:=(c.den u J M).2
 have:bK t' u=bK t u:=by funext r;delta bK;rw[hd,K.ti.inv.good.in4 J _ _<|á T eG K.e8 c.e8]
 delta pairOf;rw[this]
end
def oW.â{V:TA}(h:oW V g):∃a,aA V t g 373=Y (.raw<|kT a):=by
 let(J,M):=h;rw[pj J];rcases M with M|⟨d,oc,vs,c,M,_⟩
 .let M:(if 373∈V.list then R else g 373)=_:=M;rw[aK J] at M;show(_,M)
 .let M:(if 373∈V.list then R else g 373)=_:=M;rw[aK J] at M;show(_,M)
def abM{hB:cp w B}{n:Nat}{V:TA}{g:bf}{ns ak:List Int}{Q:Fl->bf->Prop}(i:Wf V)(C:BM B ob)(y:oW V g)(K:Mk t e ak 310)(k:ns.length<=1000)(h:∀j c,j 373=Y (.raw<|kT c)->Q (.ret<|.bool L) j):bH (fu+5000) ↑hB (LC w B hB n D,λz O _=>Q z O) (aa4 w) [] [] %[Y<|.lst<|ns.map AV.int,Y !V.x,Y (.lst<|f7 t ak)|14] (t\g):=by let s:=K.names;refine(⋯,?_);refine Im (n:=n+6) i K.ti s (λu q=>(K.made u q).1) (jh rfl<|zS (by simp;show Y46 k)<|pW ∅ (dR ∎ ?_));let d:=oV (((ns.map AV.int).length:Nat):Int) (b:=3) ∅;let p1:=sZ (((ns.map AV.int).length:Nat):Int) (b:=3) ∅;generalize (((ns.map AV.int).length:Nat):Int).fmod 3=x at*;refine RB (n:=n+7) i C y ∅ K.ti.inv K.e0 K.ti.vC K.vars K.e8 d p1 λa Dj t' g' p f A=>?_;let(o,m):=Zl d p1 K f;refine(⋯,?_);rw[<-m];calc Im (n:=n+6) (V:={V with ite:=Dj}) p (abL d p1 f) (VN d p1 f.vars f.e8) o;let(c,v):=oW.â (t:=t') A;show h _ c v
section
variable{V:TA}{t:TS}{g:bf}
structure LS(V:TA)(t:TS)(e:Int->Int)(ak:List Int)(h2:aW)(g:bf):Prop where
 hw:Wf V
 hM:h2∉V.list
 hg:g h2=Y (.list<|f7 t ak)
 hk:Mk t e ak 310
 ht:oW V g
inductive LQ(ns:List Int):Fl->bf->Lm->Prop
 |mk (V:TA) (t:TS) (e:Int->Int) (ak:List Int) (h2:aW) (g:bf) (hv:LS V t e ak h2 g):LQ ns .next (t\g) %[Y<|.lst<|ns.map AV.int,Y !V.x,Y (!h2)|14]
def abN(a:O 373=Y (.raw<|kT #[]))(k:ns.length<=1000):bH (fu+5000) ↑hB (LC w B hB n ak,LQ ns) (qT w) [] [] %[Y (.lst<|ns.map AV.int)|16] O:=by
 refine aa6 λV s h2 z d c f i j=>?_;intro _;rw[show bT 4=bI 0 from rfl];calc abk d f j;intro _;refine abB d (mkI 4 ∅) f (by rw[j,abi]) ∅ k λm e2 p h K q o=>?_
 show .mk V m e2 p h2 h (d,f,q,K,(c _ _ a).2,.inl<|by show(if 373∈V.list then R else h 373)=_;rw[aK (c _ _ a).2];show o _ _ (λe=>by rw[<-e,a] at i;show nomatch i) (c _ _ a).1)
def VO{ns:List Int}(M:BM B ob)(J:O 373=Y (.raw<|kT #[]))(j:ns.length<=1000)(h:∀p d,p 373=Y (.raw<|kT d)->Q (.bool L) p):Cl ↑hB (n+21) (!531) [.lst<|ns.map AV.int] [] O Q:=by
 refine KA (n:=n+20) (oc:=.type "function") (od:=R) (osl:= #[]) (fd:=iy (K1 w) 531) (body:=dB (K1 w) 531) ⋯ ⋯ ⋯ ⋯ (HW (x:=ah "script") λv=>⋯) ⋯ ⋯ λs=>G? 5 ((Uu (C:=LC w B hB n s) (ir:=qT w) (m:=%[Y (.lst<|ns.map AV.int)|16]) (Q:=LQ ns) (uW rfl) ⋯ (abN J j)).mono λf H D e=>e.elim λz e=>?_);let(A,e):=e
 induction e with
 |mk V u e2 I h2 G c=>
 show Ex _ _ _ (TP (dB (K1 w) 531) 5) _ _ _;calc Qs (A (ah "made") 2 _ rfl rfl) (bz c.hM c.hg);rw[eN c.hM];let E:oW V (cD G h2):=c.ht.move λa o y i=>(y,by rw[cx (λq=>by rw[q,c.hg] at i;show nomatch i)];show i);show(Uu (C:=LC w B hB n s) (ir:=aa4 w) (m:=%[Y<|.lst<|ns.map AV.int,Y !V.x,Y (.lst<|f7 u I)|14]) (Q:=λf O _=>Q (m7 f) O) (A.set (k:=2) rfl) ⋯ (abM (Q:=λf O=>Q (m7 f) O) c.hw M E c.hk j h)).mono λf H D h=>h.elim λz h=>h.2
end
def ints_of:∀{xs:List WData} {vs:List Value} {P:Params} {h:oX} {U:Fz},(∀x∈xs,∃i,x=.int i)->WellAll P h vs xs->∃ns:List Int,xs=ns.map .int/\ck U (ns.map AV.int) vs:=by
 intro xs
 induction xs with
 |nil=>
  intro vs P h U _ w;cases w;show aC [] rfl .nil
 |cons x xs a=>
  intro vs P h U T w;cases w with
  |cons r rs=>
  let(i,rfl):=T x aQ;let(ns,J,M):=a (U:=U) (λy c=>T y<|dG _ c) rs;cases r with|int _ t=>show(aC (i::ns) (by rw[J];rfl)<|.cons (.int i t) M)
def items_int:∀{xs:List WData},D7 ae xs .int=L->∀x∈xs,∃i,x=.int i:=by
 intro xs
 induction xs with
 |nil=>intro _ x T;cases T
 |cons y xs a=>
  intro h x T;let h:(WShape.has ae y .int&&D7 ae xs .int)=L:=h;let(J,M):=ba.mp h;clear h;rcases aS.mp T with rfl|T
  .show hasW_int J
  .show a M x T
def VP(h:PySem.Challenge.rw_md0009_01.row.toRowW.claim.pre args=L):∃xs:List WData,args=[.list xs]/\(∀x∈xs,∃i,x=.int i)/\xs.length<=63:=by let(J,M):=pre_splitW h;clear h;let(d,r,rfl,e,c):=hasAllW_cons J;clear J;let rfl:=hasAllW_nil c;let(xs,rfl,a):=hasW_list e;calc dc xs rfl (items_int a);refine Nat.le_of_not_lt λf=>?_;replace M:WTm.holds [] (.and (.not .res)<|.lit<|.bool L) {args:=[],res:=Y (.bool<|decide ((63:Int)<xs.length))}=L:=M;rw[decide_eq_true (aiV f)] at M;show aI M
abbrev mU(h:oX):Fz:=λb=>if b=373 then R else h.get? b
def Zm(ay:(Kt w.params).In h)(bD:h.Ns dt t)(s:h.Ns jx j)(i:h.NoLimit)(g:∀x:Str,x≠"__name__"->j x=lW x)(m:∃o,h.get? wt=Y o):cp w (mU h):=by
 let k:∀{b:aW} {o:Obj},b≠373->h.get? b=Y o->mU h b=Y o:=λn f=>by delta mU;rw[aK n];show f
 refine(λa o e=>k (λq=>by subst q;cases (show(Kt w.params).lookup 373=R by kernel_rfl).symm.trans e)<|ay _ _ e,?_,?_,?_,?_)
 .let(u,(o,es,ep,J,M,c,d),p):=i;show yD o es ep (k ∅ J) M c<|(d _).trans p
 .let(o,es,ep,J,M,c,d):=bD;show xg o es ep (k ∅ J) M c
 .let(o,es,ep,J,M,c,d):=s;show yD o es ep (k ∅ J) M c (λx T=>(d x).trans (g x T))
 .let(o,f):=m;show(o,k ∅ f)
abbrev g0:bf:=λa=>if a=373 then Y (.raw<|kT #[]) else R
nonrec def abO(hB:cp w (mU s.heap))(c:s.heap.get? 373=Y (kT #[]))(f:s.gens= #[]):St (bs w (mU s.heap) hB) (mU s.heap) g0 s:=by
 refine(λ_ _ h=>h,λa o h=>?_,λa g h=>?_,f)
 .unfold mU at h;split at h
  .cases h
  .rename_i d;show(h,aK d)
 .unfold g0 at h;split at h
  .rename_i e;subst e;cases h;show aC _ c rfl
  .cases h
def Zn{w:cC}(ay:(Kt w.params).In h):isCodeTable h 373:=by let(o,vs,f,g,i,e,b,n,d,J,M,c,a,_):=DE ay (show codeHdIn (Kt w.params) 377 373=L by kernel_rfl);show(377,o,vs,J,M,c,a)
def VQ(args:List WData):PySem.Challenge.rw_md0009_01.row.toRowW.claim.post args (.bool L) args=L:=by kernel_rfl
def call_law:WalkO qw lo (XL qw []) HK.says PySem.Challenge.rw_md0009_01.row.toRowW PX [] λf vs=>Og f vs:=by
 intro w GU c y mb bD s a o pm cd doc dV kV k ho D i d C args vals as p SU Xn e! abQ;let ay:(Kt w.params).In c.heap:=km_in_of s;let j:c.heap.get? 373=Y (kT #[]):=km_tabs_of s 373 ∅;let hx:=bD.1
 let k:a=531:=by let J:=mg_of (n:=ah "law") (v:=.ref 531) ay hx.g ();let M:y (ah "law")=Y (!a):=d;rw[J] at M;clear c y bD s o k ho D i d C Xn e! ay j hx J;cases M;rfl
 clear d as SU Xn abQ;subst k
 let G:∃o,c.heap.get? wt=Y o:=by let(mm,(o,_,_,h,_),_):=(hx.seer<|by lk).mods;show(o,h)
 let hB:=Zm ay hx.g hx.b hx.nolimit hx.builtins G;let E:=abO hB j C;let(xs,rfl,JL,T):=VP p;clear p;cases e! with
 |cons r1 r2=>
 cases r2;cases r1 with
 | @list b vs _ J H=>
 let(ns,rfl,S):=ints_of (U:=mU c.heap) JL H;let(bm,obm,m,e2,I,e4,e5,e6):=hx.bmain
 let Cm:bm=4:=by let J:=mg_of (n:=ah "__builtins__") (v:=.ref 4) ay hx.g ();let m:y (ah "__builtins__")=Y (!bm):=m;rw[J] at m;clear bD s D i C ay j hx k G hB E obm e2 I e4 e5 e6;cases m;rfl
 clear y bD i hx m e2;subst Cm;let t:BM (mU c.heap) obm:=(by delta mU;rw[aK ∅];show I,e4,e5,e6);let hb:b≠373:=λq=>by clear GU ns S JL T H;subst q;rw[j] at J;cases J
 let hV:cH (mU c.heap) (.lst<|ns.map AV.int) (!b):=.lst (aH:=vs.toArray) (by delta mU;rw[aK hb];show J)<|qP zh S;let key:=VO (B:=mU c.heap) (hB:=hB) (n:=0) (O:=g0) t () (ns:=ns) (by simp at T;show aiW T) (Q:=λa bq=>a=.bool L/\∃more,bq 373=Y (.raw<|kT more)) (λbq more q=>(rfl,(more,q)));refine aG (key (mU c.heap) c callerA [.ref b] [] (∅,∅,rfl) E (.cons hV .nil) rfl .nil) (λv s' P=>?_) λ_ _ e=>e.elim;let(U',av,bq,gr,A,HE,rfl,more,h9):=P;let rfl:=HE.bU;let old:∀z oo,c.heap.get? z=Y oo->z≠373->s'.heap.get? z=Y oo:=λz oo q1 q2=>(A.bC z oo<|gr.bC z oo<|by delta mU;rw[aK q2];show q1).1;let(o9,q9,u):=A.own _ _ h9;let u:o9=kT more:=u;subst u;refine(.inl<|Eu _ (.bool L) ([]) rfl (λ_=>rfl) (.bool L) (VQ _)<|λ_=>(jW,λ_ hh=>(by cases hh)),(λz oo hz=>?_,λz oo hz=>?_),gr.os,.of_eq A.gens)
 .by_cases q:z=373
  .subst q;rw[j] at hz;cases hz;show .inr (.inl<|bt (Zn ay) rfl<|jo (#[]) more rfl<|by rw[q9];simp)
  .show .inl<|old z oo hz q
 .by_cases q:z=373
  .clear c s D C ay j k G hB E J S H I t hV key gr A old u oo hz;subst q;show(_,q9)
  .show(_,old z oo hz q)
end Bd
theorem PySem.Challenge.cw_md0009_01_holds : PySem.Challenge.rw_md0009_01.Holds := by
  exact Bd.hd Bd.call_law
