import PyProof.Rows.All
import Wide.All
import OpenK.AllK
import Wide.FinOn
import KE.KLam
import KE.KNest
import PyProof.DictCompW
import KE.KEqDict
import KE.KDictSum
import PyProof.Rows.SortStr
import KE.KSortTup
import Lean
import PySem.Challenge.RW_te0002_01
set_option Elab.async false
set_option autoImplicit false
set_option genSizeOf false
set_option genInjectivity false
set_option genCtorIdx false
set_option bootstrap.genMatcherCode false
set_option linter.all false
set_option maxRecDepth 1000000
set_option tactic.hygienic false
set_option backward.match.sparseCases false
open And renaming left->iU,right->ade
open Array renaming getElem?_toList->bl,length_toList->ee,any_toList->gI,getElem?_eq_some_iff->iD,getElem?_eq_getElem->iJ,forIn_toList->aci,toList_push->acs,size->Lb,toList->Lf
open Bool renaming false->ah,true->aj,false_ne_true->av,and_eq_true->az,or_eq_true->cT,or_eq_false_iff->cf,eq_false_iff->di,not_eq_true'->eN,eq_iff_iff->gc,false_and->iH,and_false->iI,true_and->adB,or_assoc->adC,or_true->adU,rec->ae4
open Classical renaming epsilon->cJ,byContradiction->eQ,epsilon_spec->el,choose_spec->gH,em->iC,choose->jg,ofNonempty->afe
open Decidable renaming decide->ba,not_not->cB,by_contra->gb,em->afd
open ForInStep renaming yield->fF
open Inhabited renaming default->i'
open Int renaming natCast_nonneg->cA,ofNat_lt->cY,toNat_natCast->eP,add_sub_cancel->ew,ofNat_le->fC,not_lt->fS,le_trans->fk,toNat_of_nonneg->gz,not_le->hN,sub_left_inj->hs,neg_neg->hu,fmod_eq_emod_of_nonneg->iS,natCast_pos->adj,le_antisymm->adk,toNat_lt->aec,sub_zero->aed,lt_trans->aee,add_zero->aef,toNat->Lg
open Int.ofNat renaming inj->dH
open List renaming mem_of_getElem?->aa,length_map->ab,not_mem_nil->ac,mem_cons_self->ae,mem_cons_of_mem->af,getElem?_eq_some_iff->ag,mem_singleton->ak,mem_map->am,mem_cons->ao,getElem?_eq_getElem->aq,mem_filter->ar,getElem?_map->ax,length_append->bH,take_length->bI,map_append->bK,mem_append_left->bM,mem_append_right->bP,append_nil->bQ,mem_append->bR,mem_flatMap->bV,length_range->bX,map_map->bY,getD_eq_getElem?_getD->bZ,all_eq_true->bc,range->be,length_take_le'->bg,mem_range->bj,map_cons->bo,getElem?_range->bp,append_assoc->bw,lookup_cons->bx,getElem?_eq_none_iff->bz,pairwise_singleton->cD,mem_iff_getElem?->cF,length_cons->cN,filter_cons->cO,nodup_cons->cQ,mem_filterMap->cV,mem_singleton_self->cX,filter_sublist->cZ,pairwise_map->cc,getElem?_take_of_lt->ci,foldl_append->co,mem_of_mem_take->cr,getElem?_toArray->cw,getElem?_eq_none->cx,size_toArray->cy,nodup_append->cz,take_of_length_le->dE,length_take->dF,range_succ->dL,replicate->dS,getElem?_inj->dT,flatMap_singleton->dU,map_eq_nil_iff->dV,pairwise_cons->db,length->df,flatMap_append->dj,length_filter_le->dt,findIdx?_eq_some_iff_getElem->du,getElem?_append_left->dv,all_cons->dz,filterMap_cons->eA,any_eq_true->eC,lookup->eI,filter_append->eJ,filter_nil->eK,rec->eT,nodup_nil->eU,flatMap_nil->eY,length_filterMap_le->eg,ne_nil_of_mem->eo,filterMap_map->eq,map->ey,filterMap_eq_map'->ez,filterMap->f',pairwise_flatMap->fE,pairwise_append->fU,getElem?_zipIdx->fV,length_nil->fX,map_congr_left->fb,length_take_le->fc,take_zero->fn,map_replicate->fp,getElem?_append_right->fq,filterMap_eq_nil_iff->ft,exists_mem_of_ne_nil->fu,range'->fw,flatMap_cons->fx,any_eq_false->fy,filterMap_cons_some->gB,filterMap_cons_none->gC,nodup_range->gJ,length_eq_zero_iff->gK,length_drop->gL,append_eq_nil_iff->gT,nil_append->gX,forIn_cons->gY,lookup_cons_self->gd,filterMap_append->ge,mem_of_mem_drop->gi,idxOf_cons_self->gj,getElem?_mapIdx->gk,map_drop->gy,map_singleton->hD,length_mapIdx->hE,getElem?_drop->hF,nodup_range'->hQ,ext_getElem?->hR,mk_mem_zipIdx_iff_getElem?->hX,range'_succ->hc,prefix_refl->hd,mem_reverse->he,getElem_inj->hf,mem_zipIdx_iff_getElem?->ht,perm_ext_iff_of_nodup->iF,drop_eq_getElem_cons->iR,map_take->iX,pairwise_mergeSort->ic,getElem?_cons_succ->ie,map_nil->im,filter_eq_nil_iff->io,take_append_drop->jb,length_replicate->jc,findIdx?_toArray->jd,range_eq_range'->jk,getElem?_of_mem->jl,forall_mem_cons->jm,mergeSort_perm->ju,mem_map_of_mem->jv,zip_cons_cons->acn,map_inj_right->aco,length_zipIdx->acp,filter_filter->acq,take_sublist->acK,take_add_one->acL,mem_range'_1->acM,filter_congr->acN,nil_sublist->acS,isEmpty_iff->acT,cons_ne_nil->acU,foldl_cons->adc,find?_cons->add,all_map->adR,filter->aeb,foldl->aer,length->La,toArray->Lc,Nodup->Le,isEmpty->Li,lookup->Lj,idxOf->Lk,take->Ll,drop->Lm
open List.Nodup renaming length_le_of_subset->ae2
open List.Pairwise renaming imp_of_mem->dW,filter->ev,nil->gZ
open List.Perm renaming eq_of_pairwise->hr,refl->afc
open List.Sublist renaming nodup->aes
open List.cons renaming inj->an,injEq->afb
open Nat renaming le_trans->aX,lt_of_le_of_lt->aZ,le_refl->al,lt_of_lt_of_le->au,le_of_eq->aw,eq_of_beq_eq_true->bA,add_le_add_right->bC,le_of_ble_eq_true->bE,ne_of_lt->bF,le_of_lt->bL,lt_succ_self->bN,add_le_add_left->bS,zero_le->bT,mul_le_mul_left->bW,succ_le_succ->bb,le_add_right->bd,ne_of_gt->bi,le_succ->bm,lt_trans->br,add_le_add->bv,le_antisymm->cC,ble_eq_true_of_le->cG,lt_succ_of_lt->cH,le_of_succ_le->cI,ble->cK,le_add_left->cM,lt_of_succ_lt->cP,add_assoc->cS,not_lt->cb,le_of_lt_succ->cg,add_comm->ck,not_lt_of_le->cn,zero_add->ct,le_of_not_lt->cv,lt_succ_of_le->dA,le_succ_of_le->dB,add_right_comm->dN,lt_irrefl->dR,succ_ne_zero->dc,not_le_of_lt->dd,lt_or_eq_of_le->de,le_of_add_right_le->dn,beq_refl->dp,min_eq_left->dx,sub_lt_sub_left->eB,lt_add_of_pos_right->eG,mod_lt->eW,succ_ne_self->ec,mul_succ->ed,succ->ek,not_lt_zero->en,succ_pos->fB,succ_lt_succ->fR,not_succ_le_self->fW,rec->fj,succ_pred_eq_of_pos->gP,lt_of_not_le->gQ,add_sub_cancel_left->gR,lt_of_add_right_lt->gW,add_sub_cancel'->gw,add_lt_add_left->gx,lt_of_lt_of_eq->hM,lt_or_ge->hV,beq->hW,one_ne_zero->iA,min_le_left->iB,lt_one_iff->iQ,lt_of_succ_lt_succ->ja,not_succ_le_zero->js,add_lt_add_right->jt,sub_le_sub_left->acm,pos_of_ne_zero->acG,lt_of_le_of_ne->acH,add_sub_cancel->acI,sub_pos_of_lt->acR,blt->ad',add_zero->aea,one_pos->aeq,sub_le->aeR,ble_eq->aeS
open Nat.le renaming intro->hC
open Nat.succ renaming inj->eO
open Ne renaming symm->ha
open Option renaming some->V,none->Y,bind_eq_some_iff->bD,map_eq_some_iff->bO,rec->dC,ne_none_iff_exists'->dq,getD->fH,map_some->fT,bind_some->g',isSome->gr,map->ji,isSome->Lh
open Option.some renaming inj->aY
open PUnit renaming unit->ad9
open Prod renaming ext->bt,fst->ca,snd->dO
open Prod.mk renaming inj->bf
open Pure renaming pure->er
open PyProof.Rows renaming isSubtype_of_subB->da,subscriptTail->eE,seqObj->fO,tail_any->gf,IntsAre->gs,slot_tuple_getitem->hi,size_push'->hk,Subscript_->hq,entry_list_sort->iY,slot_list_sort->ir,args_list_sort->iu,listUpdate_at->jq,plain_sorted->acv,entry_sorted->acA,args_sorted1->acC,StrsAre->acD,seqEpoch_at->ac5,kind_sorted->ac6,sortedHeap->ado,setObjOf_fresh->aem,firstMet_succ->aen,firstMet->aeo,evalArgs_nil3->aeX
open PySem renaming wpAny_pure->ai,wpAny->ay,Value->bB,Shared->bG,Addr->bk,wpAny_call_entry->bq,wpAny_holding->bu,wpAny_mono->cE,Expr->cL,sizeLine_eq->cU,Str->cj,wpAny_callSpecial?_slot->cq,mainGlobals->cu,wpAny_dictEntries->dD,wpAny_newObj_type->dK,DictEntry->dM,wpAny_bind->dP,Heap->dX,wpAny_standAt->dY,wpAny_rule->dZ,compareOp->dg,Operator->dw,eval->dy,wpAny_dictEpoch->e',wpAny_setField_rec->eM,NameKind->eR,wpAny_notOrdered_dict->eV,slot_dict_getitem->eX,compEnvC->ef,wpAny_execs_cons->ei,seqIndex?->ej,exec->et,Scope->fD,strKind->fG,wpAny_truthy_bool->fJ,wpAny_setField->fK,wpAny_sequenceKey->fL,wpAny_Assign_Name->fM,starEach->fN,callEnvC->fP,wpAny_typeNameOfWhole_itemiter->fY,wpAny_isInstance->fZ,wpAny_forIn_list->fa,Around->fe,codeAny->ff,wpAny_typeNameOfWhole_keyiter->fg,wpAny_field->fh,binaryOp->fi,wpAny_specialOf->fr,sizeLine->gE,FuncData->gG,wpAny_pyIter_slot->gS,wpAny_assignInOrder_more->gU,pyIter->gV,eqIsQuiet->gg,CmpOp->gh,wpAny_isOneOf_itemiter->gl,sysModules->gm,builtinsNs->gn,backTo->gp,Stmt->gq,letOwnedTupleGo->gt,Env->gu,wpAny_formatField_str->gv,Sem->hB,wpAny_bindName->hI,placesWithHash->hJ,Obj->hP,wpAny_newList->hY,wpAny_missed_other->hh,slot_dict_contains->hj,pyNext->hm,call_meets->hn,assignEach->ho,wpAny_pyIter_list->hv,hashStr->hy,plainObj_wpAny_Assign_Attribute->iE,slicePick->iL,rawInt->iM,KeyKind->iO,wpAny_richCompare_same_room->ij,plainIs->ik,wpAny_Name->iq,ReadsAll->iz,IsItemIter->je,wpAny_getItem_list_slice->jn,wpAny_assignInOrder_none->jo,swappedStores->jp,execs->acj,cellsFrom->ack,World->acl,IsEnumOut->acr,tableMayTell->act,pyHash->acu,isTrue->acw,intKind->acx,getAttr->acz,dictGet->acB,Result->acE,OsState->acF,IsEnum->acO,wpAny_isOneOf_keyiter->acP,wpAny_setFlight_none->acX,wpAny_noted->acY,wpAny_newFunctionEnv->acZ,wpAny_mkInt->ac0,wpAny_loadName_local->ac1,wpAny_letGo->ac2,strIterType->ac3,sliceBounds->ac4,callWith->ac8,bindArgs->ac9,Reads->ada,wpAny_loadName_cell->adf,list_getitem_lookup->adg,wpAny_pyIter_tuple->adl,typeIs_str->adm,reduceHash->adp,entry_dict_getitem->adr,Thread->ads,PyData->adw,BoolOp->adA,wpAny_pyIter_enum->adD,wpAny_collect_seq->adE,slot_list_setitem->adH,slot_dict_setitem->adI,dictSet->adK,args_dict_getitem->adL,allTrue->adM,Program->adQ,wpAny_Try_except->adV,swapsWith->adW,strValues->adX,plain_len->adZ,entry_len->ad2,beq_builtin_none->ad4,call->ad8,wpAny_ret_mkInt->aek,wpAny_execs_nil->ael,wpAny_seqItems->aev,wpAny_newTuple->aew,wpAny_loadPart->aex,wpAny_fieldsOf->aey,wpAny_Expr_any->aez,newFunctionEnv->aeE,methodCallForm->aeF,isSubtype_stop->aeH,entryFor_alias->aeK,constantsAlone->aeL,wpAny_attempt->aeV,slicePick_all->aeW,behindInMarks->aeY,attributeBase->aeZ,IsItemIterOut->ae3
open PySem.AutoListH renaming list_insert_list_int_val_1->adv
open PySem.Builtin renaming divisionGoesByPylong->dh
open PySem.Builtin.Dict renaming showsAll->eD,samePairs->hg,pendingCount->aeu
open PySem.Builtin.Dict_items renaming ownsTuple->eh,ownedTupleFields->acW
open PySem.Builtin.Int renaming intBits->aeU
open PySem.Builtin.List renaming listFitsIndex->hH,listSubscript?->aet
open PySem.Builtin.Range renaming rangeSize->hS,small->aei,rangeFitsLong->aej
open PySem.Builtin.SmallTypes renaming nextOf->acV
open PySem.Builtin.SmallTypes.calledThroughType renaming match_1->hG
open PySem.Builtin.Str renaming occurrences->dJ,tooLong->adG
open PySem.Builtin.Tuple renaming tupleItemsOf->aeg,tupleHashOf->aeh
open PySem.Calls renaming call_function_entry->eb,evalArgs_plain->aeJ
open PySem.Challenge renaming rw_te0002_01->eu,pw_te0002_01->adu
open PySem.Code renaming builtin->ea
open PySem.Expr renaming Name->aeT
open PySem.F renaming slot_dict_itemiterator_next->eL,slot_dict_keyiterator_next->fm,slot_tuple_hash->gN,slot_dict_itemiterator_iter->iG,slot_dict_len->iT,sub_dict_dict->iW,slot_dict_ne->ia,slot_dict_eq->ib,slot_tuple_iterator_next->ig,slot_range_iterator_iter->ii,slot_dict_items_iter->jw,slot_dict_iter->adx,entry_list_pop->ady,entry_dict_get->adz,slot_list_pop->adS,slot_dict_get->adT
open PySem.Heap renaming get?_push_size->bJ,get?_push_of_some->bU,lt_size->bn,get?_none_of_le->cR,get?_update_self->cW,SameBut->d',size_push->dr,size_update->eZ,ExtBut->ex,get?_update_other->fA,get?_push_ne->fz,size_after_update->ip,get?->Ln
open PySem.Heap.IsSliceOf renaming new->gM
open PySem.Heap.SameBut renaming update->ch
open PySem.Manifest renaming find?->hb
open PySem.MeetsSeq renaming tuple_getitem_out->adN,list_pop_last->adO,list_pop_at->adP
open PySem.NameKind renaming free->dI,cell->acJ
open PySem.Obj renaming data_mapFields->ds,isFreed_of_fields->fI,cls_mapFields->gA,mapFields->gF,mapSeq->hL,data->iP,putName->aep
open PySem.PyData renaming eqv->dQ,strOk->eH,list->hU,depthAll->hZ,showableAll->jh,hasDictAll->jr,eqvAll->adb
open PySem.ScopeKind renaming function->iZ
open PySem.SeqAt renaming shaped->adt,EqAt->ad7
open PySem.Shared renaming TypeIs->ac'
open PySem.Str renaming empty->gO,mk->iw,length->Ld
open PySem.Value renaming ref->dm,str->hT,isStrOf->iN,isInt->iv,none->ad6
open PySem.Value.ref renaming inj->dG
open PySem.Value.type renaming inj->ae0
open PySem.W renaming findIn->dk,dictOf->eF,boot_heap->eS,SharedT->fQ,tabObj->gD,Frag->ga,handedIn->hK,CodeHd->hO,plainGet->hw,looks_findIn->hx,typeIn->iK,plainGet_of->iV,ghostOf->il,InstAt->jf,getL->acy,ghost_ns->ac7,namesBound->adq,topStub->adF,makesIn->adJ,staticsOk->adY,plainOver->ad0,hasDictIn->ad1,openGood->aeC,laidKept->aeG,gensDone->aeI
open PySem.W.Fast renaming tw4187177175401517315->acQ
open PySem.W.Looks renaming of_pure->adi
open PySem.Walks renaming list->ad5
open PySem.pyHashByItsType renaming reduced->hA
open Std.Legacy.Range renaming forIn_eq_forIn_range'->adh
open PySem PySem.W PyProof.Rows PySem.Calls PySem.Builtin PySem.Builtin.Str
noncomputable section
namespace Mine.Internal
open Mine.Internal
abbrev Lt:Type ->Type:=List
abbrev Op:Type ->Type:=Option
def U:=@rfl
def aB:=@congrArg
def a':=@absurd
def aA:=@if_neg
def aC:=@if_pos
def aF:=@of_decide_eq_true
def aD:=@decide_eq_true
def aG:=@decide_eq_false
def aE:=@beq_iff_eq
def aI:=@beq_self_eq_true
def aK:=@or_congr_right
def aH:=@trivial
def aM:=@beq_false_of_ne
def aO:=@decide_eq_true_iff
def aP:=@decide_eq_true_eq
def aQ:=@bne_self_eq_false
def aR:=@beq_eq_false_iff_ne
def aJ:=@funext
def aL:=@or_assoc
def aN:=@congrFun
def aS:=@decide_eq_decide
def aT:=@lt_of_eq_of_lt
def aW:=@and_congr_left
def aU:=@decide_not
def aV:=@not_congr
def Eq.a:=@Eq.trans
def Exists.a:=@Exists.elim
def Iff.a:=@Iff.mp
def Eq.b:=@Eq.symm
def Or.a:=@Or.elim
def Iff.b:=@Iff.mpr
def Exists.b:=@Exists.imp
def List.Nodup.a:=@List.Nodup.length_le_of_subset
def Iff.c:=@Iff.trans
def Or.b:=@Or.resolve_left
def Or.c:=@Or.imp
def List.Nodup.b:=@List.Nodup.sublist
def Or.d:=@Or.resolve_right
def Ne.a:=@Ne.symm
def Or.e:=@Or.imp_right
section
variable{a c d e f i j l m n o p q:Type}{b g:Prop}{k:Nat → Prop}
@[elab_as_elim]def jx{b c:a}{d:a->Prop}(e:b=c)(f:d c):d b:=e▸f
@[elab_as_elim]def jL{b c:a}{d:a->Prop}(e:c=b)(f:d c):d b:=e▸f
def q2[Nonempty a]{c:a->Prop}(d:c<|cJ λb=>¬c b):∀b,c b:=λb=>eQ λe=>el (p:=λb=>¬c b) ⟨b,e⟩ d
def pn{d:Nonempty a}{b:a->Prop}:a:=cJ λc=>¬b c
theorem pJ[c:Nonempty a]{b:a->Prop}(d:b<|pn (d:=c) (b:=b)):∀e,b e:=q2 d
def lX{e:Nonempty<|a×c}{d:a->c->Prop}:a×c:=cJ λb=>¬d b.1 b.2
theorem od[g:Nonempty<|a×c]{d:a->c->Prop}(h:(λb=>d b.1 b.2)<|lX (e:=g) (d:=d)):∀e f,d e f:=λe f=>q2 (c:=λb=>d b.1 b.2) h (e,f)
def mj{f:Nonempty<|(a×c)×d}{e:a->c->d->Prop}:(a×c)×d:=cJ λb=>¬e b.1.1 b.1.2 b.2
theorem q3[j:Nonempty<|(a×c)×d]{e:a->c->d->Prop}(k:(λb=>e b.1.1 b.1.2 b.2)<|mj (f:=j) (e:=e)):∀f g h,e f g h:=λf g h=>q2 (c:=λb=>e b.1.1 b.1.2 b.2) k ((f,g),h)
def lr{g:Nonempty<|(a×c)×d×e}{f:a->c->d->e->Prop}:(a×c)×d×e:=cJ λb=>¬f b.1.1 b.1.2 b.2.1 b.2.2
theorem qu[l:Nonempty<|(a×c)×d×e]{f:a->c->d->e->Prop}(m:(λb=>f b.1.1 b.1.2 b.2.1 b.2.2)<|lr (g:=l) (f:=f)):∀g h j k,f g h j k:=λg h j k=>q2 (c:=λb=>f b.1.1 b.1.2 b.2.1 b.2.2) m ((g,h),j,k)
def mf{h:Nonempty<|((a×c)×d)×e×f}{g:a->c->d->e->f->Prop}:((a×c)×d)×e×f:=cJ λb=>¬g b.1.1.1 b.1.1.2 b.1.2 b.2.1 b.2.2
theorem uc[n:Nonempty<|((a×c)×d)×e×f]{g:a->c->d->e->f->Prop}(o:(λb=>g b.1.1.1 b.1.1.2 b.1.2 b.2.1 b.2.2)<|mf (h:=n) (g:=g)):∀h j k l m,g h j k l m:=λh j k l m=>q2 (c:=λb=>g b.1.1.1 b.1.1.2 b.1.2 b.2.1 b.2.2) o (((h,j),k),l,m)
def kE{h:Nonempty<|((a×c)×d)×(e×f)×i}{g:a->c->d->e->f->i->Prop}:((a×c)×d)×(e×f)×i:=cJ λb=>¬g b.1.1.1 b.1.1.2 b.1.2 b.2.1.1 b.2.1.2 b.2.2
theorem qv[o:Nonempty<|((a×c)×d)×(e×f)×i]{g:a->c->d->e->f->i->Prop}(p:(λb=>g b.1.1.1 b.1.1.2 b.1.2 b.2.1.1 b.2.1.2 b.2.2)<|kE (h:=o) (g:=g)):∀h j k l m n,g h j k l m n:=λh j k l m n=>q2 (c:=λb=>g b.1.1.1 b.1.1.2 b.1.2 b.2.1.1 b.2.1.2 b.2.2) p (((h,j),k),(l,m),n)
def lt{h:Nonempty<|((a×c)×d×e)×(f×i)×j}{g:a->c->d->e->f->i->j->Prop}:((a×c)×d×e)×(f×i)×j:=cJ λb=>¬g b.1.1.1 b.1.1.2 b.1.2.1 b.1.2.2 b.2.1.1 b.2.1.2 b.2.2
theorem ud[q:Nonempty<|((a×c)×d×e)×(f×i)×j]{g:a->c->d->e->f->i->j->Prop}(r:(λb=>g b.1.1.1 b.1.1.2 b.1.2.1 b.1.2.2 b.2.1.1 b.2.1.2 b.2.2)<|lt (h:=q) (g:=g)):∀h k l m n o p,g h k l m n o p:=λh k l m n o p=>q2 (c:=λb=>g b.1.1.1 b.1.1.2 b.1.2.1 b.1.2.2 b.2.1.1 b.2.1.2 b.2.2) r (((h,k),l,m),(n,o),p)
def kG{h:Nonempty<|((a×c)×d×e)×(f×i)×j×l}{g:a->c->d->e->f->i->j->l->Prop}:((a×c)×d×e)×(f×i)×j×l:=cJ λb=>¬g b.1.1.1 b.1.1.2 b.1.2.1 b.1.2.2 b.2.1.1 b.2.1.2 b.2.2.1 b.2.2.2
theorem sz[s:Nonempty<|((a×c)×d×e)×(f×i)×j×l]{g:a->c->d->e->f->i->j->l->Prop}(t:(λb=>g b.1.1.1 b.1.1.2 b.1.2.1 b.1.2.2 b.2.1.1 b.2.1.2 b.2.2.1 b.2.2.2)<|kG (h:=s) (g:=g)):∀h k m n o p q r,g h k m n o p q r:=λh k m n o p q r=>q2 (c:=λb=>g b.1.1.1 b.1.1.2 b.1.2.1 b.1.2.2 b.2.1.1 b.2.1.2 b.2.2.1 b.2.2.2) t (((h,k),m,n),(o,p),q,r)
def kZ{h:Nonempty<|(((a×c)×d)×e×f)×(i×j)×l×m}{g:a->c->d->e->f->i->j->l->m->Prop}:(((a×c)×d)×e×f)×(i×j)×l×m:=cJ λb=>¬g b.1.1.1.1 b.1.1.1.2 b.1.1.2 b.1.2.1 b.1.2.2 b.2.1.1 b.2.1.2 b.2.2.1 b.2.2.2
theorem vl[u:Nonempty<|(((a×c)×d)×e×f)×(i×j)×l×m]{g:a->c->d->e->f->i->j->l->m->Prop}(v:(λb=>g b.1.1.1.1 b.1.1.1.2 b.1.1.2 b.1.2.1 b.1.2.2 b.2.1.1 b.2.1.2 b.2.2.1 b.2.2.2)<|kZ (h:=u) (g:=g)):∀h k n o p q r s t,g h k n o p q r s t:=λh k n o p q r s t=>q2 (c:=λb=>g b.1.1.1.1 b.1.1.1.2 b.1.1.2 b.1.2.1 b.1.2.2 b.2.1.1 b.2.1.2 b.2.2.1 b.2.2.2) v ((((h,k),n),o,p),(q,r),s,t)
def mg{h:Nonempty<|(((a×c)×d)×e×f)×((i×j)×l)×m×n}{g:a->c->d->e->f->i->j->l->m->n->Prop}:(((a×c)×d)×e×f)×((i×j)×l)×m×n:=cJ λb=>¬g b.1.1.1.1 b.1.1.1.2 b.1.1.2 b.1.2.1 b.1.2.2 b.2.1.1.1 b.2.1.1.2 b.2.1.2 b.2.2.1 b.2.2.2
theorem z3[w:Nonempty<|(((a×c)×d)×e×f)×((i×j)×l)×m×n]{g:a->c->d->e->f->i->j->l->m->n->Prop}(x:(λb=>g b.1.1.1.1 b.1.1.1.2 b.1.1.2 b.1.2.1 b.1.2.2 b.2.1.1.1 b.2.1.1.2 b.2.1.2 b.2.2.1 b.2.2.2)<|mg (h:=w) (g:=g)):∀h k o p q r s t u v,g h k o p q r s t u v:=λh k o p q r s t u v=>q2 (c:=λb=>g b.1.1.1.1 b.1.1.1.2 b.1.1.2 b.1.2.1 b.1.2.2 b.2.1.1.1 b.2.1.1.2 b.2.1.2 b.2.2.1 b.2.2.2) x ((((h,k),o),p,q),((r,s),t),u,v)
def mR{h:Nonempty<|(((a×c)×d)×(e×f)×i)×((j×l)×m)×n×o}{g:a->c->d->e->f->i->j->l->m->n->o->Prop}:(((a×c)×d)×(e×f)×i)×((j×l)×m)×n×o:=cJ λb=>¬g b.1.1.1.1 b.1.1.1.2 b.1.1.2 b.1.2.1.1 b.1.2.1.2 b.1.2.2 b.2.1.1.1 b.2.1.1.2 b.2.1.2 b.2.2.1 b.2.2.2
theorem CM[y:Nonempty<|(((a×c)×d)×(e×f)×i)×((j×l)×m)×n×o]{g:a->c->d->e->f->i->j->l->m->n->o->Prop}(z:(λb=>g b.1.1.1.1 b.1.1.1.2 b.1.1.2 b.1.2.1.1 b.1.2.1.2 b.1.2.2 b.2.1.1.1 b.2.1.1.2 b.2.1.2 b.2.2.1 b.2.2.2)<|mR (h:=y) (g:=g)):∀h k p q r s t u v w x,g h k p q r s t u v w x:=λh k p q r s t u v w x=>q2 (c:=λb=>g b.1.1.1.1 b.1.1.1.2 b.1.1.2 b.1.2.1.1 b.1.2.1.2 b.1.2.2 b.2.1.1.1 b.2.1.1.2 b.2.1.2 b.2.2.1 b.2.2.2) z ((((h,k),p),(q,r),s),((t,u),v),w,x)
def my{h:Nonempty<|(((a×c)×d)×(e×f)×i)×((j×l)×m)×(n×o)×p}{g:a->c->d->e->f->i->j->l->m->n->o->p->Prop}:(((a×c)×d)×(e×f)×i)×((j×l)×m)×(n×o)×p:=cJ λb=>¬g b.1.1.1.1 b.1.1.1.2 b.1.1.2 b.1.2.1.1 b.1.2.1.2 b.1.2.2 b.2.1.1.1 b.2.1.1.2 b.2.1.2 b.2.2.1.1 b.2.2.1.2 b.2.2.2
theorem CN[A:Nonempty<|(((a×c)×d)×(e×f)×i)×((j×l)×m)×(n×o)×p]{g:a->c->d->e->f->i->j->l->m->n->o->p->Prop}(B:(λb=>g b.1.1.1.1 b.1.1.1.2 b.1.1.2 b.1.2.1.1 b.1.2.1.2 b.1.2.2 b.2.1.1.1 b.2.1.1.2 b.2.1.2 b.2.2.1.1 b.2.2.1.2 b.2.2.2)<|my (h:=A) (g:=g)):∀h k q r s t u v w x y z,g h k q r s t u v w x y z:=λh k q r s t u v w x y z=>q2 (c:=λb=>g b.1.1.1.1 b.1.1.1.2 b.1.1.2 b.1.2.1.1 b.1.2.1.2 b.1.2.2 b.2.1.1.1 b.2.1.1.2 b.2.1.2 b.2.2.1.1 b.2.2.1.2 b.2.2.2) B ((((h,k),q),(r,s),t),((u,v),w),(x,y),z)
def lB{g:Type}{k:Nonempty<|(((a×c)×d×e)×(f×i)×j)×((l×m)×n)×(o×p)×g}{h:a->c->d->e->f->i->j->l->m->n->o->p->g->Prop}:(((a×c)×d×e)×(f×i)×j)×((l×m)×n)×(o×p)×g:=cJ λb=>¬h b.1.1.1.1 b.1.1.1.2 b.1.1.2.1 b.1.1.2.2 b.1.2.1.1 b.1.2.1.2 b.1.2.2 b.2.1.1.1 b.2.1.1.2 b.2.1.2 b.2.2.1.1 b.2.2.1.2 b.2.2.2
theorem z4{B:Type}[C:Nonempty<|(((a×c)×d×e)×(f×i)×j)×((l×m)×n)×(o×p)×B]{g:a->c->d->e->f->i->j->l->m->n->o->p->B->Prop}(D:(λb=>g b.1.1.1.1 b.1.1.1.2 b.1.1.2.1 b.1.1.2.2 b.1.2.1.1 b.1.2.1.2 b.1.2.2 b.2.1.1.1 b.2.1.1.2 b.2.1.2 b.2.2.1.1 b.2.2.1.2 b.2.2.2)<|lB (k:=C) (h:=g)):∀h k q r s t u v w x y z A,g h k q r s t u v w x y z A:=λh k q r s t u v w x y z A=>q2 (c:=λb=>g b.1.1.1.1 b.1.1.1.2 b.1.1.2.1 b.1.1.2.2 b.1.2.1.1 b.1.2.1.2 b.1.2.2 b.2.1.1.1 b.2.1.1.2 b.2.1.2 b.2.2.1.1 b.2.2.1.2 b.2.2.2) D ((((h,k),q,r),(s,t),u),((v,w),x),(y,z),A)
@[elab_as_elim]def lO{c:Lt a->Prop}(d:c [])(e:∀f b,c b->c (f::b))(b:Lt a):c b:=eT d e b
@[elab_as_elim]def ue(b:k 0)(c:∀a,k a->k (a+1))(a:Nat):k a:=fj b c a
@[elab_as_elim]def QV{c:Lt a->Prop}(d:c [])(e:∀f b,c (f::b))(b:Lt a):c b:=List.casesOn b d e
@[elab_as_elim]def Gm(b:k 0)(c:∀a,k<|a+1)(a:Nat):k a:=Nat.casesOn a b c
@[elab_as_elim]def z5{b:Op a->Prop}(d:b Y)(e:∀f,b<|V f)(c:Op a):b c:=Option.casesOn c d e
@[elab_as_elim]def acg{a:Bool->Prop}(c:a ah)(d:a aj)(b:Bool):a b:=Bool.casesOn b c d
instance:Nonempty fe:=⟨{}⟩
instance:Nonempty bG:=⟨{}⟩
def uf{a b c:Nat}(d:a+b=c)(e:b<c):a-1<a/\a-1+(b+1)=c:=by cases a with|zero=>exact a' e<|d▸(ct b).b▸dR b|succ a=>exact⟨bN a,(Nat.succ_add a b).b.a d⟩
def kd{b c:a}{d:a->Prop}(e:b=c)(f:d c):d b:=e▸f
def kg{b c:a}{d:a->Prop}(e:c=b)(f:d c):d b:=e▸f
def jI(a:b:=by decide):b:=a
def lp{b:a}{d:c}:b=b/\d=d:=⟨U,U⟩
def kr{c:a}:c=c\/b:=.inl U
def kC{a:Prop}(c:a):b\/g\/a:=.inr<|.inr c
def n6{a:Prop}(c:g):b\/g\/a:=.inr<|.inl c
def kh{c:a}(d:Y=V c):b:=by cases d
def lf(a:ah=aj):b:=by cases a
def ot(a:aj=ah):b:=by cases a
def ug{a:Prop}(c:b/\g)(d:b->g->a):a:=d c.1 c.2
def wi{a:Prop}{c:Prop}(d:b/\g/\a)(e:b->g->a->c):c:=ug d.2<|e d.1
def wj{a c:Prop}{d:Prop}(e:b/\g/\a/\c)(f:b->g->a->c->d):d:=wi e.2<|f e.1
def x7{a c d:Prop}{e:Prop}(f:b/\g/\a/\c/\d)(h:b->g->a->c->d->e):e:=wj f.2<|h f.1
def jU{e f:a->Prop}(d:∃c,e c/\f c)(g:∀c,e c->f c->b):b:=d.a λc d=>ug d<|g c
def li{e f g:a->Prop}(d:∃c,e c/\f c/\g c)(h:∀c,e c->f c->g c->b):b:=d.a λc d=>wi d<|h c
def oe{e f g h:a->Prop}(d:∃c,e c/\f c/\g c/\h c)(i:∀c,e c->f c->g c->h c->b):b:=d.a λc d=>wj d<|i c
def vm{e f g h i:a->Prop}(d:∃c,e c/\f c/\g c/\h c/\i c)(j:∀c,e c->f c->g c->h c->i c->b):b:=d.a λc d=>x7 d<|j c
def CO{e f g h i j:a->Prop}(d:∃c,e c/\f c/\g c/\h c/\i c/\j c)(k:∀c,e c->f c->g c->h c->i c->j c->b):b:=d.a λc d=>x7 d.2<|k c d.1
def QW{e f g h i j k:a->Prop}(d:∃c,e c/\f c/\g c/\h c/\i c/\j c/\k c)(l:∀c,e c->f c->g c->h c->i c->j c->k c->b):b:=d.a λc d=>x7 d.2.2<|l c d.1 d.2.1
def pK{g:a->c->Prop}(d:∃e f,g e f)(h:∀e f,g e f->b):b:=d.a λe d=>d.a λf d=>h e f d
def te{g h:a->c->Prop}(f:∃d e,g d e/\h d e)(i:∀d e,g d e->h d e->b):b:=f.a λd f=>jU f<|i d
def mr{g h i:a->c->Prop}(f:∃d e,g d e/\h d e/\i d e)(j:∀d e,g d e->h d e->i d e->b):b:=f.a λd f=>li f<|j d
def qc{g h i j:a->c->Prop}(f:∃d e,g d e/\h d e/\i d e/\j d e)(k:∀d e,g d e->h d e->i d e->j d e->b):b:=f.a λd f=>oe f<|k d
def z6{g h i j k:a->c->Prop}(f:∃d e,g d e/\h d e/\i d e/\j d e/\k d e)(l:∀d e,g d e->h d e->i d e->j d e->k d e->b):b:=f.a λd f=>vm f<|l d
def Gn{g h i j k l:a->c->Prop}(f:∃d e,g d e/\h d e/\i d e/\j d e/\k d e/\l d e)(m:∀d e,g d e->h d e->i d e->j d e->k d e->l d e->b):b:=f.a λd f=>CO f<|m d
def CP{g h i j k l m:a->c->Prop}(f:∃d e,g d e/\h d e/\i d e/\j d e/\k d e/\l d e/\m d e)(n:∀d e,g d e->h d e->i d e->j d e->k d e->l d e->m d e->b):b:=f.a λd f=>QW f<|n d
def vn{i:a->c->d->Prop}(e:∃f g h,i f g h)(j:∀f g h,i f g h->b):b:=e.a λf e=>e.a λg e=>e.a λh e=>j f g h e
def z7{i j k:a->c->d->Prop}(h:∃e f g,i e f g/\j e f g/\k e f g)(l:∀e f g,i e f g->j e f g->k e f g->b):b:=h.a λe h=>mr h<|l e
def vo{i j k l:a->c->d->Prop}(h:∃e f g,i e f g/\j e f g/\k e f g/\l e f g)(m:∀e f g,i e f g->j e f g->k e f g->l e f g->b):b:=h.a λe h=>qc h<|m e
def wk{i j k l m:a->c->d->Prop}(h:∃e f g,i e f g/\j e f g/\k e f g/\l e f g/\m e f g)(n:∀e f g,i e f g->j e f g->k e f g->l e f g->m e f g->b):b:=h.a λe h=>z6 h<|n e
def QX{i j k l m n:a->c->d->Prop}(h:∃e f g,i e f g/\j e f g/\k e f g/\l e f g/\m e f g/\n e f g)(o:∀e f g,i e f g->j e f g->k e f g->l e f g->m e f g->n e f g->b):b:=h.a λe h=>Gn h<|o e
def Go{i j k l m n o:a->c->d->Prop}(h:∃e f g,i e f g/\j e f g/\k e f g/\l e f g/\m e f g/\n e f g/\o e f g)(p:∀e f g,i e f g->j e f g->k e f g->l e f g->m e f g->n e f g->o e f g->b):b:=h.a λe h=>CP h<|p e
def QY{k l:a->c->d->e->Prop}(h:∃f g i j,k f g i j/\l f g i j)(m:∀f g i j,k f g i j->l f g i j->b):b:=h.a λf h=>h.a λg h=>te h<|m f g
def QZ{k l m:a->c->d->e->Prop}(j:∃f g h i,k f g h i/\l f g h i/\m f g h i)(n:∀f g h i,k f g h i->l f g h i->m f g h i->b):b:=j.a λf j=>z7 j<|n f
def CQ{k l m n:a->c->d->e->Prop}(j:∃f g h i,k f g h i/\l f g h i/\m f g h i/\n f g h i)(o:∀f g h i,k f g h i->l f g h i->m f g h i->n f g h i->b):b:=j.a λf j=>vo j<|o f
def Q0{k l m n o:a->c->d->e->Prop}(j:∃f g h i,k f g h i/\l f g h i/\m f g h i/\n f g h i/\o f g h i)(p:∀f g h i,k f g h i->l f g h i->m f g h i->n f g h i->o f g h i->b):b:=j.a λf j=>wk j<|p f
def Q1{k l m n o p q:a->c->d->e->Prop}(j:∃f g h i,k f g h i/\l f g h i/\m f g h i/\n f g h i/\o f g h i/\p f g h i/\q f g h i)(r:∀f g h i,k f g h i->l f g h i->m f g h i->n f g h i->o f g h i->p f g h i->q f g h i->b):b:=j.a λf j=>Go j<|r f
def lj{a:Prop}(c:b)(d:g)(e:a):b/\g/\a:=⟨c,d,e⟩
def mz{a c:Prop}(d:b)(e:g)(f:a)(h:c):b/\g/\a/\c:=⟨d,e,f,h⟩
def mS{a c d:Prop}(e:b)(f:g)(h:a)(i:c)(j:d):b/\g/\a/\c/\d:=⟨e,f,h,i,j⟩
def lY{a c d e:Prop}(f:b)(h:g)(i:a)(j:c)(k:d)(l:e):b/\g/\a/\c/\d/\e:=⟨f,h,i,j,k,l⟩
def m3{a c d e f:Prop}(h:b)(i:g)(j:a)(k:c)(l:d)(m:e)(n:f):b/\g/\a/\c/\d/\e/\f:=⟨h,i,j,k,l,m,n⟩
def po{a c d e f h:Prop}(i:b)(j:g)(k:a)(l:c)(m:d)(n:e)(o:f)(p:h):b/\g/\a/\c/\d/\e/\f/\h:=⟨i,j,k,l,m,n,o,p⟩
def z8{a c d e f h i:Prop}(j:b)(k:g)(l:a)(m:c)(n:d)(o:e)(p:f)(q:h)(r:i):b/\g/\a/\c/\d/\e/\f/\h/\i:=⟨j,k,l,m,n,o,p,q,r⟩
def jO{c d:a->Prop}(b:a)(e:c b)(f:d b):∃b,c b/\d b:=⟨b,e,f⟩
def kT{c d e:a->Prop}(b:a)(f:c b)(g:d b)(h:e b):∃b,c b/\d b/\e b:=⟨b,f,g,h⟩
def nQ{c d e f:a->Prop}(b:a)(g:c b)(h:d b)(i:e b)(j:f b):∃b,c b/\d b/\e b/\f b:=⟨b,g,h,i,j⟩
def rV{c d e f g:a->Prop}(b:a)(h:c b)(i:d b)(j:e b)(k:f b)(l:g b):∃b,c b/\d b/\e b/\f b/\g b:=⟨b,h,i,j,k,l⟩
def Q2{c d e f g h:a->Prop}(b:a)(i:c b)(j:d b)(k:e b)(l:f b)(m:g b)(n:h b):∃b,c b/\d b/\e b/\f b/\g b/\h b:=⟨b,i,j,k,l,m,n⟩
def m4{e:a->c->Prop}(b:a)(d:c)(f:e b d):∃b d,e b d:=⟨b,d,f⟩
def ms{e f:a->c->Prop}(b:a)(d:c)(g:e b d)(h:f b d):∃b d,e b d/\f b d:=⟨b,d,g,h⟩
def lP{e f g:a->c->Prop}(b:a)(d:c)(h:e b d)(i:f b d)(j:g b d):∃b d,e b d/\f b d/\g b d:=⟨b,d,h,i,j⟩
def pL{e f g h:a->c->Prop}(b:a)(d:c)(i:e b d)(j:f b d)(k:g b d)(l:h b d):∃b d,e b d/\f b d/\g b d/\h b d:=⟨b,d,i,j,k,l⟩
def x8{e f g h i j:a->c->Prop}(b:a)(d:c)(k:e b d)(l:f b d)(m:g b d)(n:h b d)(o:i b d)(p:j b d):∃b d,e b d/\f b d/\g b d/\h b d/\i b d/\j b d:=⟨b,d,k,l,m,n,o,p⟩
def Q3{e f g h i j k:a->c->Prop}(b:a)(d:c)(l:e b d)(m:f b d)(n:g b d)(o:h b d)(p:i b d)(q:j b d)(r:k b d):∃b d,e b d/\f b d/\g b d/\h b d/\i b d/\j b d/\k b d:=⟨b,d,l,m,n,o,p,q,r⟩
def Q4{e f g h i j k l:a->c->Prop}(b:a)(d:c)(m:e b d)(n:f b d)(o:g b d)(p:h b d)(q:i b d)(r:j b d)(s:k b d)(t:l b d):∃b d,e b d/\f b d/\g b d/\h b d/\i b d/\j b d/\k b d/\l b d:=⟨b,d,m,n,o,p,q,r,s,t⟩
def Gp{g:a->c->d->Prop}(b:a)(e:c)(f:d)(h:g b e f):∃b e f,g b e f:=⟨b,e,f,h⟩
def Q5{g h:a->c->d->Prop}(b:a)(e:c)(f:d)(i:g b e f)(j:h b e f):∃b e f,g b e f/\h b e f:=⟨b,e,f,i,j⟩
def x9{g h i:a->c->d->Prop}(b:a)(e:c)(f:d)(j:g b e f)(k:h b e f)(l:i b e f):∃b e f,g b e f/\h b e f/\i b e f:=⟨b,e,f,j,k,l⟩
def qw{g h i j:a->c->d->Prop}(b:a)(e:c)(f:d)(k:g b e f)(l:h b e f)(m:i b e f)(n:j b e f):∃b e f,g b e f/\h b e f/\i b e f/\j b e f:=⟨b,e,f,k,l,m,n⟩
def qx{g h i j k:a->c->d->Prop}(b:a)(e:c)(f:d)(l:g b e f)(m:h b e f)(n:i b e f)(o:j b e f)(p:k b e f):∃b e f,g b e f/\h b e f/\i b e f/\j b e f/\k b e f:=⟨b,e,f,l,m,n,o,p⟩
def Gq{g h i j k l:a->c->d->Prop}(b:a)(e:c)(f:d)(m:g b e f)(n:h b e f)(o:i b e f)(p:j b e f)(q:k b e f)(r:l b e f):∃b e f,g b e f/\h b e f/\i b e f/\j b e f/\k b e f/\l b e f:=⟨b,e,f,m,n,o,p,q,r⟩
def Q6{g h i j k l m:a->c->d->Prop}(b:a)(e:c)(f:d)(n:g b e f)(o:h b e f)(p:i b e f)(q:j b e f)(r:k b e f)(s:l b e f)(t:m b e f):∃b e f,g b e f/\h b e f/\i b e f/\j b e f/\k b e f/\l b e f/\m b e f:=⟨b,e,f,n,o,p,q,r,s,t⟩
def Q7{i j k:a->c->d->e->Prop}(b:a)(f:c)(g:d)(h:e)(l:i b f g h)(m:j b f g h)(n:k b f g h):∃b f g h,i b f g h/\j b f g h/\k b f g h:=⟨b,f,g,h,l,m,n⟩
def z9{i j k l:a->c->d->e->Prop}(b:a)(f:c)(g:d)(h:e)(m:i b f g h)(n:j b f g h)(o:k b f g h)(p:l b f g h):∃b f g h,i b f g h/\j b f g h/\k b f g h/\l b f g h:=⟨b,f,g,h,m,n,o,p⟩
def CR{i j k l m:a->c->d->e->Prop}(b:a)(f:c)(g:d)(h:e)(n:i b f g h)(o:j b f g h)(p:k b f g h)(q:l b f g h)(r:m b f g h):∃b f g h,i b f g h/\j b f g h/\k b f g h/\l b f g h/\m b f g h:=⟨b,f,g,h,n,o,p,q,r⟩
def Q8{i j k l m n:a->c->d->e->Prop}(b:a)(f:c)(g:d)(h:e)(o:i b f g h)(p:j b f g h)(q:k b f g h)(r:l b f g h)(s:m b f g h)(t:n b f g h):∃b f g h,i b f g h/\j b f g h/\k b f g h/\l b f g h/\m b f g h/\n b f g h:=⟨b,f,g,h,o,p,q,r,s,t⟩
def Q9{k:a->c->d->e->f->Prop}(b:a)(g:c)(h:d)(i:e)(j:f)(l:k b g h i j):∃b g h i j,k b g h i j:=⟨b,g,h,i,j,l⟩
def ka(a:(b->False)->False):b:=eQ a
def jB[Decidable b](a:ba b=aj:=by rfl):b:=aF a
abbrev Q'(b:Model)(d:fe)(e:a->hB c)(f:c->bG->Prop)(g:bB->bG->Prop):a->bG->Prop:=λh i=>ay b d (e h) f g i
section
variable{d:Model}{e:fe}{f:bB->bG->Prop}{g:bG}
def jK{b:hB a}{h:a->hB c}{i:c->bG->Prop}(j:ay d e b (Q' d e h i f) f g):ay d e (b>>=h) i f g:=dP j
def qy{i:Decidable b}{c j:hB a}{h:a->bG->Prop}(k:b)(l:ay d e c h f g):ay d e (@ite _ b i c j) h f g:=(aC k).b▸l
def lJ{i:Decidable b}{j c:hB a}{h:a->bG->Prop}(k:¬b)(l:ay d e c h f g):ay d e (@ite _ b i j c) h f g:=(aA k).b▸l
end
set_option genInjectivity true
set_option genCtorIdx true
inductive jF where
 |B(a:Nat)
 |A(b:Nat)(c:List Nat)
abbrev J0:jF:=.A 33 []
abbrev J2:jF:=.A 13 []
abbrev J5:jF:=.A 18 []
abbrev J8:jF:=.A 42 []
abbrev J9:jF:=.A 15 [1]
abbrev Kf:jF:=.A 1 []
abbrev Kh:jF:=.A 18 [1]
abbrev Kl:jF:=.A 16 []
abbrev Km:jF:=.A 15 []
abbrev Kn:jF:=.A 62 []
abbrev Ko:jF:=.A 4 []
abbrev Kp:jF:=.A 7 []
abbrev Kt:jF:=.A 14 []
abbrev Ku:jF:=.A 31 []
abbrev Kv:jF:=.A 69 []
abbrev Kx:jF:=.A 2 []
abbrev Ky:jF:=.A 52 [0]
abbrev Kz:jF:=.A 52 [1]
abbrev KD:jF:=.A 17 []
abbrev KE:jF:=.A 5 []
abbrev KG:jF:=.A 34 []
abbrev KH:jF:=.A 63 []
abbrev KJ:jF:=.A 28 [1]
abbrev KU:jF:=.A 37 []
abbrev KV:jF:=.A 3 []
abbrev KW:jF:=.A 16 [1]
abbrev KZ:jF:=.A 32 []
abbrev K1:jF:=.A 18 [2]
abbrev K2:jF:=.A 18 [5]
abbrev Qm:jF:=.A 15 [2]
abbrev Qs:jF:=.A 64 []
abbrev Qt:jF:=.A 36 []
abbrev Qz:jF:=.A 55 [0]
abbrev QA:jF:=.A 58 [1]
instance:Nonempty jF:=⟨.B 0⟩
set_option genCtorIdx false
noncomputable def wl:Lt Nat->Lt Nat->Bool|[],[]=>aj|a::b,c::d=>a.beq c&&wl b d|_,_=>ah
def jF.C:jF->jF->Bool|.B a,.B b=>a.beq b|.A a c,.A b d=>a.beq b&&wl c d|_,_=>ah
def Ra{c:Lt Nat}:∀{b:Lt Nat},wl c b=aj->c=b:=by
 induction c with
 |nil=>exact λ{b} a=>by cases b with|nil=>rfl|cons=>cases a
 |cons e f d=>exact λ{b} a=>by cases b with|nil=>cases a|cons g h=>have a:=(az ..).mp a;exact congr (aB _<|bA a.1)<|d a.2
def Rb:∀a:Lt Nat,wl a a=aj:=λ{a}=>lO U (λa b c=>by show(a.beq a&&wl b b)=aj;rw[dp,c];rfl) a
def jF.F:∀{b c:jF},b.C c=aj->b=c|.B _,.B _,a=>aB _<|bA a|.B _,.A ..,a=>lf a|.A ..,.B _,a=>lf a|.A b f,.A c g,a=>by obtain⟨d,e⟩:=(az ..).mp a;rw[bA d,Ra e]
def jF.E:∀a:jF,a.C a=aj|.B a=>dp a|.A a b=>by show(a.beq a&&wl b b)=aj;rw[dp,Rb b];rfl
def jF.D{a b:jF}(c:a≠b):a.C b=ah:=di.b λd=>c<|jF.F d
set_option genCtorIdx true
inductive jA where
 |D
 |F(a:Bool)
 |B(b:Int)
 |C(c:cj)
 |E(d:List jA)
 |A(e:jF)
 |G(f:bB)
abbrev Qg:jA:=.B 0
abbrev Qh:jA:=.B 1
abbrev QB:jA:=.C "LALR"
instance:Nonempty jA:=⟨.D⟩
set_option genCtorIdx false
set_option genCtorIdx true
set_option genInjectivity false in
inductive km where
 |A(a:List jA)
 |B(b:List (jA×jA))
 |E(a:List jA)
 |C(c:bk)(d:List (Nat×jA))
 |D(e:bk)(f:Array bB)
 |F(g:hP)(h:List bB)(a:List jA)
instance:Nonempty km:=⟨.A []⟩
open Classical in
instance:DecidableEq jA:=λa b=>propDecidable (a=b)
set_option genCtorIdx false
abbrev jC:=jF->Op km
end
section
variable{a l:List Value}{b q:Value}{c n:List jA}{d p:Addr → Prop}{e f s:Heap}{g:Str}{i o:jA}{j r:jF}{k:Int}{m t:Nat}
abbrev ke:=jF->Op (bk×bk)
abbrev jP:=Nat->Op jA
noncomputable def jP.A(b:jP)(c:Nat)(d:jA):jP:=λa=>bif a.beq c then V d else b a
def jE(b:jC)(c:jF)(d:km):jC:=λa=>bif a.C c then V d else b a
def jS(c:jC)(a:jF)(b:km):jE c a b a=V b:=by unfold jE;rw[jF.E];rfl
def jQ(a:jC)(b:km)(c:r≠j):jE a j b r=a r:=by unfold jE;rw[jF.D c];rfl
def CS{b:jC}{c d:km}{e:Prop}(f:jE b j c r=V d)(g:r=j->c=d->e)(h:r≠j->b r=V d->e):e:=(iC _).a (λa=>g a<|aY<|(by rw[a,jS]:some c=jE b j c r).a f) λa=>h a<|(jQ b c a).b.a f
def m5(a:Array bB)(b:Nat):hP:={cls:=.type "tuple",data:=.seq a b}
noncomputable def rs(a:Array bB)(b:Nat):hP:={cls:=.type "list",data:=.seq a b}
mutual
noncomputable def jZ(b:ke)(c:dX):jA->bB->Prop
 |.D,a=>a=.none
 |.F l,a=>a=.bool l
 |.B m,a=>∃e,a=.int m e
 |.C n,a=>∃e,a=.str n e
 |.E d,a=>∃h i o,a=.ref h/\c.get? h=V (m5 i o)/\kf b c d i.toList/\d.length<=16777216
 |.A p,a=>∃j,b p=V j/\a=.ref j.1
 |.G f,a=>a=f
  noncomputable def kf(b:ke)(c:dX):List jA->List bB->Prop
 |[],g=>g=[]
 |f::d,g=>∃a k,g=a::k/\jZ b c f a/\kf b c d k
end
section
variable{d h:ke}{m:bB->Prop}{p:List bB->Prop}
def jZ.K(a:jZ d e .D b)(c:m .none):m b:=a▸c
def jZ.J{a:Bool}(c:jZ d e (.F a) b)(f:m<|.bool a):m b:=c▸f
def jZ.B(c:jZ d e (.B k) b)(f:∀a,m<|.int k a):m b:=c.a λa g=>g▸f a
def jZ.C(c:jZ d e (.C g) b)(f:∀a,m<|.str g a):m b:=c.a λa h=>h▸f a
def jZ.H(c:jZ d e (.A j) b)(f:∀a,d j=V a->m (.ref a.1)):m b:=jU c λa g h=>h▸f a g
def jZ.L(a:jZ d e (.G q) b)(c:m q):m b:=a▸c
def jZ.D(i:jZ d e (.E c) b)(j:∀f g h,Ln e f=V (m5 g h)->kf d e c (Lf g)->La c<=16777216->m (.ref f)):m b:=i.a λf a=>a.a λg a=>a.a λh a=>jx a.1<|j f g h a.2.1 a.2.2.1 a.2.2.2
def kf.L(b:kf d e [] a)(c:p []):p a:=b▸c
def kf.D(g:kf d e (i::c) a)(h:∀b f,jZ d e i b->kf d e c f->p (b::f)):p a:=let⟨b,f,j,k,l⟩:=g;j▸h b f k l
def kf.C(f:jZ d e i b)(g:kf d e c a):kf d e (i::c) (b::a):=lP b a U f g
def kf.M:kf d e [] []:=U
def kf.I(a:jZ d e i b):kf d e [i] [b]:=.C a .M
def kf.B(c:kf d e [i] a)(f:∀b,jZ d e i b->p [b]):p a:=by apply c.D;intro b j g h;apply h.L;exact f b g
def kf.E(f:kf d e [i,o] a)(g:∀b c,jZ d e i b->jZ d e o c->p [b,c]):p a:=by apply f.D;intro b l h j;apply j.B;exact λc k=>g b c h k
def kf.e_{g:jA}(h:kf d e [i,o,g] a)(j:∀b c f,jZ d e i b->jZ d e o c->jZ d e g f->p [b,c,f]):p a:=by apply h.D;intro b q k l;apply l.E;exact λc f m n=>j b c f k m n
def kf.J:∀{c:Lt jA}{a:Lt bB},kf d e c a->La a=La c:=by intro c;induction c with|nil=>exact λb=>b.L (p:=λa=>La a=0) U|cons _ c g=>exact λb=>b.D (p:=λa=>La a=La c+1) λf f f h=>aB ek<|g h
def kf.A{a:Array bB}(b:kf d e c (Lf a)):Lb a=La c:=b.J
def kf.a_(f:kf d e n l):∀{c:Lt jA}{a:Lt bB},kf d e c a->kf d e (c++n) (a++l):=by intro c;induction c with|nil=>exact λb=>b.L (p:=λa=>kf d e n<|a++l) f|cons _ c g=>exact λb=>b.D (p:=λa=>kf d e _<|a++l) λh h i j=>.C i<|g j
def kf.F:∀{a:List bB}{f:Nat},kf d e c a->c[f]?=V i->∃b,a[f]?=V b/\jZ d e i b:=by induction c with|nil=>exact λ_ g=>kh g|cons _ c h=>exact λ{a f} j g=>mr j λb n k l m=>by subst k;cases f with|zero=>exact jO b U<|aY g▸l|succ f=>exact h (f:=f) m g
def kf.f_:∀{c:List jA}{a:List bB},kf d e c a->b∈a->∃i∈c,jZ d e i b:=by
 intro c;induction c with
 |nil=>exact λg f=>by obtain rfl:=(g:_=_);exact a' f ac|cons _ _ h=>
  exact λg f=>by
   refine mr g λo p j k l=>?_;subst j;rcases ao.a f with rfl|f;.exact⟨_,.head _,k⟩
   .exact jU (h l f) λi m n=>⟨i,.tail _ m,n⟩
def kf.k_:∀{c:List jA}{a:List bB},kf d e c a->i∈c->∃b∈a,jZ d e i b:=by
 intro c;induction c with
 |nil=>exact λ_ f=>a' f jB|cons _ _ g=>
  exact λh f=>by
   refine mr h λo p j k l=>?_;subst j;rcases ao.a f with rfl|f;.exact⟨_,.head _,k⟩
   .exact jU (g l f) λi m n=>⟨i,.tail _ m,n⟩
def kf.l_(f:kf d e c a)(g:jZ d e i b):kf d e (c++[i])<|a++[b]:=kf.a_ (.I g) f
def jZ.F(r:∀m n,d m=V n->h m=V n)(s:∀o p q,Ln e o=V (m5 p q)->Ln f o=V (m5 p q))(i:jA):∀{b:bB},jZ d e i b->jZ h f i b:=λ{b}=>jA.rec (motive_1:=λi=>∀b,jZ d e i b->jZ h f i b) (motive_2:=λc=>∀a,kf d e c a->kf h f c a) (λ_ g=>g) (λ_ _ g=>g) (λ_ _ g=>g) (λ_ _ g=>g) (λ_ l _ g=>g.b λk g=>g.b λk g=>g.b λk j=>⟨j.1,s _ _ _ j.2.1,l _ j.2.2.1,j.2.2.2⟩) (λ_ _ g=>g.b λk j=>⟨r _ _ j.1,j.2⟩) (λ_ _ g=>g) (λ_ g=>g) (λ_ _ t l _ g=>g.b λk g=>g.b λk j=>⟨j.1,t _ j.2.1,l _ j.2.2⟩) i b
def kf.K(o:∀j k,d j=V k->h j=V k)(p:∀l m n,Ln e l=V (m5 m n)->Ln f l=V (m5 m n))(c:List jA):∀{a:List bB},kf d e c a->kf h f c a:=by induction c with|nil=>exact λb=>b|cons i c q=>exact λb=>b.b λr b=>b.b λr g=>⟨g.1,jZ.F o p i g.2.1,q g.2.2⟩
end
def mA(c:ke)(b:bk):=∃d a,c d=V a/\(b=a.1\/b=a.2)
def rW(a b:hP):=b=a\/((∃c d,a.data=.dict c d)/\∃e,b={a with slots:=e})
def rW.A(a:hP):rW a a:=.inl U
def rW.B{a b:hP}(c:rW a b):b.data=a.data:=by rcases c with rfl|⟨_,d,rfl⟩<;>rfl
def rW.C{a b c:hP}(h:rW a b)(d:rW b c):rW a c:=by
 rcases h with rfl|⟨⟨e,f,g⟩,i,rfl⟩;.exact d
 .rcases d with rfl|⟨_,j,rfl⟩;.exact .inr ⟨m4 e f g,i,U⟩
  .exact .inr ⟨m4 e f g,j,U⟩
def z'(a:Array bB):hP:={cls:=.none,data:=.fields a}
def lC(l:bk->Prop)(d:ke)(b:dX)(e:ke)(c:dX):=(∀f g,d f=V g->e f=V g)/\(∀a h,Ln b a=V h->¬mA d a->¬l a->∃i,Ln c a=V i/\rW h i)/\(∀a,a<Lb b.objs->¬mA d a->¬mA e a)/\(∀a j k,Ln b a=V (m5 j k)->Ln c a=V (m5 j k))/\Lb b.objs<=Lb c.objs/\∀a m,Ln b a=V (z' m)->∃n,Ln c a=V (z' n)
section
variable{a:ke}{b:ke}(c:lC d a e b f)
def lC.A:=c.1
def lC.D:=c.2.1
def lC.B:=c.2.2.1
def lC.F:=c.2.2.2.1
def lC.C:=c.2.2.2.2.1
def lC.G:=c.2.2.2.2.2
end
section
variable{g h j:ke}
def lC.J(d:bk->Prop)(g:ke)(e:dX):lC d g e g e:=lY (λa a b=>b) (λa a b a a=>jO _ b<|.A _) (λa a c=>c) (λa a a b=>b) (al _) λa f b=>⟨f,b⟩
def lC.H(b:lC d g e h f)(c:lC d h f j s):lC d g e j s:=lY (λv w a=>c.A _ _<|b.A _ _ a) (λi x a k l=>let⟨y,m,n⟩:=b.D _ _ a k l;let⟨o,p,q⟩:=c.D _ _ m (b.B _ (bn a) k) l;(jO o p<|n.C q)) (λi a k=>c.B _ (au a b.C)<|b.B _ a k) (λi z k a=>c.F _ _ _<|b.F _ _ _ a) (aX b.C c.C) (λi r a=>let⟨t,u⟩:=b.G i r a;c.G i t u)
def lC.E(a:lC d g e h f)(i:∀b,d b->p b):lC p g e h f:=lY a.A (λc j k l m=>a.D c j k l λn=>m<|i c n) a.B a.F a.C a.G
def jZ.A(c:jZ g e i b)(a:lC d g e h f):jZ h f i b:=jZ.F a.A a.F i c
def kf.G(i:kf g e c a)(b:lC d g e h f):kf h f c a:=kf.K b.A b.F c i
end
def lL(a b:dX):=(∀c d,Ln a c=V d->Ln b c=V d)/\Lb a.objs<=Lb b.objs
section
variable(a:lL e f)
def lL.A:=a.1
def lL.B:=a.2
end
section
variable{g h:dX}{j:ke}
def lL.F(g:dX):lL g g:=⟨λa a b=>b,al _⟩
def lL.D(a:lL e f)(b:lL f s):lL e s:=⟨λc c d=>b.A _ _<|a.A _ _ d,aX a.B b.B⟩
def Aa(g:dX)(a:hP):Lb (g.push a).objs=Lb g.objs+1:=by simp[Heap.push]
def lL.C(g:dX)(a:hP):lL g<|g.push a:=⟨λb b c=>bU a c,Aa g a▸bm _⟩
def lC.K(c:lL g h):lC d j g j h:=lY (λa a b=>b) (λa a b a a=>jO _ (c.A _ _ b)<|.A _) (λa a e=>e) (λa a a b=>c.A _ _ b) c.B λa f b=>⟨f,c.A _ _ b⟩
def jZ.E(d:jZ j g i b)(e:lL g h):jZ j h i b:=jZ.F (λa a c=>c) (λa a a c=>e.A _ _ c) i d
def kf.H(e:kf j g c a)(f:lL g h):kf j h c a:=kf.K (λb b d=>d) (λb b b d=>f.A _ _ d) c e
end
noncomputable def nR:Lt cj:=(["name","prod","number","func","callable","file","line","prec","len","usyms","lr_items","lr_next","str","reduced"]:Lt cj)++(["lr0_added","lr_index","lookaheads","lr_after","lr_before","Productions","Prodnames","Prodmap","Terminals","Nonterminals","First","Follow","Precedence","UsedPrecedence"]:Lt cj)++(["Start","grammar","lr_method","lr_action","lr_goto","lr_productions","lr_goto_cache","lr0_cidhash","_add_count","sr_conflict","rr_conflict","conflicts","sr_conflicts","rr_conflicts"]:Lt cj)++(["append","pop","insert","extend","get","items","add","join","index","count","set_precedence","add_production","set_start","_first"]:Lt cj)++(["compute_first","compute_follow","build_lritems","lr0_closure","lr0_goto","lr0_items","compute_nullable_nonterminals","find_nonterminal_transitions","dr_relation","reads_relation","compute_lookback_includes","compute_read_sets","compute_follow_sets","add_lookaheads"]:Lt cj)++(["add_lalr_lookaheads","lr_parse_table"]:Lt cj)
def wm(a:cj):Op Nat:=nR.findIdx? (· ==a)
def lU(a:Nat):cj:=nR.getD a gO
def Rc:La nR=72:=by decide+kernel
def Gr:Le nR:=by decide+kernel
def Rd(b:m<La nR)(c:t<La nR)(a:lU m=lU t):m=t:=by unfold lU at a;simp only[bZ,bZ,aq b,aq c]at a;exact(hf Gr).a a
def x'(b:wm g=V m):lU m=g/\m<La nR:=by have a:=du.a b;refine⟨?_,a.1⟩;unfold lU;rw[bZ,aq a.1];exact aE.a a.2.1
noncomputable def q4(a:ga)(b:bk):Bool:=ad1 a b&&hw a b gO&&ad0 a b&&(dk a (.ref b) "__setattr__"==V (V<|.builtin "object.__setattr__"))
def tf(a:ga)(b:bk)(c:Nat):Bool:=(match dk a (.ref b)<|lU c with|some d=>noGet a d|none=>ah)&&(takerIn a b (lU c)==V Y)
noncomputable def wn:bB->Op Int|.int a _=>V a|_=>Y
noncomputable def ya:bB->Op cj|.str a _=>V a|_=>Y
def yb(a:wn b=V k):∃c,b=.int k c:=by cases b<;>first|exact kh a|exact⟨_,aB (Value.int · _) (aY a)⟩
def Ab(a:ya b=V g):∃c,b=.str g c:=by cases b<;>first|exact kh a|exact⟨_,aB (hT · _) (aY a)⟩
def wo(a:ga)(b:bk)(c:Nat):Op Int:=(dk a (.ref b)<|lU c).bind λd=>d.bind wn
def qd(a:ga):bB->Bool|.builtin _=>aj|.type _=>aj|.ref b=>keepIn a<|.ref b|_=>ah
set_option genInjectivity false
inductive kM where
 |A(a:Nat)
 |B(b:List kM)
noncomputable abbrev QD:Nat->kM:=.A
abbrev Jo:kM:=QD 3
abbrev Jq:kM:=QD 4
abbrev Jr:kM:=QD 1
abbrev Jt:kM:=QD 5
abbrev Jv:kM:=QD 2
abbrev Jx:kM:=QD 8
abbrev Jy:kM:=QD 6
abbrev Jz:kM:=QD 7
abbrev JB:kM:=QD 9
abbrev JC:kM:=QD 10
abbrev JG:kM:=QD 14
abbrev JI:kM:=QD 11
abbrev JJ:kM:=QD 15
abbrev JL:kM:=QD 13
abbrev JM:kM:=QD 12
abbrev JO:kM:=QD 18
abbrev JP:kM:=QD 16
abbrev JS:kM:=QD 25
abbrev JT:kM:=QD 29
abbrev JU:kM:=QD 26
instance:Nonempty kM:=⟨.A 0⟩
inductive jR where
 |A(e:Nat)
 |a_
 |b_(c:Bool)
 |E(e:Int)
 |I(l:cj)
 |G(m:cj)
 |B(b:jR)(d:Nat)
 |C(b e:jR)
 |j_(b n o:jR)
 |J(g:dw)(d c:jR)
 |c_(b:jR)
 |e_(b:jR)
 |D(g:gh)(d c:jR)
 |f_(a:List jR)
 |g_(a:List jR)
 |h_(p d c:jR)
 |M(a:List jR)
 |K(a:List jR)
 |L(q r:List jR)
 |H(s:jR)(a:List jR)
 |F(b:jR)(t:Nat)(a:List jR)
 |d_(h:Nat)(f:List (Nat×Nat))(u:jR)(i:kM)(j:jR)(k:List jR)
 |k_(h:Nat)(f:List (Nat×Nat))(v w:jR)(i:kM)(j:jR)(k:List jR)
 |i_(x:Nat)(f:List (Nat×Nat))(y z:Nat)(N:jR)
 |l_(a:List jR)
noncomputable abbrev QC:Nat->jR:=.A
abbrev Ja:jR:=QC 0
abbrev Jb:jR:=QC 1
abbrev Jc:jR:=QC 2
abbrev Jd:jR:=QC 5
abbrev Je:jR:=QC 12
abbrev Jf:jR:=QC 9
abbrev Jg:jR:=QC 3
abbrev Jh:jR:=QC 4
abbrev Ji:jR:=QC 14
abbrev Jj:jR:=QC 6
abbrev Jk:jR:=QC 8
abbrev Jl:jR:=QC 7
abbrev Jm:jR:=QC 15
abbrev Jn:jR:=QC 10
abbrev Jp:jR:=QC 11
abbrev Js:jR:=QC 18
abbrev Ju:jR:=QC 17
abbrev Jw:jR:=QC 20
abbrev JA:jR:=QC 13
abbrev JD:jR:=QC 26
abbrev JE:jR:=QC 21
abbrev JF:jR:=QC 19
abbrev JH:jR:=QC 29
abbrev JK:jR:=QC 22
abbrev JN:jR:=QC 27
abbrev JQ:jR:=QC 23
abbrev JR:jR:=QC 16
abbrev JV:jR:=QC 28
abbrev JW:jR:=.L [] []
abbrev JX:jR:=.E 1
abbrev JY:jR:=.K []
abbrev JZ:jR:=.G "sorted"
abbrev J1:jR:=.G "len"
abbrev J3:jR:=.E 0
abbrev J4:jR:=.B Ja 29
abbrev J6:jR:=.G "_place"
abbrev J7:jR:=.I "$end"
abbrev Ka:jR:=.M [.G "IndexError", .G "KeyError"]
abbrev Kb:jR:=.B Ja 23
abbrev Kc:jR:=.J .Mod (.J .FloorDiv Jc (.E 3)) (.E 2)
abbrev Kd:jR:=.G "enumerate"
abbrev Ke:jR:=.B Ja 25
abbrev Kg:jR:=.J .FloorDiv Jc (.E 6)
abbrev Ki:jR:=.C Jb (.B Je 2)
abbrev Kj:jR:=.B Ja 24
abbrev Kk:jR:=.B Ja 35
abbrev Kq:jR:=.B Ja 22
abbrev Kr:jR:=.B Ja 32
abbrev Ks:jR:=.B Ja 31
abbrev Kw:jR:=.B Je 2
abbrev KA:jR:=.B Ja 20
abbrev KC:jR:=.L [.I "A", .I "B"] [.L [] [], .L [] []]
abbrev KI:jR:=.B Je 1
abbrev KL:jR:=.I "<empty>"
abbrev KN:jR:=.D .Eq (.B Ja 30) (.I "LALR")
abbrev KO:jR:=.B Ja 19
abbrev KP:jR:=.B Je 8
abbrev KQ:jR:=.B Jj 16
abbrev KR:jR:=.C Jf Jp
abbrev KS:jR:=.C Je Jf
abbrev KX:jR:=.D .IsNot Jm .a_
abbrev KY:jR:=.E 3
abbrev K0:jR:=.F Ja 60 [.C Jb Ji, Jl]
abbrev K3:jR:=.D .NotIn Jk (.B Ja 9)
abbrev K4:jR:=.F Jp 42 [.M [Ji, Jl]]
abbrev K5:jR:=.H (.G "_law_ENDS") []
abbrev K6:jR:=.B Jd 1
abbrev K7:jR:=.B Je 0
abbrev K8:jR:=.F (.B Ja 9) 42 [Jk]
abbrev K9:jR:=.I "%prec"
abbrev Qa:jR:=.C Jg Ja
abbrev Qb:jR:=.B Je 15
abbrev Qc:jR:=.I "abc"
abbrev Qd:jR:=.C Jl Jk
abbrev Qe:jR:=.C Jm Jk
abbrev Qf:jR:=.C Js Jf
abbrev Qi:jR:=.F Jf 46 [Ji]
abbrev Qj:jR:=.G "_is_identifier"
abbrev Qk:jR:=.F Ja 55 [.B Jh 1]
abbrev Ql:jR:=.F Jc 46 [Ji, .M [.I "right", .E 0]]
abbrev Qn:jR:=.D .Eq Jp (.I "")
abbrev Qo:jR:=.J .Mod Jc (.E 2)
abbrev Qp:jR:=.B Ja 34
abbrev Qq:jR:=.B Ji 31
abbrev Qr:jR:=.C (.B Jc 32) Jb
abbrev Qu:jR:=.G "Production"
abbrev Qv:jR:=.e_ Jg
abbrev Qw:jR:=.f_ [Jl, .D .Eq (.B Jl 18) Jc]
abbrev Qx:jR:=.D .NotIn Jg Jb
abbrev Qy:jR:=.B JV 9
instance:Nonempty jR:=⟨.a_⟩
inductive kb where
 |A(h:kM)(a:jR)
 |F(d:jR)(b:Nat)(a:jR)
 |D(d e:jR)(a:jR)
 |M(e:Nat)(f:dw)(a:jR)
 |a_(a:jR)(b:Nat)(f:dw)(i:jR)
 |E(a:jR)
 |B(g:jR)(b c:List kb)
 |H(g:jR)(b c:List kb)
 |C(j:kM)(k:jR)(b c:List kb)
 |J
 |K
 |G(a:jR)
 |b_
 |L(b:List kb)(l:jR)(m:List kb)
 |I
 |c_
end
section
variable{a:List (Nat × Nat)}{b:SharedT}{c d:Str → Option Value}{e S:Heap}{f X:Nat}{g k:Shared}{i:Scope}{j W:Prop}{l T:Addr → Prop}{m:Str}{n:FuncData}{o:Frag}{p:Array Value × Nat}{q N:ke}{r Z:Bool}{s:Heap → Prop}{t:Data}{u:World}{v:Value}{w:List Expr}{x:Obj}{y:Type}{z:List jA}{O:Addr}{Q:Expr}{R:km}
instance:Nonempty kb:=⟨.b_⟩
abbrev k':=Lt<|cj×eR
abbrev Ac:=Lt<|cj×Bool
noncomputable def of(b:k'):Ac:=b.map λa=>(a.1,a.2==.globalImplicit||a.2==.globalExplicit)
noncomputable def CT(b:Ac)(d:cj):Op<|Nat×Bool:=match b.findIdx? (λa=>a.1==d)with|some c=>(b[c]?).map λa=>(c,a.2)|none=>Y
def rX(a:k')(b:cj):Op<|Nat×Bool:=CT (of a) b
def oY(a:fD):Ac:=of a.names
set_option tactic.hygienic true in def rt{c:Ac}(a:CT c m=V (f,r)):c[f]?=V (m,r):=by
 unfold CT at a;split at a;.rename_i h e;have d:=du.a e;refine jU (bO.a a) λi b g=>?_;cases g;rw[b];rw[aq d.1]at b;exact aB V<|bt ((aB ca<|aY b).b.a<|aE.a d.2.1) U
 .cases a
noncomputable def Rf(b:cj->Bool)(c:cL):Bool:=c.casesOn (motive_1:=λa=>Bool) (λa a a=>ah) (λa a a=>ah) (λa a a a=>ah) (λa a a=>ah) (λa a a a=>ah) (λa a a a=>ah) (λa a a=>ah) (λa a a=>ah) (λa a a a=>ah) (λa a a a=>ah) (λa a a a a=>ah) (λa a a a=>ah) (λa a=>ah) (λa a=>ah) (λa a=>ah) (λa a a a=>ah) (λa a a a=>ah) (λa a a a=>ah) (λa a=>ah) (λa a a=>ah) (λa a a=>ah) (λa a a=>ah) (λa a=>ah) (λd a=>b d) (λa a=>ah) (λa a a=>ah) λa a a a=>ah
def wp(b:cL):Bool:=b.casesOn (motive_1:=λa=>Bool) (λa a a=>ah) (λa a a=>ah) (λa a a a=>ah) (λa a a=>ah) (λa a a a=>ah) (λa a a a=>ah) (λa a a=>ah) (λa a a=>ah) (λa a a a=>ah) (λa a a a=>ah) (λa a a a a=>ah) (λa a a a=>ah) (λa a=>ah) (λa a=>ah) (λa a=>ah) (λa a a a=>ah) (λc a a a=>Rf (· =="super") c) (λa a a a=>ah) (λa a=>ah) (λa a a=>ah) (λa a a=>ah) (λa a a=>ah) (λa a=>ah) (λa a=>ah) (λa a=>ah) (λa a a=>ah) λa a a a=>ah
noncomputable def nJ(a:cL):Bool:=a.ctorIdx.beq 22
noncomputable def qz(a:cL):Bool:=a.ctorIdx.beq 26
def sA(c:k')(d:fD):Op<|Lt<|Nat×Nat:=(d.names.zipIdx.filter λa=>a.1.2==.free).mapM λa=>match rX c a.1.1 with
 |some (b,ah)=>match c[b]? with|some (_,.cell)=>V (a.2,b)|some (_,.free)=>V (a.2,b)|_=>Y
 |_=>Y
noncomputable def yc:Lt cj->Bool|[]=>aj|b::a=>!(a.any (· ==b))&&yc a
def vp(a:fD):Bool:=a.kind==.function&&!a.isGenerator&&!a.isCoroutine&&yc (a.names.map (·.1))&&a.names.all λb=>!(b.2==.cell)
def Ad(a:cL):Bool:=a.ctorIdx.beq 7
def uh(b:k')(c:Nat)(d:Lt<|Nat×Nat)(a:fD)(e:cL):=vp a=aj/\Ad e=ah/\sA b a=V d/\La a.names=c
section
variable{b:k'}(c:uh b f a i Q)
def uh.B:=c.1
def uh.C:=c.2.1
def uh.A:=c.2.2.1
end
def sB(b:k')(d:Nat)(e:List<|Nat×Nat)(f:cj)(a:fD):=vp a=aj/\a.names[d]?=V (f,.local)/\sA b a=V e/\∀c∈a.names,c.2=.free->(c.1,acJ)∈b
def sB.B{b:k'}(c:sB b f a m i):=c.1
def sB.C{b:k'}(c:sB b f a m i):=c.2.1
def sB.A{b:k'}(c:sB b f a m i):=c.2.2.1
def sB.D{b:k'}(c:sB b f a m i):=c.2.2.2
mutual
noncomputable def nb:kM->k'->cL->Prop
 |.A i,c,b=>∀a:cL->Prop,(∀f d,rX c f=V (i,ah)->a (.Name f d))->a b
 |.B j,c,b=>∀a:cL->Prop,(∀e k d,e.any nJ=ah->wq j c e->a (.Tuple e k d))->a b
  noncomputable def wq:List kM->k'->List cL->Prop
 |[],_,b=>b=[]
 |l::m,c,b=>∀a:List cL->Prop,(∀g h,nb l c g->wq m c h->a (g::h))->a b
end
mutual
noncomputable def kV:jR->k'->cL->Prop
 |.A k,b,c=>∀a:cL->Prop,(∀e d,(e==("__debug__":cj))=ah->(e==("__classdict__":cj))=ah->rX b e=V (k,ah)->a (.Name e d))->a c
 |.G y,b,c=>∀a:cL->Prop,(∀d k,(y==("__debug__":cj))=ah->rX b y=V (k,aj)->a (.Name y d))->a c
 |.a_,_,c=>∀a:cL->Prop,(∀m d,a (.Constant .none m d))->a c
 |.b_ p,_,c=>∀a:cL->Prop,(∀m d,a (.Constant (.bool p) m d))->a c
 |.E p,_,c=>∀a:cL->Prop,(∀m d,a (.Constant (.int p) m d))->a c
 |.I p,_,c=>∀a:cL->Prop,(∀m d,a (.Constant (.str p) m d))->a c
 |.B g n,b,c=>∀a:cL->Prop,(∀h e d,wp h=ah->wm e=V n->kV g b h->a (.Attribute h e d))->a c
 |.C g k,b,c=>∀a:cL->Prop,(∀h q d,qz q=ah->kV g b h->kV k b q->a (.Subscript h q d))->a c
 |.j_ g H I,b,c=>∀a:cL->Prop,(∀h z A r d,kV g b h->((z=Y/\H=.a_)\/∃e,z=V e/\kV H b e)->((A=Y/\I=.a_)\/∃e,A=V e/\kV I b e)->a (.Subscript h (.Slice z A Y r) d))->a c
 |.J x e t,b,c=>∀a:cL->Prop,(∀j h d,kV e b j->kV t b h->a (.BinOp j x h d))->a c
 |.c_ e,b,c=>∀a:cL->Prop,(∀j d,kV e b j->a (.UnaryOp .USub j d))->a c
 |.e_ e,b,c=>∀a:cL->Prop,(∀j d,kV e b j->a (.UnaryOp .Not j d))->a c
 |.D x e t,b,c=>∀a:cL->Prop,(∀j h d,aeY x h=ah->kV e b j->kV t b h->a (.Compare j [x] [h] d))->a c
 |.f_ l,b,c=>∀a:cL->Prop,(∀f d,ny l b f->a (.BoolOp .And f d))->a c
 |.g_ l,b,c=>∀a:cL->Prop,(∀f d,ny l b f->a (.BoolOp .Or f d))->a c
 |.h_ s e t,b,c=>∀a:cL->Prop,(∀o j h d,kV s b o->kV e b j->kV t b h->a (.IfExp o j h d))->a c
 |.M l,b,c=>∀a:cL->Prop,(∀f r d,f.any nJ=ah->ny l b f->a (.Tuple f r d))->a c
 |.K l,b,c=>∀a:cL->Prop,(∀f d,f.any nJ=ah->ny l b f->a (.List f d))->a c
 |.L B J,b,c=>∀a:cL->Prop,(∀f K d,B.length=J.length->B.length<=8->ny B b f->ny J b K->a (.Dict (f.map V) K d))->a c
 |.H N l,b,c=>∀a:cL->Prop,(∀e r f d,f.any nJ=ah->f.length<=20->kV N b (.Name e r)->ny l b f->a (.Call (.Name e r) f [] d))->a c
 |.F g O l,b,c=>∀a:cL->Prop,(∀C n L f d,wp C=ah->f.any nJ=ah->(L.endLine==d.line)=aj->f.length<=20->wm n=V O->kV g b C->ny l b f->a (.Call (.Attribute C n L) f [] d))->a c
 |.d_ n u P D E F,b,c=>∀a:cL->Prop,(∀g o k v i d,uh b n u i k->kV P i.names g->nb D i.names o->kV E b k->ny F i.names v->a (.ListComp g [⟨o,k,v,0⟩] i d))->a c
 |.k_ n u Q R D E F,b,c=>∀a:cL->Prop,(∀g M o k v i d,uh b n u i k->kV Q i.names g->kV R i.names M->nb D i.names o->kV E b k->ny F i.names v->a (.DictComp g M [⟨o,k,v,0⟩] i d))->a c
 |.i_ m u S T p,b,c=>∀a:cL->Prop,(∀e W g i d,sB b m u e i->d.line=S->d.col=T->kV p i.names g->a (.Lambda ⟨[],[⟨e,Y,W⟩],Y,[],[],Y,[]⟩ g i d))->a c
 |.l_ l,b,c=>∀a:cL->Prop,(∀f d,vq l b f->a (.JoinedStr f d))->a c
  noncomputable def ny:List jR->k'->List cL->Prop
 |[],_,c=>c=[]
 |s::G,b,c=>∀a:List cL->Prop,(∀g w,kV s b g->ny G b w->a (g::w))->a c
  noncomputable def vq:List jR->k'->List cL->Prop
 |[],_,c=>c=[]
 |s::G,b,c=>∀a:List cL->Prop,(∀g w,((∃q m d,g=.Constant (.str q) m d/\s=.I q)\/∃e d,g=.FormattedValue e 115 Y d/\kV s b e)->vq G b w->a (g::w))->a c
end
mutual
noncomputable def CU:kb->k'->gq->Prop
 |.A i h,b,d=>∀a:gq->Prop,(∀f c e,nb i b f->kV h b c->a (.Assign [f] c e))->a d
 |.F l o h,b,d=>∀a:gq->Prop,(∀f g j c e,wm g=V o->kV l b f->kV h b c->a (.Assign [.Attribute f g j] c e))->a d
 |.D l k h,b,d=>∀a:gq->Prop,(∀f g j c e,qz g=ah->kV l b f->kV k b g->kV h b c->a (.Assign [.Subscript f g j] c e))->a d
 |.M k p h,b,d=>∀a:gq->Prop,(∀g j c e,rX b g=V (k,ah)->kV h b c->a (.AugAssign (.Name g j) p c e))->a d
 |.a_ l o p h,b,d=>∀a:gq->Prop,(∀f g j c e,wm g=V o->kV l b f->kV h b c->a (.AugAssign (.Attribute f g j) p c e))->a d
 |.E h,b,d=>∀a:gq->Prop,(∀c e,kV h b c->a (.Expr c e))->a d
 |.B m g n,b,d=>∀a:gq->Prop,(∀i f c e,kV m b i->q5 g b f->q5 n b c->a (.If i f c e))->a d
 |.H m g n,b,d=>∀a:gq->Prop,(∀i f c e,kV m b i->q5 g b f->q5 n b c->a (.While i f c e))->a d
 |.C r s g n,b,d=>∀a:gq->Prop,(∀i k f c e,nb r b i->kV s b k->q5 g b f->q5 n b c->a (.For i k f c e))->a d
 |.J,_,d=>∀a:gq->Prop,(∀e,a (.Break e))->a d
 |.K,_,d=>∀a:gq->Prop,(∀e,a (.Continue e))->a d
 |.b_,_,d=>∀a:gq->Prop,(∀e,a (.Pass e))->a d
 |.G h,b,d=>∀a:gq->Prop,(∀e,h=.a_->a (.Return Y e))->(∀c e,kV h b c->a (.Return (V c) e))->a d
 |.L g t u,b,d=>∀a:gq->Prop,(∀f i c j e,q5 g b f->kV t b i->q5 u b c->a (.Try f [.ExceptHandler (V i) Y c j] [] [] e))->a d
 |.I,_,_=>True
 |.c_,_,_=>True
  noncomputable def q5:List kb->k'->List gq->Prop
 |[],_,d=>d=[]
 |m::v,b,d=>∀a:List gq->Prop,(∀h q,CU m b h->q5 v b q->a (h::q))->a d
end
abbrev mX(a:Prop):=Op<|PLift a
noncomputable def ly(a:j):mX j:=V ⟨a⟩
def nz(a:Bool)(b:a=aj->mX j):mX j:=ae4 (motive:=λa=>(a=aj->mX j)->mX j) (λc=>Y) (λb=>b U) a b
def kQ(a:mX j)(b:j->mX W):mX W:=a.rec Y λc=>b c.down
def mX.A{a:mX j}(b:Lh a=aj):j:=by cases a with|none=>cases b|some c=>exact c.down
def pp(a:(!r)=aj):r=ah:=(eN r).mp a
def yd(b:k')(c:cj)(d:Nat)(e:Bool):Bool:=(rX b c).rec ah λa=>a.1.beq d&&(a.2==e)
def CV{b:k'}(a:yd b m f r=aj):rX b m=V (f,r):=by unfold yd at a;cases c:rX b m with|none=>rw[c]at a;exact lf a|some e=>rw[c]at a;have d:=(az ..).mp a;exact aB V<|bt (bA d.1)<|aE.a d.2
def ye(b:cj)(a:Nat):Bool:=cK (a+1) 72&&b==lU a
def Ae(c:ye m f=aj):wm m=V f:=by
 obtain⟨d,e⟩:=(az ..).mp c;have a:=Rc▸bE d;have b:nR[f]=m:=by rw[aE.a e];unfold lU;rw[bZ,aq a];rfl
 refine du.b ⟨a,aE.b b,λi g=>?_⟩;exact λh=>bF g<|(hf Gr).a<|(aE.a h).a b.b
noncomputable def CW:Lt (Nat×Nat)->Lt (Nat×Nat)->Bool|[],[]=>aj|(a,b)::c,(d,e)::f=>a.beq d&&b.beq e&&CW c f|_,_=>ah
def Rg:∀{c:Lt<|Nat×Nat},CW a c=aj->a=c:=by
 induction a with
 |nil=>exact λ{c} b=>by cases c with|nil=>rfl|cons=>cases b
 |cons f g e=>exact λ{c} b=>by cases c with|nil=>cases b|cons h i=>have b:=(az ..).mp b;have d:=(az ..).mp b.1;exact congr (aB _<|bt (bA d.1)<|bA d.2)<|e b.2
def Af(a:k')(b:fD)(c:Lt<|Nat×Nat):Bool:=(sA a b).rec ah<|CW c
def Gt{c:k'}(b:Af c i a=aj):sA c i=V a:=by unfold Af at b;cases d:sA c i with|none=>rw[d]at b;exact lf b|some e=>rw[d]at b;exact aB V (Rg b).b
def Ag(b:k')(c:Nat)(d:Lt<|Nat×Nat)(a:fD)(e:cL):Bool:=vp a&&!Ad e&&Af b a d&&(La a.names).beq c
def Gu{c:k'}(b:Ag c f a i Q=aj):uh c f a i Q:=by unfold Ag at b;simp only[az]at b;exact mz b.1.1.1 (pp b.1.1.2) (Gt b.1.2)<|bA b.2
def Gv(b:k')(c:Nat)(d:cj):Bool:=(b[c]?).rec ah λa=>a.1==d&&ba (a.2=.local)
def CX(b:k')(e:Nat)(f:Lt<|Nat×Nat)(g:cj)(a:fD):Bool:=vp a&&Gv a.names e g&&Af b a f&&a.names.all λc=>!ba (c.2=.free)||b.any λd=>d.1==c.1&&ba (d.2=.cell)
def Gw{a b:eR}(c:ba (a=b)=aj):a=b:=aF c
def Rh{e:k'}(c:CX e f a m i=aj):sB e f a m i:=by
 unfold CX at c;simp only[az,bc]at c;refine mz c.1.1.1 ?_ (Gt c.1.2) λg j d=>?_;.have b:=c.1.1.2;unfold Gv at b;cases d:i.names[f]? with|none=>rw[d]at b;exact lf b|some g=>rw[d]at b;have h:=(az ..).mp b;exact aB V<|bt (aE.a h.1)<|Gw h.2
 .have b:=c.2 g j;rw[d]at b;refine jU (eC.a<|b) λk l n=>?_;obtain⟨o,p⟩:=(az ..).mp n;obtain⟨q,r⟩:=k;cases aE.a o;cases Gw p;exact l
def Ah(a:Decidable j)(b:j->mX W):mX W:=a.rec (motive:=λc=>mX W) (λc=>Y) b
noncomputable def CY:Lt (Op cL)->Op (Lt cL)|[]=>V []|none::_=>Y|some a::b=>(CY b).map (a::·)
def Ri{a:Lt<|Op cL}:∀{c:Lt cL},CY a=V c->a=c.map V:=by induction a with|nil=>exact λb=>aY b▸U|cons d a e=>exact λb=>by cases d with|none=>exact kh b|some d=>exact jU (bO.a b) λh f g=>g▸aB _ (e f)
def Ai(b:kM):∀a c,mX<|nb b a c:=kM.rec (motive_1:=λb=>∀a c,mX<|nb b a c) (motive_2:=λf=>∀a d,mX<|wq f a d) (λm a c=>match c with|.Name i b=>nz (yd a i m ah) λg=>ly λj e=>e i b<|CV g|_=>Y) (λf n a c=>match c with|.Tuple h o b=>nz (!h.any nJ) λg=>kQ (n a h) λp=>ly λj e=>e h o b (pp g) p|_=>Y) (λa d=>match d with|[]=>ly U|_=>Y) (λb f q r a d=>match d with|k::l=>kQ (q a k) λc=>kQ (r a l) λs=>ly λj e=>e k l c s|_=>Y) b
def kB(a:(r&&Z)=aj):r=aj/\Z=aj:=(az ..).mp a
def Gx(b:Op y)(c:∀a,b=V a->mX j):mX j:=dC (motive:=λb=>(∀a,b=V a->mX j)->mX j) (λd=>Y) (λa c=>c a U) b c
def Rj(b:k')(c:cj)(d:∀e,rX b c=V (e,aj)->mX j):mX j:=Gx (rX b c) λa f=>nz a.2 λg=>d a.1<|f.a<|aB (λh=>V (a.1,h)) g
def Aj(a:Lt cL):Bool:=!a.any nJ&&(La a).ble 20
def Gy(a:Aj w=aj):w.any nJ=ah:=pp (kB a).1
def Gz(a:Aj w=aj):La w<=20:=bE (kB a).2
abbrev CZ(a:jR):=∀b c,mX<|kV a b c
structure Rk(c:List jR)where
 A:∀a b,mX (ny c a b)
 B:∀a b,mX (vq c a b)
def C0{c:jR}(f:CZ c)(d:k')(e:Op cL):mX ((e=Y/\c=.a_)\/∃b,e=V b/\kV c d b):=match e with|none=>jR.rec (motive_1:=λc=>mX ((Y=Y/\c=.a_)\/∃b,Y=V b/\kV c d b)) (motive_2:=λa=>Unit) (λa=>Y) (ly<|.inl ⟨U,U⟩) (λa=>Y) (λa=>Y) (λa=>Y) (λa=>Y) (λa a a=>Y) (λa a a a=>Y) (λa a a a a a=>Y) (λa a a a a=>Y) (λa a=>Y) (λa a=>Y) (λa a a a a=>Y) (λa a=>Y) (λa a=>Y) (λa a a a a a=>Y) (λa a=>Y) (λa a=>Y) (λa a a a=>Y) (λa a a a=>Y) (λa a a a a=>Y) (λa a a a a a a a a=>Y) (λa a a a a a a a a a a=>Y) (λa a a a a a=>Y) (λa a=>Y) () (λa a a a=>()) c|some b=>kQ (f d b) λg=>ly<|.inr ⟨b,U,g⟩
def Rl(b:jR)(c:cj):mX<|b=.I c:=jR.rec (motive_1:=λb=>mX<|b=.I c) (motive_2:=λa=>Unit) (λa=>Y) Y (λa=>Y) (λa=>Y) (λd=>nz (d==c) λe=>ly<|aB jR.I<|aE.a e) (λa=>Y) (λa a a=>Y) (λa a a a=>Y) (λa a a a a a=>Y) (λa a a a a=>Y) (λa a=>Y) (λa a=>Y) (λa a a a a=>Y) (λa a=>Y) (λa a=>Y) (λa a a a a a=>Y) (λa a=>Y) (λa a=>Y) (λa a a a=>Y) (λa a a a=>Y) (λa a a a a=>Y) (λa a a a a a a a a=>Y) (λa a a a a a a a a a a=>Y) (λa a a a a a=>Y) (λa a=>Y) () (λa a a a=>()) b
def qe(t:jR):CZ t:=jR.rec (motive_1:=CZ) (motive_2:=Rk) (λs a b=>match b with|.Name i c=>nz (yd a i s ah) λe=>nz (!(i==("__debug__":cj))&&!(i==("__classdict__":cj))) λB=>ly λg d=>d i c (pp (kB B).1) (pp (kB B).2)<|CV e|_=>Y) (λa b=>match b with|.Constant .none d c=>ly λg n=>n d c|_=>Y) (λp a b=>match b with|.Constant (.bool u) d c=>nz (p==u) λe=>ly λg n=>aE.a e▸n d c|_=>Y) (λp a b=>match b with|.Constant (.int u) d c=>nz (p==u) λe=>ly λg n=>aE.a e▸n d c|_=>Y) (λp a b=>match b with|.Constant (.str u) d c=>nz (p==u) λe=>ly λg n=>aE.a e▸n d c|_=>Y) (λH a b=>match b with|.Name i c=>nz (H==i&&!(H==("__debug__":cj))) λe=>Rj a H λs m=>ly λg d=>aE.a (kB e).1▸d c s (pp (kB e).2) m|_=>Y) (λm v q a b=>match b with|.Attribute o i c=>nz (!wp o&&ye i v) λe=>kQ (q a o) λf=>ly λg d=>d o i c (pp (kB e).1) (Ae (kB e).2) f|_=>Y) (λm s k j a b=>match b with|.Subscript o x c=>nz (!qz x) λe=>kQ (k a o) λf=>kQ (j a x) λl=>ly λg d=>d o x c (pp e) f l|_=>Y) (λm γ δ k j y a b=>match b with|.Subscript o (.Slice F e Y n) c=>kQ (k a o) λf=>kQ (C0 j a F) λb=>kQ (C0 y a e) λp=>ly λg d=>d o F e n c f b p|_=>Y) (λG i L k j a b=>match b with|.BinOp l z o c=>Ah (decEq G z) λe=>kQ (k a l) λf=>kQ (j a o) λI=>ly λg d=>e▸d l o c f I|_=>Y) (λi q a b=>match b with|.UnaryOp .USub l c=>kQ (q a l) λf=>ly λg d=>d l c f|_=>Y) (λi q a b=>match b with|.UnaryOp .Not l c=>kQ (q a l) λf=>ly λg d=>d l c f|_=>Y) (λG i L k j a b=>match b with|.Compare l [z] [o] c=>Ah (decEq G z) λm=>nz (!aeY G o) λe=>kQ (k a l) λf=>kQ (j a o) λI=>ly λg d=>m▸d l o c (pp e) f I|_=>Y) (λC q a b=>match b with|.BoolOp .And h c=>kQ (q.A a h) λf=>ly λg d=>d h c f|_=>Y) (λC q a b=>match b with|.BoolOp .Or h c=>kQ (q.A a h) λf=>ly λg d=>d h c f|_=>Y) (λt i L k j y a b=>match b with|.IfExp f l o c=>kQ (k a f) λs=>kQ (j a l) λR=>kQ (y a o) λF=>ly λg d=>d f l o c s R F|_=>Y) (λC q a b=>match b with|.Tuple h n c=>nz (!h.any nJ) λe=>kQ (q.A a h) λf=>ly λg d=>d h n c (pp e) f|_=>Y) (λC q a b=>match b with|.List h c=>nz (!h.any nJ) λe=>kQ (q.A a h) λf=>ly λg d=>d h c (pp e) f|_=>Y) (λM S k j a b=>match b with|.Dict h N c=>Gx (CY h) λO m=>nz ((La M).beq (La S)&&(La M).ble 8) λe=>kQ (k.A a O) λf=>kQ (j.A a N) λl=>ly λg d=>Ri m▸d O N c (bA (kB e).1) (bE (kB e).2) f l|_=>Y) (λε C k j a b=>match b with|.Call (.Name i n) h [] c=>nz (Aj h) λe=>kQ (k a<|.Name i n) λf=>kQ (j.A a h) λl=>ly λg d=>d i n h c (Gy e) (Gz e) f l|_=>Y) (λm T C k j a b=>match b with|.Call (.Attribute z v P) h [] c=>nz (Aj h) λe=>nz (!wp z&&P.endLine==c.line&&ye v T) λB=>kQ (k a z) λf=>kQ (j.A a h) λl=>ly λg d=>d z v P h c (pp (kB (kB B).1).1) (Gy e) (kB (kB B).1).2 (Gz e) (Ae (kB B).2) f l|_=>Y) (λv D ζ J W X k j y a b=>match b with|.ListComp m [⟨f,s,E,0⟩] r c=>nz (Ag a v D r s) λe=>kQ (k r.names m) λb=>kQ (Ai J r.names f) λp=>kQ (j a s) λt=>kQ (y.A r.names E) λu=>ly λg d=>d m f s E r c (Gu e) b p t u|_=>Y) (λv D η θ J W X Z k j y a b=>match b with|.DictComp m Q [⟨f,s,E,0⟩] r c=>nz (Ag a v D r s) λe=>kQ (Z r.names m) λK=>kQ (k r.names Q) λb=>kQ (Ai J r.names f) λp=>kQ (j a s) λt=>kQ (y.A r.names E) λu=>ly λg d=>d m Q f s E r c (Gu e) K b p t u|_=>Y) (λd D α β p q a b=>match b with|.Lambda ⟨[],[⟨i,Y,K⟩],Y,[],[],Y,[]⟩ m r c=>nz (CX a d D i r&&(c.line.beq α&&c.col.beq β)) λe=>kQ (q r.names m) λf=>ly λg n=>n i K m r c (Rh (kB e).1) (bA (kB (kB e).2).1) (bA (kB (kB e).2).2) f|_=>Y) (λC q a b=>match b with|.JoinedStr h c=>kQ (q.B a h) λf=>ly λg d=>d h c f|_=>Y) ⟨λa A=>match A with|[]=>ly U|_=>Y,λa A=>match A with|[]=>ly U|_=>Y⟩ (λt ι k j=>⟨λa A=>match A with|m::w=>kQ (k a m) λb=>kQ (j.A a w) λp=>ly λg d=>d m w b p|_=>Y,λa A=>match A with|.FormattedValue i 115 Y c::w=>kQ (k a i) λb=>kQ (j.B a w) λp=>ly λg d=>d (.FormattedValue i 115 Y c) w (.inr ⟨i,c,U,b⟩) p|.Constant (.str x) n c::w=>kQ (Rl t x) λb=>kQ (j.B a w) λp=>ly λg d=>d (.Constant (.str x) n c) w (.inl ⟨x,n,c,U,b⟩) p|_=>Y⟩) t
abbrev Rm(a:kb):=∀b c,mX<|CU a b c
abbrev GA(a:Lt kb):=∀b c,mX<|q5 a b c
def Rn(t:List kb):GA t:=kb.rec_1 (motive_1:=Rm) (motive_2:=GA) (λm k a b=>match b with|.Assign [f] c d=>kQ (Ai m a f) λh=>kQ (qe k a c) λg=>ly λl e=>e f c d h g|_=>Y) (λn u k a b=>match b with|.Assign [.Attribute f i o] c d=>nz (ye i u) λj=>kQ (qe n a f) λh=>kQ (qe k a c) λg=>ly λl e=>e f i o c d (Ae j) h g|_=>Y) (λn C k a b=>match b with|.Assign [.Subscript f i o] c d=>nz (!qz i) λj=>kQ (qe n a f) λh=>kQ (qe C a i) λp=>kQ (qe k a c) λg=>ly λl e=>e f i o c d (pp j) h p g|_=>Y) (λh v k a b=>match b with|.AugAssign (.Name i o) n c d=>Ah (decEq v n) λw=>nz (yd a i h ah) λj=>kQ (qe k a c) λg=>ly λl e=>w▸e i o c d (CV j) g|_=>Y) (λn u v k a b=>match b with|.AugAssign (.Attribute f i o) D c d=>Ah (decEq v D) λw=>nz (ye i u) λj=>kQ (qe n a f) λh=>kQ (qe k a c) λg=>ly λl e=>w▸e f i o c d (Ae j) h g|_=>Y) (λk a b=>match b with|.Expr c d=>kQ (qe k a c) λg=>ly λl e=>e c d g|_=>Y) (λs i A q r a b=>match b with|.If m f c d=>kQ (qe s a m) λh=>kQ (q a f) λg=>kQ (r a c) λp=>ly λl e=>e m f c d h g p|_=>Y) (λs i A q r a b=>match b with|.While m f c d=>kQ (qe s a m) λh=>kQ (q a f) λg=>kQ (r a c) λp=>ly λl e=>e m f c d h g p|_=>Y) (λE F i A q r a b=>match b with|.For m h f c d=>kQ (Ai E a m) λb=>kQ (qe F a h) λx=>kQ (q a f) λg=>kQ (r a c) λp=>ly λl e=>e m h f c d b x g p|_=>Y) (λa b=>match b with|.Break d=>ly λl e=>e d|_=>Y) (λa b=>match b with|.Continue d=>ly λl e=>e d|_=>Y) (λk a b=>match b with|.Return n d=>kQ (C0 (qe k) a n) λj=>ly λl G H=>j.a (λj=>j.1▸G d j.2) λj=>j.a λi j=>j.1▸H i d j.2|_=>Y) (λa b=>match b with|.Pass d=>ly λl e=>e d|_=>Y) (λi I j q r a b=>match b with|.Try f [.ExceptHandler (V m) Y c o] [] [] d=>kQ (q a f) λh=>kQ (qe I a m) λg=>kQ (r a c) λp=>ly λl e=>e f m c o d h g p|_=>Y) (λy y=>ly aH) (λy y=>ly aH) (λa z=>match z with|[]=>ly U|_=>Y) (λs t q r a z=>match z with|k::B=>kQ (q a k) λb=>kQ (r a B) λx=>ly λl e=>e k B b x|_=>Y) t
def GB:Lt kb:=[.G<|.f_ [.D .Gt (.H J1 [Ja]) J3,.H (.G "all") [.d_ 3 [] (.D .In Jb<|.G "_IDENTIFIER") Jr Ja []]]]
def yf:Lt kb:=[.F Ja 0 Jc,.F Ja 1<|.H (.G "tuple") [Jg],.F Ja 2 Jb,.F Ja 3 Jd,.F Ja 4 .a_,.F Ja 5 Jj,.F Ja 6 Jl,.F Ja 7 Jh,.F Ja 8<|.H J1 [.B Ja 1],.F Ja 9 JY,.C Jx (.B Ja 1) [.B K3 [.E K8] []] [],.F Ja 10 JY,.F Ja 11 .a_,.B (.B Ja 1) [.F Ja 12<|.l_ [.B Ja 0,.I " -> ",.F (.I " ") 49 [.B Ja 1]]] [.F Ja 12<|.J .Mod (.I "%s -> <empty>")<|.B Ja 0]]
def GC:Lt kb:=[.G<|.H J1 [.B Ja 1]]
def GD:Lt kb:=[.F Ja 0<|.B Jb 0,.F Ja 1<|.H (.G "list") [.B Jb 1],.F Ja 2<|.B Jb 2,.F Ja 15 Jc,.F Ja 16 JW,.E<|.F (.B Ja 1) 44 [Jc,.I "."],.F Ja 1<|.H (.G "tuple") [.B Ja 1],.F Ja 8<|.H J1 [.B Ja 1],.F Ja 9<|.B Jb 9]
def GF:Lt kb:=[.A Jv<|.J .Sub (.H J1 [Ja]) JX,.H (.D .GtE Jc J3) [.B (.D .In (.C Ja Jc) Jb) [.G<|.C Ja Jc] [],.M 2 .Sub JX] [],.G .a_]
def GG:Lt kb:=[.F Ja 19<|.K [.a_],.F Ja 20 JW,.F Ja 21 JW,.F Ja 22 JW,.C Jv Jb [.D Kq Jc JY] [],.D Kq (.I "error") JY,.F Ja 23 JW,.F Ja 24 JW,.F Ja 25 JW,.F Ja 26 JW,.F Ja 27<|.H (.G "set") [],.F Ja 28 .a_]
def GH:Lt kb:=[.B (.D .In Jb Kq) [.I] [],.B (.D .Eq Jb<|.I "error") [.I] [],.B (.e_<|.H Qj [Jb]) [.I] [],.C (.B [Jy,Jz]) (.H Kd [Jc]) [.B (.D .In (.C Jl J3)<|.I "'\"") [.L [.A Jx<|.H (.G "_literal") [Jl],.B (.D .Gt (.H J1 [Jk]) JX) [.I] [],.B (.D .NotIn Jk Kq) [.D Kq Jk JY] [],.D Jc Jj Jk,.K] (.G "SyntaxError") [.b_]] [],.B (.f_ [.e_<|.H Qj [Jl],.D .NotEq Jl K9]) [.I] []] [],.B (.D .In K9 Jc) [.B (.D .Eq (.C Jc<|.c_ JX) K9) [.I] [],.B (.D .NotEq (.C Jc<|.c_<|.E 2) K9) [.I] [],.A JB<|.C Jc<|.c_ JX,.A JC<|.F (.B Ja 26) 46 [Jf],.B (.e_ Jn) [.I] [.E<|.F (.B Ja 27) 48 [Jf]],.c_] [.A JB<|.H (.G "rightmost_terminal") [Jc,.B Ja 22],.A JC<|.F (.B Ja 26) 46 [Jf,.M [.I "right",.E 0]]],.A JI<|.l_ [Jb,.I " -> ",Jc],.B (.D .In Jp<|.B Ja 21) [.A JM<|.C (.B Ja 21) Jp,.I] [],.A JL<|.H J1 [.B Ja 19],.B (.D .NotIn Jb Kb) [.D Kb Jb JY] [],.C JG Jc [.B (.D .In Ji Kq) [.E<|.F (.C Kq Ji) 42 [JA]] [.B (.D .NotIn Ji Kb) [.D Kb Ji JY] [],.E<|.F (.C Kb Ji) 42 [JA]]] [],.A JJ<|.H Qu [JA,Jb,Jc,Jn,Jg,Jh,Jd],.E<|.F KO 42 [Jm],.D (.B Ja 21) Jp Jm,.L [.E<|.F (.C KA Jb) 42 [Jm]] (.G "KeyError") [.D KA Jb<|.K [Jm]]]
def GI:Lt kb:=[.B (.e_ Jb) [.A Jr<|.B (.C KO JX) 0] [],.B (.D .NotIn Jb Kb) [.I] [],.D KO J3<|.H Qu [.E 0,.I "S'",.K [Jb]],.E<|.F (.C Kb Jb) 42 [.E 0],.F Ja 28 Jb]
def GJ:Lt kb:=[.A Jv JY,.C Jo Jb [.A Jq<|.b_ ah,.C Jt (.C Kj Jg) [.B (.D .Eq Jd KL) [.A Jq<|.b_ aj] [.B (.D .NotIn Jd Jc) [.E<|.F Jc 42 [Jd]] []]] [],.B Jh [.b_] [.J]] [.E<|.F Jc 42 [.I "<empty>"]],.G Jc]
def GK:Lt kb:=[.B Kj [.G Kj] [],.C Jr Kq [.D Kj Jb<|.K [Jb]] [],.D Kj J7<|.K [.I "$end"],.C Jv Kb [.D Kj Jc JY] [],.H (.b_ aj) [.A Jo<|.b_ ah,.C Jv Kb [.C Jq (.C KA Jc) [.C Jt Qk [.B (.D .NotIn Jd<|.C Kj Jc) [.E<|.F (.C Kj Jc) 42 [Jd],.A Jo<|.b_ aj] []] []] []] [],.B Qv [.J] []] [],.G Kj]
def GL:Lt kb:=[.B Ke [.G Ke] [],.B (.e_ Kj) [.E<|.F Ja 56 []] [],.C Jv Kb [.D Ke Jc JY] [],.B (.e_ Jb) [.A Jr<|.B (.C KO JX) 0] [],.D Ke Jb<|.K [.I "$end"],.H (.b_ aj) [.A Jo<|.b_ ah,.C Jq (.j_ KO JX .a_) [.C (.B [Jt,Jy]) (.H Kd [.B Jh 1]) [.B (.D .In Jj Kb) [.A Jz<|.F Ja 55 [.j_ (.B Jh 1) (.J .Add Jd JX) .a_],.A Jx<|.b_ ah,.C JB Jl [.B (.f_ [.D .NotEq Jf KL,.D .NotIn Jf<|.C Ke Jj]) [.E<|.F (.C Ke Jj) 42 [Jf],.A Jo<|.b_ aj] [],.B (.D .Eq Jf KL) [.A Jx<|.b_ aj] []] [],.B (.g_ [Jk,.D .Eq Jd<|.J .Sub (.H J1 [.B Jh 1]) JX]) [.C JB (.C Ke<|.B Jh 0) [.B (.D .NotIn Jf<|.C Ke Jj) [.E<|.F (.C Ke Jj) 42 [Jf],.A Jo<|.b_ aj] []] []] []] []] []] [],.B Qv [.J] []] [],.G Ke]
def GN:Lt kb:=[.C Jr KO [.A Jv Jb,.A Jo J3,.A Jq JY,.H (.b_ aj) [.B (.D .Gt Jg<|.H J1 [Jb]) [.A Jt .a_] [.A Jt<|.H (.G "LRItem") [Jb,Jg],.L [.F Jd 17<|.C KA<|.C K6<|.J .Add Jg JX] Ka [.F Jd 17 JY],.L [.F Jd 18<|.C K6<|.J .Sub Jg JX] (.G "IndexError") [.F Jd 18 .a_]],.F Jc 11 Jd,.B (.e_ Jd) [.J] [],.E<|.F Jh 42 [Jd],.A Jv Jd,.M 3 .Add JX] [],.F Jb 10 Jh] []]
def GO:Lt kb:=[.A Jo JW,.C Jq Ja [.D Jg Jh J3] [],.A Jt JY,.A Jy JW,.C Jq Ja [.B (.D .Eq (.C Jg Jh) J3) [.E<|.H (.G "traverse") [Jh,Jg,Jd,Jj,Ja,Jb,Jc]] []] [],.G Jj]
def GP:Lt kb:=[.E<|.F Jc 42 [Ja],.A Jz<|.H J1 [Jc],.D Jb Ja Jl,.D Jg Ja<|.H Jj [Ja],.A Jx<|.H Jd [Ja],.C JB Jk [.B (.D .Eq (.C Jb Jf) J3) [.E<|.H (.G "traverse") [Jf,Jb,Jc,Jg,Jh,Jd,Jj]] [],.D Jb Ja<|.H (.G "min") [.C Jb Ja,.C Jb Jf],.C JC (.F Jg 46 [Jf,.K []]) [.B (.D .NotIn Jn Qa) [.E<|.F Qa 42 [Jn]] []] []] [],.B (.D .Eq (.C Jb Ja) Jl) [.D Jb (.C Jc<|.c_ JX)<|.G "MAXINT",.D Jg (.C Jc<|.c_ JX) Qa,.A JI<|.F Jc 43 [],.H (.D .NotEq Jp Ja) [.D Jb (.C Jc<|.c_ JX)<|.G "MAXINT",.D Jg (.C Jc<|.c_ JX) Qa,.A JI<|.F Jc 43 []] []] []]
def GQ:Lt kb:=[.B (.e_ Ja) [.G<|.M []] [],.G<|.H (.G "tuple") [.d_ 2 [] (.M [.B Jb 2,.B Jb 15]) Jr Ja []]]
def GR:Lt kb:=[.B (.D .NotIn Jc<|.K [.I "SLR",.I "LALR"]) [.I] [],.F Ja 29 Jb,.F Ja 30 Jc,.F Ja 31 JW,.F Ja 32 JW,.F Ja 33<|.B Jb 19,.F Ja 34 JW,.F Ja 35 JW,.F Ja 36 J3,.F Ja 37 J3,.F Ja 38 J3,.F Ja 39 JY,.F Ja 40 JY,.F Ja 41 JY,.E<|.F J4 58 [],.E<|.F J4 56 [],.E<|.F J4 57 [],.E<|.F Ja 71 []]
def GS:Lt kb:=[.a_ Ja 36 .Add JX,.A Jv<|.j_ Jb .a_ .a_,.A Jo<|.b_ aj,.H Jg [.A Jo<|.b_ ah,.C Jq Jc [.C Jt (.B Jh 17) [.B (.D .Eq (.B Jd 14)<|.B Ja 36) [.K] [],.E<|.F Jc 42 [.B Jd 11],.F Jd 14<|.B Ja 36,.A Jo<|.b_ aj] []] []] [],.G Jc]
def GU:Lt kb:=[.A Jo<|.F Qp 46 [.M [.H J6 [Jb],Jc]],.B Jg [.G Jg] [],.A Jq<|.F Qp 46 [Jc],.B (.e_ Jh) [.A Jq JW,.D Qp Jc Jh] [],.A Jt JY,.C Jy Jb [.A Jz<|.B Jj 11,.B Qw [.A Jx<|.F Jh 46 [.M [.B Jl 2,.B Jl 15]],.B (.e_ Jk) [.A Jx JW,.D Jh (.M [.B Jl 2,.B Jl 15]) Jk] [],.E<|.F Jd 42 [Jl],.A Jq Jk] []] [],.A Jo<|.F Jh 46 [.I "$end"],.B Qv [.B Jd [.A Jo<|.F Ja 59 [Jd],.D Jh J7 Jg] [.D Jh J7 Jd]] [],.D Qp (.M [.H J6 [Jb],Jc]) Jg,.G Jg]
def GV:Lt kb:=[.A Jr<|.K [.F Ja 59 [.K [.B (.C (.B J4 19) J3) 11]]],.A Jv J3,.C Jo Jb [.D Kk (.H J6 [Jg]) Jc,.M 2 .Add JX] [],.A Jv J3,.H (.D .Lt Jc<|.H J1 [Jb]) [.A Jo<|.C Jb Jc,.M 2 .Add JX,.A Jq JW,.C Jt Jg [.C Jy (.B Jd 9) [.D Jh Jj .a_] []] [],.C Jz Jh [.A Jx<|.F Ja 60 [Jg,Jl],.B (.g_ [.e_ Jk,.D .In (.H J6 [Jk]) Kk]) [.K] [],.D Kk (.H J6 [Jk])<|.H J1 [Jb],.E<|.F Jb 42 [Jk]] []] [],.G Jb]
def GW:Lt kb:=[.A Jr<|.H (.G "set") [],.A Jv J3,.H (.b_ aj) [.C Jo (.j_ (.B J4 19) JX .a_) [.B (.D .Eq (.B Jg 8) J3) [.E<|.F Jb 48 [.B Jg 0],.K] [],.C Jq (.B Jg 1) [.B (.D .NotIn Jh Jb) [.J] []] [.E<|.F Jb 48 [.B Jg 0]]] [],.B (.D .Eq (.H J1 [Jb]) Jc) [.J] [],.A Jv<|.H J1 [Jb]] [],.G Jb]
def GX:Lt kb:=[.A Jv JY,.C (.B [Jo,Jq]) (.H Kd [Jb]) [.C Jt Jh [.B (.D .Lt (.B Jd 15)<|.J .Sub (.B Jd 8) JX) [.A Jy<|.M [Jg,.C K6<|.J .Add (.B Jd 15) JX],.B (.D .In (.C Jj JX)<|.B J4 23) [.B (.D .NotIn Jj Jc) [.E<|.F Jc 42 [Jj]] []] []] []] []] [],.G Jc]
def GY:Lt kb:=[.A (.B [Jq,Jt]) Jc,.A Jy JY,.A Jz<|.F Ja 60 [.C Jb Jh,Jd],.C Jx Jl [.B (.D .Lt (.B Jk 15)<|.J .Sub (.B Jk 8) JX) [.A JB<|.C (.B Jk 1)<|.J .Add (.B Jk 15) JX,.B (.D .In Jf<|.B J4 22) [.B (.D .NotIn Jf Jj) [.E<|.F Jj 42 [Jf]] []] []] []] [],.B (.f_ [.D .Eq Jh J3,.D .Eq Jd<|.C (.B (.C (.B J4 19) J3) 1) J3]) [.E<|.F Jj 42 [.I "$end"]] [],.G Jj]
def GZ:Lt kb:=[.A Jq JY,.A (.B [Jt,Jy]) Jc,.A Jz<|.F Ja 60 [.C Jb Jd,Jj],.A Jx<|.F Kk 46 [.H J6 [Jl],.c_ JX],.C JB Jl [.B (.D .Lt (.B Jf 15)<|.J .Sub (.B Jf 8) JX) [.A JC<|.C (.B Jf 1)<|.J .Add (.B Jf 15) JX,.B (.D .In Jn Jg) [.E<|.F Jh 42 [.M [Jk,Jn]]] []] []] [],.G Jh]
def G0:Lt kb:=[.A Jq JW,.A Jt JW,.A Jy JW,.C Jz Jc [.D Jj Jl JX] [],.C (.B [Jx,JB]) Jc [.A JC JY,.A JI JY,.C JM (.C Jb Jk) [.B (.D .NotEq K7 Jf) [.K] [],.A JL Qb,.A JG Jk,.H (.D .Lt JA<|.J .Sub KP JX) [.A JL<|.J .Add JA JX,.A Jz<|.C KI JA,.B (.D .In (.M [Ji,Jl]) Jj) [.A JJ<|.J .Add JA JX,.H (.D .Lt Jm KP) [.B (.D .In (.C KI Jm)<|.B J4 22) [.J] [],.B (.D .NotIn (.C KI Jm) Jg) [.J] [],.A JJ<|.J .Add Jm JX] [.E K4]] [],.A JP K0,.A JG<|.F Kk 46 [.H J6 [JR],.c_ JX]] [],.C (.A 17) (.C Jb Ji) [.B (.D .NotEq (.B Ju 0) K7) [.K] [],.B (.D .NotEq (.B Ju 8) KP) [.K] [],.A JO J3,.H (.D .Lt Js<|.B Ju 15) [.B (.D .NotEq (.C (.B Ju 1) Js)<|.C KI<|.J .Add Js JX) [.J] [],.A JO<|.J .Add Js JX] [.E<|.F Jn 42 [.M [Ji,Ju]]]] []] [],.C JO Jp [.B (.D .NotIn Js Jd) [.D Jd Js JY] [],.E<|.F (.C Jd Js) 42 [.M [Jk,Jf]]] [],.D Jh (.M [Jk,Jf]) Jn] [],.G<|.M [Jh,Jd]]
def G1:Lt kb:=[.A Jq<|.i_ 0 [(1,1),(2,3),(3,0)] 519 13<|.F Jg 64 [Jb,Ja,Jc],.A Jt<|.i_ 0 [(1,1),(2,3),(3,0)] 520 12<|.F Jg 65 [Jb,Ja,Jc],.A Jy<|.H (.G "digraph") [Jc,Jd,Jh],.G Jj]
def G2:Lt kb:=[.A Jq<|.i_ 0 [(1,2)] 525 13<|.C Jb Ja,.A Jt<|.i_ 0 [(1,3)] 526 12<|.F Jb 46 [Ja,.K []],.A Jy<|.H (.G "digraph") [Jb,Jd,Jh],.G Jj]
def G3:Lt kb:=[.C (.B [Jo,Jq]) (.F Jb 47 []) [.C (.B [Jt,Jy]) Jh [.B (.D .NotIn Jd KQ) [.D KQ Jd JY] [],.A Jz<|.F Jc 46 [Jg,.K []],.C Jx Jl [.B (.D .NotIn Jk<|.C KQ Jd) [.E<|.F (.C KQ Jd) 42 [Jk]] []] []] []] []]
def G4:Lt kb:=[.A Jv<|.F Ja 62 [],.A Jo<|.F Ja 63 [Jb],.A Jq<|.F Ja 67 [Jb,Jg,Jc],.A (.B [Jt,Jy])<|.F Ja 66 [Jb,Jg,Jc],.A Jz<|.F Ja 68 [Jg,Jh,Jj],.E<|.F Ja 69 [Jd,Jl]]
def G5:Lt kb:=[.A Jr<|.B J4 19,.A Jv<|.B J4 26,.A Jo Kr,.A Jq Ks,.A Jt JW,.A Jy<|.F Ja 61 [],.B KN [.E<|.F Ja 70 [Jj]] [],.A Jz J3,.C Jx Jj [.A JB JW,.A JC JW,.A JI JW,.C JM Jk [.B (.D .Eq KP<|.J .Add Qb JX) [.B (.D .Eq K7<|.I "S'") [.D Jf J7 J3,.D Jn J7 Je] [.B KN [.A JL<|.C (.B Je 16) Jl] [.A JL<|.C (.B J4 25) K7],.C JG JA [.A JJ Qi,.B KX [.B (.D .Gt Jm J3) [.A (.B [JP,.A 17]) Ql,.A (.B [JO,.A 19])<|.B Ki 7,.B (.g_ [.D .Lt Ju JF,.f_ [.D .Eq Ju JF,.D .Eq Js<|.I "left"]]) [.D Jf Ji<|.c_ Kw,.D Jn Ji Je,.B (.f_ [.e_ Ju,.e_ JF]) [.E<|.F (.B Ja 40) 42 [.M [Jl,Ji,.I "reduce"]]] [],.a_ Ki 13 .Add JX] [.B (.f_ [.D .Eq Ju JF,.D .Eq Js<|.I "nonassoc"]) [.D Jf Ji .a_] [.B (.e_ JF) [.E<|.F (.B Ja 40) 42 [.M [Jl,Ji,.I "shift"]]] []]]] [.B (.D .Lt Jm J3) [.A (.A 20)<|.C Jb<|.c_ Jm,.A (.A 21) Ki,.B (.D .Gt (.B Jw 6)<|.B JE 6) [.D Jf Ji<|.c_ Kw,.D Jn Ji Je,.A (.B [.A 22,.A 23])<|.M [JE,Jw],.a_ Ki 13 .Add JX,.a_ (.C Jb<|.B Jw 2) 13 .Sub JX] [.A (.B [.A 22,.A 23])<|.M [Jw,JE]],.E<|.F (.B Ja 41) 42 [.M [Jl,JK,JQ]]] [.I]]] [.D Jf Ji<|.c_ Kw,.D Jn Ji Je,.a_ Ki 13 .Add JX]] []]] [.A (.A 24) Qb,.A JG<|.C KI<|.J .Add (.A 24) JX,.B (.D .In Ji<|.B J4 22) [.A JS<|.F Ja 60 [Jk,Ji],.A JU<|.F Kk 46 [.H J6 [.A 25],.c_ JX],.B (.D .GtE JD J3) [.A JJ Qi,.B KX [.B (.D .Gt Jm J3) [.B (.D .NotEq Jm JD) [.I] []] [.B (.D .Lt Jm J3) [.A (.B [JP,.A 17]) Ql,.A (.B [JO,.A 19])<|.B (.C Jb<|.B (.C Jn Ji) 2) 7,.B (.g_ [.D .Gt Ju JF,.f_ [.D .Eq Ju JF,.D .Eq Js<|.I "right"]]) [.a_ (.C Jb<|.B (.C Jn Ji) 2) 13 .Sub JX,.D Jf Ji JD,.D Jn Ji Je,.B (.e_ JF) [.E<|.F (.B Ja 40) 42 [.M [Jl,Ji,.I "shift"]]] []] [.B (.f_ [.D .Eq Ju JF,.D .Eq Js<|.I "nonassoc"]) [.D Jf Ji .a_] [.B (.f_ [.e_ Ju,.e_ JF]) [.E<|.F (.B Ja 40) 42 [.M [Jl,Ji,.I "reduce"]]] []]]] [.I]]] [.D Jf Ji JD,.D Jn Ji Je]] []] []]] [],.A (.A 27) JW,.C (.A 28) Jk [.C JT Qy [.B (.D .In JH<|.B J4 23) [.D JN JH .a_] []] []] [],.C (.A 30) JN [.A JS<|.F Ja 60 [Jk,.A 30],.A JU<|.F Kk 46 [.H J6 [.A 25],.c_ JX],.B (.D .GtE JD J3) [.D Jp (.A 30) JD] []] [],.D Jh Jl Jf,.D Jd Jl Jn,.D Jg Jl Jp,.M 7 .Add JX] []]
def G6:Lt kb:=[.G<|.K [.I "a",.I "b",.I "c",.I ""]]
def G7:Lt kb:=[.A Jr JY,.H (.g_ [.e_ Jb,.f_ [Ja,.D .Lt (.H J1 [Jb])<|.E 4]]) [.A Jv<|.h_ Ja (.F Ja 43 [.E 0]) J3,.A Jo<|.M [.C Qc<|.J .Mod Jc KY,.C (.I "AB") Kc,.C K5<|.J .Mod Kg<|.E 4],.B Qx [.E<|.F Jb 42 [Jg]] []] [],.G Jb]
def G8:Lt kb:=[.A Jr JW,.C (.B [Jv,Jo,Jq]) Ja [.B (.D .NotIn Jg<|.F Jb 46 [Jc,.I ""]) [.D Jb Jc<|.J .Add (.F Jb 46 [Jc,.I ""]) Jg] []] [],.G Jb]
def G9:Lt kb:=[.A Jq JY,.C (.B [Jt,Jy,Jz]) Ja [.A Jx<|.h_ Jl Jl J7,.B (.f_ [.D .Eq Jj Jg,.D .Eq (.C Jb Jd) Jc,.D .NotIn Jk Jh]) [.E<|.F Jh 42 [Jk]] []] [],.G Jh]
def G':Lt kb:=[.A Jo JY,.C Jq Jc [.A Jt<|.C Ks Jb,.B (.g_ [.D .NotEq (.H JZ [Jd])<|.K [Jh],.D .NotIn (.C Jd Jh) Ks]) [.G JY] [],.A Jr<|.C Jd Jh,.E<|.F Jg 42 [Jb]] [],.G Jg]
def Ha:Lt kb:=[.A Jo<|.C Ks J3,.B (.g_ [.D .NotEq (.H JZ [Jg])<|.H JZ [Jc],.D .NotEq (.H JZ [.C Kr J3])<|.K [.I "S"]]) [.G JY] [],.A Jq<|.C (.C Kr J3)<|.I "S",.B (.g_ [.D .NotEq (.C Ks Jh)<|.L [.I "$end"] [.E 0],.D .NotEq (.C Kr Jh) JW]) [.G JY] [],.A Jt<|.K [.E 0,Jh],.C Jy Jc [.E<|.F Jd 42 [.C Jg Jj],.A Jz<|.C Kr<|.C Jg Jj,.B (.D .NotEq (.H JZ [Jl])<|.H JZ [.C Jc Jj]) [.G JY] [],.C Jx (.C Jc Jj) [.E<|.F Jd 42 [.C Jl Jk],.A JB<|.C Ks Qd,.A JM<|.d_ 7 [(5,8),(6,6)] (.M [Jh,Jb]) (.B [Jr,.B [Jv,Jo,Jq]]) (.H Kd [Jb]) [.f_ [.D .Eq Jc Jj,.D .Eq Jg Jd]],.B (.g_ [.D .NotEq (.H JZ [Jf])<|.H JZ [.d_ 3 [] (.h_ Jb Jb J7) (.B [Jr,Jv]) Je []],.D .NotEq (.C Kr Qd) JW]) [.G JY] [],.C (.B [JI,JC]) Je [.B Qn [.B (.D .NotEq (.C Jf J7)<|.J .Sub (.c_ JX) Jn) [.G JY] []] [.E<|.F Jd 42 [.C Jf Jp],.B (.g_ [.D .NotEq (.C Ks KR)<|.L [.I "$end"] [.J .Sub (.c_ JX) Jn],.D .NotEq (.C Kr KR) JW]) [.G JY] []]] []] []] [],.G Jd]
def nX:Lt kb:=[.A Jr<|.d_ 2 [] (.J .Mod Jb<|.E 720720) Jr (.j_ Ja .a_<|.E 16) [],.A Jv<|.h_ Jb (.F Jb 43 [.E 0]) J3,.A Jo<|.d_ 3 [(2,2)] (.C Qc<|.J .Mod (.J .FloorDiv Kg<|.J .Pow KY Jb) KY) Jr (.H (.G "range") [.J .Add JX Qo]) [],.A Jq<|.h_ (.D .Eq Kc J3) (.K [.I "A",.I "B"])<|.K [.I "B",.I "A"],.A Jt<|.H (.G "_law_lines") [Jb],.A Jt<|.J .Add (.d_ 2 [] Jb Jr Jd [.D .Eq (.C Jb JX)<|.I "A"])<|.d_ 2 [] Jb Jr Jd [.D .Eq (.C Jb JX)<|.I "B"],.A Jy<|.H (.G "Grammar") [.K [.I "a",.I "b",.I "c"]],.C (.B [Jz,.B [Jx,JB,JC]]) (.H Kd [Jd]) [.E<|.F Jj 53 [.I "S",.h_ Jn (.K [Jk,Jf,Jn])<|.K [Jk,Jf],.a_,.I "",.J .Add Jl JX]] [],.A JI<|.D .Eq (.J .Mod (.J .FloorDiv Jc<|.E 162)<|.E 2) JX,.A JM JW,.C JB Jh [.D Je Jf<|.H J1 [.B Jj 19],.E<|.F Jj 53 [Jf,.H (.G "list") [Jg],.a_,.I "",.h_ Jp (.J .Sub (.E 50) KS) KS]] [],.A JL<|.h_ Jp (.K [.C Jh JX,.C Jh J3]) Jh,.E<|.F Jj 54 [.I "S"],.A JG<|.H (.G "LRGeneratedTable") [Jj,.I "LALR"],.A JJ<|.H (.G "_law_orders") [Jd],.A JP<|.H (.G "_law_openings") [Ji,Jd,Jm],.B (.D .Eq JR JY) [.G<|.b_ ah] [],.A (.A 17) JW,.A JO KC,.A (.A 19) JY,.C Jx Jm [.A (.A 20)<|.H (.G "_law_bodies") [Ji,.C (.C Qq J3) Jk,Jg],.B (.g_ [.D .Eq Jw JY,.D .NotEq (.F Ju 46 [.C Jm Jk,Jw]) Jw]) [.G<|.b_ ah] [],.B (.D .In Qe Ju) [.K] [],.D Ju Qe Jw,.A JP<|.J .Add JR Jw,.A (.A 21)<|.C Jw<|.c_ JX,.A (.A 22) JW,.C JB JA [.B (.D .In Jf Qe) [.D Qf JE<|.H JZ [.H (.G "_law_wanted") [Jd,Jm,.C Jm Jk,Jf]],.C (.A 23) (.C Qf JE) [.B (.D .In JQ JK) [.E<|.F JF 42 [.M [JE,.c_<|.C JK JQ,.C Je Jf]]] [.D JK JQ<|.c_ KS]] []] []] [],.B (.g_ [.D .NotEq (.C Qq JE) JK,.H (.G "any") [.d_ 3 [(2,14)] (.D .NotEq Qr JW) Jr Jw []]]) [.G<|.b_ ah] []] [],.C JB Jh [.A (.A 24)<|.B (.C (.B (.C (.B Jj 19) KS) 10)<|.c_ JX) 16,.B (.D .NotEq (.k_ 4 [(3,24)] Jb (.H JZ [.C Jg Jb]) Jr (.A 24) []) Qf) [.G<|.b_ ah] []] [],.B (.g_ [.D .NotEq (.H J1 [.H (.G "set") [JR]])<|.H J1 [JR],.D .NotEq (.H JZ [JR])<|.H JZ [.B Ji 31],.D .NotEq (.H J1 [.B Ji 32])<|.H J1 [JR]]) [.G<|.b_ ah] [],.A JS<|.d_ 4 [] (.M [Jb,.B Jc 2,.B Jg 2]) (.B [Jr,Jv,Jo]) (.B Ji 41) [],.G<|.f_ [.D .Eq (.B Ji 40) JY,.D .Eq (.H JZ [.A 25])<|.H JZ [JF]]]
section
set_option maxHeartbeats 4000000
noncomputable def yg(b:ads->Bool)(c:fQ->ads->Op (fQ×ads)):Nat->fQ->ads->Op fQ|0,_,_=>Y|e+1,d,a=>match through a with|true=>V d|false=>match b a with|false=>Y|true=>match c d a with|some (f,g)=>yg b c e f g|none=>Y
def Ro{i:String->Op Builtin}{d:adQ}{e:Op bB}:∀{c g:fQ}{b:ads},yg (stepOk f e) (stepT (denote i) d u) X c b=V g->topRun i d u f e X c.abs b=V g.abs:=by induction X with|zero=>intro _ _ _ a;cases a|succ X l=>intro c g b a;unfold yg at a;unfold topRun;cases j:through b with|true=>rw[j]at a;cases a;rfl|false=>rw[j]at a;cases k:stepOk f e b with|false=>rw[k]at a;cases a|true=>rw[k]at a;cases h:stepT _ d u c b with|none=>rw[h]at a;cases a|some m=>obtain⟨n,o⟩:=m;rw[h]at a;dsimp only;rw[stepT_spec h];exact l a
noncomputable def Hb:Lt hP->Lt hP|a::_::b=>a::Hb b|[a]=>[a]|[]=>[]
noncomputable def Hc:Lt hP->Lt hP|_::a::b=>a::Hc b|_=>[]
noncomputable def C1:Nat->Lt hP->BT|0,_=>.nil|_+1,[]=>.nil|a+1,c::b=>.node c (C1 a<|Hb b)<|C1 a<|Hc b
def yh(a:Params)(b:acF):fQ:=⟨C1 20 (Lf (eS a).objs),11,(eS a).life,⟨[]⟩,boot_drawn,boot_toks,b⟩
def Rp(a:Params)(b:acF):(yh a b).abs=⟨eS a,⟨[]⟩,boot_drawn,boot_toks,b⟩:=by kernel_rfl
noncomputable abbrev oK:adQ:=adu
noncomputable def C2:Op bB:=V<|.ref 6
def Rq(a:Params):(eS a).nsMap cu "__annotations__"=C2:=by kernel_rfl
section
open PySem.W.Fast
def pq:adQ:=view oK [24]
def q6:List cj:=(oK.main.scope.names.filter λa=>a.2==.local&&!(a.1==("law":cj))&&!(a.1==("__name__":cj))).map (·.1)
def wr(a:acl):=yg (tw6613529449190102663 11 C2)<|tw10156331382660048174 (tw11892475500146522536 tw14364793385576792824) oK a
def Hd:importedModules oK.main.body=[]:=by kernel_rfl
def Rr(a:acl):wr a=yg (stepOk 11 C2) (stepT (denote treeTable) oK a):=by unfold wr;exact jL te6613529449190102663<|jL te10156331382660048174<|jL te11892475500146522536<|jL te14364793385576792824 U
def Rs(a:acl):((eS a.params).isNs cu&&Lb (Array.mk []:Array GenState)==0)=aj:=by kernel_rfl
def Rt(a:Params):Lb (eS a).objs=11:=by kernel_rfl
def Ru(i:∀(b:acl)(d:acF),∃a,wr b 3400 (yh b.params d) (adF oK)=V a/\(adY [] (eS b.params) a.abs.heap&&adq oK a.abs.heap&&aeI a.abs&&aeG (eS b.params) a.abs.heap)=aj/\acQ pq q6 [] (λc=>aj) aj a.abs=aeC pq q6/\s a.abs.heap):LeftO oK pq q6 (λc=>aj) (λa=>s a.heap) (λc=>True) 3400:=by intro b;obtain⟨j,k,e⟩:=bO.a<|boot_open (by kernel_rfl) (by kernel_rfl) (λa=>by unfold fenceModules?;rw[Hd];rfl) b;obtain⟨o,p,q,r,d⟩:=j;simp only[Prod.mk.injEq]at e;refine ka λl=>?_;obtain⟨rfl,rfl,rfl,rfl⟩:=e;obtain⟨a,f,m,g,n⟩:=i b d;apply l;rw[Rr]at f;have h:=Ro f;rw[Rp]at h;unfold openEnds;rw[k,g'];unfold topFrom;refine jx (Rs ..)<|jx (Rt ..)<|jx (Rq ..) ?_;dsimp only;refine jx (h ..)<|jx (g' ..)<|jx (Hd ..)<|jx (m ..) ?_;rw[<-te4187177175401517315]at g;exact jx (fT ..)<|jx (g ..)<|jx (show s a.abs.heap=True from propext ⟨λc=>aH,λc=>n⟩) U
noncomputable abbrev rY:OpenLaw:=eu
def Rv:rY.wellSaid=aj:=(congrFun te9446332074065402090 _).trans (by kernel_rfl)
def Rw:Lh (defOf pq ("law":cj))=aj:=by kernel_rfl
def ru:DefRec×Lt (cj×cL):=(defOf pq ("law":cj)).get Rw
def Rx:defOf pq rY.row.name=V (ru.1,ru.2):=by kernel_rfl
def Ry:rY.row.prog.theDef rY.row.name=V (ru.1.params,ru.1.body,ru.1.scope):=by kernel_rfl
def Rz:kwWritten? ru.1.params.kwonlyargs ru.1.params.kw_defaults=V ru.2:=by kernel_rfl
def He:(chainsOk pq&&opensWell rY.row.prog&&(frees rY.row.toRowW&&Li rY.row.within))=aj:=by kernel_rfl
def RA:rY.row.toRowW.promised:=⟨[.list []],by decide+kernel,by decide+kernel⟩
def RB:rY.row.prog.bare:=⟨by kernel_rfl,by kernel_rfl,by kernel_rfl,by kernel_rfl,by kernel_rfl,by kernel_rfl⟩
def RC(g:LeftO oK pq q6 (λa=>aj) (λc=>s c.heap) (λa=>True) 3400)(h:∀b d,s b->(∀e f,Ln b e=V f->Ln d e=V f)->s d) (i:WalkO pq q6 (λa a=>True) (λa b=>s b) rY.row.toRowW ru.1 ru.2 λj k=>ad8 j k):eu.Holds:=holds_law Rv λc=>holds_open g (λl c m=>of_eq_true m) (λl b d n o=>h b d n o) (λa a=>aH) (λa a a a a=>aH) Rx Ry Rz (λc a=>recFacts_nil U) U c He RB RA i
end
end
section
set_option maxHeartbeats 4000000
def qA{b:Op y}{c:y->Bool}(d:b.any c=aj):∃a,b=V a/\c a=aj:=by cases b with|none=>exact lf d|some a=>exact jO a U d
noncomputable def pM(c:fQ):ga:=(be c.n).filterMap λb=>(c.tree.get b).bind λa=>(alive a).bind λa=>bif noTabs [(b,a)]then V (b,a)else Y
def Hf{a:bk×hP}(h:a∈pM b):Ln b.abs.heap a.1=V a.2/\noTabs [a]=aj:=(cV.a h).a λi e=>(bD.a e.2).a λk f=>(bD.a f.2).a λj g=>by have c:=g.2;cases d:noTabs [(i,j)]with|false=>rw[d]at c;exact kh c|true=>rw[d]at c;obtain rfl:=aY c;exact⟨(abs_get (bj.a e.1) f.1).a g.1,d⟩
def RD(a:fQ):(pM a).In a.abs.heap:=λb b c=>(Hf<|mem_of_lookupK c).1
def RE(a:fQ):noTabs (pM a)=aj:=bc.b λc b=>((az ..).mp (Hf b).2).1
def C3:bB->Op bk|.ref a=>V a|_=>Y
noncomputable def Hg:bB->Op Bool|.bool a=>V a|_=>Y
def Hh(a:C3 v=V O):v=.ref O:=by cases v<;>first|exact kh a|exact aB dm (aY a)
def RF(a:Hg v=V r):v=.bool r:=by cases v<;>first|exact kh a|exact aB Value.bool (aY a)
noncomputable def Hi:Data->Op gG|.func a=>V a|_=>Y
noncomputable def C4:Data->Op (Array bB)|.fields a=>V a|_=>Y
def Hj:Data->Op (Array bB×Nat)|.seq a b=>V (a,b)|_=>Y
def RG(a:Hi t=V n):t=.func n:=by cases t<;>first|exact kh a|exact aB Data.func (aY a)
def Hk{a:Array bB}(b:C4 t=V a):t=.fields a:=by cases t<;>first|exact kh b|exact aB Data.fields (aY b)
def RH(a:Hj t=V p):t=.seq p.1 p.2:=by cases t<;>first|exact kh a|exact aB (λp:Array bB×Nat=>Data.seq p.1 p.2) (aY a)
noncomputable def qf(b:ga)(a:cj):Option bB:=match nsIn b cu a with|some (V c)=>V c|some Y=>if a="__name__"then Y else bootBuiltins a|none=>Y
set_option tactic.hygienic true in def Hl(h:o.In e)(i:e.Ns cu c)(j:∀a:cj,a≠"__name__"->d a=bootBuiltins a)(a:cj)(f:bB)(b:qf o a=V f):c a=V f\/(c a=Y/\d a=V f):=by
 unfold qf at b;split at b;.rename_i l g;obtain rfl:=aY b;exact .inl<|mg_of h i g
 .rename_i g;split at b;.exact kh b
  .rename_i k;exact .inr ⟨mg_none_of h i g,(j a k).a b⟩
 .exact kh b
def C5(a:ga)(b:bk):Op gG:=(Lj b a).bind λc=>Hi c.data
def RI(c:C5 o O=V n):∃a,Lj O o=V a/\a.data=.func n:=(bD.a c).b λd b=>⟨b.1,RG b.2⟩
def C6(a:gG):Op<|Lt gq:=match a.body with|.stmts b=>V b|_=>Y
def RJ{b:Lt gq}(a:C6 n=V b):n.body=.stmts b:=by
 unfold C6 at a;split at a;.rename_i c;obtain rfl:=aY a;exact c
 .exact kh a
def Hm(b:ga)(a:gG):Bool:=(C3 a.code).any λc=>(Lj c b).any λd=>(C4 d.data).any λe=>(e[1]?).any λf=>ya f==V a.qualname
theorem RK(i:Hm o n=aj):∃a d b c,n.code=.ref a/\Lj a o=V d/\d.data=.fields b/\b[1]?=V (.str n.qualname c):=by revert o n;apply od;generalize lX.1=n,lX.2=o;intros;exact(qA i).a λa e=>(qA e.2).a λj f=>(qA f.2).a λb g=>(qA g.2).a λl h=>(Ab<|aE.a h.2).a λc k=>z9 a j b c (Hh e.1) f.1 (Hk g.1)<|jL k h.1
noncomputable def Ak:Lt cj->Lt cj->Bool|[],[]=>aj|a::b,c::d=>a==c&&Ak b d|_,_=>ah
def Hn{c:Lt cj}:∀{b:Lt cj},Ak c b=aj->c=b:=by
 induction c with
 |nil=>exact λ{b} a=>by cases b with|nil=>rfl|cons=>cases a
 |cons e f d=>exact λ{b} a=>by cases b with|nil=>cases a|cons g h=>have a:=(az ..).mp a;exact congr (aB _<|aE.a a.1)<|d a.2
def C7(a:fD)(c:List cj):Bool:=a.kind==.function&&!a.isGenerator&&!a.isCoroutine&&yc (a.names.map (·.1))&&(a.names.all λb=>!(b.2==.free))&&Ak c (Ll (La c) (a.names.map (·.1)))&&(Ll (La c) a.names).all λb=>b.2==.local||b.2==.cell
noncomputable def yi(a:gG)(b:Nat):Lt cj:=Ll b (a.scope.names.map (·.1))
noncomputable def Ho(a:gG)(b:Op bk):Bool:=b.all λc=>a.code==.ref c
def Hp(c:ga)(d:bk)(b:Nat)(e:Lt kb)(f:Op bk):Bool:=(C5 c d).any λa=>(C6 a).any λg=>(Lh (Rn e a.scope.names g))&&C7 a.scope (yi a b)&&a.globals==cu&&a.builtins==gn&&(Li a.closure)&&Hm c a&&Ho a f&&(La (yi a b)).beq b
def C8(b:jA)(a:bB):Bool:=match b with|.D=>a==.none|.B c=>wn a==V c|.C d=>ya a==V d|_=>ah
noncomputable def C9:List jA->List bB->Bool|[],[]=>aj|a::b,c::d=>C8 a c&&C9 b d|_,_=>ah
def RL(e:ga)(b:jA)(c:bB):Bool:=match b with|.E d=>(C3 c).any λf=>(Lj f e).any λa=>a.cls==.type "tuple"&&(a.dict.isNone&&(a.slots.isEmpty&&(Hj a.data).any λg=>C9 d (Lf g.1)&&ba (La d<=100)))|b=>C8 b c
noncomputable def C'(a:ga):List jA->List bB->Bool|[],[]=>aj|b::c,d::e=>RL a b d&&C' a c e|_,_=>ah
def Hq{b:jA}(a:C8 b v=aj):jZ q e b v:=by cases b<;>first|(exact lf a;done)|exact aE.a a|exact yb (aE.a a)|exact Ab (aE.a a)
def RM:∀{a:List bB},C9 z a=aj->kf q e z a:=by
 induction z with
 |nil=>exact λ{a} b=>by cases a with|nil=>rfl|cons=>exact lf b
 |cons z f d=>exact λ{a} b=>by cases a with|nil=>exact lf b|cons a g=>have c:=(az ..).mp b;exact lP _ _ U (Hq c.1)<|d c.2
def RN(a:x.cls=.type "tuple")(b:x.dict=Y)(c:x.slots=#[])(d:x.data=.seq p.1 p.2):x=m5 p.1 p.2:=by cases x;subst a;subst b;subst c;subst d;rfl
def RO(l:o.In e):∀{a:List bB},C' o z a=aj->kf q e z a:=by
 induction z with
 |nil=>exact λ{a} c=>by cases a with|nil=>rfl|cons=>exact lf c
 |cons z m n=>exact λ{a} c=>by cases a with|nil=>exact lf c|cons a r=>have b:=(az ..).mp c;exact lP _ _ U ((by cases z with|E m=>exact(qA b.1).a λp d=>(qA d.2).a λs f=>have b:=(az ..).mp f.2;have g:=(az ..).mp b.2;have h:=(az ..).mp g.2;(qA h.2).a λi j=>have k:=(az ..).mp j.2;(qw p i.1 i.2 (Hh d.1) (jL (RN (aE.a b.1) (Option.isNone_iff_eq_none.a g.1) (Array.isEmpty_iff.a h.1)<|RH j.1)<|l _ _ f.1) (RM k.1)<|aX (aF k.2) jB)|_=>exact Hq b.1))<|n b.2
def yk(b:ga)(f:bk)(g:Setting)(a:Lt bB)(d:Lt jA):Op<|Lt bB×Bool:=(C5 b f).bind λe=>(peek b g<|ac9 e ⟨a,[]⟩).map λc=>(Ll (La a) (c.map (·.2)),Ak (c.map (·.1)) (yi e<|La a+La d)&&C' b d (Lm (La a) (c.map (·.2))))
structure RP where
 B:bk
 A:Nat
 C:List jA
 D:List kb
 E:Option bk:=Y
def q7:Lt RP:=[⟨39,1,[],GB,Y⟩,⟨62,8,[],yf,Y⟩,⟨62,4,[.E [.C "right",.B 0],.D,.C "",.B 0],yf,Y⟩,⟨83,1,[],GC,Y⟩,⟨118,3,[],GD,Y⟩,⟨146,2,[],GF,Y⟩,⟨172,2,[],GG,Y⟩,⟨201,6,[],GH,Y⟩,⟨209,2,[],GI,Y⟩,⟨258,2,[],GJ,Y⟩,⟨265,1,[],GK,Y⟩,⟨273,1,[.D],GL,Y⟩,⟨280,1,[],GN,Y⟩,⟨294,3,[],GO,Y⟩,⟨301,7,[],GP,Y⟩,⟨318,1,[],GQ,Y⟩,⟨333,3,[.D],GR,Y⟩,⟨340,2,[],GS,Y⟩,⟨347,3,[],GU,Y⟩,⟨354,1,[],GV,Y⟩,⟨361,1,[],GW,Y⟩,⟨368,2,[],GX,Y⟩,⟨375,4,[],GY,Y⟩,⟨382,4,[],GZ,Y⟩,⟨389,4,[],G0,Y⟩,⟨410,3,[],G3,Y⟩,⟨417,2,[],G4,Y⟩,⟨424,1,[],G5,Y⟩,⟨438,0,[],G6,Y⟩,⟨445,1,[],G7,Y⟩,⟨452,1,[],G8,Y⟩,⟨459,4,[],G9,Y⟩,⟨466,3,[],G',Y⟩,⟨471,3,[],Ha,Y⟩,⟨476,1,[],nX,Y⟩,⟨396,4,[],G1,V 395⟩,⟨403,4,[],G2,V 402⟩]
noncomputable def Hr:Lt<|cj×bB:=[("list",.type "list"),("set",.type "set"),("min",.builtin "min"),("all",.builtin "all"),("any",.builtin "any"),("sorted",.builtin "sorted"),("_is_identifier",.ref 39),("rightmost_terminal",.ref 146),("digraph",.ref 294),("traverse",.ref 301),("_place",.ref 318),("_law_ENDS",.ref 438),("_law_lines",.ref 445),("_law_orders",.ref 452),("_law_wanted",.ref 459),("_law_bodies",.ref 466),("_law_openings",.ref 471),("Production",.ref 100),("LRItem",.ref 135),("Grammar",.ref 283),("LRGeneratedTable",.ref 427),("len",.builtin "len"),("tuple",.type "tuple"),("enumerate",.type "enumerate"),("range",.type "range")]
noncomputable def Db:Lt<|bk×bk:=[(100,62),(135,118),(283,172),(427,333)]
noncomputable def Dc:Lt<|bk×Nat:=([19,20,21,22,23,24,25,26,27,28].map λa=>(283,a))++([29,30,31,32,33,34,35,36,37,38,39,40,41].map λa=>(427,a))++([0,1,2,3,4,5,6,7,8,9,10,11,12,13,14].map λa=>(100,a))++([0,1,2,8,9,11,15,16,17,18].map λa=>(135,a))
noncomputable def Dd:Lt<|bk×Nat×bk:=[(427,59,340),(427,60,347),(427,61,354),(427,62,361),(427,63,368),(427,64,375),(427,65,382),(427,66,389),(427,67,396),(427,68,403),(427,69,410),(427,70,417),(427,71,424),(283,53,201),(283,54,209),(283,55,258),(283,56,265),(283,57,273),(283,58,280)]
def Hs(a:ga):Bool:=Hr.all (λb=>qf a b.1==V b.2&&qd a b.2)&&qf a "law"==V (.ref 476)&&(qf a "KeyError"==V (.type "KeyError")&&qf a "IndexError"==V (.type "IndexError"))
def Ht(a:ga):Bool:=Db.all (λb=>adJ a b.1&&dk a (.ref b.1) "__init__"==V (V<|.ref b.2)&&iK a (.ref b.2)==V (.type "function"))&&Dc.all (λb=>q4 a b.1&&tf a b.1 b.2)&&(q4 a 100&&wo a 100 13==V 0&&wo a 100 14==V 0)&&[135,427].all (λc=>dk a (.ref c) "__bool__"==V Y&&dk a (.ref c) "__len__"==V Y)&&Dd.all (λb=>hw a b.1 (lU b.2.1)&&dk a (.ref b.1) (lU b.2.1)==V (V<|.ref b.2.2)&&isFn a (.ref b.2.2)&&qd a (.ref b.2.2))&&(dk a (.ref 100) "__len__"==V (V<|.ref 83)&&iK a (.ref 83)==V (.type "function"))
def Hu(a:ga):Op Int:=(qf a "MAXINT").bind wn
def Hv(a:ga):Op cj:=(qf a "_IDENTIFIER").bind ya
def Hw(a:ga):Bool:=Hu a==V 9223372036854775807&&Hv a==V "abcdefghijklmnopqrstuvwxyzABCDEFGHIJKLMNOPQRSTUVWXYZ0123456789_-"&&Lh (Lj gm a)
def yl(f:ga)(c d:bk):Bool:=(Lj c f).any λe=>e.cls==.type "code"&&(C4 e.data).any λa=>(a[11]?).any (λg=>g==.ref d)&&(ya<|a.getD 18 .none).any λb=>(wn<|a.getD 7 .none).any λb=>(Hg<|a.getD 9 .none).any λb=>(wn<|a.getD 10 .none).any λb=>!(c==d)
theorem Hx(b:o.In e){a:bk}(n:yl o O a=aj):hO e O a:=by revert b;revert o e O a;apply qu;generalize lr.1.1=e,lr.1.2=o,lr.2.1=O,lr.2.2=a;intros;exact(qA n).a λp c=>have d:=(az ..).mp c.2;(qA d.2).a λq f=>have g:=(az ..).mp f.2;(qA g.1).a λB h=>(qA g.2).a λr i=>(qA i.2).a λs j=>(qA j.2).a λt k=>(qA k.2).a λu l=>(Ab i.1).a λv w=>(yb j.1).a λx y=>(yb l.1).a λz A=>have m:=jL (aE.a h.2) h.1;⟨p,q,r,v,s,x,t,u,z,b _ _ c.1,aE.a d.1,Hk f.1,m,jx (Array.getD_eq_getD_getElem?)<|jx m U,w,y,RF k.1,A,ne_of_beq_false (by simpa using l.2)⟩
def ym(a:ga):Bool:=Hs a&&Ht a&&Hw a&&(yl a 395 391&&yl a 402 398)&&q7.all λb=>Hp a b.B (b.A+La b.C) b.D b.E
noncomputable def th(a b c d e f g h:bB):Lt bB:=[a,b,c,d,e,f,g,h]
end
section
set_option maxHeartbeats 4000000
open PySem.W.Fast
def Hy(c:acl)(l:acF)(m:Setting)(d e f g h i j k:bB):((wr c 3400 (yh c.params l)<|adF oK).map λa=>((adY [] (eS c.params) a.abs.heap&&adq oK a.abs.heap&&aeI a.abs&&aeG (eS c.params) a.abs.heap,acQ pq q6 [] (λn=>aj) aj a.abs),(ym<|pM a,ad' 476 a.n,a.tree.get 391,a.tree.get 398),q7.map λb=>yk (pM a) b.B m (Ll b.A<|th d e f g h i j k) b.C))=V ((aj,aeC pq q6),(aj,aj,V<|gD #[],V<|gD #[]),q7.map λb=>V (Ll b.A<|th d e f g h i j k,aj)):=by kernel_rfl
end
section
set_option maxHeartbeats 4000000
structure q8 where
 C:adQ
 E:acl
 D:ga
 A:cj->Option bB
 B:dX
def vr(a:q8):=a.D.In a.B/\(∃f,Ln a.B gm=V f)/\a.B.NoLimit/\∃c e,a.B.Ns cu c/\a.B.Ns gn e/\∀b d,a.A b=V d->c b=V d\/(c b=Y/\e b=V d)
section
variable{a:q8}(b:vr a)
def vr.A:=b.1
def vr.C:=b.2.1
def vr.B:=b.2.2.1
def vr.D:=b.2.2.2
end
def De(b:fQ):=∃a c,wr a 3400 (yh a.params c) (adF oK)=V b
def ui(a:fQ):Prop:=ym (pM a)=aj/\ad' 476 a.n=aj/\a.tree.get 391=V (gD #[])/\a.tree.get 398=V (gD #[])/\∀k c d e f g h i j,(q7.map λb=>yk (pM a) b.B k (Ll b.A<|th c d e f g h i j) b.C)=q7.map λb=>V (Ll b.A<|th c d e f g h i j,aj)
section
variable(a:ui b)
def ui.A:=a.1
def ui.B:=a.2.1
def ui.C:=a.2.2.1
def ui.D:=a.2.2.2.1
def ui.E:=a.2.2.2.2
end
def RQ{k:acF}(m:wr u 3400 (yh u.params k) (adF oK)=V b)(l:Setting)(c d e f g h i j:bB):((adY [] (eS u.params) b.abs.heap&&adq oK b.abs.heap&&aeI b.abs&&aeG (eS u.params) b.abs.heap,acQ pq q6 [] (λr=>aj) aj b.abs),(ym<|pM b,ad' 476 b.n,b.tree.get 391,b.tree.get 398),q7.map λa=>yk (pM b) a.B l (Ll a.A<|th c d e f g h i j) a.C)=((aj,aeC pq q6),(aj,aj,V<|gD #[],V<|gD #[]),q7.map λa=>V (Ll a.A<|th c d e f g h i j,aj)):=by refine(bO.a<|Hy u k l c d e f g h i j).a λn o=>o.elim λp q=>?_;obtain rfl:n=b:=aY<|p.b.a m;exact q
def yn(c:De b):ui b:=c.a λf c=>c.a λp c=>have e:=RQ c;have d:=e ⟨oK,f.params⟩ .none .none .none .none .none .none .none .none;(mS (aB (λa=>a.2.1.1) d) (aB (λa=>a.2.1.2.1) d) (aB (λa=>a.2.1.2.2.1) d) (aB (λa=>a.2.1.2.2.2) d) λg h i j k l m n o=>aB (λa=>a.2.2)<|e g h i j k l m n o)
noncomputable def ti:Lt<|bk×bk:=[(402,398),(395,391)]
def tj(b:fQ)(a:dX):=De b/\(pM b).In a/\Ln a 391=V (gD #[])/\Ln a 398=V (gD #[])
section
variable(a:tj b e)
def tj.B:=a.1
def tj.A:=a.2.1
def tj.C:=a.2.2.1
def tj.D:=a.2.2.2
end
def wt(a:dX):=∃b,tj b a
def wt.A(f:wt e)(b:∀c d,Ln e c=V d->Ln S c=V d):wt S:=f.b λg a=>mz a.B (a.A.keeps b) (b _ _ a.C)<|b _ _ a.D
def Hz:LeftO oK pq q6 (λm=>aj) (λa=>wt a.heap) (λm=>True) 3400:=Ru λc g=>by refine jU (bO.a<|Hy c g ⟨oK,c.params⟩ .none .none .none .none .none .none .none .none) λa h i=>?_;have j:De a:=m4 c g h;have d:=yn j;have k:=Nat.blt_eq.mp d.B;have l:∀{e:bk}{b:hP},e<a.n->a.tree.get e=V b->alive b=V b->Ln a.abs.heap e=V b:=λn o p=>(abs_get n o).a p;exact⟨a,h,aB (λf=>f.1.1) i,aB (λf=>f.1.2) i,a,j,RD a,l (br jB k) d.C U,l (br jB k) d.D U⟩
def qB(a:q8)(b:fQ)(d c:bG)(e f:cj->Op bB):=a.C=oK/\a.D=pM b/\a.A=qf (pM b)/\a.B=il c.heap ti/\tj b c.heap/\Ground pq q6 [] (λg g=>True) a.E d e f c.heap
def qB.D{a:q8}(e:qB a b g k c d):=e.2.1
def qB.E{a:q8}(e:qB a b g k c d):=e.2.2.1
def qB.C{a:q8}(e:qB a b g k c d):=e.2.2.2.1
def qB.A{a:q8}(e:qB a b g k c d):=e.2.2.2.2.1
def qB.B{a:q8}(e:qB a b g k c d):=e.2.2.2.2.2
def vt(a:q8):=∃b c d e f,qB a b c d e f
def uj(c:q8):=∀(a:bG)(d:bk)(e:Lt bB)(f:Lt Int),c.B=il a.heap ti->TabsAt ti a.heap->Ln a.heap 391=V (gD #[])->Ln a.heap 398=V (gD #[])->a.gens=#[]->a.heap.IsList d (Lc e)->gs e f->La f<=63->ff (model c.C c.E) callerA (.call (.ref 476) ⟨[.ref d],[]⟩) (λi b=>i=.ok (.ret<|.bool aj)/\(∀g h,Ln (il a.heap ti) g=V h->Ln b.heap g=V h)/\b.os=a.os/\b.gens=#[]/\GrownAll ti b.heap) a
theorem uk(f:ym o=aj):(Hs o=aj/\Ht o=aj/\Hw o=aj)/\(yl o 395 391=aj/\yl o 402 398=aj)/\(q7.all λa=>Hp o a.B (a.A+La a.C) a.D a.E)=aj:=by revert o;apply pJ;generalize pn=o;intros;have b:=kB f;have c:=kB b.1;have d:=kB c.1;have e:=kB d.1;exact lj (lj e.1 e.2 d.2) (kB c.2) b.2
section
variable{a:q8}
def Df(a:tj b e):TabsAt ti e:=by
 have d:=(uk (yn a.B).A).2.1;intro g c;rcases ao.a c with f|c;.subst f;exact⟨Hx a.A d.2,a.D⟩
 .exact(ak.a c)▸⟨Hx a.A d.1,a.C⟩
def RR(e:qB a b g k c d):vr a:=by
 have h:=Df e.A;have i:a.D.In a.B:=by simp only[e.D,e.C];exact ghost_K h e.A.A<|RE b
 refine⟨i,?_,?_,c,d,e.C▸ac7 h e.B.T.g,e.C▸ac7 h e.B.T.b,λj l f=>?_⟩;.have f:Lh (Lj gm a.D)=aj:=jx e.D (kB (uk (yn e.A.B).A).1.2.2).2;exact(Option.isSome_iff_exists.a f).b λp f=>i _ _ f
 .refine jU e.B.T.nolimit λm n o=>?_;exact jO m (jx e.C<|ac7 h n) o
 .rw[e.E]at f;exact Hl e.A.A e.B.T.g e.B.T.builtins j l f
def RS(e:qB a b g k c d):(hO a.B 395 391/\hO a.B 402 398)/\(∃c,a.B.Ns cu c/\a.B.BuiltinsAt c 391)/\∃c,a.B.Ns cu c/\a.B.BuiltinsAt c 398:=by
 have h:=Df e.A;have l:=ghost_code h;have m:=ac7 h e.B.T.g;have n:∀{i:bk},Ln k.heap i=V (gD #[])->(il k.heap ti).BuiltinsAt c i:=λ{i} o=>by
  refine Gn e.B.T.bmain λs t u v j f w p=>?_;refine Q4 s t u v ?_ ?_ (ghost_get h j (λx=>by rw[x]at f;cases f)) f w p;.rintro rfl;refine z7 e.B.T.g λy z A q r _=>?_;rw[j]at q;obtain rfl:=aY q;rw[p]at r;cases r
  .rintro rfl;rw[j]at o;obtain rfl:=aY o;cases f
 exact jx e.C ⟨⟨l.2.1,l.1⟩,⟨c,m,n e.A.C⟩,c,m,n e.A.D⟩
end
noncomputable def RT:acl:=⟨λa a=>0,{strHash:=λa=>0,shareClass:=λa=>0,mergeTok:=id,idOf:=λb=>b,idOfShared:=λa a=>0,followText:=λa=>ah,idOfImm:=λa=>0}⟩
def HA(a:Ground pq q6 [] (λe e=>True) u g c d k.heap)(f:tj b k.heap):qB ⟨oK,u,pM b,qf<|pM b,il k.heap ti⟩ b g k c d:=lY U U U U f a
def RU:∃b,vt b:=by obtain⟨⟨c,d⟩,e⟩:=LeftO.behind (XP:=λa a=>True) Hz (λa a=>aH) (kB (kB He).1).1 RT;obtain⟨i,_,_,j,_,_,_,_,f,g⟩:=e c d;obtain⟨k,h⟩:=of_eq_true g;exact⟨_,_,_,_,_,_,HA f h⟩
def HB:∃b,vt b/\((∃a,vt a/\¬uj a)->¬uj b):=by
 by_cases d:∃a,vt a/\¬uj a;.exact d.b λb c=>⟨c.1,λf=>c.2⟩
 .exact RU.b λb c=>⟨c,λe=>a' e d⟩
def lu:q8:=jg HB
def Al:vt lu/\((∃a,vt a/\¬uj a)->¬uj lu):=gH HB
def RV(b:uj lu){a:q8}(c:vt a):uj a:=eQ λd=>Al.2 (jO a c d) b
def qg:vr lu:=Al.1.a λb a=>a.a λb a=>a.a λb a=>a.a λb a=>a.a λb a=>RR a
def Am:(hO lu.B 395 391/\hO lu.B 402 398)/\(∃b,lu.B.Ns cu b/\lu.B.BuiltinsAt b 391)/\∃b,lu.B.Ns cu b/\lu.B.BuiltinsAt b 398:=Al.1.a λc a=>a.a λc a=>a.a λc a=>a.a λc a=>a.a λc a=>RS a
def Dg:∃c,ui c/\lu.D=pM c/\lu.A=qf (pM c):=Al.1.b λb a=>a.a λb a=>a.a λb a=>a.a λb a=>a.a λb a=>lj (yn a.A.B) a.D a.E
def yo:ym lu.D=aj:=li Dg λc a b d=>jx b a.A
def An:lu.A=qf lu.D:=li Dg λc d a b=>b.a<|aB qf a.b
def RW:∀j b c d e f g h i,(q7.map λa=>yk lu.D a.B j (Ll a.A<|th b c d e f g h i) a.C)=q7.map λa=>V (Ll a.A<|th b c d e f g h i,aj):=li Dg λm k l n=>jx l k.E
end
abbrev ou:acl:=lu.E
abbrev kH:ga:=lu.D
abbrev nl:dX:=lu.B
abbrev kc:Model:=model lu.C lu.E
mutual
noncomputable def nd:jA->Int
 |.C b=>hy ou b
 |.B c=>hashInt c
 |.E a=>adp (aeh (yp a))
 |_=>0
      noncomputable def yp:List jA->List Int
 |[]=>[]
 |d::a=>nd d::yp a
end
noncomputable def lK:Nat->jA->Bool|_,.C a=>eH a|_,.B _=>aj|b+1,.E c=>c.all<|lK b|_,_=>ah
def kP(a:jA):Bool:=lK 5 a
def Dh(a b:bk):hP:=⟨.ref a,V b,.plain,#[]⟩
noncomputable def qh(c:ke)(d:dX):List (Nat×jA)->List dM->Prop|[],a=>a=[]|(b,g)::h,a=>∃e i f,a=⟨hy ou<|lU b,.str (lU b) i,e⟩::f/\b<La nR/\jZ c d g e/\qh c d h f
noncomputable def mL(a:ke)(b:dX):List (jA×jA)->List dM->Prop|[],c=>c=[]|(d,h)::i,c=>∃e f g,c=⟨nd d,e,f⟩::g/\kP d=aj/\jZ a b d e/\jZ a b h f/\mL a b i g
abbrev nK(a:Lt<|jA×jA):Prop:=(a.map (·.1)).Pairwise λb c=>¬b=c
def RX(e:ke)(b:dX)(c:Lt jA)(a:bk×bk):=∃d f,a.2=a.1/\Ln b a.1=V (rs d f)/\kf e b c (Lf d)/\La c<=16777216
def RY(e:ke)(c:dX)(a:Lt<|jA×jA)(b:bk×bk):=∃d,b.2=b.1/\Ln c b.1=V (eF d (La a))/\mL e c a d/\nK a/\La a<=16777216
def HC(f:dX)(b:Lt jA)(c:bk×bk):=∃a d g e,c.2=c.1/\Ln f c.1=V a/\a.ExactSet/\a.data=.set d g e/\e.fits (Lb d)=aj/\Lb d=La b/\La b<4096/\(b=[]->∃h,a={cls:=.type "set",dict:=Y,data:=.set #[] 0 (.fresh 0 0 h)})
def RZ(e:ke)(b:dX)(f:bk)(c:Lt<|Nat×jA)(a:bk×bk):=∃d g,a.1≠a.2/\Ln b a.1=V (Dh f a.2)/\Ln b a.2=V (eF d g)/\qh e b c d/\Le (c.map (·.1))/\La c<=500
def R0(b:dX)(a:bk)(c:Array bB)(d:bk×bk):=d=(a,a)/\Ln b a=V (z' c)
def HD(d:ke)(b:dX)(c:hP)(e:Lt bB)(f:Lt jA)(a:bk×bk):=a.2=a.1/\Ln b a.1=V c/\(∃g,c.data=.func g)/\kf d b f e
def pr(c:ke)(a:dX):km->bk×bk->Prop|.A b=>RX c a b|.B d=>RY c a d|.E b=>HC a b|.C e f=>RZ c a e f|.D g h=>R0 a g h|.F i j b=>HD c a i j b
section
variable{a:bk×bk}
def qh.B(i:∀{d f},jZ q e d f->jZ N S d f):∀{b:List<|Nat×jA}{g:List dM},qh q e b g->qh N S b g:=by intro b;induction b with|nil=>exact λa=>a|cons _ b j=>exact λa=>a.b λh a=>a.b λh a=>a.b λh c=>mz c.1 c.2.1 (i c.2.2.1)<|j c.2.2.2
def mL.D(d:∀{f g},jZ q e f g->jZ N S f g):∀{b:List<|jA×jA}{h:List dM},mL q e b h->mL N S b h:=by intro b;induction b with|nil=>exact λa=>a|cons _ b j=>exact λa=>a.b λi a=>a.b λi a=>a.b λi c=>mS c.1 c.2.1 (d c.2.2.1) (d c.2.2.2.1)<|j c.2.2.2.2
def pr.C(i:∀{g h},jZ q e g h->jZ N S g h)(j:∀{g h},kf q e g h->kf N S g h)(f:Ln S a.1=Ln e a.1)(m:Ln S a.2=Ln e a.2):∀{k:km},pr q e k a->pr N S k a|.A _,c=>c.b λd c=>c.b λd b=>mz b.1 (f.a b.2.1) (j b.2.2.1) b.2.2.2|.B _,c=>c.b λd b=>mz b.1 (f.a b.2.1) (b.2.2.1.D i) b.2.2.2|.E _,c=>c.b λd c=>c.b λd c=>c.b λd c=>c.b λd b=>lj b.1 (f.a b.2.1) b.2.2|.C ..,c=>c.b λd c=>c.b λd b=>mS b.1 (f.a b.2.1) (m.a b.2.2.1) (b.2.2.2.1.B i) b.2.2.2.2|.D ..,b=>⟨b.1,(aB (λl:bk×bk=>Ln S l.1=Ln e l.1) b.1▸f).a b.2⟩|.F ..,b=>mz b.1 (f.a b.2.1) b.2.2.1<|j b.2.2.2
def pr.B(c:lC l q e N S)(d:pr q e R a)(f:Ln S a.1=Ln e a.1)(g:Ln S a.2=Ln e a.2):pr N S R a:=d.C (λb=>b.A c) (λb=>b.G c) f g
noncomputable def ov(a:hP):Bool:=match a.data with|.seq _ _=>(match a.cls with|.type b=>b=="tuple"|_=>ah)|.fields _=>(match a.cls with|.none=>aj|_=>ah)|_=>ah
def Ao{a:hP}(b:ov a=aj)(e:ov x=ah):x≠a:=λc=>av<|e.b.a<|jx c b
def Ap(g:a.2=a.1)(b:Ln e a.1=V x)(c:j->ov x=ah):∃x d,Ln e a.1=V x/\Ln e a.2=V d/\(j->ov x=ah/\ov d=ah):=lP x x b (jx g b) λf=>⟨c f,c f⟩
def Aq(a:x.data=t)(e:ov {x with data:=t}=ah):ov x=ah:=by subst a;exact e
def pr.A:∀{h:km},pr q e h a->∃b d,Ln e a.1=V b/\Ln e a.2=V d/\((∀f g,h≠.D f g)->ov b=ah/\ov d=ah)|.A _,b=>mr b λc c i j r=>Ap i j λc=>U|.B _,b=>b.a λc d=>Ap d.1 d.2.1 λc=>U|.E _,b=>b.a λc b=>b.a λc b=>z6 b λc c k l s m t=>Ap k l λc=>Aq m U|.C ..,b=>qc b λc c u n o v=>lP _ _ n o λc=>lp|.D f g,d=>jx d.1<|lP _ _ d.2 d.2 λe=>a' U<|e f g|.F ..,d=>d.2.2.1.a λc p=>Ap d.1 d.2.1 λc=>Aq p U
def pr.D(d:pr q e R a)(b:lL e S):pr q S R a:=by exact mr d.A λc h f g _=>d.C (λc=>c.E b) (λc=>c.H b) ((b.A _ _ f).a f.b)<|(b.A _ _ g).a g.b
end
def mh{a:Op y}{b:y}(c:a=Y)(d:a=V b):j:=kh<|c.b.a d
def lR(a c:bG):=∃b d,c={a with heap:=b,toks:=d}/\lL a.heap b
def oZ(a b:bG):=∃c d,b={a with heap:=c,toks:=d}
abbrev lM:bk->Prop:=λa=>False
def kD(c:bk->Prop)(d:ke)(a:bG)(e:ke)(b:bG):=lC c d a.heap e b.heap/\oZ a b
def kD.B(a:kD l q g N k):=a.1
def kD.F(a:kD l q g N k):=a.2
section
variable{a b c d:bG}{f:ke}
def lR.C(b:bG):lR b b:=ms b.heap b.toks U<|lL.F _
def lR.B(a:lR g k):lL g.heap k.heap:=a.a λb a=>jU a λb c d=>jx c d
def lR.E(c:lR g k)(b:lR k a):lR g a:=by refine te c λh i d e=>?_;subst d;exact b.b λf b=>b.b λf b=>⟨b.1,e.D b.2⟩
def lR.A(b:bG) a:lR b {b with toks:=a}:=ms b.heap a U<|lL.F _
def lR.F a(b:lL g.heap e):lR g {g with heap:=e,toks:=a}:=ms e a U b
def lR.D(b:bG)(a:hP):lR b {b with heap:=b.heap.push a}:=ms _ b.toks U<|lL.C ..
def oZ.B(b:bG):oZ b b:=m4 b.heap b.toks U
def oZ.A(b:oZ g k)(c:oZ k a):oZ g a:=by obtain⟨d,e,rfl⟩:=b;exact c
def lR.G(a:lR b c):oZ b c:=a.b λd a=>a.b λd a=>a.1
def kD.D:kD l q b q b:=⟨.J ..,.B _⟩
def kD.A(a:kD l q b N c)(e:kD l N c f d):kD l q b f d:=⟨a.B.H e.B,a.F.A e.F⟩
def kD.C(a:lR b c):kD l q b q c:=⟨.K a.B,a.G⟩
def kD.E(a:kD lM q b N c):kD l q b N c:=⟨a.B.E λe d=>d.elim,a.F⟩
end
structure jT where
 B:List bk
 A:dX
 E:bB
end
section
variable{a p:Addr × Addr}{b:jT}{c:Env}{d:Addr}{e n:Heap}{f q:ke}{g:Around}{k:Nat}{i:Bool}{j:jF}{l:jC}{m:jP}{o:km}
instance:Nonempty jT:=⟨[],{},.none⟩
def jT.C(a:jT)(b:bk)(c:bB):jT:=⟨b::a.B,a.A,c⟩
def lL.E(a:lL e n)(b:Ln n d=Y):Ln e d=Y:=by cases c:Ln e d with|none=>rfl|some f=>exact mh b<|a.A _ _ c
def ki(d:jT)(c:ke)(h:jC)(i:dX):=lL nl d.A/\lL d.A i/\(∀b f,h b=V f->∃a,c b=V a/\pr c i f a)/\(∀b a,c b=V a->∃f,h b=V f)/\(∀b j a e,c b=V a->c j=V e->(a.1=e.1\/a.1=e.2\/a.2=e.1\/a.2=e.2)->b=j)/\(∀b a,c b=V a->Ln d.A a.1=Y/\Ln d.A a.2=Y)/\(∃l,∀k,l<=k->h (.B k)=Y)/\∀g,g∈d.B->(∃m,i.Ns g m)/\¬mA c g/\Ln d.A g=Y
section
variable(a:ki b f l e)
def ki.L:=a.1
def ki.A:=a.2.1
def ki.E:=a.2.2.1
def ki.I:=a.2.2.2.1
def ki.J:=a.2.2.2.2.1
def ki.G:=a.2.2.2.2.2.1
def ki.K:=a.2.2.2.2.2.2.1
def ki.C:=a.2.2.2.2.2.2.2
end
def ow(a:gu)(b:k'):=a.scope.kind=.function/\oY a.scope=of b/\Le ((of b).map (·.1))/\(∀c d,(c,d)∈b->d=.cell\/d=.free->a.kindOf c=V .cell\/a.kindOf c=V .free)/\a.globals=cu/\a.builtins=gn
section
variable{a:k'}(b:ow c a)
def ow.B:=b.1
def ow.A:=b.2.1
def ow.G:=b.2.2.1
def ow.C:=b.2.2.2.1
def ow.D:=b.2.2.2.2.1
def ow.F:=b.2.2.2.2.2
end
def ul(c:dX)(a:gu)(b:cj)(d:bB):=(a.kindOf b=V .local/\∃e,c.Ns a.locals e/\e b=V d)\/((a.kindOf b=V .cell\/a.kindOf b=V .free)/\∃f,Lj b a.cells=V f/\c.IsCell f (V d))
def ml(f:jT)(g:ke)(d:dX)(a:gu)(l:jP):=(∃m,d.Ns a.locals m)/\¬mA g a.locals/\Ln f.A a.locals=Y/\(∀b c,Lj b a.cells=V c->(∃e,d.IsCell c e)/\¬mA g c/\(a.kindOf b=V .cell->Ln f.A c=Y)/\c≠a.locals)/\(∀b,a.kindOf b=V .cell\/a.kindOf b=V .free->∃c,Lj b a.cells=V c)/\(∀b h c,Lj b a.cells=V c->Lj h a.cells=V c->b=h)/\(∃i,a.frame=V i/\f.B.head?=V i)/\∀(j:Nat) b n e,(oY a.scope)[j]?=V (b,n)->l j=V e->∃k,ul d a b k/\jZ g d e k
section
variable(a:ml b f e c m)
def ml.B:=a.1
def ml.F:=a.2.1
def ml.H:=a.2.2.1
def ml.A:=a.2.2.2.1
def ml.D:=a.2.2.2.2.1
def ml.E:=a.2.2.2.2.2.1
def ml.I:=a.2.2.2.2.2.2.1
def ml.G:=a.2.2.2.2.2.2.2
end
def mB(d:Bool)(e:jT)(c:Nat)(a:fe):=a.depth+c<=900/\a.units+4*c<=9000/\(d=ah->a.handled=Y)/\a.guards=V []/\∃b,a.frames=V b/\b.map (·.frame)=e.B.map V/\∀f∈b,f.scope.kind=.function
section
variable(a:mB i b k g)
def mB.C:=a.1
def mB.D:=a.2.1
def mB.H:=a.2.2.1
def mB.F:=a.2.2.2.1
def mB.G:=a.2.2.2.2
end
section
variable{a:Nat}
def mB.I(a:mB i b k g):g.units<=9000:=aX (bd ..) a.D
def mB.E(c:mB i b k g){a:Nat}(d:9000<a:=by decide):g.units<a:=aZ c.I d
def mB.B(d:mB i b k g){a c:Nat}(e:9000+a<c:=by decide):g.units+a<c:=aZ (bC d.I a) e
def mB.L(e:mB i b k g){a c d:Nat}(f:9000+a+c<d:=by decide):g.units+a+c<d:=aZ (bC (bC e.I a) c) f
end
section
variable{g:bk->Prop}{h:cj}{i:bB}
def ul.A(g:ul e c h i)(j:∀d,e.Ns c.locals d->n.Ns c.locals d)(k:∀l f i,Lj l c.cells=V f->e.IsCell f i->n.IsCell f i):ul n c h i:=g.c (λb=>⟨b.1,b.2.b λd a=>⟨j d a.1,a.2⟩⟩) λb=>⟨b.1,b.2.b λf a=>⟨a.1,k _ _ _ a.1 a.2⟩⟩
def ml.J(a:ml b f e c m)(l:∀o,e.Ns c.locals o->n.Ns c.locals o)(p:∀v d i,Lj v c.cells=V d->e.IsCell d i->n.IsCell d i)(r:∀j,j<Lb e.objs->¬mA f j->¬mA q j) (w:∀{i s},jZ f e i s->jZ q n i s):ml b q n c m:=po (a.B.b l) (a.B.a λt g=>r _ g.lt a.F) a.H (λh d k=>(a.A h d k).1.a λi g=>lj ⟨i,p h d i k g⟩ (jU g λt x A=>r _ (bn x) (a.A h d k).2.1) (a.A h d k).2.2) a.D a.E a.I λy h z i g j=>(a.G y h z i g j).b λt u=>⟨u.1.A l p,w u.2⟩
def k'.B{f:cj->Option bB}(a:e.Ns d f)(h:∀b,Ln e d=V b->∃c,Ln n d=V c/\rW b c):n.Ns d f:=a.a λb a=>a.a λi a=>li a λj k l m=>(h b k).a λc g=>x9 c i j g.1 (g.2.B.a l) m
def Cell.up{c:Option bB}(g:e.IsCell d c)(h:∀a,Ln e d=V a->∃b,Ln n d=V b/\rW a b):n.IsCell d c:=jU g λa i j=>(h a i).a λb f=>jO b f.1<|f.2.B.a j
def ml.K(i:ml b f e c m)(d:lL e n):ml b f n c m:=i.J (λa g=>g.keeps d.A) (λa a a a g=>g.keeps d.A) (λa a j=>j) λh=>h.E d
def ml.C(g:ml b f e c m)(d:lC lM f e q n):ml b q n c m:=g.J (λa i=>k'.B i λa j=>d.D _ _ j g.F id) (λa a a k i=>Cell.up i λa j=>d.D _ _ j (g.A _ _ k).2.1 id) d.B λh=>h.A d
def Ar(d:∀a,a∈b.B->(∃h,e.Ns a h)/\¬mA f a/\Ln b.A a=Y)(j:lC g f e q n)(l:∀a,a∈b.B->¬g a):∀a,a∈b.B->(∃h,n.Ns a h)/\¬mA q a/\Ln b.A a=Y:=λa c=>⟨(d a c).1.b λk i=>k'.B i λk m=>j.D _ _ m (d a c).2.1<|l a c,(d a c).1.a λk i=>j.B _ i.lt (d a c).2.1,(d a c).2.2⟩
def ki.F(a:ki b f l e):lL nl e:=a.L.D a.A
def ki.H(a:ki b f l e)(d:lL e n):ki b f l n:=po a.L (a.A.D d) (λi j k=>(a.E i j k).b λm c=>⟨c.1,c.2.D d⟩) a.I a.J a.G a.K λg h=>⟨(a.C g h).1.b λm c=>c.keeps d.A,(a.C g h).2⟩
def ki.d_(c:ki b f l e)(p:lC g f e f n)(q:lL b.A n)(k:∀a h,mA f a->Ln e a=V h->Ln n a=V h)(i:∀i,i∈b.B->∃r,n.Ns i r):ki b f l n:=po c.L q (λj h s=>(c.E j h s).b λm a=>⟨a.1,a.2.A.a λ_ d=>d.a λ_ d=>a.2.B p ((k _ _ (ms j m a.1 kr) d.1).a d.1.b)<|(k _ _ (ms j m a.1<|.inr U) d.2.1).a d.2.1.b⟩) c.I c.J c.G c.K λa o=>⟨i a o,(c.C a o).2⟩
def ki.f_{v:km}(i:ki b f l e)(A:l j=V o)(u:f j=V a)(w:d=a.1\/d=a.2) (r:d' d e n) (K:lC lM f e f n->pr f n v a) (L:∀M z,o≠.D M z):ki b f (jE l j v) n/\lC lM f e f n:=by
 refine ka λN=>jU (i.E j o A) λk x O=>?_;obtain rfl:=aY<|u.b.a x;refine mr O.A λh Z P Q R=>?_;have B:=R L;have C:∀{q:bk}{o:hP},Ln e q=V o->ov o=aj->q≠d:=λc D g=>by
  rcases w with p|p<;>rw[g,p]at c;.exact Ao D B.1<|aY<|P.b.a c
  .exact Ao D B.2<|aY<|Q.b.a c
 have E:∀m k,f m=V k->m≠j->k.1≠d/\k.2≠d:=λm k c s=>⟨λp=>s<|i.J m j k a c u<|w.a (λg=>.inl<|p.a g) λg=>n6<|p.a g,λp=>s<|i.J m j k a c u<|w.a (λg=>kC<|.inl<|p.a g) λg=>kC<|.inr<|p.a g⟩;have y:lC lM f e f n:=lY (λt t c=>c) (λq F c S t=>⟨F,(r.2 q λg=>S<|ms j a u<|jx g w).a c,.A _⟩) (λt t s=>s) (λq α s c=>(r.2 q<|C c U).a c) (aw r.1.b) λq z c=>⟨z,(r.2 q<|C c U).a c⟩;have G:=i.G j a u;refine N<|⟨po i.L ⟨λq F c=>(r.2 q λg=>?_).a<|i.A.A _ _ c,aX i.A.B<|aw r.1.b⟩ (λm T c=>?_) (λm k c=>?_) i.J i.G ?_<|Ar i.C y λt t=>id,y⟩;.
  rw[g]at c;rcases w with p|p<;>rw[p]at c;.exact mh G.1 c
  .exact mh G.2 c
 .exact CS c (λW d=>jO a (jx W u)<|jL d<|K y) λs c=>jU (i.E m T c) λk x X=>jO k x<|X.B y (r.2 _ (E m k x s).1)<|r.2 _ (E m k x s).2
 .by_cases g:m=j;.exact⟨v,jx g<|jS ..⟩
  .exact(i.I m k c).b λt e=>(jQ l v g).a e
 .exact i.K.b λβ H I J=>(jQ l v λg=>mh (H I J)<|g.b▸A).a<|H I J
def qC(f:ke)(a:jF)(b:bk×bk):ke:=λh=>bif h.C a then V b else f h
def rv(f:ke)(a:jF)(b:bk×bk):qC f a b a=V b:=by unfold qC;rw[jF.E];rfl
def vu{c:jF}{d:Prop}(e:qC f j a c=V p)(g:c=j->p=a->d)(h:c≠j->f c=V p->d):d:=(iC _).a (λb=>g b<|aY<|e.b.a (by simp only[b,rv])) λb=>h b (by unfold qC at e;rw[jF.D b]at e;exact e)
theorem ki.a_(m:ki b f l e)(Q:l j=Y)(r:lL e n)(u:Lb e.objs<=a.1)(v:Lb e.objs<=a.2) (R:lC lM f e (qC f j a) n->pr (qC f j a) n o a):ki b (qC f j a) (jE l j o) n/\lC lM f e (qC f j a) n:=by
 revert b f e n l j o a;apply sz;generalize kG.1.1.1=a,kG.1.1.2=b,kG.1.2.1=e,kG.1.2.2=n,kG.2.1.1=f,kG.2.1.2=j,kG.2.2.1=l,kG.2.2.2=o;intros;have J:∀{h g},f h=V g->qC f j a h=V g:=λc=>by unfold qC;rw[jF.D<|(show∀{h g},f h=V g->h≠j from λc d=>(m.I _ _ c).a λi k=>mh (d.b▸Q) k) c];exact c
 have K:∀{h g},f h=V g->g.1<Lb e.objs/\g.2<Lb e.objs:=λ{h g} c=>by refine ka λE=>?_;obtain⟨F,S⟩:=m.I h g c;refine jU (m.E h F S) λξ T W=>?_;obtain rfl:=aY<|c.b.a T;exact mr W.A λ_ _ w y _=>E<|⟨bn w,bn y⟩
 have z:lC lM f e (qC f j a) n:=lY (λi i c=>J c) (λp X c i i=>jO X (r.A _ _ c)<|.A _) (λp L Z=>λα=>pK α λq g β=>β.elim λc M=>vu c (λi d=>M.a (λk=>cb.b u<|jL d<|jL k L) λk=>cb.b v<|jL d<|jL k L) λi c=>Z<|ms q g c M) (λp ο γ c=>r.A _ _ c) r.B λp δ c=>⟨δ,r.A _ _ c⟩;have N:∀{g:bk×bk},g.1<Lb e.objs/\g.2<Lb e.objs->¬(a.1=g.1\/a.1=g.2\/a.2=g.1\/a.2=g.2):=λo d=>by
  rcases d with d|d|d|d;.exact cb.b u<|jx d o.1
  .exact cb.b u<|jx d o.2
  .exact cb.b v<|jx d o.1
  .exact cb.b v<|jx d o.2
 refine⟨po m.L (m.A.D r) (λq F c=>?_) (λq g c=>?_) (λε ζ η θ C s d=>?_) (λq g c=>?_) ?_<|Ar m.C z λi i=>id,z⟩;.exact CS c (λG p=>jO a (jx G<|rv ..)<|jL p<|R z) λγ c=>ka λE=>jU (m.E q F c) λg ι O=>mr O.A λ_ _ w y _=>E<|jO g (J ι)<|O.B z ((r.A _ _ w).a w.b)<|(r.A _ _ y).a y.b
 .by_cases d:q=j;.exact⟨o,jx d<|jS ..⟩
  .exact vu c (λk=>a' k d) λi c=>(m.I q g c).b λi e=>(jQ l o d).a e
 .refine vu C (λG p=>vu s (λκ i=>G.a κ.b) λi s=>(N (K s)<|jL p d).elim) λi C=>vu s (λi p=>(N (K C) ?_).elim) λi s=>m.J ε ζ η θ C s d;subst p;exact d.a (λk=>.inl k.b) λd=>d.a (λk=>kC<|.inl k.b) λd=>d.a (λk=>n6 k.b) λk=>kC<|.inr k.b
 .exact vu c (λi d=>d▸⟨cR<|aX m.A.B u,cR<|aX m.A.B v⟩) λi c=>m.G q g c
 .refine m.K.a λH P=>?_;cases j with|B I=>exact⟨H+(I+1),λt D=>(jQ l o λd:jF.B t=.B I=>bi (aX (cM (I+1) H) D) (by injection d)).a<|P t<|dn D⟩|A μ ν=>exact⟨H,λt D=>(jQ l (j:=.A μ ν) (r:=.B t) o (λe=>by cases e)).a<|P t D⟩
end
structure ko where
 B:jT
 D:Nat
 E:jP
 A:jC
instance:Nonempty ko:=⟨afe,0,i',λ_=>Y⟩
def ko.G(a:ko)(b:jF)(c:km):ko:=⟨a.B,a.D,a.E,Internal.jE a.A b c⟩
def ko.C(a:ko)(b:jC):ko:=⟨a.B,a.D,a.E,b⟩
structure n7(a:Bool)(b:jT)(c:Nat)where
 D:k'
 A:gu
 B:fe
 C:ow A D
 E:mB a b c B
def kS(d:gu)(a:ko)(b:ke)(c:bG):=ki a.B b a.A c.heap/\ml a.B b c.heap d a.E
section
variable{a:ko}{b:bG}(d:kS c a f b)
def kS.A:=d.1
def kS.B:=d.2
end
def wu(f:gu)(g:ko)(h:ke)(i:bG)(j:jA->jC->Prop)(k:bB->bG->Prop):=∀c d e b a,j c d->kS f (g.C d) b a->kD lM h i b a->jZ b a.heap c e->k e a
def HE(e:gu)(f:ko)(g:ke)(h:bG)(i:Bool->jC->Prop)(j:Bool->bG->Prop):=∀b c d a,i b c->kS e (f.C c) d a->kD lM g h d a->j b a
def R1(f:gu)(g:ko)(h:ke)(i:bG)(j:Lt jA->jC->Prop)(k:Lt bB->bG->Prop):=∀c d e b a,j c d->kS f (g.C d) b a->kD lM h i b a->kf b a.heap c e->k e a
def pN(f:jT)(g:ke)(h:bG)(i:jA->jC->Prop)(j:bB->bG->Prop):=∀c d e b a,i c d->ki f b d a.heap->kD lM g h b a->jZ b a.heap c e->j e a
end
section
variable{a c:Value → Shared → Prop}{b α:Nat}{d:List (jA × jA)}{e β:Shared}{f:Value}{g:Addr}{i:ke}{j:List DictEntry}{k:Heap}{l:Around}{m:List (Nat × jA)}{n:List jA}{o:Str}{p:jR}{q:List jR}{r:jA}{s:Env}{t:jA → jC → Prop}{u:List (Nat × Nat)}{v:Array Value}{w φ:Int}{x:List Expr}{y:List Value}{z:Option Value → Shared → Prop}{N:Expr}{O:Bool → jC → Prop}{Q:Addr → Prop}{R:jC}{S σ:Bool}{T:Type}{W:Nat → ke → Heap → Prop}{X:jT}{Z:jF}{γ:Unit → Shared → Prop}{δ:Result → Shared → Prop}{ε:Expr → Prop}{ζ:List Value → Sem Value}{η:Bool → Shared → Prop}{θ:k'}{ι:Pos}{κ:Option Nat → Shared → Prop}{μ:Value → Value → Sem Value}{ν:Flow → Shared → Prop}{ξ:List jA → jC → Prop}{ο:Int → Shared → Prop}{π:List (Str × NameKind)}{ρ:Operator}{τ:jA → Prop}{υ:Model}{χ:List kM}{ψ:Obj}{ω:List kb}
def R2(e:jT)(f:ke)(g:bG)(h:Bool->jC->Prop)(i:Bool->bG->Prop):=∀b c d a,h b c->ki e d c a.heap->kD lM f g d a->i b a
section
variable(a:Bool)
def kn(h:jR)(c:ko)(i:jA->jC->Prop):=∀(b:n7 a c.B c.D) e f d g j,kV h b.D e->kS b.A c f d->wu b.A c f d i g->ay kc b.B (dy e b.A) g j d
def ox(h:jR)(c:ko)(i:Bool->jC->Prop):=∀(b:n7 a c.B c.D) d f e g j,kV h b.D d->kS b.A c f e->HE b.A c f e i g->ay kc b.B (acw d b.A<|dy d b.A) g j e
def oL(h:Lt jR)(c:ko)(i:Lt jA->jC->Prop):=∀(b:n7 a c.B c.D) d j f e g k,ny h b.D d->d.any nJ=ah->kS b.A c f e->R1 b.A c f e i g->ay kc b.B (spliced<|gp j<|fN d b.A) g k e
def lm(h:Lt bB->hB bB)(i:Lt jA)(b:ko)(j:jA->jC->Prop):=∀e d c f g k,mB a b.B b.D e->ki b.B d b.A c.heap->kf d c.heap i f->pN b.B d c j g->ay kc e (h f) g k c
def rx(h:jA)(b:ko)(i:Bool->jC->Prop):=∀e d c f g j,mB a b.B b.D e->ki b.B d b.A c.heap->jZ d c.heap h f->R2 b.B d c i g->ay kc e (truthy f) g j c
def nc(b:bB)(c:Lt jA)(d:ko)(e:jA->jC->Prop):Prop:=lm a (λf=>call b f) c d e
end
def wv(a:bB->hB bB):Lt bB->hB bB|[b]=>a b|_=>er .none
noncomputable def mm(a:bB->bB->hB bB):Lt bB->hB bB|[b,c]=>a b c|_=>er .none
section
variable{d:ko}{g:jA->jC->Prop}
def kS.D(a:kS s d i e)(b:lR e β):kS s d i β:=⟨a.A.H b.B,a.B.K b.B⟩
def kS.C{a:ke}(b:kS s d i e)(c:ki d.B a R β.heap)(f:kD lM i e a β):kS s (d.C R) a β:=⟨c,b.B.C f.B⟩
def kn.A(c:kn S p d t)(e:∀a b,t a b->g a b):kn S p d g:=λf h i j k l m n o=>c f h i j k l m n λa b q r s u=>o a b q r s<|e a b u
def lm.A(c:lm S ζ n d t)(e:∀a b,t a b->g a b):lm S ζ n d g:=λf h i j k l m o p q=>c f h i j k l m o p λa b r s u v=>q a b r s u<|e a b v
def ps(j:d.E b=V r)(k:t r d.A):kn S (.A b) d t:=by
 intro c x l m y z n i o;apply n;intro p A g q s;refine jU (i.B.G b p _ r (jx c.C.A<|rt s) j) λu v w=>?_;have h:=o r _ u l m k i .D w;rcases v with⟨a,B,e,f⟩|⟨a|a,C,e,f⟩;.exact iq (ac1 c.C.B a e f h) g
 .exact iq (adf c.C.B a e f h) g
 .exact iq (wpAny_loadName_free c.C.B a e f h q) g
def HF(e:t .D d.A):kn S .a_ d t:=λa b f c g h i j k=>i (λb=>ay _ _ (dy b _) g h c) λa a=>ai<|k _ _ _ f c e j .D U
def R3(e:t (.F σ) d.A):kn S (.b_ σ) d t:=λa b f c g h i j k=>i (λb=>ay _ _ (dy b _) g h c) λa a=>ai<|k _ _ _ f c e j .D U
def yq(c:t (.B w) d.A):kn S (.E w) d t:=λa b e f g h i j k=>i (λb=>ay _ _ (dy b _) g h f) λa a=>ac0<|k _ _ _ e _ c (j.D<|.A ..) (.C<|.A ..) ⟨_,U⟩
def As(c:t (.C o) d.A):kn S (.I o) d t:=λa b e f g h i j k=>i (λb=>ay _ _ (dy b _) g h f) λa a=>wpAny_mkText<|k _ _ _ e _ c (j.D<|.A ..) (.C<|.A ..) ⟨_,U⟩
def tk{d:eR}(a:π[b]?=V (o,d))(c:Le (π.map (·.1))):Lj o π=V d:=by induction π generalizing b with|nil=>exact kh a|cons e h f=>rw[bo,cQ]at c;cases b with|zero=>obtain rfl:=aY a;rw[gd]|succ b=>exact jx bx<|jx (aM λg:o=e.1=>c.1<|kg g<|am.b<|jO _ (aa a) U)<|f a c.2
def HG(c:Le ((oY s.scope).map (·.1)))(d:(oY s.scope)[b]?=V (o,S)):∃a,s.kindOf o=V a/\S=(a==.globalImplicit||a==.globalExplicit):=by unfold oY of at d c;rw[ax,bO]at d;obtain⟨⟨g,a⟩,e,f⟩:=d;cases f;rw[bY]at c;exact jO a (tk e c) U
def ow.E(a:ow s θ):Le ((oY s.scope).map (·.1)):=jx a.A a.G
def R4(c:Le ((oY s.scope).map (·.1)))(d:(oY s.scope)[b]?=V (o,aj)):s.kindOf o=V .globalImplicit\/s.kindOf o=V .globalExplicit:=by refine jU (HG c d) λe a S=>?_;cases e<;>first|(exact ot S;done)|exact .inl a|exact .inr a
def R5(c:Le ((oY s.scope).map (·.1)))(d:(oY s.scope)[b]?=V (o,ah)):s.kindOf o=V .local\/s.kindOf o=V .cell\/s.kindOf o=V .free:=by refine jU (HG c d) λe a S=>?_;cases e<;>first|(exact lf S;done)|exact .inl a|exact n6 a|exact kC a
def R6(k:lu.A o=V f){b:n7 S d.B d.D}(h:kS b.A d i e)(j:a f e):ay kc b.B (loadGlobal b.A o) a c e:=by
 refine ka λl=>mr qg.D λs t g m n=>?_;have g:=b.C.D.b▸g.keeps h.A.F.A;apply l;rcases n o f k with p|⟨q,r⟩;.exact loadGlobal_global g p j
 .exact loadGlobal_builtin g q (b.C.F.b▸m.keeps h.A.F.A) r j
def um(h:lu.A o=V f)(i:t (.G f) d.A):kn S (.G o) d t:=by intro a q j k r l m c n;apply m;intro s u e p;have g:=R6 h c (c:=l)<|n _ _ f j k i c .D U;exact(R4 a.C.E<|jx a.C.A<|rt p).a (λb=>Name_function_global a.C.B b g e) λb=>iq (jL (loadName_declared a.C.B b).b g) e
def At{g:jR}(o:kn S p d λh q=>kn S g (d.C q) λj r=>lm S ζ [h,j] (d.C r) t){b:n7 S d.B d.D}{f:cL}(s:kV p b.D N)(u:kV g b.D f)(v:kS b.A d i e)(w:wu b.A d i e t a):ay kc b.B (dy N b.A) (λh e=>ay kc b.B (dy f b.A) (λj e=>ay kc b.B (ζ [h,j]) a c e) c e) c e:=o b N i e _ c s v λk k p x y z A B C=>z b f x y _ c u A λk k g D E F l m G=>F b.B D E [p,g] a c b.E l.A (.C (C.A m.B)<|.I G) λf H N I J K L n=>w f H N I J K (l.C L n)<|(B.A m).A n
def yr{a:jR}(e:kn S p d λb f=>kn S a (d.C f) λg h=>lm S (mm<|fi ρ) [b,g] (d.C h) t):kn S (.J ρ p a) d t:=λc b c i j k l a m=>l (λb=>ay _ _ (dy b _) j k i) λc c c n o=>wpAny_BinOp<|At e n o a m
def R7{e:gh}{a:jR}(f:kn S p d λb g=>kn S a (d.C g) λh i=>lm S (mm<|dg e) [b,h] (d.C i) t):kn S (.D e p a) d t:=λc b c j k l m a n=>m (λb=>ay _ _ (dy b _) k l j) λc c c o q r=>wpAny_Compare1 (At f q r a n) o
def R8{g:gh}{a:jR}(j:kn S p d λb k=>kn S a (d.C k) λl m=>lm S (mm<|dg g) [b,l] (d.C m) λh e=>∃c,h=.F c/\O c e):ox S (.D g p a) d O:=λD b f n o q r a s=>r (λb=>ay _ _ (acw b ..) o q n) λf f f t u v=>wpAny_isTrue_Compare1 (At j u v a λh e E w x y z A i=>jU y λc B C=>(by rw[B]at i;exact i)▸fJ (s c e w x C z A)) t
def HH{b:jR}(a:kn S p d λc h=>kn S b (d.C h) λi j=>∀g e,qz e=ah->lm S (mm<|eE g e) [c,i] (d.C j) t):kn S (.C p b) d t:=λs c u e k l m b n=>m (λc=>ay _ _ (dy c _) k l e) λv g w o q r=>hq<|At (a.A λf f a=>a.A λf f a=>a _ _ o) q r b n
set_option tactic.hygienic true in def HI{a:hB bB}(b:wp N=ah):aeZ N o s a=a:=by
 cases N<;>try rfl
 rename_i c d e g;cases c<;>try rfl
 cases d<;>try rfl
 cases e<;>try rfl
 rename_i f _;apply aC;exact jx (show(f !=_)=aj from aB (!·) b) U
def Di(n:kn S p d λa g=>b<La nR->lm S (wv λc=>acz c (lU b) aj) [a] (d.C g) t):kn S (.B p b) d t:=λe h o i j f q r s=>q (λh=>ay _ _ (dy h _) j f i) λa H I u v w=>by have k:=x' v;exact Attribute_any_ (n e a o i _ f w r λa g c x y z l A B=>jL k.1<|z k.2 e.B x y [c] j f e.E l.A (.I B) λa C c D E F G m=>s a C c D E F (l.C G m)<|A.A m) (by simp only[arm_eval_Attribute,HI u])
def Au:jR->Bool|.e_ _=>ah|.f_ _=>ah|.g_ _=>ah|.h_ _ _ _=>ah|.D _ _ _=>ah|_=>aj
def R9(c:kV p θ N)(d:Au p=aj)(e:gu)(a:hB bB):acw N e a=(do
 let b<-a
 standAt N.pos
 holding [b] (truthy b)):=by cases p<;>first|(exact lf d;done)|(apply c;intros;rfl)
def R'(i:Au p=aj)(j:kn S p d λb c=>rx S b (d.C c) O):ox S p d O:=by intro a k l m n e f o q;rw[R9 f i];exact jK<|j a k l m _ e f o λb c r s t u g v w=>jK<|dY<|bu<|u a.B s t r n e a.E g.A w λS x y z A B h=>q S x y z A (g.C B h)<|v.A h
def Sa(g:ox S p d λa b=>O (!a) b):ox S (.e_ p) d O:=λh c i e j f k l m=>k (λc=>ay _ _ (acw c ..) j f e) λn q o=>wpAny_isTrue_Not<|g h n i e _ f o l λa b=>m (!a) b
set_option backward.match.sparseCases true in def Sb(b:adA)(c:cL)(d:Lt cL)(a:gu):adM b (c::d) a=(do match b,<-acw c a (dy c a)with|.And,ah=>er ah|.Or,aj=>er aj|_,_=>adM b d a):=U
def Av(b:adA)(a:Lt jR):jR:=match b with|.And=>.f_ a|.Or=>.g_ a
def Sc(c:adA)(S:Bool)(a b:Prop):Prop:=match c with|.And=>bif S then b else a|.Or=>bif S then a else b
def HJ{a:adA}(b:O (a==.And) d.A):ox S (Av a []) d O:=by intro j k c e l m f g h;cases a<;>(apply f;intro n o i;subst i;exact ai<|h _ _ c e b g .D)
theorem HK{a:adA}(l:ox S p d λe f=>Sc a e (O e f)<|ox S (Av a q) (d.C f) O):ox S (Av a (p::q)) d O:=by
 revert S d O a p q;apply qv;generalize kE.1.1.1=p,kE.1.1.2=q,kE.1.2=O,kE.2.1.1=S,kE.2.1.2=d,kE.2.2=a;intros;intro b J w r m j x y s;have g:∀h i,ny (p::q) b.D h->(∀c,ny q b.D c->kV (Av a q) b.D (.BoolOp a c i))->ay kc b.B (adM a h b.A) m j r:=by
  intro h i e z;apply e;intro A c B n;refine jx (Sb ..) ?_;refine jK<|l b A w r _ j B y λC f t o k u v=>?_;have g:ox S _ (d.C f) O->ay kc b.B (adM a c b.A) m j o:=λk=>by have g:=k b _ t o m j (z c n) u λS D E F G H I=>s S D E F G H<|v.A I;cases a<;>exact g
  cases a<;>cases C<;>first|exact g k|exact ai (s _ f t o k u v)
 cases a<;>(apply x;intro h i e;exact g h i e λc n K l=>l c i n)
def Sd{o q:jR}(A:ox S p d λe f=>bif e then kn S o (d.C f) t else kn S q (d.C f) t):kn S (.h_ p o q) d t:=λg r B s h c C D u=>C (λr=>ay _ _ (dy r _) h c s) λe a b I E F G=>wpAny_IfExp (A g e B s _ c E D λH f v w x y z=>by cases H with|true=>exact x g a v w h c F y λb i a j k l m n=>u b i a j k l m<|z.A n|false=>exact x g b v w h c G y λb i a j k l m n=>u b i a j k l m<|z.A n)
def Aw(a:(N::x).any nJ=ah):fN (N::x) s=(ah,dy N s)::fN x s:=by have:=(cf.a a).1;cases N<;>first|rfl|(exact ot this;done)
def sC(b:ξ [] d.A):oL S [] d ξ:=λa i a c e j k f a g h=>jx f<|wpAny_items_nil<|h [] _ [] c e b g .D U
def ry(j:kn S p d λc e=>oL S q (d.C e) λf b=>ξ (c::f) b):oL S (p::q) d ξ:=by intro g H k l m I h n a o r;revert a;apply n;intro s t u v a;exact jx (Aw a)<|spliced_cons<|j g s l m _ h u o λc e J w x y z A B=>y g t k w x _ h v (cf.a a).2 z λf b K C D E F i G=>r _ b _ C D E F (A.A i)<|.C (B.A i.B) G
end
mutual
noncomputable def m6:jA->adw
 |.F b=>.bool b
 |.B c=>.int c
 |.C d=>.str d
 |.E a=>.tuple (rZ a)
 |_=>.none
noncomputable def rZ:List jA->List adw
 |[]=>[]
 |e::a=>m6 e::rZ a
end
def sD(g:∀a,eH a=aj->τ (.C a))(h:∀a,τ<|.B a)(i:∀c d,b=c+1->d.all (lK c)=aj->τ (.E d))(f:jA)(e:lK b f=aj):τ f:=by
 cases f with
 |C a=>exact g a (by cases b<;>exact e)|B a=>exact h a|E d=>cases b with|zero=>exact lf e|succ c=>exact i c d U e
 |_=>cases b<;>exact lf e
def vv(c:∀a,eH a=aj->τ (.C a))(d:∀a,τ<|.B a)(b:jA)(e:lK 0 b=aj):τ b:=sD c d (λf _ (g:0=f+1)=>a' g jB) b e
def vw(e:∀a,eH a=aj->τ (.C a))(f:∀a,τ<|.B a)(g:∀c,c.all (lK b)=aj->τ (.E c))(d:jA)(h:lK (b+1) d=aj):τ d:=sD e f (λi c (j:b+1=i+1) k=>g c (by cases j;exact k)) d h
def o1(a:(r::n).all (lK b)=aj):lK b r=aj/\n.all (lK b)=aj:=(az ..).mp a
section
def kf.g_(j:∀e f,jZ i k e f->lK b e=aj->∃a,ada k f (m6 e) a):∀{c:List jA}{d:List bB},kf i k c d->c.all (lK b)=aj->∃a,iz k d (rZ c) a:=by intro c;induction c with|nil=>exact λg _=>g.L (p:=λd=>∃a,iz k d [] a) ⟨[],.nil⟩|cons e c l=>exact λg h=>g.D (p:=λd=>∃a,iz k d _ a) λf g m n=>(j e f m (o1 h).1).a λa o=>(l n (o1 h).2).a λp q=>⟨a++p,.cons o q⟩
def jZ.G:∀f (c:jA)(a:bB),jZ i k c a->lK f c=aj->∃d,ada k a (m6 c) d:=by
 have j:∀b,eH b=aj->∀a,jZ i k (.C b) a->∃d,ada k a (m6<|.C b) d:=λb q a e=>by apply e.C;exact λg=>⟨[],.str _ g⟩
 have l:∀b a,jZ i k (.B b) a->∃d,ada k a (m6<|.B b) d:=λb a e=>by apply e.B;exact λg=>⟨[],.int _ g⟩
 intro f;induction f with|zero=>exact λc a b h=>vv (τ:=λc=>∀a,jZ i k c a->∃d,ada k a (m6 c) d) j l c h a b|succ f m=>exact λc a b h=>vw (τ:=λc=>∀a,jZ i k c a->∃d,ada k a (m6 c) d) j l (λr n a b=>by apply b.D;intro s t u o p _;exact(kf.g_ m p n).b λd e=>.tuple o U U e) c h a b
def kf.m_(a:kf i k n y)(c:n.all (lK b)=aj):∃d,iz k y (rZ n) d:=kf.g_ (jZ.G b) a c
end
def Dj(e:∀a,lK b a=aj->(m6 a).canLay0=aj/\(m6 a).depth<=b):∀(c:List jA),c.all (lK b)=aj->PyData.canLayAll0 (rZ c)=aj/\hZ (rZ c)<=b:=λ{c}=>lO (λ_=>⟨U,bT _⟩) (λa c f=>λd=>⟨(az ..).mpr ⟨(e a (o1 d).1).1,(f (o1 d).2).1⟩,Nat.max_le.b ⟨(e a (o1 d).1).2,(f (o1 d).2).2⟩⟩) c
def Ax:∀a (b:jA),lK a b=aj->(m6 b).canLay0=aj/\(m6 b).depth<=a:=λ{a}=>ue (vv (λc d=>⟨d,bT _⟩) λc=>⟨U,bT _⟩) (λa f=>vw (λc d=>⟨d,bT _⟩) (λc=>⟨U,bT _⟩) λg h=>have e:=Dj f g h;⟨e.1,bb e.2⟩) a
def ys(a:kP r=aj):adt (m6 r)=aj:=(az ..).mpr ⟨(Ax 5 r a).1,aD<|aX (Ax 5 r a).2 jB⟩
def HL(h:∀c,lK b c=aj->∀d a,lK d a=aj->(dQ (m6 c) (m6 a)=aj↔c=a))(c:Lt jA):c.all (lK b)=aj->∀d (a:Lt jA),a.all (lK d)=aj->(adb (rZ c) (rZ a)=aj↔c=a):=lO (λ_ d a _=>by cases a with|nil=>exact⟨λi=>U,λi=>U⟩|cons=>exact⟨λe=>lf e,λe=>a' e jB⟩) (λj n k=>λf d a g=>by cases a with|nil=>exact⟨λe=>lf e,λe=>a' e jB⟩|cons l m=>rw[afb];exact(gc.a (U:adb _ _=_)).c<|(iff_of_eq<|az ..).c<|and_congr (h j (o1 f).1 d l (o1 g).1)<|k (o1 f).2 d m (o1 g).2) c
def HM:∀c b,lK c b=aj->(dQ (m6<|.C o) (m6 b)=aj↔.C o=b):=λc=>sD (λd a=>by simp[m6,dQ]) (λd=>by simp[m6,dQ]) λa a a a=>by simp[m6,dQ]
def HN:∀c b,lK c b=aj->(dQ (m6<|.B w) (m6 b)=aj↔.B w=b):=λc=>sD (λd a=>by simp[m6,dQ]) (λd=>by simp[m6,dQ]) λa a a a=>by simp[m6,dQ]
def HO:∀c (b:jA),lK c b=aj->∀e d,lK e d=aj->(dQ (m6 b) (m6 d)=aj↔b=d):=λ{c}=>ue (vv (λa a=>HM) λa=>HN) (λc f=>vw (λa a=>HM) (λa=>HN) λg b l=>sD (λh a=>by simp[m6,dQ]) (λh=>by simp[m6,dQ]) λi j a k=>by simp only[jA.E.injEq];exact HL f g b i j k) c
def Ay{a:jA}(c:lK b r=aj)(d:lK α a=aj):dQ (m6 r) (m6 a)=ba (r=a):=gc.b<|(HO b r c α a d).c aO.symm
section
variable{c:jA}
def Dk{b:jA}{c:bB}(h:l.units<=9600)(j:jZ i e.heap r f)(k:jZ i e.heap b c)(d:kP r=aj)(g:kP b=aj)(m:η (ba<|r=b) e):ay kc l (eqBool f c) η a e:=(jZ.G 5 r f j d).a λn o=>(jZ.G 5 b c k g).a λn p=>(keq_at o p (ys d) (ys g)<|aZ (bC (bC h 1) 64) jB).of_in1 lu.C ou a η<|jx (Ay d g) m
def kf.b_(a:kf i k n (f::y)):∃r b,n=r::b/\jZ i k r f/\kf i k b y:=by cases n with|nil=>exact a' (show _=[] from a) jB|cons r n=>exact mr a λ_ _ c d e=>by cases c;exact lP r n U d e
def kf.h_(a:kf i k n []):n=[]:=by cases n with|nil=>rfl|cons r n=>exact mr a λ_ _ b _ _=>a' b jB
def vx(a:Ln k g=V (m5 v b)):IsTup k g v:=⟨_,a,U,b,U⟩
def Se(b:ο (adp w) e):ay kc l (hA w) ο a e:=by
 unfold hA;unfold adp at b;split;.rw[aC ‹_›]at b;exact ai b
 .rw[aA ‹_›]at b;exact jK<|dZ<|ai b
def HP(a:bB->bG->Prop)(i:ke)(b:Nat):=∀(l:fe)(r:jA)(f:bB)(e:bG)(c:Int->bG->Prop),jZ i e.heap r f->lK b r=aj->l.units+4*b+4<9900->(∀d,c (nd r) {e with toks:=d})->ay kc l (acu f) c a e
def ww(i:ke)(b:Nat)(e:bG)(c:Lt jA)(d:Lt bB)(f:Array Int)(g:bG):=(∃h,g={e with toks:=h})/\∃a,kf i e.heap a d/\a.all (lK b)=aj/\Lf f++yp a=yp c
def ww.A{g:Array Int}(h:ww i b e n (f::y) g β):∃r a,β={e with toks:=a}/\jZ i e.heap r f/\lK b r=aj/\∀c,ww i b e n y (g.push<|nd r) {e with toks:=c}:=h.1.a λa k=>li h.2 λt l j m=>l.b_.a λr o=>li o λp d q s=>pL r a k q ((o1<|jL d j).1) λc=>⟨⟨c,U⟩,p,s,(o1<|jL d j).2,by simp only[acs,bw,<-m,d];rfl⟩
def ww.B{c:Array Int}(d:ww i b e n [] c β):∃a,β={e with toks:=a}/\Lf c=yp n:=by refine ka λf=>?_;obtain⟨⟨a,g⟩,k,h,l,j⟩:=d;obtain rfl:=h.h_;exact f<|jO a g<|kg j (bQ _).b
def Sf(m:HP a i b)(j:Ln e.heap g=V (m5 v α))(o:kf i e.heap n (Lf v))(p:n.all (lK b)=aj)(k:l.units+4*(b+1)+4<9900)(q:∀f,ο (nd<|.E n) {e with toks:=f}):ay kc l (acu<|.ref g) ο a e:=by
 have d:=(vx j).typeIs;refine jK<|wpAny_cRoomFor_or (.inr<|aZ (aX (bd ..)<|bd ..) k)<|jK<|fr d gN.lookup<|lJ (jx (ad4 ..) av)<|jK<|fr d gN.lookup<|jK<|wpAny_callSpecialIfBoundUnlessNone?_slot d gN<|bq gN d F.entry_tuple_hash ?_<|F.args_tuple_hash_1 _;show ay _ _ (aeg (.ref g)>>=_) _ _ e;refine jK<|wpAny_tupleItemsOf j U<|jK ?_;refine jL aci ?_;refine fa _ (ww i b e n) _ (λs x t u h=>pK h.A λr f c=>?_) (λt u h=>h.B.a λf c=>?_) _ _ ⟨⟨e.toks,U⟩,n,o,p,U⟩;.apply kd c.1;refine jK<|m _ r s _ _ c.2.1 c.2.2.1 (aZ (bC (aX (aw<|dN ..)<|bS (jB:1<=4)<|l.units+4*b) 4) k) λw=>?_;first|exact ai (c.2.2.2 w)|exact jK _
 .apply kd c.1;show ay _ _ (retInt _) ..;exact jx c.2 (aek (Se (q _)))
def HQ:∀j,HP a i j:=by
 intro j;have n:∀{l:fe}{e:bG}{c:Int->bG->Prop}(b:cj),eH b=aj->∀f,jZ i e.heap (.C b) f->(∀g,c _ {e with toks:=g})->ay kc l (acu f) c a e:=λb h f k d=>by apply k.C;exact λp=>wpAny_pyHash_str<|d _
 have o:∀{l:fe}{e:bG}{c:Int->bG->Prop}(b:Int) f,jZ i e.heap (.B b) f->(∀g,c _ {e with toks:=g})->ay kc l (acu f) c a e:=λb f k d=>by apply k.B;exact λp=>wpAny_pyHash_int<|d _
 induction j with|zero=>exact λl r f e c b m h d=>vv (τ:=λr=>∀f,jZ i e.heap r f->(∀g,c (nd r) {e with toks:=g})->ay kc l (acu f) c a e) n o r m f b d|succ j q=>exact λl r f e c b m s d=>vw (τ:=λr=>∀f,jZ i e.heap r f->(∀g,c (nd r) {e with toks:=g})->ay kc l (acu f) c a e) n o (λw t f b d=>by apply b.D;exact λh h h u v h=>Sf q u v t s d) r m f b d
def HR:∀(h c:Nat)(r:jA)(f:bB)(b:Bool->bG->Prop),h<=c->jZ i e.heap r f->lK h r=aj->b aj e->ay kc l (gg c f) b a e:=by
 have q:∀{c:Nat}{f:bB}{b:Bool->bG->Prop},carriedByValue f=aj->b aj e->ay kc l (gg c f) b a e:=λ{c f b} k g=>jx (eqIsQuiet_byValue c k)<|ai g;have s:∀{c:Nat}{b:Bool->bG->Prop}(d:cj),eH d=aj->∀f,jZ i e.heap (.C d) f->b aj e->ay kc l (gg c f) b a e:=λd j f m g=>by apply m.C;exact λA=>q U g
 have t:∀{c:Nat}{b:Bool->bG->Prop}(d:Int) f,jZ i e.heap (.B d) f->b aj e->ay kc l (gg c f) b a e:=λd f m g=>by apply m.B;exact λA=>q U g
 intro h;induction h with
 |zero=>exact λc r f b j d n g=>vv (τ:=λr=>∀f,jZ i e.heap r f->b aj e->ay kc l (gg c f) b a e) s t r n f d g|succ h B=>
  intro c r f b k d n g;cases c with
  |zero=>exact a' k<|js _|succ c=>
   refine vw (τ:=λr=>∀f,jZ i e.heap r f->b aj e->ay kc l (gg _ f) b a e) s t ?_ r n f d g;intro C D f d g;apply d.D;exact λj j j u E j=>(by
    have v:=(vx u).typeIs;unfold gg;refine jK<|fr v F.slot_tuple_eq.lookup<|jK<|fZ v isSubtype_tuple_tuple<|lJ (av)<|jK<|aev u U<|jK ?_;refine jL aci ?_;refine fa _ (λw x o=>x.1=Y/\o=e/\∃p,kf i e.heap p w/\p.all _=aj) _ ?_ ?_ _ _ ⟨U,U,C,E,D⟩;.rintro f w x o ⟨y,rfl,p,G,z⟩;refine ka λH=>mr G.b_ λr I J K L=>?_;subst J;exact H<|jK<|(λr f b=>B c r f b<|Nat.le_of_succ_le_succ k) r _ _ K (o1 z).1<|lJ (av)<|ai ⟨U,U,I,L,(o1 z).2⟩
    .rintro⟨M,N⟩ o ⟨y,rfl,_⟩;subst y;exact ai g)
def Sg(d:jZ i e.heap r f)(n:kP r=aj)(o:∀b∈y,∃c,jZ i e.heap c b/\kP c=aj)(j:η ah e):ay kc l (act f y) η a e:=by
 unfold act;split;.exact ai j
 .refine jK<|HR 5 8 r f _ jB d n<|lJ (av)<|jK<|fa _ (λk g h=>h=e/\g=_/\∀r∈k,∃c,jZ i e.heap c r/\kP c=aj) _ ?_ ?_ _ _<|lj U U o;.rintro b k g h ⟨rfl,rfl,m⟩;exact jU (m b ae) λc p q=>jK<|HR 5 8 c b _ jB p q<|lJ (av)<|ai<|lj U U λr d=>m r<|af _ d
  .rintro g h ⟨rfl,rfl,_⟩;exact ai j
end
def kf.n_(m:∀a,lK b a=aj->∀d c e,lK d c=aj->jZ i k a e->jZ i k c e->a=c):∀(a:List jA){h:List bB} d (c:List jA),a.all (lK b)=aj->c.all (lK d)=aj->kf i k a h->kf i k c h->a=c:=by intro a;induction a with|nil=>exact λ_ c _ _ f g=>by obtain rfl:=(f:_=_);exact g.h_.b|cons n x o=>exact λd c j l f g=>by refine mr f λe y p q r=>?_;subst p;refine mr g.b_ λs t u v w=>?_;subst u;exact jx (m n (o1 j).1 d s e (o1 l).1 q v)<|jx (o d t (o1 j).2 (o1 l).2 r w) U
theorem jZ.I:∀l (j:jA),lK l j=aj->∀h c g,lK h c=aj->jZ i k j g->jZ i k c g->j=c:=by
 revert i k;apply od;generalize lX.1=i,lX.2=k;have p:∀d h c g,lK h c=aj->jZ i k (.C d) g->jZ i k c g->.C d=c:=λd h c g f m=>m.a λn o=>jx o<|sD (τ:=λc=>jZ i k c (.str d n)->.C d=c) (λa a b=>b.a λa f=>by cases f;rfl) (λa b=>b.a λa f=>a' f jB) (λa a a a b=>b.a λa b=>b.a λa b=>b.a λa b=>a' b.1 jB) c f;have q:∀d h c g,lK h c=aj->jZ i k (.B d) g->jZ i k c g->.B d=c:=λd h c g f m=>m.a λn o=>jx o<|sD (τ:=λc=>jZ i k c (.int d n)->.B d=c) (λa a b=>b.a λa f=>a' f jB) (λa b=>b.a λa f=>by cases f;rfl) (λa a a a b=>b.a λa b=>b.a λa b=>b.a λa b=>a' b.1 jB) c f;intro l;induction l with
 |zero=>exact vv (λd a=>p d) (λd=>q d)|succ l s=>
  refine vw (λd a=>p d) (λd=>q d) λr j D c g f d=>?_;apply d.D;intro t u E v w _;refine sD (τ:=λc=>jZ i k c (.ref t)->jA.E r=c) (λa a b=>b.a λa f=>a' f jB) (λa b=>b.a λa f=>a' f jB) (λx y a z b=>vo b λF A G f B C _=>?_) c f;cases f;have:u=A:=by injection v.b.a B with f;injection(aB iP f)
  exact aB _<|kf.n_ s r x y j z w<|jx this C
section
def mL.A:∀{b:Lt<|jA×jA}{c:Lt dM},mL i k b c->La c=La b:=by intro b;induction b with|nil=>exact λa=>jx (show _=[] from a) U|cons _ h e=>exact λa=>a.a λd a=>z6 a λd d f j l m g=>jx f<|aB ek<|e g
theorem mL.B{c:jA}:∀{g:List dM},mL i k d g->∀{b:Nat},d[b]?=V (r,c)->∃a e,g[b]?=V ⟨nd r,a,e⟩/\kP r=aj/\jZ i k r a/\jZ i k c e:=by revert i k r c d;apply uc;generalize mf.1.1.1=d,mf.1.1.2=i,mf.1.2=k,mf.2.1=r,mf.2.2=c;induction d with|nil=>intro _ _ _ f;exact kh f|cons t j l=>intro _ a b f;cases b with|zero=>refine ka λm=>?_;obtain⟨a,e,j,rfl,n,o,p,_⟩:=a;apply m;obtain rfl:=aY f;exact pL a e U n o p|succ b=>exact a.a λh a=>z6 a λh h q u v w s=>jx q<|l s f
def mL.C(e:mL i k d j){c:dM}(f:j[b]?=V c):∃a h,d[b]?=V (a,h)/\c.hash=nd a/\kP a=aj/\jZ i k a c.key:=by have g:=kg e.A (ag.a f).1;refine ka λl=>qc (e.B<|aq g) λp q m n o _=>?_;obtain rfl:=aY<|f.b.a m;exact l<|pL _ _ (aq g) U n o
end
def nK.B(c:nK d){e f:jA}(a:d[b]?=V (r,e))(g:d[α]?=V (r,f)):b=α:=(dT ((ab ..).b▸(ag.a a).1) c).a (by rw[ax,ax,a,g];rfl)
noncomputable def kj:Lt (jA×jA)->jA->Op jA|[],_=>Y|(b,c)::d,a=>if b=a then V c else kj d a
noncomputable def kF:List (jA×jA)->jA->jA->List (jA×jA)|[],a,b=>[(a,b)]|(c,e)::d,a,b=>if c=a then(c,b)::d else(c,e)::kF d a b
abbrev tl(a:List<|jA×jA)(b:jA):=∀(c:Nat)(d:jA),a[c]?≠V (b,d)
def tl.A{b a:jA}(c:tl ((r,b)::d) a):r≠a/\tl d a:=⟨λe=>c 0 b<|jx e U,λf g=>c (f+1) g⟩
def Dl:∀{a:Lt<|jA×jA},tl a r->kj a r=Y:=λ{a}=>lO (λ_=>U) (λ_ d c=>λb=>(aA b.A.1).a<|c b.A.2) a
def nK.A{e a f:jA}(c:nK ((r,e)::d))(g:d[b]?=V (a,f)):r≠a/\nK d:=⟨(db.a c).1 a<|am.b<|jO _ (aa g) U,(db.a c).2⟩
def HS{c:jA}:∀{b:Nat},nK d->d[b]?=V (r,c)->kj d r=V c:=by induction d with|nil=>exact λ_ a=>kh a|cons g h f=>exact λ{b} e a=>by cases b with|zero=>obtain rfl:=aY a;exact aC U|succ b=>exact(aA (nK.A e a).1).a<|f (nK.A e a).2 a
def Dm(b:jA):∀{a:List<|jA×jA},tl a r->kF a r b=a++[(r,b)]:=λ{a}=>lO (λ_=>U) (λ_ e d=>λc=>(aA c.A.1).a<|aB _<|d c.A.2) a
def Sh{c e:jA}:∀{b:Nat},nK d->d[b]?=V (r,e)->(kF d r c).map (·.1)=d.map (·.1):=by induction d with|nil=>exact λ_ a=>kh a|cons h f i=>exact λ{b} g a=>by cases b with|zero=>obtain rfl:=aY a;exact(aB (ey _) (aC U:kF ((r,e)::f) r c=_::f)).a U|succ b=>exact(aB (ey _)<|aA (nK.A g a).1).a (aB (h.1::·)<|i (nK.A g a).2 a)
def q9(a c:jA)(b:List<|jA×jA):La (kF b a c)<=La b+1:=lO (al _) (λd e g=>by
 show La (if d.1=a then _::e else _::kF e a c)<=_;by_cases f:d.1=a;.rw[aC f];exact bm _
 .rw[aA f];exact bb g) b
section
variable{a b:jA}{c:bB}
def mL.G(h:kP r=aj)(j:jZ i k r f)(l:jZ i k a c):∀{d:List<|jA×jA}{e:List dM},mL i k d e->mL i k (d++[(r,a)]) (e++[⟨nd r,f,c⟩]):=by intro d;induction d with|nil=>exact λg=>jL (g).b<|qx f c [] U h j l U|cons _ g m=>exact λb=>b.a λf b=>b.a λc b=>vm b λn o p q s t=>qx f c (n++_) (jx o U) p q s<|m t
def mL.H(p:jZ i k a c):∀{m:List dM}{g:Nat},mL i k d m->nK d->d[g]?=V (r,b)->mL i k (kF d r a) (m.modify g λe=>{e with val:=c}):=by induction d with|nil=>intro _ _ _ _ e;exact kh e|cons q C s=>intro _ g h n e;obtain⟨j,o⟩:=q;cases g with|zero=>cases e;refine ka λt=>wk h λf _ l u j o _ v=>?_;subst u;apply t;show mL i k (if r=r then _ else _) _;exact jx (aC U)<|qx f c l U j o p v|succ g=>show mL i k (if j=r then _ else _) _;exact jx (aA (nK.A n e).1)<|h.a λf h=>h.a λw h=>vm h λl x y z A B=>qx f w (l.modify g λe=>{e with val:=c}) (jx x U) y z A<|s B (nK.A n e).2 e
def Si(k:n.Pairwise λf c=>¬f=c)(a:r∉n):(n++[r]).Pairwise (λf c=>¬f=c):=fU.b ⟨k,cD ..,λg b h d=>jx (ak.a d) λe=>a<|kg e b⟩
end
section
noncomputable def Dn(j:Lt dM)(a:Int):Nat->Bool:=λb=>((Lc j)[b]?.map (·.hash))==V a
def Sj(d:List<|jA×jA)(r:jA)(c:Nat)(e:Option Nat):=(e=Y/\∀a b,a<c->d[a]?≠V (r,b))\/∃a b,e=V a/\a<c/\d[a]?=V (r,b)
def vy(j:Lt dM)(d:Lt<|jA×jA)(r:jA)(c:Prop)(e:Lt Nat)(b:Op Nat):=(Lh b=aj->c)/\∃a,e=(fw a<|Lb (Lc j)-a).filter (Dn j<|nd r)/\a<=Lb (Lc j)/\Sj d r a b
def HT(a:mL i e.heap d j){c:jA}(f:d[b]?=V (r,c)):Dn j (nd r) b=aj:=(a.B f).a λg h=>jU h λg k l=>by unfold Dn;rw[cw,k];exact aI _
theorem vy.A{h:Prop}(p:mL i e.heap d j)(E:nK d){n:List Nat}{k:Option Nat}(c:vy j d r h (b::n) k):∃g q s u,d[b]?=V (g,q)/\(Lc j)[b]?=V ⟨nd g,s,u⟩/\kP g=aj/\jZ i e.heap g s/\(g=r->k=Y/\(h->vy j d r h n (V b)))/\(g≠r->vy j d r h n k):=by
 revert p E;revert i e j d r h b n k;apply vl;generalize kZ.1.1.1.1=b,kZ.1.1.1.2=d,kZ.1.1.2=e,kZ.1.2.1=i,kZ.1.2.2=j,kZ.2.1.1=r,kZ.2.1.2=h,kZ.2.2.1=n,kZ.2.2.2=k;intros;refine ka λv=>?_;obtain⟨H,I,J,K,w⟩:=c;refine x7 (filter_range'_cons _ _ _ _ _ J.b) λF G R L x=>?_;have M:Lb (Lc j)=La d:=jx cy<|jx p.A U;apply v;rw[gw K]at G x;have y:=G;refine ka λv=>?_;obtain⟨⟨g,q⟩,o⟩:∃l,d[b]?=V l:=⟨_,aq<|kg M y⟩;refine qc (p.B o) λs u N O P _=>?_;have z:k=Y->∀a A,a<b->d[a]?≠V (r,A):=λm a A B f=>by
  rcases w with⟨_,z⟩|⟨_,_,C,_⟩;.
   rcases hV a I with c|c;.exact z a A c f
   .exact av<|(L a c B).b.a<|HT p f
  .exact mh m C
 refine v<|Q8 g q s u o (jx (cw) N) O P (λt=>⟨?_,λQ=>⟨λS=>Q,b+1,x,y,.inr<|lP b q U (bN b)<|jL t o⟩⟩) λt=>⟨H,b+1,x,y,?_⟩;.
  rcases w with⟨m,_⟩|⟨a,l,_,D,f⟩;.exact m
  .exact a' (nK.B E f<|jL t o)<|bF<|au D F
 .rcases w with⟨m,_⟩|⟨a,l,C,D,f⟩;.
   refine .inl ⟨m,λa l B f=>?_⟩;rcases hV a b with c|c;.exact z m a l c f
   .cases cC (cg B) c;exact t<|aB ca<|aY<|o.b.a f
  .exact .inr<|lP a l C (dA<|aX (bL D) F) f
def vy.B{l:Prop}(m:mL i e.heap d j){g:Option Nat}(c:vy j d r l [] g):(g=Y/\tl d r)\/∃a b,g=V a/\l/\d[a]?=V (r,b):=by
 obtain⟨q,h,s,y,t⟩:=c;refine t.c (λc=>⟨c.1,λa b k=>?_⟩) λu=>pK u λa b v=>v.elim λn w=>w.elim λz x=>lP a b n (q<|jx n U) x;rcases hV a h with f|f;.exact c.2 a b f k
 .have o:=(ag.a k).1;have p:a∈(fw h<|Lb (Lc j)-h).filter _:=ar.b ⟨acM.b ⟨f,by rw[cy,m.A];exact hM o (Nat.add_sub_of_le<|bL<|aZ f o).b⟩,HT m k⟩;rw[<-s]at p;exact a' p ac
def Az(x:mL i e.heap d j)(C:nK d)(g:Option Nat->T)(y:Nat->T)(s:Prop)(z:Nat->T->hB (ForInStep T)){o:T->bG->Prop} (D:∀h c k p t (q:ForInStep T->bG->Prop),(Lc j)[h]?=V ⟨nd k,p,t⟩->kP k=aj->jZ i e.heap k p->(k=r->c=Y/\q (.done<|y h) e/\(s->q (.yield<|g<|V h) e))->(k≠r->q (.yield<|g c) e)->ay kc l (z h<|g c) q a e) (E:tl d r->o (g Y) e) (A:∀m (u:jA),d[m]?=V (r,u)->(s->o (g<|V m) e)/\o (y m) e):ay kc l (forIn (hJ (Lb (Lc j)) (λF=>(Lc j)[F]?.map (·.hash))<|nd r) (g Y) z) o a e:=by
 refine fa _ (λB v w=>w=e/\∃c,v=g c/\vy j d r s B c) _ (λh B v w f=>?_) (λv w f=>?_) _ _ ⟨U,Y,U,(λf=>lf f),0,by simp only[hJ,jk,Nat.sub_zero];rfl,bT _,.inl ⟨U,λG G f=>a' f<|en _⟩⟩;.exact f.1.b▸jU f.2 λc H I=>H▸(I.A x C).a λk b=>b.a λJ b=>b.a λp b=>b.a λt b=>D h c k p t _ b.2.1 b.2.2.1 b.2.2.2.1 (λn=>⟨(b.2.2.2.2.1 n).1,(A h J<|jL n b.1).2,λK=>⟨U,_,U,(b.2.2.2.2.1 n).2 K⟩⟩) λn=>⟨U,_,U,b.2.2.2.2.2 n⟩
 .exact kd f.1<|jU f.2 λc L M=>jx L<|(M.B x).a (λb=>jx b.1<|E b.2) λb=>b.a λm b=>li b λu N O P=>jx N<|(A m u P).1 O
def yt{m:bB}{c:jA}{h:T->bG->Prop}{k:Nat->Bool->Nat->hB T}(o:l.units<=9600)(n:Ln e.heap g=V (eF j b))(p:kP r=aj)(q:jZ i e.heap r f)(s:kP c=aj)(t:jZ i e.heap c m) (u:c=r->ay kc l (k b aj b) h a e) (v:c≠r->ay kc l (k b ah b) h a e):ay kc l (dictEpoch g (keyPart f)>>=λw=>eqBool m f>>=λx=>dictEpoch g (keyPart f)>>=λy=>k w x y) h a e:=jK (e' n U (jK (Dk o t q s p (jK (e' n U (by
 by_cases d:c=r;.exact jx (aD d)<|u d
 .exact jx (aG d)<|v d))))))
def Sk(p:l.units<=9600)(q:Ln e.heap g=V (eF j b))(s:mL i e.heap d j)(t:nK d)(u:kP r=aj)(v:jZ i e.heap r f)(w:tl d r->κ Y e) (x:∀c (k:jA),d[c]?=V (r,k)->κ (V c) e):ay kc l (dictWalkPlain g f (nd r) (Lc j) (hJ (Lb (Lc j)) (λy=>(Lc j)[y]?.map (·.hash))<|nd r)) κ a e:=by
 refine jK<|Az s t (λF=>_) (λc=>(V _,())) False _ (λG H z I J K A B C D o=>?_) (λm=>ai<|w m) λc k m=>⟨λE=>E.elim,ai<|x c k m⟩;refine jx A ?_;by_cases n:(nd z==nd r)=aj;.
  apply qy n;refine yt p q u v B C (λh=>?_) λh=>?_<;>refine lJ (jx (aQ ..) av) ?_;.exact jx (aC U)<|jK<|dZ<|ai (D h).2.1
  .exact jx (aA av)<|jK<|dZ<|ai<|o h
 .exact lJ n<|ai<|o λh=>n<|jx h<|aI _
end
section
variable{c:jA}{h:bB}
def wx{b:Prop}[Decidable b]{f g:hB T}{d:T->bG->Prop}(h:b->ay kc l f d a e)(i:¬b->ay kc l g d a e):ay kc l (if b then f else g) d a e:=by
 by_cases c:b;.exact jx (aC c)<|h c
 .exact jx (aA c)<|i c
def nt(a:S=ah):¬S=aj:=λb=>av<|a.b.a b
def Do{c:Prop}[Decidable c]{b:Bool->hB T}{d:T->bG->Prop}(j:jZ i e.heap r f)(k:kP r=aj)(m:∀h∈y,∃r,jZ i e.heap r h/\kP r=aj)(g:ay kc l (b ah) d a e):ay kc l (if c then er ah>>=b else act f y>>=b) d a e:=by
 split;.exact jK<|ai g
 .exact jK<|Sg j k m g
def Sl(m:kP r=aj)(k:jZ i e.heap r f){d:Prop}(n:∀h a,r=.C h->f=.str h a->d)(o:∀j a,f=.int j a->d)(p:∀l,f=.ref l->d):d:=sD (τ:=λq=>r=q->d) (λh g c=>(jL c k:jZ i e.heap (.C h) f).a λa b=>n h a c b) (λj c=>(jL c k:jZ i e.heap (.B j) f).a λa b=>o j a b) (λg s g g c=>(jL c k:jZ i e.heap (.E s) f).a λl b=>b.a λg b=>jU b λg t u=>p l t) r m U
theorem Dp(G:l.units<=9600)(C:Ln e.heap g=V (eF j b))(x:mL i e.heap d j)(J:nK d)(v:kP r=aj)(w:jZ i e.heap r f)(H:tl d r->κ Y e)(y:∀o (c:jA),d[o]?=V (r,c)->κ (V o) e):ay kc l (dictFind g f<|nd r) κ a e:=by
 revert l i a e j d r f g b κ;apply CM;generalize mR.1.1.1.1=a,mR.1.1.1.2=b,mR.1.1.2=d,mR.1.2.1.1=e,mR.1.2.1.2=f,mR.1.2.2=g,mR.2.1.1.1=i,mR.2.1.1.2=j,mR.2.1.2=l,mR.2.2.1=r,mR.2.2.2=κ;intros;have O:∀c∈(hJ (Lb (Lc j)) (λz=>(Lc j)[z]?.map (·.hash))<|nd r).filterMap (λz=>(Lc j)[z]?.map (·.key)),∃p,jZ i e.heap p c/\kP p=aj:=λc B=>by refine jU (cV.a B) λz _ θ=>jU (bO.a θ) λk K ι=>?_;subst ι;refine qc (x.C<|cw.b.a K) λp _ _ _ u Q=>?_;exact jO p Q u
 have R:=Sk G C x J v w (a:=a) H y;have S:∀L,f=.ref L->¬((Lc j).any λk=>k.key==f&&k.hash !=nd r)=aj:=λL m n=>by rw[<-gI,eC]at n;refine jU n λk T n=>?_;obtain⟨o,W⟩:=cF.a T;refine qc (x.C W) λp X _ q u Q=>?_;rw[az,aE,bne_iff_ne]at n;exact n.2<|jx q<|jx (jZ.I 5 p u 5 r f v (kg n.1 Q) w) U
 refine bu<|jK<|dD C U<|Sl v w (λh Z μ k=>?_) (λz Z k=>?_) λL k=>?_;.
  subst k;by_cases α:((Lc j).all λk=>isExactStrKey k.key)=aj;.apply qy α;subst μ;exact(by unfold foundByValue;cases M:(Lc j).findIdx? (λk=>k.key.isStr h)with|none=>refine ai<|H λo c W=>?_;obtain⟨σ,τ,T,_,⟨υ,ν⟩,_⟩:=x.B W;rw[jd,List.findIdx?_eq_none_iff]at M;have β:=M _<|aa T;rw[ν]at β;exact av<|β.b.a<|aI h|some z=>rw[jd]at M;refine ka λξ=>?_;obtain⟨ο,D,_⟩:=du.a M;have K:=aq ο;refine qc (x.C K) λp X π q u γ=>?_;have δ:=sD (τ:=λp=>jZ i e.heap p j[z].key->p=.C h) (λN m n=>n.a λm n=>by rw[n]at D;rw[show N=h from aE.a D]) (λm n=>n.a λm n=>by rw[n]at D;exact lf D) (λm m m m n=>n.a λm n=>n.a λm n=>jU n λm ρ φ=>by rw[ρ]at D;exact lf D) p u γ;apply ξ;dsimp only;exact jx (cw)<|jx K<|yt G C v ⟨Z,U⟩ u γ (λk=>lJ (jx (aQ ..) av)<|qy U<|jK<|dZ<|ai<|y z X<|jL δ π) λk=>a' δ k)
  .refine lJ α<|wx (λm=>R) λm=>Do w v O<|lJ (nt U)<|jK<|Az x J (λF=>_) (λo=>(V _,Y)) True _ (λN F p ε ζ η I u B s A=>?_) (λt=>ai<|H t) λo c t=>⟨λm=>ai<|y o c t,ai<|y o c t⟩;refine jx I ?_;by_cases q:(nd p==nd r)=aj;.
    refine qy q ?_;refine yt G C v w u B (λk=>?_) λk=>?_<;>apply lJ<|nt<|aQ b;.exact qy U<|lJ (nt<|(aB gr (s k).1).a U)<|jK<|dZ<|wx (λm=>ai<|(s k).1.b▸(s k).2.1) λm=>ai<|(s k).2.2 aH
    .exact lJ av<|jK<|dZ<|lJ (nt U)<|ai<|A k
   .exact lJ q<|ai<|A λk=>q<|k▸aI _
 .subst k;refine wx (λm=>R) λm=>Do w v O<|lJ (nt U)<|jK<|Az x J (λF=>_) (λo=>(V _,Y)) True _ (λN F p ε ζ η I u B s A=>?_) (λt=>ai<|H t) λo c t=>⟨λm=>ai<|y o c t,ai<|y o c t⟩;refine jx I ?_;by_cases q:(nd p==nd r)=aj;.
   refine qy q ?_;refine yt G C v w u B (λk=>?_) λk=>?_<;>apply lJ<|nt<|aQ b;.exact qy U<|lJ (nt<|(aB gr (s k).1).a U)<|jK<|dZ<|wx (λm=>ai<|(s k).1.b▸(s k).2.1) λm=>ai<|(s k).2.2 aH
   .exact lJ av<|jK<|dZ<|lJ (nt U)<|ai<|A k
  .exact lJ q<|ai<|A λk=>q<|k▸aI _
 .have S:=S L k;subst k;refine wx (λm=>R) λm=>lJ S<|Do w v O<|lJ (nt U)<|jK<|Az x J (λF=>(Y,F)) (λo=>(V<|V o,Y)) True _ (λN F p ε ζ η I u B s A=>?_) (λt=>ai<|H t) λo c t=>⟨λm=>ai<|y o c t,ai<|y o c t⟩;refine jx I ?_;by_cases q:(nd p==nd r)=aj;.
   refine qy q ?_;refine yt G C v w u B (λk=>?_) λk=>?_<;>apply lJ<|nt<|aQ b;.exact qy U<|lJ (nt<|(aB gr (s k).1).a U)<|jK<|dZ<|wx (λm=>ai<|(s k).1.b▸(s k).2.1) λm=>ai<|(s k).2.2 aH
   .exact lJ av<|jK<|dZ<|lJ (nt U)<|ai<|A k
  .exact lJ q<|ai<|A λk=>q<|k▸aI _
end
section
variable{c:jA}{h:bB}
def AA(m:l.units<=9600)(n:Ln e.heap g=V (eF j b))(o:mL i e.heap d j)(p:nK d)(q:kP r=aj)(s:jZ i e.heap r f) (u:∀k,kj d r=Y->z Y {e with toks:=k}) (v:∀k c h,kj d r=V c->jZ i e.heap c h->z (V h) {e with toks:=k}):ay kc l (acB g f) z a e:=by refine bu<|jK<|HQ 5 l r f e _ s q (aZ (bC m 24) jB) λk=>jK<|Dp m n o p q s (λw=>ai<|u k<|Dl w) λC c t=>dP<|dD n U<|ka λx=>qc (o.B t) λh y A _ _ B=>x ?_;exact jx (cw)<|jx A<|ai<|v k c y (HS p t) B
def Dq(u:l.units<=9600)(k:Ln e.heap g=V (eF j (La d)))(b:mL i e.heap d j)(m:nK d)(q:kP r=aj)(s:jZ i e.heap r f)(w:jZ i e.heap c h)(B:La d<16777216) (x:∀t n y,d' g e.heap t->Ln t g=V (eF y (La (kF d r c)))->mL i e.heap (kF d r c) y->nK (kF d r c)->γ () {e with heap:=t,toks:=n}):ay kc l (adK g f h) γ a e:=by
 refine bu<|jK<|HQ 5 l r f e _ s q (aZ (bC u 24) jB) λn=>bu<|jK<|Dp u k b m q s (λo=>?_) λz E p=>?_;.refine jK<|dZ<|wpAny_updateDictKeys (hz:=by simp only[cy,b.A,cU];exact bL B) k U ?_;refine x _ n _ (ch ..) ?_ (jx (Dm c o)<|b.G q s w) (by show((kF d r c).map _).Pairwise _;exact jx (Dm c o)<|jx bK<|Si m λC=>(am.a C).a λD b=>(cF.a b.1).a λz p=>o z D.2<|p.a<|aB V<|bt b.2 U);refine jx (cW _ k U)<|jx (Dm c o) ?_;simp[eF,Obj.mapDictKeys]
 .refine jK<|dZ<|jK<|wpAny_updateDict k U<|wpAny_point ?_;have A:=Sh (c:=c) m p;refine x _ n _ (ch ..) ?_ (b.H w m p) (by show((kF d r c).map _).Pairwise _;rw[A];exact m);refine jx (cW _ k U)<|jL (ab (as:=kF d r c) _)<|jx (A ..)<|jx (ab ..) ?_;simp[eF,Obj.mapDict]
end
section
variable{a:dX}{c:List jA}{e:List (jA×jA)}{h:bB->Prop}{l:bk×bk}
def ki.c_{a:km}(d:ki X i R k)(e:R Z=V a)(g:jZ i k (.A Z) f)(j:∀l,i Z=V l->pr i k a l->h (.ref l.1)):h f:=jU g λl b m=>(d.E Z a e).a λn c=>kd m<|j l b<|kg (aY<|c.1.b.a b) c.2
def ki.B(d:ki X i R k)(e:R Z=V (.A n))(g:jZ i k (.A Z) f)(j:∀l a b,i Z=V l->l.2=l.1->Ln k l.1=V (rs a b)->kf i k n (Lf a)->La n<=16777216->h (.ref l.1)):h f:=d.c_ e g λl m c=>c.a λa c=>oe c λb o p q r=>j l a b m o p q r
def ki.D(b:ki X i R k)(c:R Z=V (.B d))(e:jZ i k (.A Z) f)(g:∀l a,i Z=V l->l.2=l.1->Ln k l.1=V (eF a (La d))->mL i k d a->nK d->La d<=16777216->h (.ref l.1)):h f:=b.c_ c e λl j m=>vm m λa n o p q r=>g l a j n o p q r
def ki.b_(d:ki X i R k)(e:R Z=V (.C g m))(j:jZ i k (.A Z) f)(n:∀l a b,i Z=V l->l.1≠l.2->Ln k l.1=V (Dh g l.2)->Ln k l.2=V (eF a b)->qh i k m a->Le (m.map (·.1))->La m<=500->h (.ref l.1)):h f:=d.c_ e j λl o c=>c.a λa c=>CO c λb p q r s t u=>n l a b o p q r s t u
def ki.g_(d:ki X i R k)(e:R Z=V (.A n))(f:i Z=V l)(g:l.2=l.1)(h:d' l.1 k a)(j:Ln a l.1=V (rs v b))(m:kf i k c (Lf v))(o:La c<=16777216):ki X i (jE R Z<|.A c) a/\lC lM i k i a:=d.f_ e f kr h (λp=>pL v b g j (m.G p) o) nofun
def ki.h_(b:ki X i R k)(c:R Z=V (.B d))(f:i Z=V l)(g:l.2=l.1)(h:d' l.1 k a)(m:Ln a l.1=V (eF j (La e)))(n:mL i k e j)(o:nK e)(p:La e<=16777216):ki X i (jE R Z<|.B e) a/\lC lM i k i a:=b.f_ c f kr h (λq=>(rV j g m (n.D (·.A q)) o p)) nofun
def ki.M(a:ki X i R k)(b:i Z=V l):Ln nl l.1=Y:=a.L.E (a.G Z l b).1
end
def nS(a:Ln k g=V (rs v b)):k.IsList g v:=⟨_,a,U,b,U⟩
def nu(a:Ln e.heap g=V (eF j b)):e.TypeIs (.ref g) "dict":=jO _ a U
def tm(a:Ln nl g=Y):(g==gm)=ah:=aR.b λb=>qg.C.a λd c=>mh a<|jx b c
section
variable{a:ko}
def qD{l j:jA}(o:t j a.A)(p:∀f b c g h (i:bB->bG->Prop) k,mB S a.B a.D f->ki a.B b a.A c.heap->jZ b c.heap r g->jZ b c.heap l h->(∀d e,lR c e->jZ b e.heap j d->i d e)->ay kc f (μ g h) i k c):lm S (mm μ) [r,l] a t:=by intro f b c x i k q m d s;apply d.E;intro g h u v;exact p f b c g h i k q m u v λd e n w=>s j _ d b e o (m.H n.B) (.C n) w
def HU{k:bB->hB bB}{i:jA}(n:t i a.A)(o:∀f b c g (h:bB->bG->Prop) j,mB S a.B a.D f->ki a.B b a.A c.heap->jZ b c.heap r g->(∀d e,lR c e->jZ b e.heap i d->h d e)->ay kc f (k g) h j c):lm S (wv k) [r] a t:=by intro f b c v h j p l d q;apply d.B;intro g s;exact o f b c g h j p l s λd e m u=>q i _ d b e n (l.H m.B) (.C m) u
def un(k:O σ a.A)(l:∀d c b e (f:Bool->bG->Prop) h,mB S a.B a.D d->ki a.B c a.A b.heap->jZ c b.heap r e->(∀g,lR b g->f σ g)->ay kc d (truthy e) f h b):rx S r a O:=λd c b e f h m i n o=>l d c b e f h m i n λg j=>o σ _ c g k (i.H j.B)<|.C j
def wy(c:qz N=ah)(a b:bB):subscripted N ah a b=operate [a,b] (getItem a b):=by cases N<;>first|rfl|(exact ot c;done)
noncomputable def qi(a:Lt T)(b:Int):Op T:=(ej b (La a)).bind (a[·]?)
theorem AB(a:ej w b=V α):(w<0/\0<=w+b/\α=Lg (w+b)/\α<b)\/(0<=w/\w<b/\α=Lg w/\α<b):=by
 revert w b α;apply q3;generalize mj.1.1=b,mj.1.2=α,mj.2=w;intros;unfold ej at a;by_cases f:w<0;.
  rw[aC f]at a;by_cases c:(ba (0<=w+(b:Int))&&ba (w+(b:Int)<(b:Int)))=aj;.obtain⟨d,e⟩:=(az ..).mp c;exact .inl ⟨f,aF d,(aY<|(aC c).b.a a).b,aY ((aC c).b.a a)▸(aec<|aF d).b (aF e)⟩
  .exact nomatch(aA c).b.a a
 .rw[aA f]at a;by_cases c:(ba (0<=w)&&ba (w<(b:Int)))=aj;.obtain⟨d,e⟩:=(az ..).mp c;exact .inr ⟨aF d,aF e,(aY<|(aC c).b.a a).b,aY ((aC c).b.a a)▸(aec<|aF d).b (aF e)⟩
  .exact nomatch(aA c).b.a a
def HV(a:0<=w+b)(c:b<=16777216):-(2^63)<=w:=by lia
def Dr(a:w<b)(c:b<=16777216):w<2^63:=Int.lt_of_lt_of_le a<|fk (fC.b c) jB
def HW(d:ej w b=V α)(c:b<=16777216):-(2^63)<=w/\w<2^63:=(AB d).a (λa=>⟨HV a.2.1 c,aee a.1 jB⟩) λa=>⟨fk jB a.1,Dr a.2.1 c⟩
def Sm(m:a.A Z=V (.A n))(c:qi n w=V r)(o:t r a.A)(p:cL)(j:cL)(q:qz j=ah):lm S (mm<|eE p j) [.A Z,.B w] a t:=qD o λD E s F G H I J u v d x=>by
 revert d;apply u.B m v;intro K L M N _ y e k d;apply d.B;intro O;refine ka λz=>jU (bD.a c) λP A c=>jU (e.F c) λB f C=>z ?_;rw[bl]at f;have l:=x B s (.C _) C;have g:=nS y;refine gf g.typeIs slot_list_getitem.lookup ?_<|wy q ..;rcases AB A with⟨h,b,i,_⟩|⟨h,b,i,_⟩;.exact wpAny_getItem_list_neg g h (jx e.A<|Int.add_nonneg_iff_neg_le.a b) (HV b k) (jx e.A<|jL i f) l
 .exact wpAny_getItem_list g h (Dr b k) (jL i f) l
def Sn(b:qi n w=V r)(g:t r a.A)(h:cL)(c:cL)(i:qz c=ah):lm S (mm<|eE h c) [.E n,.B w] a t:=qD g λv x j y z A B C D k l m=>by apply k.D;intro E F G o d p;apply l.B;intro H;refine jU (bD.a b) λI e b=>jU (d.F b) λq s u=>?_;have f:=HW e p;exact item_tupleT (vx o) f.1 f.2 (jx d.J e) s (m q j (.C _) u)<|wy i ..
def So(c:(ej w (Ld o)).bind (o.cps[·]?)=V b)(e:Ld o<=16777216)(f:t (.C ⟨#[b]⟩) a.A)(g:cL)(d:cL)(h:qz d=ah):lm S (mm<|eE g d) [.C o,.B w] a t:=qD f λr s i u v x y z A j k l=>by apply j.C;intro m;apply k.B;intro B;refine jU (bD.a c) λC n _=>?_;obtain⟨p,q⟩:=HW n e;refine gf (adm i o m) slot_str_getitem.lookup (P.getItem_str ?_ c<|l _ _ (.A ..) ⟨_,U⟩)<|wy h ..;exact(cf ..).b ⟨aG<|fS.b p,aG<|hN.b q⟩
def Sp{f:jA}(j:a.A Z=V (.B d))(k:kP r=aj)(g:kj d r=V f)(l:t f a.A)(m:cL)(h:cL)(n:qz h=ah):lm S (mm<|eE m h) [.A Z,r] a t:=qD l λA B o C p D E q s u c v=>by revert c;apply s.D j u;intro w F G _ b x y _ c;refine gf (nu b) eX.lookup (bu<|jK<|fL (nu b) jB<|jK<|cq (nu b) eX<|bq eX (nu b) adr ?_<|adL ..)<|wy n ..;show ay _ _ (acB w.1 p>>=_) _ _ o;exact jK<|AA (bL q.B) b x y k c (λH e=>mh e g) λI J i e z=>ai<|jO i U<|ai<|v i _ (.A ..)<|jx (aY<|g.b.a e) z
section
def HX(a:cj)(b:Tok):(hT a b).isStr a=aj:=aI a
def Ds(a:b<La nR)(c:α<La nR)(k:¬α=b)(d:Tok):(hT (lU α) d).isStr (lU b)=ah:=aR.b λe=>k<|Rd c a e
def Sq(a:cj)(b:Int)(c:Tok)(f:bB)(d:List dM):acy a (⟨b,.str a c,f⟩::d)=V (V f):=by unfold acy;simp only[add,HX]
def HY{a:cj}(d:Int)(b:Tok)(f:bB)(c:List dM)(k:(hT a b).isStr o=ah):acy o (⟨d,.str a b,f⟩::c)=acy o c:=by unfold acy;exact jx (add)<|jx k<|jx List.any_cons U
def qh.C(j:b<La nR):∀{g:List dM},qh i k m g->Lj b m=V r->∃f,acy (lU b) g=V (V f)/\jZ i k r f:=by
 induction m with
 |nil=>exact λ_ a=>kh a|cons d m l=>
  exact λc a=>c.a λn c=>c.a λo c=>oe c λt h p q s=>by
   by_cases e:d.1=b;.subst e;have a:V d.2=V r:=gd.b.a a;exact jO n (h▸Sq ..)<|aY a▸q
   .have a:(bif b==d.1 then V d.2 else Lj b m)=V r:=bx.b.a a;rw[aM<|ha e]at a;exact jx h<|jx (HY _ _ _ _<|Ds j p e o)<|l s a
def qh.A(g:b<La nR):∀{f:Lt dM},qh i k m f->Lj b m=Y->acy (lU b) f=V Y:=by
 induction m with
 |nil=>exact λa _=>jx (show _=[] from a) U|cons e m h=>
  exact λa c=>a.a λp a=>a.a λj a=>oe a λq l n r o=>by
   have d:¬e.1=b:=λd=>by subst d;exact a' (gd.b.a c) jB
   have c:(bif b==e.1 then V e.2 else Lj b m)=Y:=bx.b.a c;rw[aM<|ha d]at c;exact jx l<|jx (HY _ _ _ _<|Ds g n d j)<|h o c
end
def wz:jA->Bool|.G _=>ah|_=>aj
def Sr(b:jZ i k r f)(c:wz r=aj):hK f=aj:=by cases r with|G _=>exact lf c|D=>exact b.K (m:=λf=>hK f=aj) U|F _=>exact b.J (m:=λf=>hK f=aj) U|B _=>exact b.B (m:=λf=>hK f=aj) λa=>U|C _=>exact b.C (m:=λf=>hK f=aj) λa=>U|E _=>exact b.D (m:=λf=>hK f=aj) λa a a a a a=>U|A _=>exact b.H (m:=λf=>hK f=aj) λa a=>U
def yu{a:ga}(e:q4 a g=aj):ad1 a g=aj/\hw a g gO=aj/\ad0 a g=aj/\dk a (.ref g) "__setattr__"=V (V<|.builtin "object.__setattr__"):=by have b:=(az ..).mp e;have c:=(az ..).mp b.1;have d:=(az ..).mp c.1;exact mz d.1 d.2 c.2<|aE.a b.2
def HZ{a:ga}(f:tf a g b=aj):(∃c,dk a (.ref g) (lU b)=V c/\noGet a c=aj)/\takerIn a g (lU b)=V Y:=by refine((az ..).mp f).elim λd h=>⟨?_,aE.a h⟩;cases e:dk a (.ref g) _ with|none=>rw[e]at d;exact lf d|some c=>rw[e]at d;exact jO c U d
def H0(h:a.A Z=V (.C g m))(i:Lj b m=V r)(c:q4 kH g=aj)(j:tf kH g b=aj)(k:wz r=aj)(l:t r a.A)(n:b<La nR):lm S (wv λd=>acz d (lU b) aj) [.A Z] a t:=HU l λB C o d D E F e p q=>by apply e.b_ h p;intro s G H _ _ u v w _ _;exact jU (w.C n i) λx y f=>jU ((HZ j).1) λI z A=>get_value (qg.A.keeps e.F.A) (show jf o.heap s.1 _ g<|V _ from⟨u,U,U,v⟩) (iV (yu c).2.1).1 (findObj_own (yu c).1 z A y) (Sr f k)<|q x _ (.A ..) f
def Ss(k:a.A Z=V (.C g m))(l:Lj b m=Y)(e:q4 kH g=aj)(n:copiedNames.contains (lU b)=ah)(o:wo kH g b=V w)(p:t (.B w) a.A)(q:b<La nR):lm S (wv λf=>acz f (lU b) aj) [.A Z] a t:=HU p λB C s f D E F h u v=>by apply h.b_ k u;intro x G H _ _ y z A _ _;obtain⟨c,d⟩:∃c,dk kH (.ref g) (lU b)=V (V<|.int w c):=(bD.a o).a λI i=>(bD.a i.2).a λr j=>(yb j.2).b λc d=>i.1.a<|aB V<|j.1.a<|aB V d;exact get_value (qg.A.keeps h.F.A) (show jf s.heap x.1 _ g<|V _ from⟨y,U,U,z⟩) (iV (yu e).2.1).1 (findObj_cls (yu e).1 d (by rfl) U n<|A.A q l) U<|v _ _ (.A ..) ⟨_,U⟩
end
section
variable{b:ko}{c:jF}{g:Lt jA}
def uo{k:jA}(l:t k b.A)(m:∀h (e:bG)(f:bB->bG->Prop) i a c,(∀g d,lR e d->(∀j,jZ j d.heap k g)->f g d)->ay kc h (μ (.int w a)<|.int φ c) f i e):lm S (mm μ) [.B w,.B φ] b t:=qD l λh j e q s f i n n a c r=>by apply a.B;intro a;apply c.B;intro c;exact m h e f i a c λg d o p=>r g d o<|p j
def Su(c:t (.B<|w+φ) b.A):lm S (mm<|fi .Add) [.B w,.B φ] b t:=uo c λa a a a a a r=>P.add_int<|r _ _ (.A ..) λa=>⟨_,U⟩
def Sv(c:t (.B<|w-φ) b.A):lm S (mm<|fi .Sub) [.B w,.B φ] b t:=uo c λa a a a a a r=>P.sub_int<|r _ _ (.A ..) λa=>⟨_,U⟩
def Sw(c:φ≠0)(d:t (.B<|w.fmod φ) b.A):lm S (mm<|fi .Mod) [.B w,.B φ] b t:=uo d λa a a a a a r=>mod_int' c<|r _ _ (.A ..) λa=>⟨_,U⟩
def Sx(c:φ≠0)(d:dh w φ=ah)(e:t (.B<|w.fdiv φ) b.A):lm S (mm<|fi .FloorDiv) [.B w,.B φ] b t:=uo e λa a a a a a r=>floordiv_int c (r _ _ (.A ..) λa=>⟨_,U⟩)<|.inl d
def H1(a:(Ld o==0)=aj):o=iw #[]:=aB iw<|Array.eq_empty_of_size_eq_zero<|aE.a a
def Sz(a:cj):iw #[]++a=a:=aB iw<|Array.empty_append
def SA(a:cj):a++iw #[]=a:=aB iw<|Array.append_empty
def AC(a b:cj):Ld (a++b)=Ld a+Ld b:=Array.size_append
def SD{a:cj}(f:Ld o+Ld a<=16777216)(g:t (.C<|o++a) b.A):lm S (mm<|fi .Add) [.C o,.C a] b t:=qD g λm n e p q s u h h i j r=>by
 apply i.C;intro k;apply j.C;intro l;apply P.add_str;by_cases c:(Ld o==0)=aj;.exact jx (aC c)<|r _ e (.C _) ⟨l,jx (H1 c)<|jx (Sz ..) U⟩
 .refine jx (aA c) ?_;by_cases d:(Ld a==0)=aj;.exact jx (aC d)<|r _ e (.C _) ⟨k,jx (H1 d)<|jx (SA ..) U⟩
  .exact jx (aA d) ⟨by show Ld (o++a)<=_;simp only[AC,cU];exact f,r _ _ (.A ..) ⟨_,U⟩⟩
def SE(c:t (.F<|ba<|w<φ) b.A):lm S (mm<|dg .Lt) [.B w,.B φ] b t:=uo c λa d a a a a r=>P.lt_int<|r _ d (.C _) λa=>U
def SF(c:t (.F<|ba<|φ<w) b.A):lm S (mm<|dg .Gt) [.B w,.B φ] b t:=uo c λa d a a a a r=>P.gt_int<|r _ d (.C _) λa=>U
def SG(c:t (.F<|ba<|φ<=w) b.A):lm S (mm<|dg .GtE) [.B w,.B φ] b t:=uo c λa d a a a a r=>P.ge_int<|r _ d (.C _) λa=>U
def wA(e:jC)(f:jA)(b:adw):=adt b=aj/\∀g c a d,ki g c e a->jZ c a f d->∃h,ada a d b h
def oy(n:Lt jA):Bool:=n.all<|lK 4
def AD(c:kP r=aj):wA b.A r<|m6 r:=⟨ys c,λa a a d a e=>jZ.G 5 r d e c⟩
def wB(c:b.A Z=V (.A n))(a:oy n=aj):wA b.A (.A Z)<|.list<|rZ n:=⟨(az ..).mpr ⟨(Dj (Ax 4) n a).1,aD<|aX (bb (Dj (Ax 4) n a).2) jB⟩,λi j k l d e=>by apply d.B c e;intro m o p _ _ f g _;exact(g.m_ a).a λq h=>⟨_,.list f U U h⟩⟩
def H2{a c:jA}{d e:adw}(f:wA b.A a d)(g:wA b.A c e)(i:dQ d e=σ)(j:t (.F σ) b.A):lm S (mm<|dg .Eq) [a,c] b t:=qD j λp q k s u v w l h a c r=>(f.2 _ _ _ _ h a).a λm n=>(g.2 _ _ _ _ h c).a λm o=>SeqAt.compareEq_shaped n o f.1 g.1 l.B<|jx i<|r _ k (.C _) U
def H3{a c:jA}{d e:adw}(f:wA b.A a d)(g:wA b.A c e)(i:dQ d e=σ)(j:t (.F (!σ)) b.A):lm S (mm<|dg .NotEq) [a,c] b t:=qD j λp q k s u v w l h a c r=>(f.2 _ _ _ _ h a).a λm n=>(g.2 _ _ _ _ h c).a λm o=>SeqAt.compareNe_shaped n o f.1 g.1 l.B<|jx i<|r _ k (.C _) U
def Dt(a:oy n=aj)(b:oy g=aj):dQ (.list<|rZ n) (.list<|rZ g)=ba (n=g):=gc.b<|(HL (HO 4) n a 4 g b).c aO.symm
def SH{d:jA}(l:wz d=aj)(h:Bool)(i:gh)(k:(i=.Is/\h=ba (d=.D))\/(i=.IsNot/\h=!ba (d=.D)))(m:t (.F h) b.A):lm S (mm<|dg i) [d,.D] b t:=qD m λo p f a q s u v w e n r=>by
 subst n;by_cases j:d=.D;.
  subst j;subst e;rcases k with⟨rfl,rfl⟩|⟨rfl,rfl⟩<;>rw[aD U]at r;.exact wpAny_is_self U<|r _ f (.C _) U
  .exact wpAny_isNot_self U<|r _ f (.C _) U
 .have g:a≠.none/\ik a .none=aj:=by cases d with|D=>exact a' U j|G _=>exact lf l|F _=>exact e.J (m:=λa=>a≠.none/\ik a .none=aj) ⟨jB,U⟩|B _=>exact e.B (m:=λa=>a≠.none/\ik a .none=aj) λc=>⟨jB,U⟩|C _=>exact e.C (m:=λa=>a≠.none/\ik a .none=aj) λc=>⟨jB,U⟩|A _=>exact e.H (m:=λa=>a≠.none/\ik a .none=aj) λc c=>⟨jB,U⟩|E _=>exact e.D (m:=λa=>a≠.none/\ik a .none=aj) λc c c c c c=>⟨jB,U⟩
  rcases k with⟨rfl,rfl⟩|⟨rfl,rfl⟩<;>replace r:=aG j▸r;.exact wpAny_is_other g.2 g.1<|r _ f (.C _) U
  .exact wpAny_isNot_other g.2 g.1<|r _ f (.C _) U
def SI:∀a (d:jA),lK a d=aj->lK (a+1) d=aj:=λ{a}=>ue (vv (λc b=>b) λc=>U) (λa f=>vw (λc b=>b) (λc=>U) λc b=>bc.b λe g=>f e<|bc.a b e g) a
open Classical in def SJ(q:l.units<=9500)(k:kf i e.heap n y)(s:jZ i e.heap r f)(u:oy n=aj)(d:kP r=aj):∃h:bB->Bool,(∀b,b∈Lc y->ad7 l.in1 e b f (h b))/\(Lc y).any h=ba (r∈n):=by
 have g:=λa m=>SI 4 a<|bc.a u a m;refine jO (λb=>ba<|jZ i e.heap r b) (λb o=>?_) ?_;.refine jU (k.f_<|List.mem_toArray.a o) λa j p=>?_;show ad7 l.in1 e b f<|ba _;rw[aS.b ⟨λc=>jZ.I 5 a (g a j) 5 r b d p c,λh=>jL h p⟩];intro v w x t z;obtain⟨_,A⟩:=jZ.G 5 a b p<|g a j;obtain⟨_,B⟩:=jZ.G 5 r f s d;exact(keq_at A B (ys<|g a j) (ys d)<|aZ (bC q 66) jB).of_in1 v w x t<|jx (Ay (g a j) d) z
 .rw[gc,<-gI,eC,aP];exact⟨λC=>C.a λb D=>D.elim λo E=>(k.f_ o).a λa c=>kg (jZ.I 5 a (g a c.1) 5 r b d c.2<|aF E) c.1,λm=>(k.k_ m).b λF c=>⟨c.1,aD c.2⟩⟩
def SK(a:b.A Z=V (.A n))(c:oy n=aj)(d:kP r=aj)(e:t (.F<|ba<|r∈n) b.A):lm S (mm<|dg .In) [r,.A Z] b t:=qD e λs u f v w x y g h i j k=>by apply h.B a j;intro z A B _ _ l m _;exact jU (SJ (bL g.E) m i c d) λo p q=>SeqAt.in_listAt o (nS l) p<|jx q<|k _ f (.C _) U
def SM{a:cj}(c:t (.F (!(dJ a o 0 (Ld a) 1).isEmpty)) b.A):lm S (mm<|dg .In) [.C o,.C a] b t:=qD c λf g d h i j k l m o a e=>by apply o.C;intro n;apply a.C;intro p;exact P.in_str<|e _ d (.C _) U
def SN(g:b.A Z=V (.B d))(h:kP r=aj)(i:t (.F (Lh (kj d r))) b.A):lm S (mm<|dg .In) [r,.A Z] b t:=qD i λv w j k x y z l e m n a=>by
 apply e.D g n;intro o A p _ c q s _;refine jK<|bu<|jK<|fr (nu c) hj.lookup<|lJ (jx (ad4 ..) av)<|jK<|wpAny_callSpecialUnlessNone?_slot (nu c) hj<|bq hj (nu c) entry_dict_contains ?_<|args_dict_contains ..;show ay _ _ (acB o.1 k>>=_) _ _ j;refine jK (AA (bL l.B) c q s h m (λu f=>?_) λu B C f D=>?_)<;>replace a:=f▸a;.show ay ..;exact jK<|wpAny_pendingKey_other (tm<|e.M p)<|ai<|jO _ U<|fJ<|ai<|a _ _ (.A ..) U
 .show ay ..;exact ai<|jO _ U<|fJ<|ai<|a _ _ (.A ..) U
def SO{c:Type}{d:hB T}{f:T->c}{g:c->bG->Prop}(i:ay kc l (d>>=λb=>er<|f b) g a e):ay kc l d (λb e=>g (f b) e) a e:=λj k m=>by have h:=i j k m;simp only[Sem.wp_bind']at h;exact h
def SP{i j:jA}(n:lm S (mm<|dg .In) [i,j] b λk e=>∃a,k=.F a/\t (.F (!a)) e):lm S (mm<|dg .NotIn) [i,j] b t:=by intro o p q g D s u v d r;revert d;intro d;have f:=n o p q g _ s u v d λk e w x l y z A m=>jU y λa c h=>jO a (by rw[c]at m;exact m)<|r _ e _ x l h z A U;revert f;apply d.E;intro w E _ _ f;exact jK<|cE (SO<|f) (λa l B=>jU B λF c h=>ai (by cases c;exact h)) λC C c=>c
end
def qE(a:bG):Nat:=Lb a.heap.objs
def H4(a:bG)(b:bk)(c:hP->hP):qE {a with heap:=a.heap.update b c}=qE a:=by simp[qE,Heap.update]
def H5(a:bG)(b:hP):qE {a with heap:=a.heap.push b}=qE a+1:=Aa ..
def SQ(a:bG) b(c:GenState):qE (a.setGen b c)=qE a:=U
def H6{d:Ctx}{f:hB Fin}{g:Lt Frame}{h:End}(i:Runs υ d ι f g e h β):qE e<=qE β:=by induction i with|update _ _ c=>rw[H4]at c;exact c|alloc _ c=>rw[H5]at c;exact cI c|call _ _ a b=>exact aX a b|resumeFresh _ _ _ _ a b=>exact aX a b|resumeSuspended _ _ _ _ a b=>exact aX a b|segRet _ _ a b=>exact aX a b|segGen _ _ a b=>exact aX a b|segSuspGen _ _ _ _ a b=>exact aX a b|_=>first|exact al _|assumption
def SR{d:Ctx}{f:Resume}{g:GenResult}(a:Wakes υ d ι b f e g β):qE e<=qE β:=by
 unfold Wakes at a;repeat' split at a
 all_goals first|exact a.elim|(simp only[a];exact al _)|(obtain⟨k,l,i,_,_,j⟩:=a;rw[j];have c:=H6 i;simp only[SQ]at c⊢;exact c)|(obtain⟨_,j⟩:=a;rw[j];exact Nat.le_refl _)
def SS{k:Ctx} i:∀(h:hB T){l:T->Pos->bG->Prop}{m:bB->Pos->bG->Prop}{e:Pos}{j:bG},i<=qE j->Sem.wp υ k h l m e j->Sem.wp υ k h (λf e g=>l f e g/\i<=qE g) (λn e g=>m n e g/\i<=qE g) e j:=by intro h;induction h with|pure f=>exact λb a=>⟨a,b⟩|raise n=>exact λb a=>⟨a,b⟩|rule _ d c=>exact λb a=>c () b a|«at» _ d c=>exact λb a=>c () b a|load f _ d c=>exact λb a=>a.b λo a=>⟨a.1,c o b a.2⟩|update f _ v d c=>exact λb a=>⟨a.1,c () (kd (H4 ..) b) a.2⟩|alloc o d c=>exact λb a=>c _ (kd (H5 ..)<|dB b) a|loadIfAlive f d c=>exact λb a=>c _ b a|point _ d c=>exact λb a=>c () b a|fresh d c=>exact λb a=>c _ b a|ask d c=>exact λb a=>c _ b a|choose w x d c=>exact λb a=>⟨a.1,c _ b a.2⟩|os y _ d c=>exact λb a=>c _ b a|call r z p s d c=>exact λb a=>a.b λq a=>a.b λt a=>⟨a.1,c q (aX b<|H6 a.1) a.2⟩|handled A d c=>exact λb a=>c _ b a|newGen r d c=>exact λb a=>c _ b a|genState p d c=>exact λb a=>a.b λB a=>⟨a.1,c _ b a.2⟩|resume p q s d c=>exact λb a=>a.b λu a=>a.b λt a=>⟨a.1,c u (aX b<|SR a.1) a.2⟩|stack d c=>exact λb a=>c _ b a|thread d c=>exact λb a=>c _ b a|_=>exact λC a=>a
def AE{c:hB T}{d:T->bG->Prop}(f:ay υ l c d a e):ay υ l c (λg b=>d g b/\Lb e.heap.objs<=Lb b.heap.objs) (λh b=>a h b/\Lb e.heap.objs<=Lb b.heap.objs) e:=λi j k=>SS _ c (al _)<|f i j k
section
variable{f:ko}
def sE(a:b=α)(c:α<=16777216):(b:Int)<2^63:=Int.lt_of_le_of_lt (fC.b<|jx a c) jB
def SU(a:O ah f.A):rx S .D f O:=un a λg h b i j k c c d e=>by subst d;exact truthy_none<|e b<|.C _
def SV(a:O σ f.A):rx S (.F σ) f O:=un a λg h b i j k c c d e=>by subst d;exact fJ<|e b<|.C _
def SW(b:O (w !=0) f.A):rx S (.B w) f O:=un b λg h c i j k a a d e=>by apply d.B;exact λa=>P.truthy_int<|e c<|.C _
def SX(b:Ld o<=16777216)(c:O ((Ld o:Int) !=0) f.A):rx S (.C o) f O:=un c λe g h i j k a a o d=>by apply o.C;exact λa=>P.truthy_str (hN.b<|sE U b)<|d _<|.A ..
def kf.i_(a:kf i k n (Lf v)):v.isEmpty=Li n:=by unfold Array.isEmpty;refine jx a.A ?_;cases n<;>rfl
def SY(b:O (!n.isEmpty) f.A):rx S (.E n) f O:=un b λi j k l m o c c d e=>by apply d.D;intro p q r g a h;exact truthy_tuple (vx g) (sE a.A h)<|jx a.i_<|e _<|.A ..
def S0(b:f.A Z=V (.A n))(c:O (!n.isEmpty) f.A):rx S (.A Z) f O:=un c λj k l m o p q d e g=>by apply d.B b e;intro r s t _ _ h a i;exact wpAny_truthy_list (nS h) (sE a.A i)<|jx a.i_<|g _<|.A ..
def H7(d:Ln e.heap g=V (eF j b))(h:Ln nl g=Y)(n:La j<=16777216) (i:c (.int (La j)<|e.toks+1) {e with toks:=e.toks+1+1}):ay kc l (Builtin.«len» ⟨[.ref g],[]⟩) (λk m=>∃f,k=.done (.ret f)/\c f m) a e:=by refine jK<|ai<|jK<|cq (nu d) iT<|bq iT (nu d) F.entry_dict_len ?_<|F.args_dict_len_1 _;show ay _ _ (dictSize g>>=λo=>aeu g>>=λS=>retInt _) _ _ e;refine jK<|jK<|dD d U<|ai<|jK<|wpAny_pendingCount_other (tm h)<|aek<|jK<|bu<|ai<|jK<|ac2 ?_;exact jx (show((Lb (Lc j):Int)+0)=_ from aef _)<|lJ (fS.b<|cA _)<|lJ (b:=(La j:Int)>=2^63) (hN.b<|sE U ‹_›)<|jK<|ac0<|ai<|jO _ U i
def S1(n:f.A Z=V (.B d))(o:O (!d.isEmpty) f.A):rx S (.A Z) f O:=un o λp A j B k q a l r s=>by
 apply l.D n r;intro t g u _ h m _ v;have w:((La g:Int) !=0)=!d.isEmpty:=by rw[m.A];cases d<;>rfl
 have x:ay kc p (runValue<|.builtin "len" ⟨[.ref t.1],[]⟩) (λb c=>b=.int (La g) (j.toks+1)/\k (!d.isEmpty) c) q j:=by refine wpAny_runValue<|codeAny_builtin ad2 ?_;exact jx (Around.under_plainId adZ _)<|cE (H7 (c:=λb c=>b=.int (La g) _/\k _ c) h (l.M u) (jx m.A v) ⟨U,s _<|.A ..⟩) (λa a e=>jU e λb y z=>jx y z) λa a i=>i
 refine jK<|wpAny_callSpecial?_none (nu h) noBool_dict<|jK<|fr (nu h) iT.lookup ?_;exact jK<|cE x (λb c e=>jx e.1<|ai<|jx w e.2) λa a i=>i
def S2(e:f.A Z=V (.C g m))(h:dk kH (.ref g) "__bool__"=V Y)(i:dk kH (.ref g) "__len__"=V Y)(j:O aj f.A):rx S (.A Z) f O:=un j λq r a s t u v b k l=>by apply b.b_ e k;intro n w x _ _ o p _ _ _;have c:=qg.A.keeps b.F.A;have d:jf a.heap n.1 _ g<|V _:=⟨o,U,U,p⟩;exact jK<|jK<|jK<|d.type.here<|(hx c h).here<|ai<|jK<|jK<|d.type.here<|(hx c i).here<|ai<|l a<|.C _
end
def S3(c:qd kH f=aj)(b:dX)(d:kH.In b):∃a,(a=Keeper.frame\/a=Keeper.machine\/a=Keeper.boundFrame)/\Looks υ b (keeperOf f) a:=by cases f with|builtin _=>exact jO .machine (.inr kr)<|adi U|type _=>exact jO .machine (.inr kr)<|adi U|ref e=>exact keeps_K (show keepIn kH (.ref e)=aj from c) b d|_=>exact lf c
def Du:∀{a:Lt cL}{c:gu}{b:Pos},a.any nJ=ah->(gp b<|fN a c).any (·.1)=ah:=by intro a;induction a with|nil=>exact λ_=>U|cons f g e=>exact λ{c} {b} d=>by exact jx (Aw d) (e (cf.a d).2:(gp b _).any _=ah)
section
variable{d:ko}
def Dv(k:qd kH f=aj)(d:x.any nJ=ah) (b:ay kc l (spliced<|gp ι<|fN x s) (λm g=>kH.In g.heap/\ay kc l (call f<|y++m) c a g) a e):ay kc l (ac8 ι f y (gp ι<|fN x s) []) c a e:=by intro h i j;refine callWith_of (jx (Du d) U) (λn o=>S3 k n o) ?_ h i j;cases x with|nil=>exact aeX<|b h i j|cons p q=>rw[Aw d]at b⊢;exact aeJ b
def H8{b:n7 S d.B d.D}(o:qd kH f=aj)(h:x.any nJ=ah)(p:oL S q d λj k=>nc S f (n++j) (d.C k) t)(r:ny q b.D x)(s:kS b.A d i e)(u:kf i e.heap n y)(v:wu b.A d i e t c):ay kc b.B (ac8 ι f y (gp ι<|fN x b.A) []) c a e:=Dv o h<|p b x ι i e _ a r h s λj k K w z A g l B=>⟨qg.A.keeps g.A.F.A,A b.B w z _ c a b.E g.A (kf.a_ B<|u.G l.B) λC D E F G H I m J=>v C D E F G H (g.C I m) (l.A m) J⟩
def S4(j:lu.A o=V f)(k:qd kH f=aj)(l:oL S q d λm g=>nc S f m (d.C g) t):kn S (.H (.G o) q) d t:=λn h p e r a s u v=>s (λh=>ay _ _ (dy h _) r a e) λI i J K w L x y=>by refine jK<|um (t:=λb c=>b=.G f/\c=d.A) j lp n _ p e _ a x u λb g M N O z A B C=>ka λD=>?_;obtain⟨rfl,rfl⟩:=z;subst C;exact D<|H8 (y:=[]) k w l y A .M λf c b E F i G H=>v f c b E F i G<|B.A H
def S5(c:x.any nJ=ah)(f:b<=20):aeF b (gp ι<|fN x s) []=aj:=by
 unfold aeF;have d:(gp ι _).all (λa=>!a.1)=aj:=bc.b λa e=>by have:=fy.a (Du (c:=s) c) a e;simpa using this
 refine jx d ?_;simp;exact aZ ‹_<=20› jB
def Dw{b:Pos}(i:wp N=ah)(j:x.any nJ=ah)(k:(ι.endLine==b.line)=aj)(n:La x<=20) (p:ay kc l (dy N s) (λd q=>∀r,ay kc l (getMethod d o r) (λg t=>ay kc l (ac8 b g.1 g.2 (gp b<|fN x s) []) c a t) a q) a e):ay kc l (dy (.Call (.Attribute N o ι) x [] b) s) c a e:=by show ay _ _ (aeZ N o s _>>=λd=>standAt ι.atName>>=λf=>methodCall N o ι b s d (La x+0) _ []) c a e;refine jx (HI i) ?_;refine jK<|cE p (λd w u=>jK<|dY ?_) λf f h=>h;unfold methodCall;refine jx (S5 (b:=La x+0) j n) ?_;unfold calleeOf methodCallPos;apply jK;refine jx (aC U) ?_;refine bu<|cE (u _) (λg y v=>?_) λf f h=>h;show ay _ _ (ite _ _ _>>=_) ..;exact jx k<|jx (aC (show(!aj||true)=aj from U))<|jK<|ai v
def up(g:Nat)(h:jA)(i:jC)(j:jT)(k:bB)(m:List jA):=∀l b e c n (d:bB×List bB->bG->Prop) a,ki j b i e.heap->jZ b e.heap h c->(∀f,kf b e.heap m f->d (k,f) e)->ay kc l (getMethod c (lU g) n) d a e
def S6(n:kn S p d λf g=>∃c h,qd kH c=aj/\(b<La nR->up b f g d.B c h)/\oL S q (d.C g) λo r=>nc S c (h++o) (d.C r) t):kn S (.F p b q) d t:=λc X s e u a v w x=>v (λb=>ay _ _ (dy b _) u a e) λy Z α β γ z k A B C D E=>by have l:=x' C;exact jL l.1<|Dw z k A B<|n c y s e _ a D w λf g i F G j m H I J=>j.a λδ j=>li j λh K L M=>L l.2 c.B F G i J _ a m.A I λε N=>H8 (d:=d.C g) K k M E m N λf O i P Q R T W=>x f O i P Q R T<|H.A W
def Dx{g h:String}(m:PlainAttrs g)(n:Slot g (lU b) h)(o:typeOf (.builtin h)=er (.type "method_descriptor")) (p:∀d f c,ki X d R f->jZ d f r c->(∀e:bG,e.heap=f->e.TypeIs c g)/\∀S,c=.ref S->∃i,Ln f S=V i/\i.dict=Y):up b r R X (.builtin h) [r]:=λl d e c t u a q j s=>have k:=p d e.heap c q j;getMethod_builtin (k.1 e U) m n o k.2 (s [c]<|.I j)
def S7{c:bk}(j:b<La nR)(k:R Z=V (.C g m))(n:Lj b m=Y)(f:hw kH g (lU b)=aj)(o:dk kH (.ref g) (lU b)=V (V<|.ref c))(p:isFn kH (.ref c)=aj):up b (.A Z) R X (.ref c) [.A Z]:=by intro l v e w x y a h q d;revert d;apply h.b_ k q;intro i z A r _ s t u _ _ d;exact method_fn (qg.A.keeps h.F.A) (show jf e.heap i.1 _ g<|V _ from⟨s,U,U,t⟩) (iV f).1 (iV f).2 o (aE.a p) (by show(lookIn ..).map _=_;simp only[lookIn_dict,u.A j n];rfl)<|d _<|.I<|jO i r U
def S8(k:ki X i R e.heap)(m:R Z=Y)(f:kf i e.heap n y)(g:La n<=16777216) (q:∀h d b,ki X d (jE R Z<|.A n) b.heap->kD lM i e d b->jZ d b.heap (.A Z) h->c h b):ay kc l (newList y) c a e:=by refine dK ?_ (by show Lb (Lc y)<=gE;simp only[cy,f.J,cU];exact g);have j:=k.a_ (o:=.A n) (a:=(Lb e.heap.objs,Lb e.heap.objs)) m (lL.C e.heap {cls:=.type "list",dict:=Y,data:=.seq (Lc y)}) (al _) (al _) λa=>pL (Lc y) 0 U (bJ _ U) (f.G a) g;exact q _ _ _ j.1 ⟨j.2,m4 _ e.toks U⟩<|jO _ (rv ..) U
def Dy(k:oL S q d λc f=>La c<=16777216/\∃b,f b=Y/\t (.A b) (jE f b<|.A c)):kn S (.K q) d t:=λl g m e n a o p r=>o (λg=>ay _ _ (dy g _) n a e) λs u v w=>by exact jK<|dY<|jK<|k l s u m e _ a w v p λc f G H I h i x y=>jU h.2 λb z A=>S8 i.A z y h.1 λB C D E j F=>r _ _ B C D A (i.C E j) (x.A j) F
def Dz(l:oL S q d λb c=>La b<=1000/\t (.E b) c):kn S (.M q) d t:=λm g n e o a p r s=>p (λg=>ay _ _ (dy g _) o a e) λu C v w x=>wpAny_Tuple_spliced (l m u v n e _ a x w r λb c h y z i A B j=>by
 have k:La b<=16777216:=aX i.1 jB;have f:=lR.D z {cls:=.type "tuple",data:=.seq (Lc h)}
 exact⟨by simp only[j.J,cU];exact k,s (.E b) c _ y _ i.2 (A.D f) (B.A<|.C f)<|qw _ (Lc h) 0 U (bJ _ U) (j.H f.B) k⟩)
end
noncomputable def n8:List (Nat×jA)->Nat->jA->List (Nat×jA)|[],a,b=>[(a,b)]|(c,e)::d,a,b=>bif c.beq a then(c,b)::d else(c,e)::n8 d a b
def o2(a:b≠α):b.beq α=ah:=di.b λc=>a<|bA c
def H9{a:jA}:n8 ((b,r)::m) b a=(b,a)::m:=by show(bif hW b b then _::m else _::n8 m b a)=_;rw[dp];rfl
def Ia{a:jA}(c:b≠α):n8 ((b,r)::m) α a=(b,r)::n8 m α a:=by show(bif hW b α then _::m else _::n8 m α a)=_;rw[o2 c];rfl
def Ib c(e:jA)(a:List<|Nat×jA):(n8 a c e).map (·.1)=a.map (·.1)\/(c∉a.map (·.1)/\(n8 a c e).map (·.1)=a.map (·.1)++[c]):=lO (.inr ⟨ac,U⟩) (λd i j=>by
 by_cases f:d.1=c;.subst f;exact .inl<|(aB (ey ca)<|H9 (b:=d.1) (r:=d.2) (a:=e) (m:=i)).a U
 .exact jx (Ia f) (j.c (aB (d.1::·)) λh=>⟨λg=>(ao.a g).a (λg=>f g.b) h.1,aB _ h.2⟩)) a
def S9(c:Le (m.map (·.1))):Le ((n8 m b r).map (·.1)):=(Ib b r m).a (λa=>kd a c) λa=>kd a.2<|cz.b ⟨c,cQ.b ⟨ac,eU⟩,λg d h e f=>a.1<|kg (ak.a e)<|kg f d⟩
def S'(b:List<|Nat×jA) c(d:jA):La (n8 b c d)<=La b+1:=by have e:=(Ib c d b).c (aB df) λa=>aB df a.2;rw[bH,ab,ab]at e;exact e.a (λa=>jx a<|bm _) λa=>aw a
section
def qh.D:∀{b:Lt<|Nat×jA}{c:Lt dM},qh i k b c->La c=La b:=by intro b;induction b with|nil=>exact λa=>jx (show _=[] from a) U|cons _ b e=>exact λa=>a.a λd a=>a.a λd a=>oe a λd f h j g=>jx f<|aB ek<|e g
def qh.E(e:b<La nR)(g:jZ i k r f)(h:Tok):∀{j:List dM},qh i k m j->qh i k (n8 m b r) (putL (lU b) (hy ou<|lU b) (.str (lU b) h) f j):=by
 induction m with
 |nil=>intro _ a;rw[show _=[] from a];exact qw f h [] U e g U|cons o m p=>
  intro _ a;obtain⟨q,w⟩:=o;refine vo a λs l t u c v n=>?_;subst u;unfold putL;by_cases d:q=b;.subst d;exact jx (HX ..)<|kd (aC U)<|jx (H9 ..)<|qw f l t U c g n
  .rw[Ds e c d,aA av,Ia d];exact qw s l _ U c v<|p n
end
section
def Ta(b:cj)(c:Int)(d e:bB):∀a:List dM,La (putL b c d e a)<=La a+1:=λ{a}=>lO (al _) (λg h f=>by
 unfold putL;split;.exact bm _
 .exact bb<|f) a
set_option tactic.hygienic true in theorem Tb(a:Lh (acy o j)=aj):aRefKeyMayBeTheName o (Lc j)=ah:=by
 revert o j;apply od;generalize lX.1=j,lX.2=o;intro a;rw[aRefKeyMayBeTheName_at];unfold acy at a;refine jL gI<|jL gI ?_;split at a;.rename_i c b;rw[eC.b<|jO c (List.mem_of_find?_eq_some b)<|List.find?_some b];rfl
 .split at a;.exact lf a
  .rename_i d;rw[di.b d,iI]
def Tc{c a:bk}{p:Tok}(i:kH.In e.heap)(k:Ln e.heap g=V (Dh c a))(d:Ln e.heap a=V (eF j b)) (q:ad0 kH c=aj) (r:takerIn kH c o=V Y) (s:ad1 kH c=aj) (t:Lh (acy o j)=aj) (u:La j<=900) (v:∀h,d' a e.heap h->Ln h a=V (eF (putL o (hy ou o) (.str o e.toks) f j)<|putN o j b)->δ (.ok<|.ret .none) {e with heap:=h,toks:=e.toks+1}):ff kc l (.call (.builtin "object.__setattr__") ⟨[.ref g,.str o p,f],[]⟩) δ e:=by
 refine osa_open i (show jf e.heap g _ c<|V _ from⟨k,U,U,d⟩) q r λS=>jU (any_some s) λy w x=>jK<|ai<|jK<|jK<|aex k<|dP<|(looks_clsIn i w).here ?_;refine jx x ?_;refine ai<|jK<|ai<|jK<|jK<|jK<|wpAny_askSetting<|ai<|jK<|wpAny_mkText<|dP<|aex d ?_;dsimp only;refine jx (Tb t) ?_;have m:aep o _ (.str o e.toks) f _=eF (putL o (hy ou o) (.str o e.toks) f j) (putN o j b):=putName_dict ..;have n:(e.heap.update a<|aep o (hy ou o) (.str o e.toks) f).get? a=V (eF (putL o (hy ou o) (.str o e.toks) f j)<|putN o j b):=by exact jx (cW _ d (by rw[m];rfl))<|jx m U
 exact wpAny_updatePart d<|jK<|wpAny_lookBehind n (pastItsLine_dict<|jx cy<|jx cU<|aX (Ta ..)<|aX (bb u) jB)<|ai<|v _ (ch ..) n
def Ic{o:bB}(d:ki X i R e.heap)(y:jZ i e.heap (.A Z) f)(z:jZ i e.heap r o) (p:R Z=V (.C g m)) (h:b<La nR) (A:q4 kH g=aj) (B:tf kH g b=aj) (q:La m<200) (C:∀j,ki X i (jE R Z<|.C g<|n8 m b r) j.heap->kD lM i e i j->γ () j):ay kc l (setAttr f (lU b) o) γ a e:=by
 apply d.b_ p y;intro D E L F s k t c G _;have u:=qg.A.keeps d.F.A;have n:=yu A;have H:Lh (acy (lU b) E)=aj:=by cases v:Lj b m with|some r=>exact(c.C h v).a λM I=>jx I.1 U|none=>rw[c.A h v];rfl
 refine set_plain u (show jf e.heap D.1 _ g<|V _ from⟨k,U,U,t⟩) n.2.2.2<|Tc u k t n.2.2.1 (HZ B).2 n.1 H (jx c.D<|bL<|au q jB) λJ w K=>?_;have x:=d.f_ (v:=.C g _) p F (.inr U) w (λa=>(x8 _ _ s ((w.2 _ s).a k) K ((c.E h z _).B (·.A a)) (S9 G)<|aX (S' ..)<|aX q (show 200<=500 by decide))) nofun;exact C _ x.1 ⟨x.2,m4 J _ U⟩
end
inductive qF where
 |A|C|D
 |B(a:jA)
def Td(c:ke)(d:dX):qF->Flow->Prop|.A,a=>a=.next|.C,a=>a=.brk|.D,a=>a=.cont|.B e,a=>∃b,a=.ret b/\jZ c d e b
def oM(a:gu)(b:bk):=b=a.locals\/∃c,Lj c a.cells=V b
abbrev og:=qF->ko->Prop
def ko.F(a:ko)(b:jP)(c:jC):ko:=⟨a.B,a.D,b,c⟩
def wC(c:gu)(d:ko)(i:ke)(j:bG)(k:og)(l:Flow->bG->Prop):=∀e f g h b a,k e (d.F f g)->kS c (d.F f g) b a->kD (oM c) i j b a->Td b a.heap e h->l h a
structure wD(b:Bool)(a:jT)(c:Nat)extends n7 b a c where
 F:∀d,A.kindOf d≠V .free
 H:A.code=a.E
section
variable(a:Bool)
def nA(h:kb)(c:ko)(i:og):=∀(b:wD a c.B c.D) e f d g j,CU h b.D e->kS b.A c f d->wC b.A c f d i g->ay kc b.B (et e b.A) g j d
def mM(h:Lt kb)(c:ko)(i:og):=∀(b:wD a c.B c.D) e f d g j,q5 h b.D e->kS b.A c f d->wC b.A c f d i g->ay kc b.B (acj e b.A) g j d
end
def Ie(c:Bool)(d:Lt kb)(a:og):og:=λe b=>match e with|.A=>mM c d b a|f=>a f b
section
variable{a:ko}{c f:og}
def mM.C(e:mM S ω a c)(g:∀b d,c b d->f b d):mM S ω a f:=λh i j k l m n o p=>e h i j k l m n o λb q r s t u v=>p b q r s t u<|g _ _ v
def uq(b:c .A a):mM S [] a c:=λi j d e k l f g h=>jx f<|ael<|h .A _ _ _ d e b g .D U
def yv{o:kb}(t:nA S o a<|Ie S ω c):mM S (o::ω) a c:=λp q u r s j v w b=>v (λq=>ay _ _ (acj q _) s j r) λx k y z=>ei (t p x u r _ j y w λl m n O d e f g h i=>by cases l with|A=>subst i;exact f p k d e s j z g λl E F k G H I J K=>b l E F k G H I J<|h.A K|C=>subst i;exact b .C m n _ d e f g h U|D=>subst i;exact b .D m n _ d e f g h U|B L=>obtain⟨M,rfl,N⟩:=i;exact b (.B L) m n _ d e f g h<|jO M U N)
def wC.B(d:wC s a i e c ν){b:ke}(f:c .A<|a.C R)(g:kS s (a.C R) b β)(h:kD lM i e b β):ν .next β:=d .A _ _ _ b β f g h.E U
def If(j:∀k b,kV p k b->∀d l m,adW b d l m=er ah)(n:kn S p a λe f=>c .A<|a.C f):nA S (.E p) a c:=λg b o h q i r s t=>r (λb=>ay _ _ (et b _) q i h) λu y d=>aez (n g.1 u o h _ i d s λe f z A B v w x e=>t.B v w x) (by unfold interactive;rw[g.C.B];rfl)<|j _ _ d ..
def Te(n:kn S p a λb d=>c (.B b)<|a.C d):nA S (.G p) a c:=λo q r e s g z t u=>z (λq=>ay _ _ (et q _) s g e) (λv A=>by subst A;exact λw x y=>wpAny_Return_none (n o.1 (.Constant .none 0 v) r e (λf e=>s (.ret f) e) g (λD B=>B ..) t (λb d f h i j k l m=>u (.B b) _ d _ h i j k l.E ⟨f,U,m⟩) w x y) w x y) λb v C=>wpAny_Return_some<|n o.1 b r e _ g C t λb d f h i j k l m=>u (.B b) _ d _ h i j k l.E ⟨f,U,m⟩
def Tf(e:c .A a):nA S .b_ a c:=λl b f d g h i j k=>i (λb=>ay _ _ (et b _) g h d) λm=>wpAny_Pass<|k .A _ _ _ f d e j .D U
def Tg(e:c .C a):nA S .J a c:=λl b f d g h i j k=>i (λb=>ay _ _ (et b _) g h d) λm=>wpAny_Break<|k .C _ _ _ f d e j .D U
def Th(e:c .D a):nA S .K a c:=λl b f d g h i j k=>i (λb=>ay _ _ (et b _) g h d) λm=>wpAny_Continue<|k .D _ _ _ f d e j .D U
def Ti{q:List kb}(z:ox S p a λd b=>bif d then mM S ω (a.C b) c else mM S q (a.C b) c):nA S (.B p ω q) a c:=λf r A s g e B C t=>B (λr=>ay _ _ (et r _) g e s) λd D E I F G H=>wpAny_If (z f.1 d A s _ e F C λd b u v w x y=>by cases d with|true=>exact w f D u v g e G x λh i b j k l m n o=>t h i b j k l m n<|y.E.A o|false=>exact w f E u v g e H x λh i b j k l m n o=>t h i b j k l m n<|y.E.A o)
noncomputable def r0:jR->Bool|.d_ ..=>ah|.k_ ..=>ah|_=>aj
def r1(a:r0 p=aj)(b:kV p θ N)(c:Option cL) d(e:gu):adW N c d e=er ah:=by cases p<;>first|(exact lf a;done)|(apply b;intros;rfl)
def Ig{g:jR}(u:r0 g=aj) (v:kn S g a λh k=>kn S p (a.C k) λl i=>∃e d f,l=.A e/\i e=V (.C d f)/\q4 kH d=aj/\tf kH d b=aj/\La f<200/\c .A (a.C<|jE i e<|.C d<|n8 f b h)):nA S (.F p b g) a c:=λm X w n x j y z A=>y (λb=>ay _ _ (et b _) x j n) λB Z α h β C D o=>by have q:=x' C;refine iE (v m.1 h w n _ j o z λγ k δ E F G H I J=>G m.1 B E F _ j D H λl i ε ζ η K r s L=>ka λM=>QX K λe d f N O P Q R T=>?_)<|r1 u o ..;subst N;exact M<|jL q.1<|Ic r.A L (J.A s.B) O q.2 P Q R λθ W t=>A.B T (r.C W t)<|(I.A s).A t
def AF(l m n:jA)(a:ko)(c:jC->Prop):=∀f b d g h i (j:Unit->bG->Prop) o,mB S a.B a.D f->ki a.B b a.A d.heap->jZ b d.heap l g->jZ b d.heap m h->jZ b d.heap n i->(∀k e,c k->ki a.B b k e.heap->kD lM b d b e->j () e)->ay kc f (setItem g h i) j o d
def Ih{i f:jR}(w:r0 f=aj)(x:kn S f a λg j=>kn S p (a.C j) λk l=>kn S i (a.C l) λm n=>AF (S:=S) k m g (a.C n) λo=>c .A<|a.C o):nA S (.D p i f) a c:=λd ζ y q z e A B C=>A (λD=>ay _ _ (et D _) z e q) λE F r g η θ G H s=>wpAny_Assign_Subscript (x d.1 g y q _ e s B λι j I J K L M N O=>L d.1 E J K _ e G M λk l P Q R T W t X=>T d.1 F Q R _ e H W λm n Z α β γ u h δ=>γ d.B α β P Z I _ e d.E u.A (X.A h.B) δ ((O.A t.B).A h.B) λo κ r ε v=>C.B r (u.C ε v)<|((N.A t).A h).A v)<|r1 w s ..
def Ii{g:jA}{h:jC->Prop}(i:a.A Z=V (.B d))(m:kP r=aj)(j:La d<16777216)(n:h<|jE a.A Z<|.B<|kF d r g):AF (S:=S) (.A Z) r g a h:=by intro G H o I p q J K s k t e f u;revert e f;apply k.D i t;intro v L w x c y z _ e f;refine bu<|jK<|fL (nu c) jB<|jK<|cq (nu c) adI<|bq adI (nu c) entry_dict_setitem ?_<|args_dict_setitem ..;refine jK<|eV (nu c) ?_;show ay _ _ (adK v.1 p q>>=_) _ _ o;refine jK<|Dq (bL s.B) c y z m e f j λA B M C D E F=>?_;have l:=k.h_ i w x C D E F<|aX (q9 ..) j;exact ai<|jO .none U<|ai<|u _ _ n l.1 ⟨l.2,A,B,U⟩
end
def jP.C(c:jP) a(b:jA):c.A a b a=V b:=by unfold jP.A;rw[dp];rfl
def jP.B(a:jP)(c:jA)(d:α≠b):a.A b c α=a α:=by unfold jP.A;rw[o2 d];rfl
section
variable{c:dX}{d:jP}
def k'.C{a b:cj->Op bB}(d:k.Ns g a)(e:k.Ns g b)(c:cj):a c=b c:=by
 refine ka λf=>vo d λq h r i j _ l=>vo e λs m t n o _ p=>?_;obtain rfl:=aY<|i.b.a n;obtain rfl:h=m:=by have:=j.b.a o;injection this
 apply f;exact jL (l ..)<|jx (p ..) U
def k'.A{b:cj->Op bB}(a:k.Ns g b)(c:Ln k g=V ψ):Internal.ov ψ=ah:=a.a λf a=>a.a λh a=>li a λi d e j=>jL (aY<|d.b.a c)<|Aq e U
def Cell.tt{a:Op bB}(b:k.IsCell g a)(c:Ln k g=V ψ):Internal.ov ψ=ah:=jU b λf d e=>jL (aY<|d.b.a c)<|Aq e U
def ki.k_(j:ki X i R k)(e:d' g k c)(r:Q g)(s:¬mA i g)(t:Ln X.A g=Y)(u:∀d,Ln k g=V d->ov d=ah)(v:(∃l,k.Ns g l)->∃l,c.Ns g l):lC Q i k i c/\ki X i R c:=by
 have o:∀{b:bk}{d:hP},Ln k b=V d->ov d=aj->b≠g:=λa w f=>av<|(u _<|jL f a).b.a w;have p:lC Q i k i c:=lY (λh h a=>a) (λb d a h m=>⟨d,(e.2 b λf=>m<|kd f r).a a,.A _⟩) (λh h m=>m) (λb h h a=>(e.2 b<|o a U).a a) (aw e.1.b) λb x a=>⟨x,(e.2 b<|o a U).a a⟩;exact⟨p,j.d_ p ⟨λb d a=>(e.2 b λf=>mh t<|jL f a).a<|j.A.A _ _ a,aX j.A.B<|aw e.1.b⟩ (λb d y a=>(e.2 b λf=>s<|kg f y).a a) λn q=>by
  by_cases a:n=g;.exact jx a<|v<|jL a (j.C n q).1
  .exact(j.C n q).1.b λh b=>b.sameBut e a⟩
def DA(c:ow s θ)(d:(oY s.scope)[b]?=V (o,ah))(e:(oY s.scope)[α]?=V (o,S)):α=b:=have a:_[α]?=V o:=jx (ax)<|jx e U;have f:_[b]?=V o:=jx (ax)<|jx d U;(dT (ag.a a).1 c.E).a (a.a f.b)
def Ij(u:ow s θ)(v:ml X i k s d)(q:(oY s.scope)[b]?=V (o,ah))(t:lC Q i k i c)(w:jZ i k r f)(x:ul c s o f)(y:∀a e,a≠o->ul k s a e->ul c s a e):∀g a m h,(oY s.scope)[g]?=V (a,m)->d.A b r g=V h->∃e,ul c s a e/\jZ i c h e:=λg a m h n j=>by
 by_cases p:g=b;.subst p;rw[jP.C]at j;obtain rfl:=aY j;obtain rfl:a=o:=aB ca<|aY<|n.b.a q;exact jO f x<|w.A t
 .rw[jP.B _ _ p]at j;exact(v.G g a m h n j).b λe l=>⟨y a e (λl=>p<|DA u q<|jL l n) l.1,l.2.A t⟩
def sF(x:ow s θ)(H:ki X i R e.heap)(h:ml X i e.heap s d)(B:(oY s.scope)[b]?=V (o,ah))(I:jZ i e.heap r f) (N:s.kindOf o≠V .free) (O:s.kindOf o=V .local->Q s.locals) (P:∀g,s.kindOf o=V .cell->Lj o s.cells=V g->Q g) (J:∀z,ki X i R z.heap->ml X i z.heap s (d.A b r)->kD Q i e i z->γ () z):ay kc l (storeName s o f) γ a e:=by
 rcases R5 x.E B with n|n|n;.
  obtain⟨u,C⟩:=h.B;refine wpAny_storeName_local n C (λc A v=>?_)<|jx x.B U;have D:=H.k_ v (O n) h.F h.H (λE=>k'.A C) λE=>⟨_,A⟩;refine J _ D.2 (po ⟨_,A⟩ h.F h.H (λk g p=>?_) h.D h.E h.I<|Ij x h B D.1 I (.inl ⟨n,_,A,aC U⟩) λk w t m=>m.c (λm=>⟨m.1,_,A,?_⟩) λm=>⟨m.1,m.2.b λg j=>⟨j.1,j.2.sameBut v (h.A _ _ j.1).2.2.2⟩⟩) ⟨D.1,c,_,U⟩;.exact⟨(h.A k g p).1.b λE j=>j.sameBut v (h.A k g p).2.2.2,(h.A k g p).2⟩
  .exact jU m.2 λκ S T=>(aA t).a<|(k'.C C S k).a T
 .refine(h.D o<|.inl n).a λg y=>?_;obtain⟨⟨μ,F⟩,W,Z,α⟩:=h.A o g y;refine wpAny_storeName_cell x.B n y F λc K v=>?_;have G:=H.k_ v (P g n y) W (Z n) (λE=>Cell.tt F) λβ=>QZ β λu x ν ξ δ ε _=>jU F λο ζ η=>nomatch((aB iP<|aY<|ζ.b.a δ).b.a η).b.a ε;have L:∀u,e.heap.Ns s.locals u->c.Ns s.locals u:=λu ι=>ι.sameBut v<|ha α;have M:∀k q w,k≠o->Lj k s.cells=V q->e.heap.IsCell q w->c.IsCell q w:=λk q w t p j=>j.sameBut v λj=>t<|h.E _ _ _ (j▸p) y;refine J _ G.2 (po (h.B.b L) h.F h.H (λk q p=>⟨?_,(h.A k q p).2⟩) h.D h.E h.I<|Ij x h B G.1 I (.inr ⟨.inl n,g,y,K⟩) λk w t m=>m.c (λm=>⟨m.1,m.2.b λu j=>⟨L u j.1,j.2⟩⟩) λm=>⟨m.1,m.2.b λq j=>⟨j.1,M k q _ t j.1 j.2⟩⟩) ⟨G.1,c,e.toks,U⟩;by_cases t:k=o;.exact⟨_,aY (y.b.a<|jL t p)▸K⟩
  .exact(h.A k q p).1.b λw j=>M k q w t p j
 .exact a' n N
end
mutual
noncomputable def mu:kM->jA->jP->Option jP
 |.A e,b,a=>V (a.A e b)
 |.B c,b,a=>match b with
  |.E d=>r2 c d a
  |_=>Y
noncomputable def r2:List kM->List jA->jP->Option jP
 |[],[],a=>V a
 |f::c,b::d,a=>(mu f b a).bind (r2 c d)
 |_,_,_=>Y
end
mutual
noncomputable def pO:kM->List Nat
 |.A b=>[b]
 |.B a=>AG a
noncomputable def AG:List kM->List Nat
 |[]=>[]
 |c::a=>pO c++AG a
end
def AH(a:gu)(c:bk->Prop)(e:List Nat):=∀f∈e,∀b,(oY a.scope)[f]?=V (b,ah)->a.kindOf b≠V .free/\(a.kindOf b=V .local->c a.locals)/\∀d,a.kindOf b=V .cell->Lj b a.cells=V d->c d
def Tj:∀{a:Lt jA}{c d:jP},r2 χ a c=V d->La χ=La a:=by
 induction χ with
 |nil=>exact λ{a} _ _ b=>by cases a with|nil=>rfl|cons=>exact kh b
 |cons f χ e=>exact λ{a} _ _ b=>by cases a with|nil=>exact kh b|cons=>exact(bD.a b).a λg b=>aB ek<|e b.2
def wq.A:∀{a:Lt kM}{c:Lt cL},wq a θ c->La c=La a:=by intro a;induction a with|nil=>exact λb=>jx (show _=[] from b) U|cons _ a e=>exact λb=>b (λc=>La c=La a+1) λd d d b=>aB ek<|e b
def Ik(a:nJ N=ah):ho (N::x) s=(ah,assign N s)::ho x s:=by cases N<;>first|rfl|(exact ot a;done)
def Tk:∀{a:Lt cL}{b:gu},a.any nJ=ah->La (ho a b)=La a/\(ho a b).findIdx? (·.1)=Y:=by intro a;induction a with|nil=>exact λ_=>lp|cons g h e=>exact λ{b} f=>by have c:=cf.a f;refine jx (Ik c.1) ?_;have d:=e (b:=b) c.2;refine⟨aB ek d.1,?_⟩;exact jx (List.findIdx?_cons)<|jx d.2 U
section
def Il(Q:bk->Prop)(X:jT)(i:ke)(R:jC)(s:gu)(θ:k')(l:fe)(a:bB->bG->Prop)(d:kM):=∀(e f:jP) g h j b (k:Unit->bG->Prop),AH s Q (pO d)->nb d θ g->mu d h e=V f->ki X i R b.heap->ml X i b.heap s e->jZ i b.heap h j->(∀c,ki X i R c.heap->ml X i c.heap s f->kD Q i b i c->k () c)->ay kc l (assign g s j) k a b
def Tl(Q:bk->Prop)(X:jT)(i:ke)(R:jC)(s:gu)(θ:k')(l:fe)(a:bB->bG->Prop)(d:Lt kM):=∀(f g:jP) e h j b (k:Unit->bG->Prop),AH s Q (AG d)->e.any nJ=ah->wq d θ e->r2 d h f=V g->ki X i R b.heap->ml X i b.heap s f->kf i b.heap h j->(∀c,ki X i R c.heap->ml X i c.heap s g->kD Q i b i c->k () c)->ay kc l (assignInOrder ((ho e s).map (·.2)) j) k a b
def Im{h:Lt bB->bG->Prop}(k:l.handled=Y)(m:Ln e.heap g=V (m5 v b))(n:α=Lb v) (o:∀c,lL e.heap c->h (Lf v) {e with heap:=c}):ay kc l (unpackItems (.ref g) α Y) h a e:=by subst n;exact cE (AE<|wpAny_unpackItems_tuple (Q:=λi p=>∃c,p={e with heap:=c}/\ex (Lb e.heap.objs) e.heap c/\i=Lf v) k ⟨_,m,U,b,U⟩ λc f=>kT c U f U) (λi u d=>d.1.a λc q=>by obtain⟨rfl,f,rfl⟩:=q;exact o c ⟨λr s j=>f r s (bF<|bn j) j,d.2⟩) λt t d=>d.1
def Tm(k:l.handled=Y)(m:Tl Q X i R s θ l a χ):Il Q X i R s θ l a<|.B χ:=by
 intro n o E p F e q r t c u v d w;cases p<;>first|(cases c;done)|skip
 revert d;apply t;intro x G H f g d;apply d.D;intro I J K y h _;have j:=Tk (b:=s) f;refine dP (dY ?_);unfold unpack;exact jx j.1 (jx j.2 (jK (bu (Im k y (g.A.a ((Tj c).a h.A.b)) λz b=>m n o x _ _ {e with heap:=z} q r f g c (u.H b) (v.K b) (h.H b) λA B C D=>w A B C<|kD.A (kD.C<|lR.F e.toks b) D))))
def AI(F:l.handled=Y)(z:ow s θ)(m:kM):Il Q X i R s θ l a m:=by
 refine kM.rec ((λd=>by intro p q A B C n r e f b g h t j;apply f;intro G m H;have c:=z.A▸rt H;have u:=e d (.head _) G c;obtain rfl:=aY b;exact jK<|dY<|hI<|sF z g h c t u.1 u.2.1 u.2.2 j)) (λI J=>Tm F J) ?_ ?_ m;.intro p q K k v n r e o f b g h w j;subst f;cases k with|nil=>subst w;obtain rfl:=aY b;exact jo<|j n g h .D|cons _ _=>cases b
 .intro m I L M p q K k v n r e o f b g h w j;cases k with|nil=>cases b|cons B k=>refine jU (bD.a b) λD N O=>?_;revert o;apply f;intro A P S T o;obtain⟨x,y⟩:=cf.a o;refine jx (Ik x) ?_;apply w.D;intro C v t W;exact gU<|L p D A B C n _ (λd c=>e d<|bM _ c) S N g h t λx Z α E=>M D q P k v x r (λd c=>e d<|bP _ c) y T O Z α (W.G E.B) λy β γ δ=>j y β γ<|E.A δ
def wD.G(c:wD S X b)(e:Lt Nat):AH c.A (oM c.A) e:=λa a d a=>⟨c.F d,λa=>.inl U,λa a f=>.inr ⟨d,f⟩⟩
end
section
variable{d:ko}{g:og}
def mB.A(a:mB ah X b l):l.handled=Y:=a.H U
def wC.A{a:ke}{b:bG}(f:wC s d i e g ν){c:jP}(h:g .A<|d.F c R)(j:kD lM i e a β)(k:ki d.B a R b.heap)(l:ml d.B a b.heap s c)(m:kD (oM s) a β a b):ν .next b:=f .A c R _ a b h ⟨k,l⟩ (j.E.A m) U
def Tn(q:r0 p=aj)(r:kn S p d λa i=>g .A<|d.F (d.E.A b a) i):nA S (.A (.A b) p) d g:=λc j s e k f t u v=>t (λj=>ay _ _ (et j _) k f e) λh a w x l=>x (λh=>ay _ _ (et (.Assign [h] a w) _) k f e) λm F y=>fM (r c.1 a s e _ f l u λG i h H I z n A B=>sF c.C n.A n.B (jx c.C.A<|rt y) B (c.F m) (λo=>.inl U) (λo o p=>.inr ⟨m,p⟩) λJ C D E=>v.A z A C D E)<|r1 q l ..
noncomputable def DB:jR->Bool|.M _=>ah|_=>aj
def To(a:kV p θ N)(b:DB p=aj)(c:List cL) d(e:Pos)(f:gu):jp [.Tuple c d e] N f=er Y:=by cases p<;>first|(exact lf b;done)|(apply a;intros;rfl)
def Tp(s:r0 p=aj)(t:DB p=aj)(u:kn ah p d λb m=>∃c,mu (.B χ) b d.E=V c/\g .A (d.F c m)):nA ah (.A (.B χ) p) d g:=λa n v j o k w x y=>w (λn=>ay _ _ (et n _) o k j) λe b q z l=>z (λe=>ay _ _ (et (.Assign [e] b q) _) o k j) λf h i A B=>Assign_Tuple (u a.1 b v j _ k l x λC m e N D E r F G=>jU E λc H I=>AI a.E.A a.C (.B χ) d.E c (.Tuple f h i) C e D _ (a.G _) (λO J=>J f h i A B) H r.A r.B G λP K L M=>y.A I F K L M) (r1 s l (V<|.Tuple f h i) q.line a.A)<|To l t f h i a.A
def yw(a:T->Prop){c b:T}(d:S=ah)(e:a b):a (if S=aj then c else b):=by subst d;exact e
def Io{a:T}:(if S=aj then V a else Y)=Y\/(if S=aj then V a else Y)=V a:=by
 cases S;.exact .inl U
 .exact .inr U
def Tq{a:cL->Op cj}{b:cL}{c:cj}(f:a N=Y\/a N=V o)(g:a b=Y\/a b=V c):f' a [N,b]=[o,c]\/((La (f' a [N,b])) !=2)=aj:=by unfold f' f';rcases f with d|d<;>rcases g with e|e<;>rw[d,e]<;>first|exact .inl U|exact .inr U
abbrev wE(b c:cj)(a:hB<|Op<|Lt cj):=a=er Y\/a=er (V [b,c])
def Tr{b:Lt cj}{a:cj}{e:hB<|Op<|Lt cj}(f:o≠a)(g:S=ah)(h:σ=ah)(i:b=[o,a]\/((La b) !=2)=aj):wE o a (if((La b) !=2||(La b.eraseDups) !=La b)=aj then er Y else if S=aj then er Y else if σ=aj then e else er<|V b):=by
 rcases i with d|d;.subst d;have:(a==o)=ah:=aR.b λd=>f d.b;exact yw (wE o a) (S:=_||_) (jx (show([o,a]:Lt cj).eraseDups=[o,a] by simp[List.eraseDups_cons,this]) U)<|yw (wE o a) g<|yw (wE o a) h<|.inr U
 .exact jx d kr
def Ts{a d f:cj}{g e h i j:Pos}(k:s.scope.kind=.function)(l:o≠a)(m:(d==("__debug__":cj))=ah):jp [.Tuple [.Name o ι,.Name a g] b i] (.Tuple [.Name d e,.Name f h] α j) s=er Y\/jp [.Tuple [.Name o ι,.Name a g] b i] (.Tuple [.Name d e,.Name f h] α j) s=er (V [o,a]):=by
 have n:(s.blockKind !=iZ)=ah:=by unfold Env.blockKind;rw[k];rfl
 exact yw (wE o a) (S:=!(aj||false)||false||(s.blockKind !=iZ)) n<|yw (wE o a) U<|Tr l U (by show(aeL 8 (.Name d e)&&_)=ah;rw[(show aeL 8 (.Name d e)=ah from m)];rfl)<|Tq Io Io
def jP.D(a:jP)(c d:jA)(f:b≠α):(a.A b c).A α d=(a.A α d).A b c:=aJ λg=>by
 unfold jP.A;by_cases e:g=b;.subst e;rw[dp,o2 f];rfl
 .exact jx (o2 e) U
theorem Tt{A B:Nat}{w:jA}(N:b≠α)(β:d.E A=V r)(γ:d.E B=V w)(O:g .A<|d.F ((d.E.A b r).A α w) d.A):nA ah (.A (.B [.A b,.A α])<|.M [.A A,.A B]) d g:=by
 revert d g b α A B r w;apply sz;generalize kG.1.1.1=b,kG.1.1.2=α,kG.1.2.1=r,kG.1.2.2=d,kG.2.1.1=g,kG.2.1.2=A,kG.2.2.1=B,kG.2.2.2=w;intro N β γ O;exact λa δ ε n x k ρ ζ η=>ρ (λδ=>ay _ _ (et δ _) x k n) λf h C σ θ=>σ (λf=>ay _ _ (et (.Assign [f] h C) _) x k n) λP p s Q τ=>τ (λP=>P.any nJ=ah->ay _ _ (et (.Assign [.Tuple P p s] h C) _) x k n) (λR o υ φ=>υ (λR=>(R::o).any nJ=ah->ay _ _ (et (.Assign [.Tuple (R::o) p s] h C) _) x k n) λm y ι=>φ (λo=>(aeT m y::o).any nJ=ah->ay _ _ (et (.Assign [.Tuple (.Name m y::o) p s] h C) _) x k n) λS D χ ψ=>χ (λS=>(aeT m y::S::D).any nJ=ah->ay _ _ (et (.Assign [.Tuple (.Name m y::S::D) p s] h C) _) x k n) λE κ μ Q=>by
  subst ψ;have ν:kn ah (.M [.A A,.A B]) d λω T=>ω=.E [r,w]/\T=d.A:=Dz<|ry<|ps β<|ry<|ps γ<|sC<|lj (bE U) U U;have ξ:=a.C.A▸rt ι;have ο:=a.C.A▸rt μ;have K:=θ;revert K;apply θ;intro b3 Γ Δ b4 F;apply F;intro b5 o Θ F;apply Θ;intro b6 Ξ Φ _ _;apply F;intro b7 D Ψ F;apply Ψ;intro Ω a0 _ _ _;subst F;intro K;have a1:∀e (f:bB)(t:Unit->bG->Prop)(u:jP)(h:jA) c,ki d.B c d.A e.heap->ml d.B c e.heap a.A u->jZ c e.heap h f->(∀j,ki d.B c d.A j.heap->ml d.B c j.heap a.A (u.A b h)->kD (oM a.A) c e c j->t () j)->ay kc a.B (bindName a.A m f) t k e:=λe f t u h c G H v i=>hI<|sF a.C G H ξ v (a.F m) (λl=>.inl U) (λl l I=>.inr ⟨m,I⟩) i;have a2:∀e (f:bB)(t:Unit->bG->Prop)(u:jP)(h:jA) c,ki d.B c d.A e.heap->ml d.B c e.heap a.A u->jZ c e.heap h f->(∀j,ki d.B c d.A j.heap->ml d.B c j.heap a.A (u.A α h)->kD (oM a.A) c e c j->t () j)->ay kc a.B (bindName a.A E f) t k e:=λe f t u h c G H v i=>hI<|sF a.C G H ο v (a.F E) (λl=>.inl U) (λl l I=>.inr ⟨E,I⟩) i;rcases Ts (ι:=y) (g:=κ) (e:=Ξ) (h:=a0) (i:=s) (j:=Δ) (b:=p) (α:=Γ) (f:=Ω) a.C.B (λI:m=E=>N<|DA a.C ο<|jL I ξ) Φ with W|W;.refine Assign_Tuple (ν a.1 _ ε n _ k K ζ λa3 T f c e X J Z v=>?_) U W;obtain⟨rfl,rfl⟩:=X;exact AI a.E.A a.C (.B [.A b,.A α]) d.E _ (.Tuple [.Name m y,.Name E κ] p s) _ f e _ (a.G _) (λl i=>i _ p s Q λl i=>i _ _ (λl i=>i _ _ ι) λl i=>i _ _ (λl i=>i _ _ μ) U) U J.A J.B v λj G H L=>η.A O Z G H L
  .refine Assign_Tuple_swapped (ν a.1 _ ε n _ k K ζ λa3 T f c e X J Z v=>?_) U W;obtain⟨rfl,rfl⟩:=X;apply v.D;intro b8 a4 b9 a5 z _;refine Im a.E.A a5 z.J.b λa6 M=>?_;have z:=z.H M;revert z;generalize Lf a4=c0;intro z;apply z.E;intro a7 a8 o D;refine gU<|a2 {e with heap:=a6} a8 _ d.E w c (J.A.H M) (J.B.K M) D λj a9 b0 L=>gU<|a1 j a7 _ _ r c a9 b0 (o.A L.B) λc1 b1 π b2=>?_;rw[jP.D _ _ _<|ha N]at π;exact jo<|η.A O Z b1 π<|kD.A (kD.C<|lR.F e.toks M)<|L.A b2) Q
noncomputable def AJ:dw->Int->Int->Op Int|.Add,a,S=>V<|a+S|.Sub,a,S=>V<|a-S|_,_,_=>Y
def Ip{g:Int}(b:AJ ρ w φ=V g){h:bB}(m:jZ i e.heap (.B w) f)(n:jZ i e.heap (.B φ) h) (j:∀k d,lR e d->jZ i d.heap (.B g) k->c k d):ay kc l (inplaceOp ρ f h) c a e:=by apply m.B;intro o;apply n.B;intro p;cases ρ with|Add=>obtain rfl:=aY b;exact P.iadd_int<|j _ _ (.A ..) ⟨_,U⟩|Sub=>obtain rfl:=aY b;exact P.isub_int<|j _ _ (.A ..) ⟨_,U⟩|_=>exact kh b
theorem Tu(s:d.E b=V (.B w))(t:kn S p d λk u=>∃e i,k=.B e/\AJ ρ w e=V i/\g .A (d.F (d.E.A b<|.B i) u)):nA S (.M b ρ p) d g:=by
 revert S d g b ρ p w;apply ud;generalize lt.1.1.1=b,lt.1.1.2=p,lt.1.2.1=w,lt.1.2.2=S,lt.2.1.1=ρ,lt.2.1.2=d,lt.2.2=g;intro s t;exact λa v C c x f D e E=>D (λv=>ay _ _ (et v _) x f c) λj Q k R F G=>by
  have y:=a.C.A▸rt F;refine jU (e.B.G b j _ _ y s) λT l H=>?_;have z:ay kc a.B _ (λI c=>ay kc a.B _ (λJ c=>ay kc a.B _ (λm c=>x .next c) f c) f c) f c:=t a.1 k C c _ f G e λW u I X Z n A B l=>by refine ka λK=>?_;obtain⟨e,i,rfl,L,n⟩:=n;exact K<|Ip L (H.A B.B) l λJ α o M=>sF a.C (A.A.H o.B) (A.B.K o.B) y M (a.F j) (λm=>.inl U) (λm m p=>.inr ⟨j,p⟩) λβ N O P=>E.A n (B.A<|.C o) N O P
  apply wpAny_AugAssign_Name;rcases l with⟨h,γ,q,r⟩|⟨h|h,i,q,r⟩;.exact ac1 a.C.B h q r z
  .exact adf a.C.B h q r z
  .exact a' h<|a.F j
theorem Tv{a:jR}(w:kn S p d λc x=>∃h,c=.A h/\(b<La nR->lm S (wv λn=>acz n (lU b) aj) [c] (d.C x) λy z=>∃i:Int,y=.B i/\kn S a (d.C z) λc o=>∃e q f j,c=.B e/\AJ ρ i e=V q/\o h=V (.C f j)/\q4 kH f=aj/\tf kH f b=aj/\La j<200/\g .A (d.C<|jE o h<|.C f<|n8 j b<|.B q))):nA S (.a_ p b ρ a) d g:=by revert S d g p a b ρ;apply ud;generalize lt.1.1.1=b,lt.1.1.2=p,lt.1.2.1=S,lt.1.2.2=ρ,lt.2.1.1=d,lt.2.1.2=g,lt.2.2=a;intro w;exact λk μ G A H l I e J=>I (λb=>ay _ _ (et b _) H l A) λn i ν c ξ K L M=>by obtain⟨a,B⟩:=x' K;refine wpAny_AugAssign_AttributeAny<|w k.1 n G A _ l L e λο x N O P r C Q D=>?_;obtain⟨h,rfl,r⟩:=r;subst a;refine r B k.B O P [N] _ l k.E C.A (.I D) λy z π R T s W t X=>ka λu=>?_;obtain⟨i,rfl,s⟩:=s;refine u<|s k.1 c R T _ l M (C.C W t) λσ o τ υ φ Z E v α=>ka λu=>Q1 Z λe q f j β γ δ ε ζ η θ=>?_;subst β;exact u<|Ip γ (X.A v.B) α λχ ψ m ι=>Ic (E.A.H m.B) (((D.A t.B).A v.B).E m.B) ι δ B ε ζ η λω κ F=>J.B θ (E.C κ<|kD.A (.C m) F)<|((Q.A t).A v).A<|kD.A (.C m) F
def DC(b:ko->Prop)(g:og):og:=λc a=>match c with|.A=>b a|.D=>b a|.C=>g .A a|.B d=>g (.B d) a
def Tw(g:Nat->ko->Prop)(a:gu)(d:ko)(h:ke)(i:bG)(j:Nat)(b:bG):=∃c e f,g j (d.F c e)/\kS a (d.F c e) f b/\kD (oM a) h i f b
def Iq{w:List kb}(n:Nat->ko->Prop)(M:∀a o x,n a (d.F o x)->ox S p (d.F o x) λs y=>bif s then mM S ω (d.F o y)<|DC (λN=>∃b,b<a/\n b N) g else mM S w (d.F o y) g) z(O:n z d):nA S (.H p ω w) d g:=λq E F G P Q R T a=>R (λE=>ay _ _ (et E _) P Q G) λs W t ξ X Z α=>by
 refine wpAny_While<|codeAny_whileLoop (Tw n q.A d F G) (λβ γ u=>ka λδ=>z7 u λε ζ η u θ ι=>δ<|M β ε ζ u q.1 s η γ _ _ X θ λp ο H I J K κ=>?_) z<|x9 d.E d.A F O T .D;have l:=ι.A κ.E;cases p with
 |true=>refine J q W H I _ _ Z K λv c e L f r h i j k=>?_;cases v with|A=>subst k;exact h.a λb m=>⟨b,m.1,c,e,f,m.2,i,l.A j⟩|D=>subst k;exact h.a λb m=>⟨b,m.1,c,e,f,m.2,i,l.A j⟩|C=>subst k;exact a .A c e _ f r h i (l.A j) U|B t=>obtain⟨μ,rfl,ν⟩:=k;exact a (.B t) c e _ f r h i (l.A j)<|jO μ U ν
 |false=>exact J q t H I _ _ α K λv c e L f r h i j k=>a v c e L f r h i (l.A j) k
end
def pP(e:bk->Prop)(b c:dX):=(∀a d,Ln b a=V d->¬e a->Ln c a=V d)/\Lb b.objs<=Lb c.objs
section
variable{a:dX}(b:pP Q k a)
def pP.A:=b.1
def pP.C:=b.2
end
abbrev ur:=Nat->Op bB->ke->dX->Prop
abbrev lQ:=Nat->jC->Op (Op jA)
def DD(a:hP):=∀b c,a.data≠.dict b c
def tn(b:dX)(c:bk):=∃a,Ln b c=V a/\ov a=ah/\DD a
def oN(y:jT)(k:bk->Prop)(m:bB)(z:cL->Prop)(g:ur)(A:lQ):=(∀d h a b p n (e:Option bB->bG->Prop) l,h.handled=Y->A d p=V n->ki y b p a.heap->g d Y b a.heap->(∀c,oZ a c->pP k a.heap c.heap->n=Y->e Y c)->(∀c q i,oZ a c->pP k a.heap c.heap->n=V q->jZ b c.heap q i->g (d+1) (V i) b c.heap->e (V i) c)->ay kc h (hm m) e l a)/\(∀d h a b (e:Unit->bG->Prop) l r i,z r->g d (V i) b a.heap->(∀c,oZ a c->pP k a.heap c.heap->g d Y b c.heap->e () c)->ay kc h (gt r m i) e l a)/\(∀d b j s o,g d Y b j->(∀t u,b t=V u->s t=V u)->(∀f v,Ln j f=V v->k f->Ln o f=V v)->(∀f w x,Ln j f=V (m5 w x)->Ln o f=V (m5 w x))->g d Y s o)/\(∀d B b j f,g d B b j->k f->tn j f)/\∀d h a b e l,g d Y b a.heap->e m a->ay kc h (gV m) e l a
section
variable{a:ur}{b:lQ}(c:oN X Q f ε a b)
def oN.C:=c.1
def oN.D:=c.2.1
def oN.E:=c.2.2.1
def oN.A:=c.2.2.2.1
def oN.F:=c.2.2.2.2
end
section
variable{a:bk->Prop}{c:ke}{d:dX}{h:jP}{j:ko}
def tn.A(a:tn k g):g<Lb k.objs:=jU a λc b d=>bn b
def pP.B(e:pP Q k d)(j:∀a,Q a->tn k a):lC Q i k i d:=have f:∀{a c},Ln k a=V c->ov c=aj->¬Q a:=λb l m=>(j _ m).a λc h=>Ao l h.2.1<|aY<|h.1.b.a b;(lY (λg g b=>b) (λa c b g n=>jO c (e.A a c b n)<|.A _) (λg g f=>f) (λa p q b=>e.A a _ b<|f b U) e.C λa o b=>⟨o,e.A a _ b<|f b U⟩)
def qG(Q:bk->Prop)(X:jT)(i:ke)(s:gu):=(∀a,Q a->¬mA i a)/\(∀a,Q a->¬oM s a)/\∀a,Q a->Ln X.A a=Y
section
variable{Q:bk->Prop}{X:jT}{i:ke}{s:gu}(k:qG Q X i s)
def qG.C:=k.1
def qG.A:=k.2.1
def qG.D:=k.2.2
end
def kS.E(h:kS s j i e)(k:qG Q j.B i s)(p:∀c,Q c->tn e.heap c)(f:pP Q e.heap β.heap):kS s j i β:=have m:=f.B p;⟨h.A.d_ m ⟨λc b g=>f.A c b (h.A.A.A c b g) λd=>mh (k.D c d) g,aX h.A.A.B f.C⟩ (λc b t g=>f.A c b g λd=>k.C c d t) λu v=>(h.A.C u v).1.b λw a=>a.a λb a=>a.a λn a=>jU a λo q r=>Q5 b n o (f.A _ _ q λd=>(p _ d).a λA l=>l.2.2 n o<|(aB iP<|aY<|l.1.b.a q).a r.1) r,h.B.J (λw a=>a.a λb a=>⟨b,a.b λn a=>a.b λo a=>⟨f.A _ _ a.1 λd=>k.A _ d kr,a.2⟩⟩) (λl B C g a=>jU a λb x y=>jO b (f.A _ _ x λd=>k.A _ d<|.inr ⟨l,g⟩) y) m.B λz=>z.A m⟩
def lC.L{f l:dX}{g:ke}(c:lC a i k g f)(q:∀b,Q b->Lb k.objs<=b)(n:pP Q f l)(r:∀b,Q b->tn f b):lC a i k g l:=have h:=n.B (i:=g) r;(lY c.A (λb s d e t=>let⟨o,j,u⟩:=c.D b s d e t;(jO o (n.A b o j λv=>cb.b (q b v)<|bn d) u)) c.B (λb p e d=>h.F b p e<|c.F b p e d) (aX c.C h.C) (λb w d=>let⟨x,j⟩:=c.G b w d;h.G b x j))
def kD.G{c:bG}{d:ke}(f:kD a i e d β)(g:∀b,Q b->Lb e.heap.objs<=b)(h:oZ β c)(j:pP Q β.heap c.heap)(k:∀b,Q b->tn β.heap b):kD a i e d c:=⟨f.B.L g j k,f.F.A h⟩
def qG.B(b:qG Q X i s)(f:∀a,Q a->a<Lb k.objs)(g:lC (oM s) i k c d):qG Q X c s:=lj (λa e=>g.B a (f a e)<|b.C a e) b.A b.D
def oN.B{h:ur}{r:lQ}(a:oN X Q f ε h r)(m:h b Y i k)(n:qG Q X i s)(j:lC (oM s) i k c d):h b Y c d:=a.E _ _ _ _ _ m j.A (λg t o l=>(j.D g t o (n.C g l)<|n.A g l).a λw p=>p.2.a (λe=>jL e p.1) λe=>(a.A _ _ _ _ g m l).a λx q=>e.1.a λu e=>e.a λv e=>(q.2.2 u v<|jx (aY<|q.1.b.a o) e).elim) j.F
def Tx(h:cL)(i:bB)(k l:List gq)(s:gu)(b:fe)(f:acE->bG->Prop)(m:bG->Prop)(e:bG):Prop:=ay kc b (hm i) (λn j=>match n with|none=>ay kc b (acj l s) (λg c=>f (.ok g) c) (λa a=>False) j|some d=>ay kc b (gt h i d) (λa o=>ay kc b (assign h s d) (λa p=>ay kc b (acj k s) (λg c=>match g with|.next|.cont=>m c|.brk=>f (.ok .next) c|.ret d=>f (.ok<|.ret d) c) (λa a=>False) p) (λa a=>False) o) (λa a=>False) j) (λa a=>False) e
theorem Tz{g h:List gq}(c:Nat->bG->Prop) (m:∀b e,c b e->∀n:bG->Prop,(∀i e,i<b->c i e->n e)->Tx N f g h s l δ n e) b (k:c b e):ff kc l (.forLoop N f g h s) δ e:=by revert m;revert s e l δ N f g h c b;apply z3;generalize mg.1.1.1.1=e,mg.1.1.1.2=f,mg.1.1.2=l,mg.1.2.1=s,mg.1.2.2=N,mg.2.1.1.1=δ,mg.2.1.1.2=g,mg.2.1.2=h,mg.2.2.1=c,mg.2.2.2=b;intro k m;refine codeAny_loop' U c (λb e p=>acY<|jK<|dY<|jK<|wpAny_onRaise<|cE (m b e p (λe=>∃i,i<b/\c i e) λi e q r=>jO i q r) (λt z o=>?_) λa a d=>d.elim) b k;cases t with|none=>exact ai<|.inr ⟨U,codeAny_block<|cE o (λa a u=>u) λa a d=>d.elim⟩|some v=>refine jK<|cE o (λa A w=>jK<|cE w (λa B x=>jK<|cE x (λy C j=>?_) λa a d=>d.elim) λa a d=>d.elim) λa a d=>d.elim;cases y with|next=>exact ai<|.inl ⟨U,j⟩|cont=>exact ai<|.inl ⟨U,j⟩|brk=>exact ai j|ret v=>exact ai j
end
def m7(d:jT)(l:jA)(m:jC)(n:cL->Prop)(o:lQ):=∀e a b f (g:bB->bG->Prop) p,e.handled=Y->ki d b m a.heap->jZ b a.heap l f->(∀h c i j,lR a c->(∀k,i k->Lb a.heap.objs<=k)->oN d i h n j o->j 0 Y b c.heap->g h c)->ay kc e (gV f) g p a
def pQ(r:jR)(a:ko)(s:(cL->Prop)->lQ->jC->Prop):=∀(b:n7 ah a.B a.D) h i d j k,kV r b.D h->kS b.A a i d->(∀l m n o e f g p,s l m n->kS b.A (a.C n) e f->kD lM i d e f->(∀c,g c->Lb d.heap.objs<=c)->(∀c,g c->¬mA e c)->oN a.B g o l p m->p 0 Y e f.heap->j o f)->ay kc b.B (dy h b.A) (λt u=>∀q,q.handled=Y->ay kc q (gV t) j k u) k d
def DE(f:Bool)(m:kM)(n o:List kb)(p:lQ)(b:ko)(g:Nat->Nat->ko->Prop)(h:og):=∀i c d a,g i c (b.F d a)->∃e,p c a=V e/\(e=Y->mM f o (b.F d a) h)/\∀j,e=V j->∃k,mu m j d=V k/\mM f n (b.F k a) (DC (λq=>∃l,l<i/\g l (c+1) q) h)
def Ir(b:Ad N=ah)(c:gu)(a:bB):foldedSetIterable N c a=er a:=by cases N<;>first|rfl|(exact ot b;done)
def TA(a:kV p θ N):Ad N=ah:=by cases p<;>(apply a;intros;rfl)
section
variable{a:ko}{b:og}
def wF{j:(cL->Prop)->lQ->jC->Prop}(t:kn ah p a λk c=>∃d e,m7 a.B k c d e/\j d e c):pQ p a j:=λu v w x y l z A B=>t u v w x _ l z A λk c C m D b f n g E F=>b.a λd b=>b.a λe b=>b.1 E D m C y l F f.A g λG H I J o q K L=>B d e c G m H I J b.2 (f.D o) (n.A<|.C o) (λh i=>aX n.B.C<|q h i) (λh i M=>pK M λr N O=>O.elim λs P=>by obtain⟨Q,R⟩:=f.A.I r N s;refine jU (f.A.E r Q R) λX S g=>?_;obtain rfl:=aY<|s.b.a S;exact mr g.A λ_ _ T W _=>cb.b (q h i)<|P.a (λb=>b▸bn T) λb=>b▸bn W) K L
def wG{e:jP}(c:ml X i k s e)(d:Lb k.objs<=g):¬oM s g:=λf=>f.a (λa=>c.B.a λh b=>cb.b d<|jx a b.lt) λj=>j.a λl a=>(c.A l _ a).1.a λh b=>cb.b d b.lt
def TB(h:Nat->Nat->ko->Prop)(i:bk->Prop)(j:ur)(c:gu)(a:ko)(k:ke)(l:bG)(m:Nat)(d:bG):=∃e f g b,h m e (a.F f g)/\kS c (a.F f g) b d/\kD (oM c) k l b d/\j e Y b d.heap/\qG i a.B b c
theorem AK{i:kM}{q:List kb}(α:pQ p a λβ γ G=>∃r H,(∀g Δ,nb i Δ g->β g)/\r H 0 (a.C G)/\DE ah i ω q γ a r b):nA ah (.C i p ω q) a b:=by revert a b i p ω q;apply qv;generalize kE.1.1.1=p,kE.1.1.2=ω,kE.1.2=a,kE.2.1.1=b,kE.2.1.2=i,kE.2.2=q;intro α;exact λc δ ε I Θ ζ Ξ J K=>Ξ (λδ=>ay _ _ (et δ _) Θ ζ I) λg Φ η s c8 θ ι Ψ Ω=>by refine wpAny_For (cE (α c.1 Φ ε I (λκ j=>ff kc c.B (.forLoop g κ η s c.A) _ j) ζ ι J λβ γ a0 κ a1 c9 a2 a3 a4 a5 a6 k a7 e a8=>ka λl=>mr a4 λr H a9 b0 b1=>l<|Tz (TB r a2 a3 c.A a ε I) (λb2 b3 L d0 μ=>?_) H<|CR 0 a.E a0 a1 b0 a5 a6.E a8 ⟨a7,λh f=>wG J.B<|k h f,λh f=>cR<|aX J.A.A.B<|k h f⟩) (λM M f=>f c.B c.E.A) λM M p=>p)<|Ir (TA ι) c.A;refine ka λl=>Q0 L λt ν ξ u L N ο m n=>li (b1 b2 t ν ξ L) λb4 b5 b6 O=>l (e.C t c.B b3 u ξ b4 _ _ c.E.A b5 N.A m (λj P o p=>b6 p c s u j _ _ Ω (N.E n (e.A _ _ _ _ · m) o) λQ b7 G π b8 R d v b9 p=>K Q b7 G π b8 R d v ((ο.G k P o (e.A _ _ _ _ · m)).A b9) p) λj w ρ P o p c0 σ=>ka λl=>jU (O w p) λc1 c2 c3=>l<|e.D _ c.B j u _ _ g ρ (a9 g _ θ) σ λR c4 S τ=>?_);have T:=(e.A _ _ _ _ · σ);have v:=(N.E n (e.A _ _ _ _ · m) o).E n T S;refine AI c.E.A c.C i ν c1 g w ρ R _ (c.G _) θ c2 v.A v.B (c0.A<|S.B T) λc5 c6 c7 W=>?_;have υ:=n.B (λh f=>((e.A _ _ _ _ · τ) h f).A) W.B;have φ:=e.B τ n W.B;refine c3 c η u c5 _ _ Ψ ⟨c6,c7⟩ λQ x y π z χ d E X p=>?_;have F:=(((ο.G k P o (e.A _ _ _ _ · m)).G k c4 S T).A W).A X;have ψ:=e.B φ υ X.B;have Γ:=υ.B (λh f=>(e.A _ _ _ _ h φ f).A) X.B;cases Q with|A=>subst p;exact d.a λZ d=>μ Z _ d.1 ⟨t+1,x,y,z,d.2,E,F,ψ,Γ⟩|D=>subst p;exact d.a λZ d=>μ Z _ d.1 ⟨t+1,x,y,z,d.2,E,F,ψ,Γ⟩|C=>subst p;exact K .A x y _ z χ d E F U|B s=>obtain⟨w,rfl,O⟩:=p;exact K (.B s) x y _ z χ d E F<|jO w U O
end
def Is:Lt String:=["enumerate","zip","dict_itemiterator","dict_reverseitemiterator","odict_iterator","itertools.zip_longest","itertools.pairwise"]
def qj(b:dX)(c:bk)(d:String):=∃a e,Ln b c=V a/\a.cls=.type d/\a.data=.fields e
abbrev r3:cL->Prop:=λa=>True
section
variable{c:bk}{h:String}{j:dX}
def qj.A(a:qj k g h):tn k g:=a.a λc a=>li a λn d e b=>kT c d ((by unfold ov;simp only[b,e])) (λi j f=>by cases b.b.a f)
def qj.B{a:bk}(b:qj k g h)(c:Ln k a=V ψ)(d:ov ψ=aj):a≠g:=λe=>li b.A λj f i l=>Ao d i<|aY<|f.b.a<|jL e c
def rz(X:jT)(g:bk)(h:String)(d:Nat->ke->dX->Prop)(w:lQ):=(∀b l e i R n (m:Option bB->bG->Prop) a,l.handled=Y->w b R=V n->ki X i R e.heap->d b i e.heap->(∀c,oZ e c->pP (· =g) e.heap c.heap->n=Y->m Y c)->(∀c r f,oZ e c->pP (· =g) e.heap c.heap->n=V r->jZ i c.heap r f->d (b+1) i c.heap->m (V f) c)->ay kc l (hm<|.ref g) m a e)/\(∀b i k,d b i k->qj k g h)/\(∀b i k o j,d b i k->(∀p q,i p=V q->o p=V q)->(∀s,Ln k g=V s->Ln j g=V s)->(∀t u v,Ln k t=V (m5 u v)->Ln j t=V (m5 u v))->d b o j)/\∀b l e i m a,d b i e.heap->m (.ref g) e->ay kc l (gV<|.ref g) m a e
section
variable{X:jT}{g:bk}{h:String}{b:lQ}(k:rz X g h W b)
def rz.C:=k.1
def rz.B:=k.2.1
def rz.D:=k.2.2.1
def rz.E:=k.2.2.2
end
def rz.A{q:lQ}(d:rz X g h W q)(s:Is.contains h=ah):oN X (· =g) (.ref g) r3 (λb m i k=>W b i k) q:=mS d.C (λb l e i B a t f m c o=>(have o:=o e (.B _) ⟨λm m p m=>p,al _⟩ c;by refine mr (d.B b i _ c) λr n u v w=>?_;cases t<;>first|exact ai o|(cases f<;>first|exact ai o|(refine dP (wpAny_load u ?_);refine jx v (jx w ?_);show ay _ _ (if(Is.contains h&&_)=aj then _ else _) ..;refine jx s ?_;exact ai o)))) (λb i k x j c y z A=>d.D b i k x j c y (λr p=>z g r p U) A) (λb m i k C c p=>kd p (d.B b i k c).A) d.E
def to(a:d' g k j):pP (· =g) k j:=⟨λb e c d=>(a.2 b d).a c,aw a.1.b⟩
def DF(a:qj k g h)(b:d' g k j)(c:jZ i k r f):jZ i j r f:=c.A<|(to b).B λe d=>kd d a.A
def wH(h:∀(c:Op bB->bG->Prop),(∀j,ex g e.heap j->c Y {e with heap:=j})->ay kc l (hm f) c a e)(i:∀b,oZ e b->pP (· =g) e.heap b.heap->z Y b):ay kc l (hm f) z a e:=cE (AE<|h (λd b=>d=Y/\∃j,b={e with heap:=j}/\ex g e.heap j) λj m=>⟨U,j,U,m⟩) (λd b n=>by obtain⟨⟨rfl,j,rfl,o⟩,p⟩:=n;exact i _ (m4 j e.toks U) ⟨λq r s t=>o q r t s,p⟩) λu u k=>k.1
def m7.A{g:lQ}{b:ur}(j:∀f c h b,lR e c->(∀d,h d->Lb e.heap.objs<=d)->oN X h f ε b g->b 0 Y i c.heap->a f c)(k:oN X (· =Lb e.heap.objs) f ε b g)(l:b 0 Y i<|e.heap.push ψ):a f {e with heap:=e.heap.push ψ}:=j f _ _ b (.D e ψ) (λd m=>aw (m).b) k l
def q':Op km->Op (Lt jA)|some (.A n)=>V n|_=>Y
noncomputable def AL:Op km->Op (Lt<|jA×jA)|some (.B a)=>V a|_=>Y
def DG{a:Op km}(k:q' a=V n):a=V (.A n):=by cases a with|none=>exact kh k|some a=>cases a with|A c=>exact aB (λb=>V<|km.A b)<|aY k|_=>exact kh k
def TC{a:Op km}(k:AL a=V d):a=V (.B d):=by cases a with|none=>exact kh k|some a=>cases a with|B c=>exact aB (λb=>V<|km.B b)<|aY k|_=>exact kh k
def yx(a:jF):lQ:=λb R=>(q'<|R a).map (·[b]?)
def kf.c_(a:kf i k n y)(c:n[b]?=.none):y[b]?=.none:=cx<|jx a.J<|bz.a c
def DH(a:k.IsListIter g c b):qj k g "list_iterator":=a.b λd a=>⟨_,a⟩
theorem TD:rz X g "list_iterator" (λd i k=>∃c,i Z=V (c,c)/\k.IsListIter g c d)<|yx Z:=by revert g X Z;apply q3;generalize mj.1.1=g,mj.1.2=X,mj.2=Z;exact⟨(λd l e i R S u a v w x b y z=>by refine jU b λc h p=>jU (bO.a w) λn A B=>?_;subst B;refine x.B (h:=λf=>f=.ref c->_) (DG A) (jO _ h U) (λC T W α D q s D E=>?_) U;obtain rfl:C.1=c:=dG E;cases m:n[d]? with|some r=>exact jU (s.F m) λf F G=>wpAny_pyNext_list_item p (nS q) (bl.b.a F) λj H t=>z _ r f (m4 j e.toks U) (to t) m (DF (DH p) t G)<|jO _ h H|none=>exact wH (λβ I=>wpAny_pyNext_list_end v p (nS q) (bl.b.a<|s.c_ m) I) λJ K o=>y J K o m),(λd i k b=>jU b λc γ L=>DH L),(λd i k δ j b h M ε=>b.b λc b=>⟨h _ _ b.1,b.2.b λN o=>⟨M N o.1,o.2⟩⟩),λd l e i u a b O=>jU b λc ζ Q=>wpAny_pyIter_listiter Q O⟩
def vz(d:R Z=V (.A n)):m7 X (.A Z) R r3<|yx Z:=λl e i f o a p g h c=>by revert c;apply g.B d h;intro b q r j k m s _ c;exact hv (nS m)<|m7.A c (TD.A U) ⟨b.1,jx j<|jx (show b=(b.1,b.1) from bt U k) U,_,bJ _ U,U,U⟩
noncomputable def sG(n:Lt jA):lQ:=λa b=>V n[a]?
def wI(a:k.IsTupleIter g c b):qj k g "tuple_iterator":=a.b λd a=>⟨_,a⟩
theorem TE:rz X g "tuple_iterator" (λm i k=>∃c b o,k.IsTupleIter g c m/\Ln k c=V (m5 b o)/\kf i k n (Lf b))<|sG n:=by revert g X n;apply q3;generalize mj.1.1=g,mj.1.2=n,mj.2=X;exact⟨(λm l e i R α y a z A β d B C=>by refine z7 d λc b o p q s=>?_;obtain rfl:=aY A;have w:e.heap.IsTuple c b:=⟨_,q,U,o,U⟩;cases t:n[m]? with|some r=>exact jU (s.F t) λf D E=>wpAny_pyNext_tuple_item p w (bl.b.a D) λj F u=>C _ r f (m4 j e.toks U) (to u) t (DF (wI p) u E)<|x9 c b o F ((u.2 _<|(wI p).B q U).a q)<|s.G<|(to u).B λγ G=>kd G (wI p).A|none=>exact wH (λδ H=>wpAny_pyNext_tuple_end z p w (bl.b.a<|s.c_ t) H) λI J v=>B I J v t),(λm i k K=>vn K λh h h L=>L.elim λd h=>wI d),(λm i k ε j M N O x=>vn M λc b o P=>P.elim λd Q=>Q.elim λq s=>x9 c b o (d.b λS v=>⟨O S v.1,v.2⟩) (x _ _ _ q)<|kf.K N x n s),λm l e i y a T W=>vn T λh h h Z=>Z.elim λd h=>wpAny_pyIter_tupleiter d W⟩
def AM:m7 X (.E n) R r3<|sG n:=λl e i f m a o p h b=>by revert b;apply h.D;intro c j d g k _ b;exact adl ⟨_,g,U,d,U⟩<|m7.A b (TE.A U)<|x9 c j d (kT _ (bJ _ U) U U) (bU _ g)<|k.H<|.C ..
def sH(a:cj):Lt jA:=(Lf a.cps).map λh=>.C ⟨#[h]⟩
def TF{p:Tok}(n:h="str_ascii_iterator"\/h="str_iterator"):rz X g h (λc i k=>k.IsStrIter g h o p c)<|sG<|sH o:=⟨(λc l e i R D q a r f E b x y=>by
 obtain rfl:=aY f;have f:(sH o)[c]?=(o.cps[c]?).map λh=>jA.C ⟨#[h]⟩:=by unfold sH;rw[ax,bl]
 cases d:o.cps[c]? with
 |some s=>
  have t:∀j,j.IsStrIter g h o p (c+1)->d' g e.heap j->q (V<|.str ⟨#[s]⟩ e.toks) {e with heap:=j,toks:=e.toks+1}:=λj z A=>y _ (.C ⟨#[s]⟩) _ (m4 j (e.toks+1) U) (to A) (jx f<|jx d U) ⟨_,U⟩ z;rcases n with rfl|rfl;.exact wpAny_pyNext_ascii_item b d t
  .exact wpAny_pyNext_wide_item b d t|none=>
  refine wH (λF u=>?_) λB o m=>x B o m<|jx f<|jx d U;rcases n with rfl|rfl;.exact wpAny_pyNext_ascii_end r b d u
  .exact wpAny_pyNext_wide_end r b d u),(λc i k b=>b.b λv o=>⟨_,o⟩),(λc i k G j b H C I=>b.b λv m=>⟨C v m.1,m.2⟩),(λc l e i q a b w=>by
 rcases n with rfl|rfl;.exact wpAny_pyIter_striter_ascii b w
 .exact wpAny_pyIter_striter_wide b w)⟩
def It:m7 X (.C o) R r3<|sG<|sH o:=λl e i f g a h j d c=>by
 revert c;apply d.C;intro k c;have b:ac3 o="str_ascii_iterator"\/ac3 o="str_iterator":=by unfold ac3;split<;>simp
 exact wpAny_pyIter_strU<|m7.A c ((TF b).A (by rcases b with b|b<;>rw[b]<;>rfl)) ⟨_,bJ _ U,U,U⟩
noncomputable def yy(b:Nat):lQ:=λa c=>V (if a<b then V<|.B a else Y)
def TG:entryFor table "range_iterator.__iter__"=V Builtin.«dict_keyiterator.__iter__»:=aeK (id':="dict_keyiterator.__iter__") (by kernel_rfl) U (by decide+kernel) (by kernel_rfl)
theorem TH:rz X g "range_iterator" (λc z k=>IsRangeIter k g (c:Int) ((b:Int)-c) 1/\c<=b)<|yy b:=by
 revert g X b;apply q3;generalize mj.1.1=b,mj.1.2=g,mj.2=X;exact⟨(λc l e i R A m a n o B d p q=>by
  obtain rfl:=aY o;by_cases f:c<b;.refine wpAny_pyNext_range_item d.1 (Int.sub_pos.b<|cY.b f) λj r s=>q _ (.B c) _ (m4 j _ U) (to s) (aC f) ⟨_,U⟩ ⟨?_,f⟩;exact jx (show _-_=(b:Int)-c-1 from(Int.sub_sub ..).b) r
  .exact wH (λC t=>wpAny_pyNext_range_end n d.1 (Int.sub_nonpos_of_le<|fC.b<|cv f) t) λu v w=>p u v w<|aA f),(λc i k d=>lP _ _ d.1 U U),(λc i k D j d E x G=>⟨x _ d.1,d.2⟩),(λc l e i m a d y=>by have h:e.TypeIs (.ref g) "range_iterator":=jO _ d.1 U;exact gS h ii<|bq ii h TG (ai ⟨_,U,"range_iterator",_,h,F.slot_range_iterator_next.lookup,y⟩)<|F.args_range_iterator_iter_1 _)⟩
end
open AutoSeq1 (wpAny_loadPart')
def qH(a:cL):=∃b c d,a=.Tuple b c d
def pR(c:kM):∀(a:cL)(d:k'),nb c d a->r3 a:=λb b b=>aH
def wJ(b:cL)(c:k')(d:nb (.B χ) c b):qH b:=d qH λa a a a a=>Gp _ _ _ U
noncomputable def r4:jA->jA->jA:=λa b=>.E [a,b]
section
def TJ(i:qH N){c:bk}{d:bk}(h:acr e.heap g c w f d) (j:∀b,acO b g c w f->d' g e.heap b->γ () {e with heap:=b}):ay kc l (gt N (.ref g)<|.ref d) γ a e:=by refine vn i λo p q k=>?_;subst k;exact jK<|wpAny_load h<|qy (aC U)<|jK<|dZ<|eM h jB λb m n=>j b m n
def DI{f:hP->hP}{h:T->bG->Prop}(i:l.handled=Y)(j:∀c b,ex g e.heap c->(∃d,Ln c b=V d/\d.cls=.type "StopIteration")->a (.ref b) {e with heap:=c}):ay kc l.in1 (newExc (.type "StopIteration") []>>=λb=>(raiseNew b:hB T)) h a {e with heap:=e.heap.update g f}:=by exact jK<|jK<|dK (jK<|wpAny_of_eq (a:=ad6) (by first|rfl|(rw[firstArgMember];rfl)) (dK (jK (wpAny_handled ((i)▸jK (ai (wpAny_throw (j _ _ (((ch ..).extBut.push _).push _) (jO _ (bJ _ U) U))))))) (by size_fits))) (by size_fits)
theorem Iu{h:bk}{i}(q:l.handled=Y)(m:e.heap.IsTupleIter g h b)(r:e.heap.IsTuple h i) (s:∀f d,i[b]?=V f->d.IsTupleIter g h (b+1)->d' g e.heap d->c f {e with heap:=d}) (t:∀d n,i[b]?=Y->ex g e.heap d->(∃p,Ln d n=V p/\p.cls=.type "StopIteration")->a (.ref n) {e with heap:=d}):ay kc l (acV<|.ref g) c a e:=by revert l a e g h b i c;apply sz;generalize kG.1.1.1=a,kG.1.1.2=c,kG.1.2.1=b,kG.1.2.2=e,kG.2.1.1=g,kG.2.1.2=l,kG.2.2.1=h,kG.2.2.2=i;intro q m r s t;refine ka λu=>li (id m) λp k v j=>?_;obtain⟨A,w,_,B,y⟩:=r;apply u;refine dP<|cq m.typeIs ig<|bq ig m.typeIs F.entry_tuple_iterator_next ?_<|F.args_tuple_iterator_next_1 _;show ay _ _ (field (.ref g) 0>>=_) _ _ e;refine jK<|fh k j (x:=.ref h) U<|lJ (av)<|jK<|fh k j (x:=.int b 0) U<|dP<|aev w y ?_;cases o:i[b]? with|some f=>simp only[eP,o];exact jK<|fK k j jB<|ai<|jO f U<|ai<|s f _ o (kT _ (cW _ k<|fI<|ds j _) ((gA ..).a v) (by rw[ds j];simp[iM]))<|ch ..|none=>simp only[eP,o];exact jK<|dZ<|jK<|fK k j jB<|DI q λd n z f=>t d n o z f
def TK(n:l.handled=Y)(h g:bk)(r:g≠h)(m:Array bB):Draws lu.C ou l h [h,g] (Lb m) (λj b=>m[j]?=V b) (λj o=>o.IsTupleIter h g j/\o.IsTuple g m)where
 live:=λd d c=>c.1.b λd b=>b.1
 frame:=λd d d c p=>⟨c.1.b λi b=>⟨p h (.head _) i b.1,b.2⟩,c.2.b λi b=>⟨p g (.tail _<|.head _) i b.1,b.2⟩⟩
 item:=λj e s a t c u=>Iu n c.1 c.2 (λb k f v q=>u b k e.toks f ⟨v,c.2.b λi b=>⟨q.extBut g i r b.1,b.2⟩⟩ q) λd d f=>mh f<|iJ t
 done:=λe s a c w=>Iu n c.1 c.2 (λb k f=>mh (Array.getElem?_eq_none<|al _) f) λk f d=>w k f
theorem TL(a:bk)(b:Array bB) c:Meets (Builtin.«enumerate.__new__» ⟨[.type "enumerate",.ref a],[]⟩) (λj f e=>Ln e.heap a=V (m5 b c)/\f (.ok<|.ret<|.ref (Lb (e.heap.push {cls:=.type "tuple_iterator",data:=.fields #[.ref a,.int 0 0]}).objs)) {e with heap:=(e.heap.push {cls:=.type "tuple_iterator",data:=.fields #[.ref a,.int 0 0]}).push {cls:=.type "enumerate",data:=.fields #[.none,.bool ah,.ref (Lb e.heap.objs),iM 0,.none,.none]}}):=by revert a b c;apply q3;generalize mj.1.1=a,mj.1.2=b,mj.2=c;exact .of_wp λk m l f e d=>by have n:=e;obtain⟨g,d⟩:=d;have o:=sub_enumerate;have h:Heap.IsTuple _ a b:=⟨_,g,U,c,U⟩;wp_walk using wpAny_loadPart' g;refine wpAny_stack_any λp=>ai ?_;generalize hG _ _ _ _=i;cases i<;>wp_walk using wpAny_loadPart' g,adl h<;>exact⟨_,U,d⟩
def TM(k:Ln e.heap g=V (m5 v b)) (m:∀d,acO d (Lb e.heap.objs+1) (Lb e.heap.objs) 0 .none->d.IsTupleIter (Lb e.heap.objs) g 0->Lb d.objs=Lb e.heap.objs+2->(∀f h,Ln e.heap f=V h->Ln d f=V h)->c (.ref<|Lb e.heap.objs+1) {e with heap:=d}):ay kc l (call (.type "enumerate") [.ref g]) c a e:=by refine callType_new F.called_enumerate jB (F.typeCall_enumerate_1 _) (F.newCall_enumerate_1 _) (λn=>F.args_object_init_2 n _) F.entry_enumerate_new (TL g v b) ⟨k,?_⟩;have j:Lb (e.heap.push {cls:=.type "tuple_iterator",data:=.fields #[.ref g,.int 0 0]}).objs=Lb e.heap.objs+1:=dr ..;have i:=bJ (e.heap.push {cls:=.type "tuple_iterator",data:=.fields #[.ref g,.int 0 0]}) (o:={cls:=.type "enumerate",data:=.fields #[.none,.bool ah,.ref (Lb e.heap.objs),iM 0,.none,.none]}) U;rw[j]at i⊢;exact⟨jO _ i U,m _ i (kT _ (bU _<|bJ _ U) U U) (jx (dr ..)<|jx (j ..) U) λf h p=>bU _<|bU _ p⟩
end
def wK(b:lQ):lQ:=λa c=>(b a c).map λd=>d.map<|r4<|.B a
section
variable{a b:bk}{c:dX}
def DJ(c:acO k a b w f):qj k a "enumerate":=lP _ _ c U U
def Iv(c:acr k a b w f g):qj k a "enumerate":=lP _ _ c U U
def TN(a b:bk)(c:bk):=c=a\/c=b
structure AN(X:jT)(a b:bk)(g:Nat->ke->dX->Prop)(w:lQ):Prop where
 C:∀e q d i R m x (n:Option bB->bG->Prop) y,q.handled=Y->w e R=V m->ki X i R d.heap->g e i d.heap->acO d.heap a b e x->
  (∀o,oZ d o->pP (· =b) d.heap o.heap->m=Y->n Y o)->
  (∀r p c s,m=V r->jZ i d.heap r p->acr c a b ((e:Int)+1) p d.heap.objs.size->((∀f h j,d.heap.get? f=V (m5 h j)->c.get? f=V (m5 h j))->g (e+1) i c)->
   c.get? d.heap.objs.size=V {cls:=.type "tuple",data:=.seq #[.int e s,p]}->c.objs.size=d.heap.objs.size+1->(∀f l,f≠a->f≠b->d.heap.get? f=V l->c.get? f=V l)->n (V (.ref d.heap.objs.size)) {d with heap:=c,toks:=s+1})->
  ay kc q (hm (.ref a)) n y d
 A:∀e i k,g e i k->∃z,qj k b z
 B:∀e i k t c,g e i k->(∀u v,i u=V v->t u=V v)->(∀l,k.get? b=V l->c.get? b=V l)->(∀f h j,k.get? f=V (m5 h j)->c.get? f=V (m5 h j))->g e t c
def TO(e:Nat->ke->dX->Prop)(a b:bk):ur:=λc f i k=>(match f with|none=>∃g,acO k a b c g|some h=>∃j d,h=.ref d/\acr k a b c j d)/\e c i k
def TP{D:lQ}(p:AN X a b W D)(G:a≠b):oN X (TN a b) (.ref a) qH (TO W a b)<|wK D:=⟨(λg v q i R θ w x H I J e y K=>by obtain⟨⟨z,h⟩,e⟩:=e;refine jU (bO.a I) λL M N=>?_;subst N;obtain⟨ι,O⟩:=p.A g i _ e;refine p.C g v q i R L z w x H M J e h (λP m E a=>y P m ⟨λf j a o=>E.A f j a λd=>o<|.inr d,E.C⟩<|aB _ a) λQ m c A a r j S s T t=>?_;have F:∀f B C,Ln q.heap f=V _->Ln c f=V (m5 B C):=λf B C a=>t f _ ((DJ h).B a U) (O.B a U) a;exact K _ _ _ (m4 c (A+1) U) ⟨λf j a o=>t f j (λd=>o<|.inl d) (λd=>o<|.inr d) a,aX (bm _)<|aw T.b⟩ (aB _ a) (qw _ (#[.int g A,m]) 0 U s (.C ⟨A,U⟩<|.I<|jZ.F (λl l a=>a) F Q r)<|bE U) ⟨ms m _ U j,S F⟩),(λg v q i w x κ μ s e d=>by obtain⟨⟨m,n,rfl,h⟩,e⟩:=e;refine TJ s h λc Z u=>d _ (m4 c q.toks U) ⟨λf j a o=>(u.2 f λd=>o<|.inl d).a a,aw u.1.b⟩ ⟨⟨m,Z⟩,p.B g i _ i c e (λl l a=>a) (λj a=>(u.2 b<|ha G).a a) λf B C a=>(u.2 f<|(Iv h).B a U).a a⟩),(λg i k α c β γ t s=>β.elim λδ e=>δ.a λz h=>⟨⟨z,t a _ h kr⟩,p.B g i k α c e γ (λj m=>t b j m<|.inr U) s⟩),(λg r i k f e ε=>ε.a (λd=>kd d (match r,e.1 with|none,n=>n.a λl n=>(DJ n).A|some _,n=>n.a λl n=>jU n λl ν y=>(Iv y).A)) λd=>kd d<|(p.A g i k e.2).a λl r=>r.A),λg v q i w x ζ d=>ζ.elim λη l=>η.a λl h=>adD h d⟩
def TQ(v:a≠b):AN X a b (λf i k=>∃d,i Z=V (d,d)/\k.IsListIter b d f) (yx Z)where
 C:=λf T w i R W α β γ x y z e p D E=>by
  refine jU e λd g q=>jU (bO.a y) λn F G=>?_
  subst G
  refine z.B (h:=λl=>l=.ref d->_) (DG F) (jO _ g U) (λH δ ε ζ r s t r a=>?_) U
  obtain rfl:H.1=d:=dG a
  cases h:n[f]? with
  |some I=>
   exact jU (t.F h) λl J K=>wpAny_pyNext_enum_item p q (nS s) (bl.b.a J) v λc m L u M o=>E I l c w.toks h K m (λr=>jO _ g L) u M o
  |none=>exact wH (λη N=>wpAny_pyNext_enum_end x p q (nS s) (bl.b.a<|t.c_ h) N) λO Q j=>D O Q j h
 A:=λf i k e=>jU e λd θ S=>⟨_,DH S⟩
 B:=λf i k ι c e g o u=>e.b λd e=>⟨g _ _ e.1,e.2.b λm j=>⟨o m j.1,j.2⟩⟩
def TR(y:a≠b):AN X a b (λf i k=>∃e d g,k.IsTupleIter b e f/\Ln k e=V (m5 d g)/\kf i k n (Lf d)/\f<=Lb d) (sG n)where
 C:=λf H I i R ι κ μ ν J K ξ j r L M=>by
  refine ka λN=>vo j λe d g s h l t=>?_
  obtain rfl:=aY K
  have z:I.heap.IsTuple e d:=⟨_,h,U,g,U⟩
  have D:=TK (l:=H.in1) J b e ((wI s).B h U) d
  apply N
  cases o:n[f]? with
  |some O=>
   refine jU (l.F o) λο E P=>?_
   have F:=(iD.a<|bl.b.a E).1
   refine wpAny_pyNext_enum_itemD D r ⟨s,z⟩ F y (λu=>(ao.a u).a y λu=>?_) λv c Q S w T p W x=>M O v c Q o (kg (aY<|(bl.b.a E).b.a S) P) w (λG=>qw e d g T.1 (G _ _ _ h) (kf.K (λm m a=>a) G n l) F) p W x
   exact(DJ r).B h U (ak.a u).b
  |none=>
   obtain rfl:f=Lb d:=cC t<|jx l.A<|bz.a o
   exact wH (λπ Z=>wpAny_pyNext_enum_endD D r ⟨s,z⟩ Z) λα v q=>L α v q o
 A:=λf i k β=>vn β λm m m γ=>γ.elim λj m=>⟨_,wI j⟩
 B:=λf i k ρ c δ ε x p=>vn δ λe d g ζ=>ζ.elim λj η=>η.elim λh θ=>θ.elim λl t=>qw e d g (j.b λw q=>⟨x w q.1,q.2⟩) (p _ _ _ h) (kf.K ε p n l) t
end
def ra(e:jT)(o:bB)(p:List jA)(q:jC)(r:cL->Prop)(s:lQ):=∀t c a f (g:bB->bG->Prop) u,ki e c q a.heap->kf c a.heap p f->(∀h b,lR a b->(∀i (j:bB->bG->Prop) v,i.handled=Y->(∀k d l m,lR b d->(∀n,l n->Lb a.heap.objs<=n)->oN e l k r m s->m 0 Y c d.heap->j k d)->ay kc i (gV h) j v b)->g h b)->ay kc t (call o f) g u a
section
variable{h:ko}{m:(cL->Prop)->lQ->jC->Prop}
def kS.F(b:kS s h i e)(d:Lb e.heap.objs<=g):¬mA i g:=λf=>pK f λZ j k=>k.elim λc l=>by obtain⟨m,n⟩:=b.A.I Z j c;refine jU (b.A.E Z m n) λt o p=>?_;obtain rfl:=aY<|c.b.a o;exact mr p.A λ_ _ q r _=>cb.b d<|l.a (λa=>a▸bn q) λa=>a▸bn r
def DK(c:bB)(d:Lt jA)(m:(cL->Prop)->lQ->jC->Prop)(X:jT)(n:Lt jA)(R:jC):=∃a b,ra X c (d++n) R a b/\m a b R
def TS(k:n7 ah h.B h.D)(l:ke)(e:bG)(m:(cL->Prop)->lQ->jC->Prop)(n:bB->bG->Prop):=∀f g R i b c d j,m f g R->kS k.A (h.C R) b c->kD lM l e b c->(∀a,d a->Lb e.heap.objs<=a)->(∀a,d a->¬mA b a)->oN h.B d i f j g->j 0 Y b c.heap->n i c
def Iw{b:n7 ah h.B h.D}{r:List jA}(A:qd kH f=aj)(s:x.any nJ=ah)(B:oL ah q h<|DK f r m h.B)(C:ny q b.D x)(D:kS b.A h i e)(E:kf i e.heap r y)(F:TS b i e m a):ay kc b.B (ac8 ι f y (gp ι<|fN x b.A) []) (λt j=>∀d,d.handled=Y->ay kc d (gV t) a c j) c e:=Dv A s<|B b x ι i e _ c C s D λn G W u j k g l H=>⟨qg.A.keeps g.A.F.A,k.a λI k=>jU k λJ K L=>K b.B u j _ _ c g.A (kf.a_ H<|E.G l.B) λt X v M d N=>M d a c N λO P Q R w z S T=>F I J G O u P Q R L (g.D<|v.E w) (l.A<|.C<|v.E w) (λo p=>aX l.B.C<|z o p) (λo p=>g.F<|z o p) S T⟩
def DL(l:lu.A o=V f)(n:qd kH f=aj)(p:oL ah q h<|DK f [] m h.B):pQ (.H (.G o) q) h m:=λr d s e t b u v w=>u (λd=>ay _ _ (dy d _) (λa g=>∀i,i.handled=Y->ay kc i (gV a) t b g) b e) λT j W X x Z y z=>by refine jK<|um (t:=λa R=>a=.G f/\R=h.A) l lp r _ s e _ b y v λa α β γ g c A k B=>ka λC=>?_;obtain⟨rfl,rfl⟩:=c;subst B;exact C<|Iw (y:=[]) n x p z A .M λD E R F G H I J j K L M N O P=>w D E R F G H I J j K (k.A L) (λS c=>aX k.B.C<|M S c) N O P
def TU(s:kn ah p h λj c=>∃a e,qd kH a=aj/\(b<La nR->up b j c h.B a e)/\oL ah q (h.C c) (DK a e m h.B)):pQ (.F p b q) h m:=λa η t k u d v w x=>v (λb=>ay _ _ (dy b _) (λf g=>∀l,l.handled=Y->ay kc l (gV f) u d g) d k) λy θ ι κ μ z n A B C D E=>by obtain⟨p,F⟩:=x' C;exact jL p<|Dw z n A B<|s a y t k _ d D w λj c f G g i o r H I=>i.a λν i=>li i λe J K L=>K F a.B G g f I _ d o.A H λξ M=>Iw (h:=h.C c) J n L E o M λN O R P Q S T W X Z α β γ δ ε=>x N O R P Q S T W X Z (r.A α) (λζ p=>aX r.B.C<|β ζ p) γ δ ε
def Iy{g:lQ}(n:AN X (Lb e.heap.objs+1) (Lb e.heap.objs) W g)(h:acO k (Lb e.heap.objs+1) (Lb e.heap.objs) 0 .none)(o:W 0 i k) (p:∀j b m W,lR {e with heap:=k} b->(∀d,m d->Lb e.heap.objs<=d)->oN X m j qH W (wK g)->W 0 Y i b.heap->a j b):ay kc l (gV<|.ref<|Lb e.heap.objs+1) a c {e with heap:=k}:=adD h<|p _ _ _ _ (.C _) (λd q=>q.a (λf=>kd f<|bm _) λf=>aw f.b) (TP n<|ec _) ⟨⟨.none,h⟩,o⟩
def DM(d:R Z=V (.A n)):ra X (.type "enumerate") [.A Z] R qH<|wK<|yx Z:=λq r e s t u f b c=>by revert c;apply b.B;intro v b c;apply f.B d b;intro a w x g h i y z;refine call_enumerate_list (nS i) λj k l m o=>c _ _ (lP j e.toks U o<|kd m<|bd ..) λA B C D p=>Iy (TQ<|ec _) k (jO a.1 ?_ l) p;exact jx g<|jx (show a=(a.1,a.1) from bt U h) U
def TV:ra X (.type "enumerate") [.E n] R qH<|wK<|sG n:=λr s b t u v w c d=>by revert d;apply c.B;intro x c d;apply c.D;intro e j k g l y;have h:∀{a:dX},Lb a.objs=Lb b.heap.objs+2->_->lL b.heap a:=λe m=>⟨m,kd e<|bd ..⟩;exact TM g λa o p i f=>d _ _ (ms a b.toks U<|h i f) λz A B C q=>Iy (TR<|ec _) o (qw e j k p (f _ _ g) (l.H<|h i f)<|bT _) q
def TW(g:b<1000000):ra X (.type "range") [.B b] R r3<|yy b:=λl m h n o p q a c=>by
 revert c;apply a.B;intro r a c;apply a.B;intro s;have f:hS 0 b 1=b:=by
  unfold hS;rw[aC jB];by_cases d:(0:Int)<b;.rw[aC d,aed,Int.ediv_one,Int.sub_add_cancel]
  .rw[aA d];exact adk (cA b)<|fS.a d
 refine call_range_1<|c _ _ (ms _ _ U<|.C ..) λt u v w i=>wpAny_pyIter_range (bJ _ U) ?_ ?_;.unfold aei;refine jx f ?_;unfold aej;simp only[az,cT,aP];have e:-2^63<=(b:Int)/\(b:Int)<2^63:=⟨fk jI<|cA b,sE U<|aX (bL g) jB⟩;refine⟨⟨⟨⟨by decide,e⟩,by decide⟩,e⟩,.inr ?_⟩;rw[aC jB];simp only[az,aP];exact jx (aef (b:Int)).b e
 .refine jx f ?_;refine i _ _ _ _ (.D ..) (λj k=>?_) (TH.A U) ⟨?_,bT _⟩;.exact kd (show j=_ from k)<|kd (Aa h.heap _)<|bm _
  .exact jx (show _-(0:Int)=b from aed _)<|bJ _ U
def AO(Z:jF)(b:Nat):lQ:=λc R=>(AL<|R Z).bind λa=>bif(La a).beq b then V (a[c]?.map (·.1))else Y
def yz(Z:jF)(c:Nat):lQ:=λd R=>(AL<|R Z).bind λa=>bif(La a).beq c then V<|a[d]?.map λb=>r4 b.1 b.2 else Y
def Iz{e:Op km}{f:Lt (jA×jA)->T}{g:T}(h:((AL e).bind λa=>bif(La a).beq b then V<|f a else Y)=V g):∃a,e=V (.B a)/\La a=b/\g=f a:=by
 refine jU (bD.a h) λa i c=>?_;cases d:(La a).beq b;.rw[d]at c;exact kh c
 .rw[d]at c;exact kT a (TC i) (bA d)<|(aY c).b
def mL.E(a:mL i k d j)(c:j[b]?=.none):d[b]?=.none:=cx<|jL a.A<|bz.a c
def mL.F{a:dM}(c:mL i k d j)(e:j[b]?=V a):∃f g,d[b]?=V (f,g)/\jZ i k f a.key/\jZ i k g a.val:=by have h:=kg c.A (ag.a e).1;refine qc (c.B (r:=d[b].1) (c:=d[b].2)<|aq h) λo p l q m n=>?_;cases e.b.a l;exact lP _ _ (aq h) m n
section
def TX(h:(g==gm)=ah)(d:Ln e.heap g=V (eF j b)) (i:c (.ref (Lb e.heap.objs)) {e with heap:=e.heap.push {cls:=.type "dict_keyiterator",data:=.fields #[.ref g,.int 0 0,.int (La j) 0,.int b 0]}}):ay kc l (gV<|.ref g) c a e:=by have f:e.TypeIs (.ref g) "dict":=jO _ d U;refine gS f adx<|bq adx f F.entry_dict_iter (jK<|jK<|eV f<|ai ?_)<|F.args_dict_iter_1 _;show ay _ _ (eD g>>=_) _ _ e;unfold eD;exact jx (aA<|h▸av)<|jK<|ai<|jK<|dD d U<|jK<|e' d U<|jK<|dK<|ai ⟨_,U,"dict_keyiterator",_,jO _ (bJ _ U) U,fm.lookup,i⟩
theorem TY{f:bk}(n:l.handled=Y)(c:e.heap.IsKeyIter g f b (La j) α)(m:Ln e.heap f=V (eF j α)) (o:∀h d,j[b]?=V h->d.IsKeyIter g f (b+1) (La j) α->d' g e.heap d->z (V h.key) {e with heap:=d}) (p:∀d,j[b]?=Y->ex g e.heap d->z Y {e with heap:=d}):ay kc l (hm<|.ref g) z a e:=by
 revert l a e g f b α j z;apply vl;generalize kZ.1.1.1.1=a,kZ.1.1.1.2=b,kZ.1.1.2=α,kZ.1.2.1=e,kZ.1.2.2=g,kZ.2.1.1=j,kZ.2.1.2=l,kZ.2.2.1=z,kZ.2.2.2=f;intro n c m o p;refine li (id c) λw k s i=>jK<|aeV<|cq c.typeIs fm<|bq fm c.typeIs F.entry_dict_keyiterator_next ?_<|F.args_dict_keyiterator_next_1 _;refine jK<|ai<|dP<|jK<|jK<|fg c.typeIs<|ai<|jK<|aey k i ?_;have t:eh "dict_keyiterator"=ah:=by decide
 refine jx t<|jx (aA av) ?_;refine lJ (av)<|jK<|ai<|jK<|dD m U<|lJ (by simp)<|jK<|ai<|jK<|e' m U<|lJ (by simp)<|ai ?_;dsimp only;refine jx (aA<|fS.b<|cA b)<|jx (eP ..)<|jx (cw ..) ?_;cases q:j[b]? with|some h=>refine jK<|jK<|fg c.typeIs<|ai<|jK<|acP c.typeIs ?_;refine jK<|fK k i jB ?_;have r:(e.heap.update g (gF (·.setIfInBounds 1 (iM<|(b:Int)+1)))).IsKeyIter g f (b+1) (La j) α:=kT _ (cW _ k<|fI<|ds i _) ((gA ..).a s) (by rw[ds i];simp[iM]);exact jK<|bu<|jK<|acP r.typeIs<|ai<|ai<|jO _ U<|ai<|o h _ q r<|ch ..|none=>refine jK<|jK<|fg c.typeIs<|ai ?_;exact jK<|fK k i jB<|DI n λd h u v=>jK<|fZ v aeH<|ai<|p d q u
end
end
def rb{d:hB T}{f:T->bG->Prop}(h:ay kc l d (λi g=>Lb e.heap.objs<=Lb g.heap.objs->f i g) a e):ay kc l d f a e:=cE (AE h) (λc c b=>b.1 b.2) λc c b=>b.1
def IA{d:hB T}{f:T->bG->Prop}(h:ay kc l d f (λi g=>Lb e.heap.objs<=Lb g.heap.objs->a i g) e):ay kc l d f a e:=cE (AE h) (λc c b=>b.1) λc c b=>b.1 b.2
section
def IB{c:bk}{d:Nat}(a:k.IsKeyIter g c b α d):qj k g "dict_keyiterator":=a.b λe a=>⟨_,a⟩
theorem TZ:rz X g "dict_keyiterator" (λh i k=>∃f,i Z=V (f,f)/\k.IsKeyIter g f h b b)<|AO Z b:=by revert X g Z b;apply qu;generalize lr.1.1=b,lr.1.2=g,lr.2.1=X,lr.2.2=Z;exact⟨(λh l e i R β w a x y z c A B=>by refine ka λC=>?_;obtain⟨f,m,p⟩:=c;refine li (Iz y) λd D E F=>?_;subst E;subst F;refine C<|z.D (h:=λG=>G=.ref f->_) D (jO _ m U) (λH γ δ q t n q q j=>?_) U;obtain rfl:H.1=f:=dG j;rw[<-n.A]at p t;refine rb<|TY x p t (λI o r J u q=>?_) λo r K L=>A _ (m4 o e.toks U) ⟨λM s j N=>K M s N j,L⟩<|jx (n.E r) U;.exact mr (n.F r) λO ε j Q _=>B _ O I.key (m4 o e.toks U) (to u) (aB _ j) (DF (IB p) u Q)<|jO _ m<|jL n.A J),(λh i k c=>jU c λf ζ S=>IB S),(λh i k η o c m T θ=>c.b λf c=>⟨m _ _ c.1,c.2.b λs v=>⟨T s v.1,v.2⟩⟩),λh l e i w a c W=>jU c λf ι α=>wpAny_pyIter_keyiter α W⟩
def IC(h:R Z=V (.B d)):m7 X (.A Z) R r3<|AO Z (La d):=λl e n o p a q f i c=>by
 revert c;apply f.D h i;intro b r g j k m _ _ c;refine TX (tm<|f.M g) k<|m7.A c (TZ.A U) ⟨b.1,?_,_,bJ _ U,U,?_⟩;.exact jx g<|jx (show b=(b.1,b.1) from bt U j) U
 .exact jx m.A U
def T0{d:bk}(f:e.heap.IsItemsView g d)(h:Ln e.heap d=V (eF j b)) (i:c (.ref (Lb e.heap.objs)) {e with heap:=e.heap.push {cls:=.type "dict_itemiterator",data:=.fields #[.none,.bool ah,.ref d,.int 0 0,.int (La j) 0,.int b 0,.none,.none]}}):ay kc l (gV<|.ref g) c a e:=by
 refine li (id f) λo k p m=>gS f.typeIs jw<|bq jw f.typeIs F.entry_dict_items_iter (jK<|ai<|jK<|jK<|fh k m (x:=.ref d) U<|ai<|jK<|jK<|dD h U<|dP<|e' h U ?_)<|F.args_dict_items_iter_1 _;have n:eh "dict_itemiterator"=aj:=by decide
 refine jx n ?_;dsimp only;refine jx (aC U) ?_;refine dK (ai ⟨_,U,"dict_itemiterator",_,jO _ (bJ _ U) U,eL.lookup,i⟩) (by simp only[sizeOk,acW,cy,bH,cN,fX,cU];decide)
theorem T1{n:bk}{q:bB}(D:l.handled=Y)(o:je e.heap g n b (La j) α f q)(w:Ln e.heap n=V (eF j α)) (E:∀c i,j[b]?=V c->ae3 i g n (b+1) (La j) α c.key c.val (Lb e.heap.objs)->Ln i (Lb e.heap.objs)=V (m5 #[c.key,c.val] 0)->Lb i.objs=Lb e.heap.objs+1->(∀d h,d≠g->Ln e.heap d=V h->Ln i d=V h)->z (V<|.ref (Lb e.heap.objs)) {e with heap:=i}) (G:∀i,j[b]?=Y->ex g e.heap i->z Y {e with heap:=i}):ay kc l (hm<|.ref g) z a e:=by
 revert l a e g n b α j f q z;apply CM;generalize mR.1.1.1.1=a,mR.1.1.1.2=b,mR.1.1.2=α,mR.1.2.1.1=e,mR.1.2.1.2=f,mR.1.2.2=g,mR.2.1.1.1=j,mR.2.1.1.2=l,mR.2.1.2=z,mR.2.2.1=n,mR.2.2.2=q;intro D o w E G;obtain⟨t,y,A,B,C⟩:=e;have p:ac' ⟨t,y,A,B,C⟩ (.ref g) "dict_itemiterator":=jO _ o U;refine jK<|aeV<|cq p eL<|bq eL p F.entry_dict_itemiterator_next ?_<|F.args_dict_itemiterator_next_1 _;refine jK<|ai<|dP<|jK<|jK<|fY p<|ai<|jK<|aey o U ?_;have O:eh "dict_itemiterator"=aj:=by decide
 refine jx O<|jx (aC U) ?_;refine lJ (av)<|jK<|ai<|jK<|dD w U<|lJ (by simp)<|jK<|ai<|jK<|e' w U<|lJ (by simp)<|ai ?_;dsimp only;refine jx (aA<|fS.b<|cA b)<|jx (eP ..)<|jx (cw ..) ?_;cases H:j[b]? with|some c=>refine jK<|jK<|fY p<|ai<|jK<|gl p ?_;refine jK<|eM o jB λr I u=>?_;have J:ac' ⟨r,y,A,B,C⟩ (.ref g) "dict_itemiterator":=jO _ I U;refine jK<|bu<|jK<|gl J<|jK<|gl J<|jK<|aew ?_;have s:je (r.push {cls:=.type "tuple",data:=.seq #[c.key,c.val]}) g n _ (La j) α f q:=bU _ I;have P:∀k,r.push {cls:=.type "tuple",data:=.seq #[c.key,c.val]}=k->Ln k (Lb t.objs)=V (m5 #[c.key,c.val] 0)/\Lb k.objs=Lb t.objs+1/\∀d h,d≠g->Ln t d=V h->Ln k d=V h:=λk c=>jL c ⟨u.1▸bJ _ U,u.1▸dr ..,λd h Q c=>bU _<|u.extBut d h Q c⟩;show ay _ _ _ _ _ ⟨r.push {cls:=.type "tuple",data:=.seq #[c.key,c.val]},y,A,B,C⟩;refine jx u.1 ?_;generalize R:r.push {cls:=.type "tuple",data:=.seq #[c.key,c.val]}=k at s;refine wi (P k R) λS T W=>jK<|jK<|fh s U (x:=.none) U<|ai<|jK<|fh s U (x:=f) U<|jK<|fh s U (x:=q) U<|jK<|eM s jB λζ X K=>jK<|eM X jB λη Z L=>jK<|eM Z jB λθ β M=>jK<|eM β jB λγ δ N=>?_;have v:=λd h m c=>N.extBut d h m<|M.extBut d h m<|L.extBut d h m<|K.extBut d h m c;exact jK<|ac2<|ai<|ai<|jO _ U<|ai<|(E c) γ H δ (v _ _ (bi<|bn o) S) ((((N.1.a M.1).a L.1).a K.1).a T) λd h m c=>v d h m<|W d h m c|none=>refine jK<|jK<|fY p<|ai ?_;exact jK<|fK o U jB<|DI D λi c v ε=>jK<|fZ ε aeH<|ai<|G i H v
def T2:entryFor table "dict_itemiterator.__iter__"=V Builtin.«dict_keyiterator.__iter__»:=aeK (id':="dict_keyiterator.__iter__") (by kernel_rfl) U (by decide+kernel) (by kernel_rfl)
def T3(Z:jF)(g:bk)(b:Nat):ur:=λe h i k=>∃a,i Z=V (a,a)/\match h with|none=>∃c d,je k g a e b b c d|some j=>∃c d f,j=.ref f/\ae3 k g a e b b c d f
def ID{a:bk}{c:Nat}{d:bB}(e:je k g a b α c f d):qj k g "dict_itemiterator":=lP _ _ e U U
def T4:oN X (· =g) (.ref g) qH (T3 Z g b)<|yz Z b:=⟨(λs l e t R ψ E a S T W o x α=>by refine ka λy=>?_;obtain⟨m,p,q,r,z⟩:=o;refine li (Iz T) λd β γ δ=>?_;subst γ;subst δ;refine y<|W.D (h:=λG=>G=.ref m->_) β (jO _ p U) (λH ε I j J u j j c=>?_) U;obtain rfl:H.1=m:=dG c;rw[<-u.A]at z J;refine rb<|T1 S z J (λK n i ζ v η w j=>ka λy=>mr (u.F i) λL M c θ ι=>?_) λn i κ μ=>x _ (m4 n e.toks U) ⟨λh A c B=>κ h A B c,μ⟩<|jx (u.E i) U;have N:∀h O Q,Ln e.heap h=V _->Ln n h=V (m5 O Q):=λh O Q c=>w h _ ((ID z).B c U) c;apply y;exact α _ (r4 L M) _ (m4 n e.toks U) ⟨λh A c B=>w h A B c,aX (bm _)<|aw η.b⟩ (aB _ c) (qw _ (#[K.key,K.val]) 0 U v (.C (jZ.F (λj j c=>c) N L θ)<|.I<|jZ.F (λj j c=>c) N M ι)<|bE U) ⟨_,p,_,_,_,U,jL u.A ζ⟩),(λs l e t E a ω G v o C=>by obtain⟨m,p,q,r,h,rfl,i⟩:=o;refine vn v λε Γ H ν=>?_;subst ν;exact wpAny_letOwnedTupleGo_items i λn ξ ο=>C _ (m4 n e.toks U) (to ο) ⟨m,p,q,r,ξ⟩),(λs t k Δ n π p w v=>π.a λm ρ=>ρ.elim λI σ=>pK σ λq r i=>⟨m,p _ _ I,q,r,w g _ i U⟩),(λs τ t k h o c=>kd c (by cases τ with|none=>exact o.a λ_ f=>f.2.a λ_ f=>f.a λ_ f=>(ID f).A|some _=>exact o.a λ_ f=>f.2.a λ_ f=>f.a λ_ f=>jU f λ_ Θ x=>qj.A<|lP _ _ x U U)),(λs l e t E a υ C=>υ.a λm φ=>φ.elim λj χ=>pK χ λq r i=>by have D:e.TypeIs (.ref g) "dict_itemiterator":=jO _ i U;exact gS D iG<|bq iG D T2 (ai ⟨_,U,"dict_itemiterator",_,D,eL.lookup,C⟩)<|F.args_dict_itemiterator_iter_1 _)⟩
def T5(k:R Z=V (.B d)):ra X (.builtin "dict.items") [.A Z] R qH<|yz Z (La d):=λl p e q r a i c f=>by
 revert f;apply c.B;intro s c f;apply i.D k c;intro b t j g h m _ u;refine bq F.slot_dict_items (nu h) F.entry_dict_items (jK<|jK<|eV (nu h)<|ai ?_)<|F.args_dict_items_1 _;show ay _ _ (eD b.1>>=_) _ _ e;unfold eD;refine jx (aA<|(tm<|i.M j)▸av) ?_;refine jK<|ai<|jK<|dK<|ai<|jO _ U<|f _ _ (.D e _) λv w x y n=>T0 (kT _ (bJ _ U) U U) (bU _ h)<|n _ _ _ _ (.D ..) (λo g=>?_) T4 ⟨b.1,?_,.none,.none,?_⟩;.exact kd (show o=_ from g)<|kd (Aa e.heap _)<|bm _
 .exact jx j<|jx (show b=(b.1,b.1) from bt U g) U
 .exact jL m.A<|bJ _ U
end
def IE:∀{a:Lt cj},yc a=aj->Le a:=λ{a}=>lO (λ_=>eU) (λc f d=>λb=>by simp only[yc,az,eN,fy,aE]at b;exact cQ.b ⟨λe=>b.1 c e U,d b.2⟩) a
def r5(a:fD):=a.kind=.function/\Le (a.names.map (·.1))/\∀b∈a.names,b.2≠.cell
section
variable{a:fD}(b:r5 a)
def r5.C:=b.1
def r5.A:=b.2.1
def r5.B:=b.2.2
end
theorem IF{a:fD}(b:vp a=aj):r5 a:=by revert a;apply pJ;generalize pn=a;intros;unfold vp at b;simp only[az,bc,eN,aR]at b;exact⟨by have:=b.1.1.1.1;revert this;cases a.kind<;>decide,IE b.1.2,λc d=>b.2 c d⟩
def pt{b:Type}[BEq b][LawfulBEq b]{c:b}{f:T}{d:Lt<|b×T}(a:Lj c d=V f):(c,f)∈d:=by
 induction d with
 |nil=>exact kh a|cons g i h=>
  rw[bx]at a;cases e:c==g.1;.rw[e]at a;exact .tail _<|h a
  .rw[e]at a;exact ao.b<|.inl<|bt (aE.a e) (aY a).b
def yA{a:Type}[BEq a][LawfulBEq a]{b:a}{f:T}{c:Lt<|a×T}(e:(b,f)∈c):∃g,Lj b c=V g:=by
 induction c with
 |nil=>exact a' e ac|cons d k h=>
  refine jx bx ?_;cases i:b==d.1;.exact(ao.a e).a (λj=>ot<|(aI b).b.a<|(aB (λd:a×T=>b==d.1) j).a i) h
  .exact⟨_,U⟩
def IG{k:Type}{g:T->Op k}{b:Lt T}:∀{c:Lt k},b.mapM g=V c->(∀d∈b,∃e∈c,g d=V e)/\∀e∈c,∃d∈b,g d=V e:=by
 induction b with
 |nil=>intro c a;obtain rfl:=aY a;exact⟨λh a=>a' a ac,λh a=>a' a ac⟩|cons d b n=>
  intro c a;rw[List.mapM_cons]at a;refine jU (bD.a a) λe l a=>jU (bD.a a) λr o a=>?_;obtain rfl:=aY a;have m:=n o;refine⟨λp i=>?_,λq j=>?_⟩;.
   rcases ao.a i with rfl|i;.exact jO e (.head _) l
   .exact(m.1 p i).b λh f=>⟨.tail _ f.1,f.2⟩
  .rcases ao.a j with rfl|j;.exact jO d (.head _) l
   .exact(m.2 q j).b λh f=>⟨.tail _ f.1,f.2⟩
def wL(a:eR):=a=.cell\/a=.free
set_option tactic.hygienic true in theorem IH{b:k'}{c:cj}{d:Nat}{h:Nat×Nat}(e:(match rX b c with
 |some (f,ah)=>match b[f]? with|some (_,.cell)=>V (d,f)|some (_,.free)=>V (d,f)|_=>Y
 |_=>Y)=V h):h.1=d/\(of b)[h.2]?=V (c,ah)/\∃a,(c,a)∈b/\wL a:=by
 revert b c d h;apply qu;generalize lr.1.1=b,lr.1.2=c,lr.2.1=d,lr.2.2=h;intro e;split at e;.
  rename_i f m;have k:=rt m;have l:∀{i a},b[f]?=V (i,a)->wL a->(d,f).1=d/\_[f]?=V _/\∃a,(c,a)∈b/\wL a:=λ{i a} g n=>by have j:=k;unfold of at j;rw[ax,g]at j;obtain rfl:i=c:=aB ca<|aY j;exact⟨U,k,a,aa g,n⟩
  split at e;.rename_i g;cases e;exact l g kr
  .rename_i g;cases e;exact l g<|.inr U
  .cases e
 .cases e
section
variable{a:fD}
def AP(e:sA θ a=V u)(f:Lj b u=V α):∃o c,a.names[b]?=V (o,.free)/\(of θ)[α]?=V (o,ah)/\(o,c)∈θ/\wL c:=by refine ka λg=>?_;obtain⟨⟨⟨o,c⟩,h⟩,i,j⟩:=(IG e).2 _<|pt f;have d:=ar.a i;obtain⟨k,l,m,n⟩:=IH j;obtain rfl:c=.free:=aE.a d.2;exact g<|lP o m (jx (show b=h from k)<|ht.a d.1) l n
def AQ(f:sA θ a=V u)(g:a.names[b]?=V (o,.free)):(∃α,Lj b u=V α)/\∃c,(o,c)∈θ/\wL c:=by refine jU ((IG f).1 ((o,.free),b)<|ar.b ⟨ht.b g,U⟩) λd h i=>?_;have e:=IH i;exact⟨yA<|Eq.subst (bt e.1 U:d=(b,d.2)) h,e.2.2⟩
def II(d:sA θ a=V u)(e:(o,dI)∈a.names):∃c,(o,c)∈θ/\wL c:=(cF.a e).a λb f=>(AQ d f).2
end
noncomputable def wM(b:gu)(a:cj×eR):Op<|cj×bk:=if a.2==.free then(Lj a.1 b.cells).map (a.1,·)else Y
def oO(a:gu)(b:Lt<|cj×eR):Lt<|cj×bk:=(b.filterMap<|wM a).reverse
section
variable{a:fD}
def us(c:Lj o (oO s π)=V g):(o,dI)∈π/\Lj o s.cells=V g:=by
 obtain⟨⟨h,d⟩,e,a⟩:=cV.a<|he.a<|pt c;unfold wM at a;cases b:d==dI;.rw[b]at a;exact kh a
 .rw[b]at a;refine jU (bO.a<|a) λi f a=>?_;cases a;cases aE.a b;exact⟨e,f⟩
def AR(c:(o,dI)∈π)(a:Lj o s.cells=V g):Lj o (oO s π)=V g:=by obtain⟨d,b⟩:=yA (show(o,g)∈oO s π from he.b<|cV.b<|jO _ c (by show(Lj o s.cells).map _=_;rw[a];rfl));obtain rfl:=aY<|a.b.a (us b).2;exact b
theorem IJ(d:∀o,(o,dI)∈a.names->∃g,Lj o s.cells=V g):closureFor a s=er (oO s a.names):=by
 revert s a;apply od;generalize lX.1=s,lX.2=a;intros;have l:∀(c:Lt _)(b:Lt _),(∀o,(o,dI)∈c->∃g,Lj o s.cells=V g)->(forIn c b λe h=>(if(e.2==dI)=aj then do let f<-cellOf s e.1;er (fF ((e.1,f)::h))else er<|fF h:hB _))=er ((c.filterMap<|wM s).reverse++b):=by
  intro c;induction c with
  |nil=>intro b _;rfl|cons f v m=>
   intro b i;obtain⟨o,n⟩:=f;refine jx (gY ..) ?_;have j:=λb=>m b λp q=>i p<|af _ q;cases k:n==dI;.simp only[Bool.false_eq_true,if_false,pure_bind,j];rw[gC (by unfold wM;rw[k];rfl)]
   .cases aE.a k;obtain⟨g,d⟩:=i o ae;have r:cellOf s o=er g:=by unfold cellOf;rw[d]
    simp only[r,j];exact jx (gB (by unfold wM;rw[d];rfl))<|jx (List.reverse_cons ..)<|jx (bw ..) U
 have:=l a.names [] d;rw[bQ]at this;exact(aB (λt=>t>>=λu=>er u) this).a U
end
def oh(a:Lt<|Nat×Nat)(b:jP):jP:=λc=>(Lj c a).bind b
noncomputable def rA(b:gu)(a:cj×eR):cj×eR:=if(a.2==.free&&b.scope.kind==.function&&b.kindOf a.1==V .cell)then(a.1,.cell)else a
def wN(b:gu)(a:cj×eR):rA b a=a\/(a.2=.free/\b.kindOf a.1=V .cell/\rA b a=(a.1,.cell)):=by
 unfold rA;split;.rename_i c;simp only[az,aE]at c;exact .inr<|lj c.1.1 c.2 U
 .exact .inl U
def DN(c:gu)(a:cj×eR):(rA c a).1=a.1:=(wN c a).a (λb=>jx b U) λb=>jx b.2.2 U
section
variable{a:jP}{c:fD}{d:Lt (cj×bk)}{e:eR}
def DO(a:r5 c)(f:c.names[b]?=V (o,e)):(ef c d g s).kindOf o=V (rA s (o,e)).2:=by
 have h:Le ((c.names.map<|rA s).map (·.1)):=by exact kd bY<|jx (show((λo=>o.1)∘rA s:cj×eR->cj)=λo=>o.1 from aJ λj=>DN s j) a.A
 refine tk (π:=c.names.map<|rA s) (b:=b) ?_ h;simp only[ax,f];exact aB V<|bt (DN s _) U
theorem DP(k:(ef c d g s).kindOf o=V e):∃a,(o,a)∈c.names/\(e=a\/(a=.free/\e=.cell/\s.kindOf o=V .cell)):=by
 revert c s g d o e;apply qv;generalize kE.1.1.1=g,kE.1.1.2=o,kE.1.2=s,kE.2.1.1=c,kE.2.1.2=d,kE.2.2=e;intros;obtain⟨⟨l,a⟩,b,f⟩:=am.a<|pt (show eI o (c.names.map<|rA s)=V e from k);rcases wN s _ with h|⟨i,j,h⟩<;>rw[h]at f<;>cases f;.exact jO _ b kr
 .exact jO _ b<|.inr<|lj i U j
def T6(h:ow s θ)(f:r5 c):ow (ef c d g s) c.names:=by
 refine lY f.C ?_ ?_ (λo e j k=>?_) h.D h.F;.
  show of (c.names.map<|rA s)=of c.names;unfold of;refine jx bY ?_;refine fb λi p=>?_;show((rA s i).1,_)=_;rcases wN s i with a|⟨l,_,m⟩;.rw[a]
  .exact jx m<|jx l U
 .unfold of;exact kd bY f.A
 .refine(cF.a j).a λb n=>?_;refine jx (DO f n) ?_;rcases wN s _ with a|⟨_,_,a⟩;.refine jx a ?_;rcases k with rfl|rfl<;>simp
  .exact jx a kr
def T7(e:r5 c)(a:(ef c d g s).kindOf o=V .cell\/(ef c d g s).kindOf o=V .free):(o,dI)∈c.names:=by
 rcases a with a|a;.
  obtain⟨f,b,rfl|⟨rfl,_⟩⟩:=DP a;.exact a' U<|e.B _ b
  .exact b
 .obtain⟨f,b,rfl|⟨rfl,_⟩⟩:=DP a;.exact b
  .exact b
def T8(m:ow s θ)(n:r5 c)(z:sA θ c=V u)(l:ml X i k s a)(B:∀o d,Lj o s.cells=V d->d≠g)(C:¬mA i g)(D:Ln X.A g=Y)(E:∃F,k.Ns g F):ml X i k (ef c (oO s c.names) g s)<|oh u a:=by
 refine po E C D (λo d f=>?_) (λo p=>?_) (λo h d q r=>l.E o h d (us q).2 (us r).2) l.I λb o β t G H=>?_;.
  refine(l.A o d (us f).2).elim λt I=>I.elim λJ K=>K.elim λL γ=>mz t J (λp=>L ?_)<|B o d (us f).2;obtain⟨δ,M,rfl|⟨_,_,N⟩⟩:=DP p;.exact a' U<|n.B _ M
  .exact N
 .have A:=T7 n p;refine jU (II z A) λe v w=>?_;obtain⟨d,O⟩:=l.D o<|m.C o e v w;exact⟨d,AR A O⟩
 .refine(bD.a H).a λP Q=>Q.elim λR S=>ka λT=>qc (AP z R) λh e x W v w=>?_;obtain rfl:h=o:=by have y:(of<|c.names.map<|rA s)[b]?=V _:=G;unfold of at y;simp only[ax,ax,x]at y;exact(DN s (h,.free)).b.a<|aB ca<|aY y
  refine jU (l.G P h ah t (jx m.A W) S) λZ j α=>?_;obtain⟨d,q,r⟩:∃d,Lj h s.cells=V d/\k.IsCell d _:=j.a (λj=>(m.C h e v w).a (λf=>a' (j.1.b.a f) jB) λf=>a' (j.1.b.a f) jB) λj=>j.2;refine T<|jO Z (.inr ⟨?_,d,AR (aa x) q,r⟩) α;refine jx (DO n x) ?_;rcases wN s _ with f|⟨_,_,f⟩<;>rw[f]<;>simp
end
def T9(f:kM):∀(e:jA)(b c:jP),mu f e b=V c->∀a,a∉pO f->c a=b a:=kM.rec (motive_1:=λf=>∀(e:jA)(b c:jP),mu f e b=V c->∀a,a∉pO f->c a=b a) (motive_2:=λi=>∀(g:List jA)(b c:jP),r2 i g b=V c->∀a,a∉AG i->c a=b a) (λp e b c d a h=>aY d▸jP.B _ _ λl=>h<|l▸.head _) (λi m e b c d a h=>by cases e<;>first|exact m _ b c d a h|exact kh d) (λg b c d a h=>by cases g with|nil=>cases d;rfl|cons=>exact kh d) (λf i n o g b c d a h=>by cases g with|nil=>exact kh d|cons e g=>exact(bD.a d).a λk d=>(o g k c d.2 a λj=>h<|bP _ j).a<|n e b k d.1 a λj=>h<|bM _ j) f
def ml.L{d e:jP}(a:ml X i k s d)(f:∀b c,e b=V c->d b=V c):ml X i k s e:=po a.B a.F a.H a.A a.D a.E a.I λb g h c j l=>a.G b g h c j<|f b c l
noncomputable def r6:Lt jR->ko->(Bool->jC->Prop)->Prop|[],a,b=>b aj a.A|d::e,a,b=>ox ah d a λf c=>bif f then r6 e (a.C c) b else b ah c
noncomputable abbrev yB(d:Lt cL)(a:gu)(e:Bool):hB Bool:=forIn d e λb c=>if c=aj then do let f<-acw b a (dy b a);er (fF f)else er<|fF c
section
variable{d:ko}
def T'(c:η ah e):∀{b:Lt cL},ay kc l (yB b s ah) η a e:=λ{b}=>lO (ai c) (λf g d=>by unfold yB;exact jx (gY ..)<|jK<|ai<|d) b
def Ua:∀{d:ko}{c:ke}{e:bG}(b:n7 ah d.B d.D){f:Lt cL}{g:Bool->bG->Prop},r6 q d O->ny q b.D f->kS b.A d c e->HE b.A d c e O g->ay kc b.B (yB f b.A aj) g a e:=by induction q with|nil=>intro d c e b f g i j k h;subst j;exact ai<|h aj _ c e i k .D|cons D E r=>intro d c e b f g i j k h;apply j;intro s F t u;unfold yB;refine jx (gY ..) ?_;refine jK<|jK<|i b s c e _ a t k λl m v w n o p=>ai ?_;cases l with|true=>exact r (d:=d.C m) b n u o λl x y z A B C=>h l x y z A B<|p.A C|false=>exact T'<|h ah m v w n o p
abbrev rc:bB->bG->Prop:=λa a=>False
abbrev ut:=fe->gu->bk->(bG->Prop)->bG->Prop
def Ub(b:cL)(i:List cL)(j:ut)(l:fe)(c:bB)(k:bk)(a:gu)(δ:acE->bG->Prop)(d:bG->Prop)(e:bG):Prop:=ay kc l (hm c) (λm f=>match m with|none=>δ (.ok .next) f|some g=>ay kc l (gt b c g) (λn o=>ay kc l (assign b a g) (λn p=>ay kc l (yB i a aj) (λq h=>if q=aj then j l a k d h else d h) rc p) rc o) rc f) rc e
def vA(c m:cL)(n:Lt cL)(o:ut):=(∀{l:fe}{b f:bB}{a:gu}{δ:acE->bG->Prop}{e:bG},ff kc l (.compLoop c 0 b f a) δ e->ay kc l (gV b) (λp g=>ff kc l (.compLoop c 0 p f a) δ g) (notedBy kc l a λq g=>δ (.error q) g) e->ff kc l (.compStart c 0 b f a) δ e)/\∀{l:fe}{b:bB}{i:bk}{a:gu}{δ:acE->bG->Prop}(h:Nat->bG->Prop),(∀d e,h d e->∀j:bG->Prop,(∀k e,k<d->h k e->j e)->Ub m n o l b i a δ j e)->∀d e,h d e->ff kc l (.compLoop c 0 b (.ref i) a) δ e
section
variable{b:cL}{c:ut}(f:vA N b x c)
def vA.A:=@f.1
def vA.B:=@f.2
end
def IK(a:cL):ut:=λl b c d e=>ay kc l (dy a b) (λf g=>ay kc l (call (.builtin "list.append") [.ref c,f]) (λi h=>d h) rc g) rc e
def IL(b c:cL):ut:=λl a d f e=>ay kc l (dy b a) (λg h=>ay kc l (dy c a) (λi j=>ay kc l (adK d g i) (λm k=>f k) rc j) rc h) rc e
theorem IM{c g:cL}{h:fD}:vA (.ListComp N [⟨c,g,x,0⟩] h ι) c x<|IK N:=by revert N c g x h ι;apply qv;generalize kE.1.1.1=x,kE.1.1.2=N,kE.1.2=ι,kE.2.1.1=c,kE.2.1.2=g,kE.2.2=h;exact⟨codeAny_compStart_list,(λ{l y z A δ} i m d e n=>by refine codeAny_loop U i (λd e o=>acY ?_) d n;refine jx (compTurn_list ..) ?_;refine jK<|dY<|jK<|cE (m d e o (λe=>∃f,f<d/\i f e) λf e p q=>jO f p q) (λr B j=>?_) λa a b=>b.elim;cases r with|none=>exact ai j|some C=>refine jK<|cE j (λa D s=>jK<|cE s (λa E t=>jK<|cE t (λu F k=>?_) λa a b=>b.elim) λa a b=>b.elim) λa a b=>b.elim;cases u with|false=>exact ai ⟨U,k⟩|true=>exact jK<|jK<|cE k (λG H v=>jK<|cE v (λa I w=>ai<|ai ⟨U,w⟩) λa a b=>b.elim) λa a b=>b.elim)⟩
theorem Uc{c d h:cL}{i:fD}:vA (.DictComp N c [⟨d,h,x,0⟩] i ι) d x<|IL N c:=by revert N c d h x i ι;apply ud;generalize lt.1.1.1=x,lt.1.1.2=N,lt.1.2.1=ι,lt.1.2.2=c,lt.2.1.1=d,lt.2.1.2=h,lt.2.2=i;exact⟨codeAny_compStart_dict,(λ{l A B C δ} j n f e o=>by refine codeAny_loop U j (λf e p=>acY ?_) f o;refine jx (compTurn_dict ..) ?_;refine jK<|dY<|jK<|cE (n f e p (λe=>∃g,g<f/\j g e) λg e q r=>jO g q r) (λs D k=>?_) λa a b=>b.elim;cases s with|none=>exact ai k|some E=>refine jK<|cE k (λa F t=>jK<|cE t (λa G u=>jK<|cE u (λv H m=>?_) λa a b=>b.elim) λa a b=>b.elim) λa a b=>b.elim;cases v with|false=>exact ai ⟨U,m⟩|true=>exact jK<|jK<|cE m (λI J w=>jK<|bu<|cE w (λK L y=>jK<|dY<|bu<|cE y (λa M z=>ai ⟨U,z⟩) λa a b=>b.elim) λa a b=>b.elim) λa a b=>b.elim)⟩
abbrev vB:=ko->(jC->Prop)->Prop
def AS(j:jF)(k:ut)(l:vB)(m:k'):=∀{σ:ko}{f:jC->Prop}(a:n7 ah σ.B σ.D) b e c g,a.D=m->l σ f->kS a.A σ b e->b j=V (c,c)->(∀h i d,f h->kS a.A (σ.C h) i d->kD lM b e i d->g d)->k a.B a.A c g e
def AT(b:jF)(e:jR):vB:=λd f=>kn ah e d λg c=>∃a,c b=V (.A a)/\La a<16777216/\f (jE c b<|.A<|a++[g])
def IN(b:jF)(f g:jR):vB:=λd h=>kn ah f d λc i=>kP c=aj/\kn ah g (d.C i) λj e=>∃a,e b=V (.B a)/\La a<16777216/\h (jE e b<|.B<|kF a c j)
def Ud(d:Ln e.heap g=V (rs v b))(k:Lb v<=gE) (i:∀h j,Ln h g=V (rs (v.push f) j)->d' g e.heap h->c .none {e with heap:=h}):ay kc l (call (.builtin "list.append") [.ref g,f]) c a e:=by refine bq slot_list_append (nS d).typeIs entry_list_append ?_<|args_list_append ..;show ay _ _ (updateSeq g _>>=λm=>ret .none) _ _ e;refine jK<|wpAny_updateSeq d U<|ai<|jO .none U<|i _ (b+1) ?_<|ch ..;refine jx (cW _ d U) ?_;simp[rs,hL]
def IP{d:bB}(g:ki X i R e.heap)(h:R Z=V (.A n))(j:La n<16777216)(o:jZ i e.heap (.A Z) f)(p:jZ i e.heap r d) (q:∀b,ki X i (jE R Z<|.A<|n++[r]) b.heap->kD lM i e i b->c .none b):ay kc l (call (.builtin "list.append") [f,d]) c a e:=by apply g.B h o;intro y z A s t u k _;refine Ud u (kd cU<|jx k.A<|bL j) λv B w x=>?_;have m:=g.g_ h s t x w (kd acs<|k.l_ p)<|jx bH j;exact q _ m.1 ⟨m.2,v,e.toks,U⟩
def IQ(f:kV p θ N):AS Z (IK N) (AT Z p) θ:=λg h e u v i j k l m=>by subst i;exact j g N h e _ rc f k λw x y n z a b c o=>li a λA q r a=>IP b.A q r (jO _ (c.B.A _ _ l) U) o λs t d=>m _ n s a (b.C t d)<|c.A d
def Ue{a:cL}{h:jR}(r:kV p θ N)(s:kV h θ a):AS Z (IL N a) (IN Z p h) θ:=λb t e i S u v w x y=>by subst u;refine v b N t e _ rc r w λT W j z A k B l C=>k.2 b a z A _ rc s B λX α β D γ c d f E=>li c λδ m n c=>d.A.D (h:=λj=>j=.ref i->_) m (jO _ (f.B.A _ _<|l.B.A _ _ x) U) (λF ε G H I J K ζ L=>?_) U;obtain rfl:F.1=i:=dG L;refine Dq (bL b.E.E) I J K k.1 (C.A f.B) E n λo q η M O Q R=>?_;have g:=d.A.h_ m G H M O Q R<|aX (q9 ..) n;exact y _ D _ c (d.C g.1 ⟨g.2,o,q,U⟩)<|(l.A f).A ⟨g.2,o,q,U⟩
end
def kD.I{a:ke}(b:lC Q i e.heap a β.heap)(c:oZ e β):kD Q i e a β:=⟨b,c⟩
abbrev DQ:=(cL->Prop)->lQ->jC->Prop
def IR(k:vB)(l:kM)(m:List jR)(n:List<|Nat×Nat)(o:lQ)(a:ko)(p:jF)(e:Nat->Nat->jC->Prop)(q:jA->jC->Prop):=∀f c d,e f c d->∃g,o c d=V g/\(g=Y->q (.A p) d)/\∀i,g=V i->∃h,mu l i (oh n a.E)=V h/\r6 m ⟨a.B,a.D,h,d⟩ λr j=>bif r then k ⟨a.B,a.D,h,j⟩ (λs=>∃b,b<f/\e b (c+1) s)else∃b,b<f/\e b (c+1) j
def DR(h:ko)(i:ke)(d:bG)(e:jF)(j:jA->jC->Prop)(f a:bk)(c:bG):=∃b g,j (.A e) g/\b e=V (f,f)/\ki h.B b g c.heap/\kD (· =a) i d b c/\(∃k,c.heap.Ns a k)/\¬mA b a/\Lb d.heap.objs<=a
section
variable{d:ko}
def ki.e_(b:ki X i R k)(e:mA i g):g<Lb k.objs:=pK e λc f h=>h.elim λd j=>by obtain⟨l,m⟩:=b.I c f d;refine jU (b.E c l m) λr n o=>?_;obtain rfl:=aY<|d.b.a n;exact mr o.A λ_ _ p q _=>j.a (λa=>a▸bn p) λa=>a▸bn q
def DS{a:bk}(b:mA (qC i Z (g,g)) a):a=g\/mA i a:=b.a λf b=>jU b λh j d=>vu j (λk e=>.inl<|d.a (λc=>c.a<|aB ca e) λc=>c.a<|aB dO e) λk l=>.inr<|ms f h l d
def Uf{c:n7 ah d.B d.D}{l:fD}{M:cL}{b6:ut}{b7:vB}{E:kM}{A:ke}{O:ur}{b8:lQ}{χ:bB->bk->acE->bG->Prop}{b9:km} {ω:Nat->Nat->jC->Prop} {c0:hB bB} (g0:∀{c1:bB->bG->Prop},c1 (.ref (Lb β.heap.objs)) {β with heap:=β.heap.push ψ}->ay kc c.B c0 c1 a β) (g1:ψ.isFreed=ah) (g2:∀{ν y},Ln y (Lb β.heap.objs)=V ψ->pr ν y b9 (Lb β.heap.objs,Lb β.heap.objs)) (c2:vA N M x b6) (g3:AS Z b6 b7 l.names) (F:r5 l) (c3:sA c.D l=V u) (g4:nb E l.names M) (g5:ny q l.names x) (c4:∀m∈pO E,Lj m u=Y) (z:kS c.A (d.C R) A β) (o:oN d.B Q f ε O b8) (g6:ε M) (c5:O 0 Y A β.heap) (g7:∀g,Q g->¬mA A g) (c6:kD lM i e A β) (Γ:∀g,Q g->Lb e.heap.objs<=g) (g8:∀g,Q g->¬oM c.A g) (g9:∀g,Q g->Ln d.B.A g=Y) (h0:R Z=Y) (h1:ω b 0<|jE R Z b9) (h2:IR b7 E q u b8 d Z ω t) (h3:∀p j v,DR d i e Z t p j v->χ (.ref p) j (.ok .next) v):ay kc c.B c0 (λc7 h4=>ay kc c.B (aeE l c.A.globals (oO c.A l.names) [] c.A.qual Y .none<|V c.A) (λc8 h5=>ff kc c.B (.compStart N 0 f c7 {c8 with scope:=relabel l c.A}) (χ c7 c8.locals) h5) a h4) a β:=by
 refine g0<|acZ F.B jB (λξ Δ ο=>?_) F.C;have P:=dr β.heap ψ;generalize c9:β.heap.push ψ=h6 at Δ ο P⊢;generalize d0:Lb h6.objs=j at Δ ο P⊢;have d1:Lb β.heap.objs≠j:=kd P<|bF<|bN _;have G:Lb β.heap.objs<=j:=kd P<|bm _;have d2:=λg B k=>ο.extBut g B (kg d0<|bF<|bn k)<|bU _ k;have d3:lL β.heap ξ:=⟨λg B k=>d2 g B<|(λg B k=>jL c9<|bU _ k) g B k,by simp only[ο.1,dr,d0,P];exact bd _ 2⟩;obtain⟨S,T⟩:=z.A.a_ h0 d3 (al _) (al _) λa=>g2<|d2 _ _<|jL c9<|bJ _ g1;have d4:∀{g},mA A g->g<Lb β.heap.objs:=λr=>z.A.e_ r;have Θ:∀{g},Q g->g<Lb β.heap.objs:=λr=>(o.A _ _ _ _ _ c5 r).A;have d5:=λr I k=>(z.B.A r I k).1.a λh7 Ξ=>Ξ.lt;have h8:=aX c6.B.C G;have h9:=cR<|aX z.A.A.B G;generalize Lb β.heap.objs=p at d1 G S T d4 Θ d5⊢;have d6:¬mA (qC A Z _) j:=λh=>(DS h).a (λh=>d1 h.b) λh=>cb.b G<|d4 h;have d7:ml d.B _ ξ (ef l _ j c.A) _:=T8 c.C F c3 (z.B.C T) (λr I k h=>cb.b G<|h▸d5 r I k) d6 h9 ⟨_,Δ⟩;have W:=T6 (g:=j) (d:=oO c.A l.names) c.C F;have d8:AH (ef l (oO c.A l.names) j c.A) (· =j)<|pO E:=λm i0 r i1=>by
  have Φ:=W.A▸i1;unfold of at Φ;rw[ax,bO]at Φ;obtain⟨⟨X,J⟩,α,k⟩:=Φ;obtain rfl:X=r:=aB ca k;have d9:J≠.free:=λh=>by obtain⟨Ψ,i2⟩:=(AQ c3<|jL h α).1;exact mh (c4 m i0) i2
  exact jx (DO F α)<|jx ((wN c.A (X,J)).a (aB dO) λk=>a' k.1 d9) ⟨λk=>d9<|aY k,λγ=>U,λI k=>a' (aY k)<|F.B _<|aa α⟩
 have δ:=o.E _ _ _ _ _ c5 T.A (λg B k γ=>d3.A g B k) T.F;have e0:qG Q d.B (qC A Z (p,p))<|ef l (oO c.A l.names) j c.A:=⟨λg s h=>(DS h).a (λh=>dR _<|h▸Θ s)<|g7 g s,λg s h=>h.a (λh=>cb.b G<|(show g=j from h)▸Θ s) λi3=>i3.a λr h=>g8 g s<|.inr ⟨r,(us h).2⟩,g9⟩;have Ω:∀{ν n:ke}{y e1:dX},lC (· =j) ν y n e1->lC (oM<|ef l (oO c.A l.names) j c.A) ν y n e1:=λk=>k.E λg h=>.inl h;have e2:∀{ζ:bG},ζ={β with heap:=ξ,toks:=β.toks+La ([]:List<|cj×bB)}->ff kc c.B (.compLoop N 0 f (.ref p)<|ef l (oO c.A l.names) j c.A) (χ (.ref p) j) ζ:=by
  rintro ζ rfl;have π:(ef l (oO c.A l.names) j c.A).locals=j:=U;generalize ef l (oO c.A l.names) j c.A=w at d7 W d8 e0 Ω π⊢;refine c2.B (λJ v=>∃m e3 n,ω J m e3/\kS w ⟨d.B,d.D,oh u d.E,e3⟩ n v/\n Z=V (p,p)/\kD (· =j) i e n v/\O m Y n v.heap/\qG Q d.B n w/\¬mA n j) (λJ i4 a0 j8 e4=>ka λa1=>Go a0 λm η ρ a0 a2 τ e5 δ θ e6=>li (h2 J m η a0) λi5 α i6 Ξ=>?_) b _<|Q6 0 _ _ h1 ⟨S,d7⟩ (rv ..) (c6.E.A ⟨T.E λγ h=>h.elim,ξ,_,U⟩) δ e0 d6;have υ:=(o.A _ _ _ _ · δ);refine a1<|o.C m c.B i4 ρ η i5 _ _ c.E.A α a2.A δ (λβ a3 ι k=>?_) λβ a4 e7 a3 ι k i7 e8=>?_;.have z:=a2.E θ υ ι;exact h3 p j β<|Q3 ρ η (i6 k) τ z.A (e5.G Γ a3 ι υ) (jL π z.B.B) e6 h8
  refine ka λa1=>jU (Ξ a4 k) λK e9 i8=>a1<|o.D (m+1) c.B β ρ _ _ M e7 g6 e8 λζ i9 a5 S=>?_;have a6:=(o.A _ _ _ _ · e8);have f0:=(a2.E θ υ ι).E θ a6 a5;refine AI c.E.A W E _ K M a4 e7 ζ _ d8 g4 e9 f0.A f0.B (i7.A<|a5.B a6) λj0 j1 j2 a7=>?_;have f1:∀{a8:jC}{n:ke}{v:bG},kS w ⟨d.B,d.D,K,a8⟩ n v->kS w ⟨d.B,d.D,oh u d.E,a8⟩ n v:=λX=>⟨X.A,X.B.L λΨ h7 h=>(T9 E a4 _ K e9 Ψ λs=>(bD.a h).a λγ j3=>mh (c4 Ψ s) j3.1).a h⟩;have f2:∀{a8:jC}{D L:ke}{κ a9:bG},O (m+1) Y D κ.heap->qG Q d.B D w->¬mA D j->(∃f3,κ.heap.Ns j f3)->kD lM D κ L a9->O (m+1) Y L a9.heap/\qG Q d.B L w/\¬mA L j:=λf4 f5 I b0 b1=>⟨o.B f4 f5<|b1.B.E λγ h=>h.elim,f5.B (λg s=>(o.A _ _ _ _ g f4 s).A)<|b1.B.E λγ h=>h.elim,b0.a λf3 b0=>b1.B.B j b0.lt I⟩;have f6:kS w ⟨d.B,d.D,K,η⟩ ρ j0:=⟨j1,j2⟩;refine Ua (d:=⟨d.B,d.D,K,η⟩) ⟨l.names,w,c.B,W,c.E⟩ i8 g5 f6 λg b2 D κ f7 b3 μ=>?_;have φ:=f2 (a8:=b2) (o.B S θ<|Ω a7.B) (θ.B (λg s=>(o.A _ _ _ _ g S s).A)<|Ω a7.B) e6 (jL π f6.B.B) μ;have f8:=(((e5.G Γ a3 ι υ).G Γ i9 a5 a6).A a7).A μ.E;cases g with|false=>exact f7.a λb4 y=>e4 b4 _ y.1<|qx (m+1) b2 D y.2 (f1 b3) (μ.B.A _ _ τ) f8 φ|true=>exact g3 (σ:=⟨d.B,d.D,K,b2⟩) ⟨l.names,w,c.B,W,c.E⟩ D κ p _ U f7 b3 (μ.B.A _ _ τ) λf9 L a9 j4 j5 b5=>jU j4 λb4 j6 j7=>e4 b4 _ j6<|qx (m+1) f9 L j7 (f1 j5) (b5.B.A _ _<|μ.B.A _ _ τ) (f8.A b5.E)<|f2 (a8:=f9) φ.1 φ.2.1 φ.2.2 (jL π b3.B.B) b5
 exact c2.A (e2 U)<|o.F 0 _ _ _ _ _ δ<|e2 U
def yC(h:jF->vB)(i:km)(b:kM)(j:Lt jR)(c:Lt<|Nat×Nat)(d:ko)(t:jA->jC->Prop):DQ:=λk l e=>(∀f m,nb b m f->k f)/\(∀n∈pO b,Lj n c=Y)/\∃a g o,e a=Y/\g o 0 (jE e a i)/\IR (h a) b j c l d a g t
def DT{f:n7 ah d.B d.D}{g:fD}{k l:cL}{D:ut}{E:jF->vB}{F:kM}{G:km} {s:hB bB} {H:Op<|bB->hB Unit} (P:∀{I:bB->bG->Prop}{e:bG}{a:bB->bG->Prop},I (.ref (Lb e.heap.objs)) {e with heap:=e.heap.push ψ}->ay kc f.B s I a e) (Q:ψ.isFreed=ah) (R:∀{i n}{v:bk},Ln n v=V ψ->pr i n G (v,v)) (S:clausesOf N=[⟨k,l,x,0⟩]) (T:vA N k x D) (W:∀h,AS h D (E h) g.names) (j:uh f.D b u g l) (J:nb F g.names k) (X:kV p f.D l) (Z:ny q g.names x) (o:kS f.A d i e) (n:pQ p d<|yC E G F q u d t) (α:∀h K j L,DR d i e h t K j L->compPost kc f.B a H c (.ref K) j (.ok .next) L):ay kc f.B (comprehension N g f.A ι s ah (firstIter [⟨k,l,x,0⟩] f.A) H) c a e:=by
 have w:=IF j.B;refine wpAny_comprehension_free S (Ir j.C f.A) (IJ λr y=>?_) w.C (λr y z=>?_)<|cE (n f l i e (λM O=>ay kc f.B s (λβ γ=>ay kc f.B (aeE g f.A.globals _ [] f.A.qual Y .none _) (λδ ε=>ff kc f.B (.compStart N 0 M β {δ with scope:=relabel g f.A}) _ ε) a γ) a O) a X o λΓ Δ Θ M Ξ O Φ Ψ ζ η θ A κ μ ν=>?_) (λB B m=>m f.B f.E.A) λB B ξ=>ξ;.exact jU (II j.A y) λο π ρ=>o.B.D r<|f.C.C r ο π ρ
 .obtain⟨Ω,σ⟩:=cF.a y;obtain⟨a0,a1⟩:=r;subst z;exact tk σ w.A
 .refine ka λτ=>?_;obtain⟨υ,φ,h,a2,a3,z,χ,ω⟩:=ζ;exact τ<|Uf P Q R T (W h) w j.A J Z φ η μ (υ k _ J) ν κ θ A (λC m=>wG o.B<|A C m) (λC m=>cR<|aX o.A.A.B<|A C m) z χ ω<|α h
def kD.H{d:ke}(a:kD (λb=>b=g\/Q b) i e d β)(h:Lb e.heap.objs<=g):kD Q i e d β:=⟨lY a.B.A (λb j f k l=>a.B.D b j f k λc=>c.a (λc=>cb.b h<|jL c<|bn f) l) a.B.B a.B.F a.B.C a.B.G,a.F⟩
def IS{j:ke}{v:jP}(r:kS s d i e)(n:kS s ⟨d.B,d.D,v,R⟩ j β)(t:Lb e.heap.objs<=g)(p:∃w,β.heap.Ns g w)(z:¬mA j g)(f:d' g β.heap k):kS s ⟨d.B,d.D,v,R⟩ j {β with heap:=k}/\kD (λa=>a=g) j β j {β with heap:=k}:=by refine p.a λw p=>?_;have u:lC (λa=>a=g) j β.heap j k:=lY (λh h b=>b) (λa q b h m=>⟨q,(f.2 a m).a b,.A _⟩) (λh h m=>m) (λa F m b=>(f.2 a λc=>av<|(k'.A p<|jL c b).b.a U).a b) (aw f.1.b) λa A b=>⟨A,(f.2 a λc=>av<|(k'.A p<|jL c b).b.a U).a b⟩;have x:∀{a},oM s a->a≠g:=λo c=>wG r.B t<|kg c o;have B:∀{a},a∈d.B.B->a≠g:=λo c=>(r.A.C _ o).1.a λh l=>cb.b t<|jL c l.lt;exact⟨⟨n.A.d_ u ⟨λa q b=>(f.2 a λc=>mh (cR<|aX r.A.A.B t)<|jL c b).a<|n.A.A.A a q b,aX n.A.A.B<|aw f.1.b⟩ (λa q C b=>(f.2 a λc=>z<|kg c C).a b) λD y=>(n.A.C D y).1.b λh l=>l.sameBut f<|B y,n.B.J (λh l=>l.sameBut f<|x kr) (λo G H b l=>l.sameBut f<|x<|.inr ⟨o,b⟩) (λh h m=>m) λE=>E.A u⟩,u,k,β.toks,U⟩
def IT{f:n7 ah d.B d.D}(l:kS f.A d i e)(p:wu f.A d i e t a){m:bk}(q:DR d i e Z t g m β):compPost kc f.B c Y a (.ref g) m (.ok .next) β:=by refine ka λr=>CP q λs n u v w b o x h=>r<|o.a λy z=>jO y z λC A=>?_;have j:=IS (R:=n) l ⟨w,l.B.C (kD.H ⟨b.B.E λB k=>.inl k,b.F⟩ h).B⟩ h o x A;exact p (.A Z) n (.ref g) s _ u j.1 (kD.H ⟨(b.A j.2).B.E λB k=>.inl k,(b.A j.2).F⟩ h)<|jO _ v U
def DU{f:jR}{g:kM}(h:pQ f d<|yC (λc=>AT c p) (.A []) g q u d t):kn ah (.d_ b u p g f q) d t:=λz e k l m n o i r=>o (λe=>ay _ _ (dy e _) m n l) λa A B C D E j s v w x=>by exact DT (G:=.A []) (λy=>dK y) U (λ{k h e} a=>pL (#[]) 0 U a U<|bT _) U IM (λc=>IQ s) j v w x i h λc F j G a=>IT i r a
def Ug{f g:jR}{h:kM}(i:pQ g d<|yC (λc=>IN c p f) (.B []) h q u d t):kn ah (.k_ b u p f h g q) d t:=λB e l m n o r j s=>r (λe=>ay _ _ (dy e _) n o m) λa C D E F G H k v w x y z=>by exact DT (G:=.B []) (λA=>dK A) U (λ{l i e} a=>rV [] U a U gZ<|bT _) U Uc (λc=>Ue v w) k x y z j i λc I k J a=>IT j s a
end
section
variable{a:ko}{c:og}
theorem IU{n:jR}{o:kM}(r:pQ n a<|yC (λi=>AT i p) (.A []) o q u a λw H=>c .A<|a.F (a.E.A b w) H):nA ah (.A (.A b)<|.d_ α u p o n q) a c:=by revert a c b α u p n o q;apply vl;generalize kZ.1.1.1.1=b,kZ.1.1.1.2=α,kZ.1.1.2=p,kZ.1.2.1=q,kZ.1.2.2=u,kZ.2.1.1=a,kZ.2.1.2=c,kZ.2.2.1=n,kZ.2.2.2=o;intro r;exact λg x I y J z S j K=>S (λx=>ay _ _ (et x _) J z y) λA w L T s=>T (λA=>ay _ _ (et (.Assign [A] w L) _) J z y) λk f W=>by have M:=g.C.A▸rt W;have Z:=s;revert Z;apply s;intro d β γ δ ε ζ B η θ ι κ s;obtain⟨C,N⟩:∃C,adW (.ListComp d [⟨β,γ,δ,0⟩] ε ζ) (V<|.Name k f) L.line g.A=er C:=⟨_,U⟩;cases C with|false=>exact fM (DU r g.1 _ I y _ z s j λΓ H A Δ Θ D O h E=>sF g.C O.A O.B M E (g.F k) (λe=>.inl U) (λe e d=>.inr ⟨k,d⟩) λμ F ν l=>K.A D h F ν l) N|true=>refine jx (exec_Assign_Name_used _ _ _ _ N) ?_;refine jK<|dY<|jK<|jK<|cE (DT (G:=.A []) (λE=>dK E) U (λ{I r x} d=>pL (#[]) 0 U d U<|bT _) U IM (λi=>IQ η) B θ ι κ j r λi Ξ B ξ d=>ka λο=>CP d λπ σ D τ F h υ P t=>ο<|jK<|dY<|hI<|sF (r:=.A i) (Q:=oM g.A) g.C F (j.B.C (kD.H ⟨h.B.E λe f=>.inl f,h.F⟩ t).B) M (jO _ τ U) (g.F k) (λe=>.inl U) (λe e d=>.inr ⟨k,d⟩) λμ φ χ l=>?_) (λe ξ m=>ai<|ai m) λe e d=>d;have Q:=υ.b λR G=>k'.B G λψ d=>l.B.D B ψ d P<|wG j.B t;refine Q.a λR G=>jO R G λΦ ω=>?_;have m:=IS (v:=a.E.A b<|.A i) j ⟨φ,χ⟩ t Q P ω;exact K .A _ σ .next π _ D m.1 (kD.H (((kD.I (h.B.E λe f=>.inl f) h.F).A ⟨l.B.E λe f=>.inr f,l.F⟩).A ⟨m.2.B.E λe f=>.inl f,m.2.F⟩) t) U
def o3(c:jC)(a:jF)(e d:km):jE (jE c a e) a d=jE c a d:=aJ λf=>by
 by_cases b:f=a;.subst b;simp only[jS,jS]
 .simp only[jQ _ _ b,jQ _ _ b,jQ _ _ b]
def Uh(o:jR)(i:kM)(p:List jR)(m:List<|Nat×Nat)(a:ko)(c:jA->jC->Prop):DQ:=λq r d=>(∀n s,nb i s n->q n)/\(∀e∈pO i,Lj e m=Y)/\∃(b:jF)(f:List jA)(j:jA->Option jA),d b=Y/\La f<16777216/\(∀g e,r e (jE d b<|.A g)=V f[e]?)/\(∀g h,h∈f->∃k,mu i h (oh m a.E)=V k/\r6 p ⟨a.B,a.D,k,jE d b<|.A g⟩ λt l=>l=jE d b (.A g)/\bif t then kn ah o ⟨a.B,a.D,k,l⟩ (λu v=>j h=V u/\v=l)else j h=Y)/\c (.A b) (jE d b<|.A<|f.filterMap j)
def r6.A{f:Bool->jC->Prop}(g:∀b c,O b c->f b c):∀{d:Lt jR}{a:ko},r6 d a O->r6 d a f:=by intro d;induction d with|nil=>exact λ{a} e=>g _ _ e|cons u v i=>exact λ{a} e=>λj k l m n o p q r=>e j k l m n o p q λb c s t h=>r b c s t (by cases b with|true=>exact i h|false=>exact g _ _ h)
theorem DV{e:kM}{f:lQ}(s:Uh p e q u a t ε f R):yC (λg=>AT g p) (.A []) e q u a t ε f R:=by
 revert a p e q u t ε f R;apply vl;generalize kZ.1.1.1.1=p,kZ.1.1.1.2=q,kZ.1.1.2=t,kZ.1.2.1=u,kZ.1.2.2=R,kZ.2.1.1=ε,kZ.2.1.2=a,kZ.2.2.1=e,kZ.2.2.2=f;intros;refine ka λv=>?_;obtain⟨w,x,g,c,h,y,z,A,B,J⟩:=s;refine v<|⟨w,x,g,λl b m=>l=La c-b/\b<=La c/\m=jE R g (.A<|(Ll b c).filterMap h),La c,y,lj U (bT _) U,?_⟩;rintro l b m ⟨rfl,K,rfl⟩;refine kT _ (A _ b) (λd=>?_) λj d=>?_;.rwa[dE<|bz.a d]
 .refine(ag.a d).a λk _=>?_;have C:Ll (b+1) c=Ll b c++[j]:=jx acL<|jx d U;have n:(Ll (b+1) c).filterMap h=(Ll b c).filterMap h++[j].filterMap h:=jx C<|jx ge U;have o:La c-(b+1)<La c-b:=eB k<|bN b;obtain⟨D,E,F⟩:=B _ j<|aa d;refine jO D E<|F.A λG L i=>?_;obtain⟨rfl,i⟩:=i;cases G with|false=>exact⟨_,o,U,k,jx (n ..)<|jx (gC i)<|jx (List.filterMap_nil ..)<|jx (bQ ..) U⟩|true=>exact i.A λM N H=>H.elim λI r=>⟨_,r▸jS ..,aZ (aX (eg ..)<|bg ..) z,_,o,U,k,by rw[r,o3,n,gB I];rfl⟩
def pQ.A{e f:DQ}(g:pQ p a e)(h:∀b c d,e b c d->f b c d):pQ p a f:=λi j k l m n o q r=>g i j k l m n o q λb c d s t u v w x=>r b c d s t u v w<|h _ _ _ x
end
section
variable{g:ko}{h:jF}{j:List jA}{m:jA}
def rB(l:t r g.A)(o:∀b i e j (c:bB->bG->Prop) f,mB S g.B g.D b->ki g.B i g.A e.heap->kf i e.heap n j->(∀d a,lR e a->jZ i a.heap r d->c d a)->ay kc b (ζ j) c f e):lm S ζ n g t:=λb i e j c f p h d m=>o b i e j c f p h d λq a k s=>m r g.A q i a l (h.H k.B) (.C k) s
def DW{a:String}(k:R Z=V (.A n))(l:Slot "list" (lU b) a)(m:typeOf (.builtin a)=er (.type "method_descriptor")):up b (.A Z) R X (.builtin a) [.A Z]:=Dx F.plainAttrs_list l m λi g c o p=>o.B (h:=λc=>(∀e:bG,e.heap=g->e.TypeIs c "list")/\∀S,c=.ref S->∃h,Ln g S=V h/\h.dict=Y) k p λq r s d d j d d=>⟨λe f=>(nS<|f▸j).typeIs,λS f=>jO _ (jL (dG f) j) U⟩
def IV{c:String}(l:R Z=V (.B d))(m:Slot "dict" (lU b) c)(n:typeOf (.builtin c)=er (.type "method_descriptor")):up b (.A Z) R X (.builtin c) [.A Z]:=Dx F.plainAttrs_dict m n λi h f o p=>o.D (h:=λf=>(∀e:bG,e.heap=h->e.TypeIs f "dict")/\∀S,f=.ref S->∃j,Ln h S=V j/\j.dict=Y) l p λq r a a k a a a=>⟨λe g=>nu<|jx g k,λS g=>jO _ (dG g▸k) U⟩
def Ui{a:String}(g:Slot "str" (lU b) a)(h:typeOf (.builtin a)=er (.type "method_descriptor")):up b (.C o) R X (.builtin a) [.C o]:=Dx F.plainAttrs_str g h λi d c m j=>j.C (m:=λc=>(∀e:bG,e.heap=d->e.TypeIs c "str")/\∀S,c=.ref S->∃f,Ln d S=V f/\f.dict=Y) λk=>⟨λe n=>adm e o k,λS l=>a' l jB⟩
def Uj(c:g.A Z=V (.A n))(d:t (.B (La n)) g.A):nc S (.builtin "len") [.A Z] g t:=rB d λl i e j o p q f a m=>by apply a.B;intro r a;apply f.B c a;intro s u v _ _ h b k;exact call_len_list (nS h) (sE b.A k)<|jx b.A<|m _ _ (.A ..) ⟨_,U⟩
def Uk(d:t (.B (La n)) g.A):nc S (.builtin "len") [.E n] g t:=rB d λk i e j l o p q a m=>by apply a.B;intro r a;apply a.D;intro b s u f c h;exact PySem.P.len_tuple f (hN.b<|sE c.A h)<|jx c.A<|m _ _ (.A ..) ⟨_,U⟩
def Ul(b:Ld o<=16777216)(c:t (.B (Ld o)) g.A):nc S (.builtin "len") [.C o] g t:=rB c λd i e j f h k l a m=>by apply a.B;intro n a;apply a.C;intro p;exact PySem.P.len_str (hN.b<|sE U b)<|m _ _ (.A ..) ⟨_,U⟩
def Um(f:g.A Z=V (.B d))(h:t (.B (La d)) g.A):nc S (.builtin "len") [.A Z] g t:=rB h λo i e j p q r b a m=>by apply a.B;intro s a;apply b.D f a;intro u v k _ l c _ n;exact eb kind_len adZ ad2 (args_len1 _)<|H7 l (b.M k) (c.A▸n)<|c.A▸m _ _ (.A ..) ⟨_,U⟩
def pN.C{c:bk×bk}(m:pN X i e t a)(g:ki X i R e.heap)(h:R Z=V (.A n))(l:i Z=V c)(o:c.2=c.1)(p:d' c.1 e.heap k)(q:Ln k c.1=V (rs v b))(s:kf i e.heap j (Lf v))(u:La j<=16777216)(w:jZ i e.heap r f)(x:t r<|jE R Z<|.A j):a f {e with heap:=k,toks:=α}:=have d:=g.g_ h l o p q s u;m r _ f i _ x d.1 ⟨d.2,k,α,U⟩ (w.A d.2)
def pN.A(m:pN X i e t a)(d:ki X i R e.heap)(f:R Z=Y)(g:lL e.heap k)(h:Ln k (Lb e.heap.objs)=V (rs v b))(j:kf i e.heap n (Lf v))(l:La n<=16777216)(q:t (.A Z)<|jE R Z<|.A n):a (.ref (Lb e.heap.objs)) {e with heap:=k,toks:=α}:=have c:=d.a_ (o:=.A n) (a:=(Lb e.heap.objs,Lb e.heap.objs)) f g (al _) (al _) λr=>pL v b U h (j.G r) l;m (.A Z) _ _ _ _ q c.1 ⟨c.2,k,α,U⟩ (jO _ (rv ..) U)
def Un(a:g.A Z=V (.A n))(b:La n<16777216)(c:t .D<|jE g.A Z<|.A<|n++[r]):nc S (.builtin "list.append") [.A Z,r] g t:=λq i e j s u v d f m=>by apply f.E;intro w x h k;exact IP d a b h k λl o p=>m _ _ _ i l c o p U
def IW(a:b<=16777216):hH (b:Int)=aj:=by unfold hH;simp only[az,aP,aP];exact⟨fk jI<|cA b,sE U a⟩
def IX(a:b<α):ej (b:Int) α=V b:=by refine jx (seqIndex_of jB<|cY.b a) ?_;simp
def kf.o_:∀{n:List jA}{j:List bB},kf i k n j->∀a,kf i k (n.eraseIdx a)<|j.eraseIdx a:=by intro n;induction n with|nil=>exact λ{j} c a=>by subst c;exact .M|cons r n e=>exact λ{j} c a=>c.D (p:=λj=>kf i k _<|j.eraseIdx a) λf j b d=>match a with|0=>d|a+1=>.C b<|e d a
def IY{c:bk×bk}(m:pN X i e t a)(g:ki X i R e.heap)(h:R Z=V (.A n))(j:i Z=V c)(k:c.2=c.1)(l:Ln e.heap c.1=V (rs v b))(d:kf i e.heap n (Lf v))(o:La n<=16777216)(p:v[α]?=V f)(q:n[α]?=V r) (s:t r<|jE R Z<|.A<|n.eraseIdx α):a f {e with heap:=e.heap.update c.1<|hL λu=>u.eraseIdxIfInBounds α}:=by refine(d.F q).a λz w=>w.elim λx y=>?_;obtain rfl:=aY<|x.b.a<|bl.a p;refine m.C g h j k (ch ..) (cW _ l U) ?_ (aX (List.length_eraseIdx_le ..) o) y s;exact kd (show Lf (v.eraseIdxIfInBounds α)=(Lf v).eraseIdx α by simp)<|d.o_ α
def Uo(f:g.A Z=V (.A n))(h:n[La n-1]?=V r)(o:t r<|jE g.A Z<|.A<|n.eraseIdx<|La n-1):nc S (.builtin "list.pop") [.A Z] g t:=λx i e j y z A k b m=>by apply b.B;intro B b;apply k.B f b;intro p q s u v c a l;refine jU (a.F h) λw d _=>?_;rw[bl]at d;exact hn adS (nS c).typeIs ady (F.args_list_pop_1 _) (adO p.1 q s w (a.A.b▸d) (by simp only[cU,a.A];exact l)) ⟨c,a.A▸IY m k f u v c a l d h o⟩
def Up(k:g.A Z=V (.A n))(c:n[b]?=V r)(s:t r<|jE g.A Z<|.A<|n.eraseIdx b):nc S (.builtin "list.pop") [.A Z,.B b] g t:=λG i e j H I J l u m=>by apply u.E;intro K L v w;apply w.B;intro x;apply l.B k v;intro y z A B C d a f;refine jU (a.F c) λD h _=>?_;rw[bl]at h;have o:=(ag.a c).1;have p:=IW<|bL<|au o f;have q:=IX<|kd a.A o;generalize(b:Int)=E at p q;exact hn adS (nS d).typeIs ady (F.args_list_pop_2 ..) (adP y.1 z A E x b D p q h (by simp only[cU,a.A];exact f)) ⟨d,IY m l k B C d a f h c s⟩
def kf.d_:∀{j:List bB},kf i k n j->∀a,kf i k (Lm a n)<|Lm a j:=by induction n with|nil=>exact λc a=>c.L (p:=λj=>kf i k (List.drop a [])<|Lm a j) (by cases a<;>rfl)|cons r n d=>exact λc a=>by exact Gm c (λa=>c.D (p:=λj=>kf i k ..) λf j b e=>d e a) a
def kf.j_:∀{j:List bB},kf i k n j->∀a,kf i k (Ll a n)<|Ll a j:=by induction n with|nil=>exact λc a=>c.L (p:=λj=>kf i k (List.take a [])<|Ll a j) (by cases a<;>rfl)|cons r n d=>exact λc a=>by exact Gm .M (λa=>c.D (p:=λj=>kf i k ..) λf j b e=>.C b<|d e a) a
def kf.p_(e:jZ i k r f):∀{n:List jA}{j:List bB},kf i k n j->∀a,kf i k (n.set a r)<|j.set a f:=by intro n;induction n with|nil=>exact λ{j} c a=>by subst c;exact .M|cons h n g=>exact λ{j} c a=>c.D (p:=λj=>kf i k _<|j.set a f) λl j b d=>match a with|0=>.C e d|a+1=>.C b<|g d a
def Uq(o:g.A Z=V (.A n))(d:b<=La n)(k:La n<16777216)(w:t .D<|jE g.A Z<|.A (Ll b n++r::Lm b n)):nc S (.builtin "list.insert") [.A Z,.B b,r] g t:=λJ i e j K L M p x m=>by
 apply x.e_;intro N O f y z A;apply z.B;intro B;apply p.B o y;intro C a D E G l h _;have H:=kd h.A d;have q:=IW<|aX d<|bL k;have s:(if(b:Int)<0 then Lg ((b:Int)+(Lb a:Int))else min (Lg (b:Int)) (Lb a))=b:=by rw[aA jB];exact dx H
 generalize(b:Int)=c at q s⊢;have I:(have m:=if c<0 then Lg (c+(Lb a:Int))else min (Lg c) (Lb a);(a.extract 0 m).push f++a.extract m)=Lc (Ll b (Lf a)++f::Lm b (Lf a)):=by rw[s];simp;exact dE (by simp)
 refine hn F.slot_list_insert (nS l).typeIs F.entry_list_insert (F.args_list_insert_3 ..) (adv C.1 a D c B f (by rw[q];decide) (by simp only[cU,h.A];exact bL k)) ⟨l,m.C (f:=.none) (r:=.D) p o E G (ch ..) (cW _ l U) ?_ ?_ U w⟩;.show kf i e.heap _ (Lf (have m:=if c<0 then Lg (c+(Lb a:Int))else min (Lg c) (Lb a);(a.extract 0 m).push f++a.extract m));simp only[I];exact kf.a_ (.C A<|h.d_ b)<|h.j_ b
 .simp only[bH,cN,dF,gL];rw[dx d,<-cS,gw d];exact k
def Ur(h:g.A Z=V (.A n))(k:t (.E n) g.A):nc S (.type "tuple") [.A Z] g t:=rB k λv i e j w x y l a m=>by apply a.B;intro z a;apply l.B h a;intro A b B _ _ o c d;refine rb<|call_tuple_list (nS o) (λp q r=>?_) (by simp only[cU,c.A];exact d);have f:lL e.heap<|p.push {cls:=.type "tuple",data:=.seq b}:=⟨λS s u=>bU _<|q S s u,r⟩;exact m _ _ (ms _ e.toks U f)<|qw _ b 0 U (bJ _ U) (c.H f) d
def IZ(R:jC)(r:jA)(n:List jA):=r=.E n\/∃Z,r=.A Z/\R Z=V (.A n)
def Us(v:IZ g.A r n)(w:g.A Z=Y)(x:t (.A Z)<|jE g.A Z<|.A n):nc S (.type "list") [r] g t:=λy i e j z A L o B m=>by
 apply B.B;intro M p;have q:∀s b k a u,_->Ln e.heap b=V k->k.cls=.type s->k.data=.seq a u->kf i e.heap n (Lf a)->La n<=16777216->ay kc y _ z A e:=λs b k a u C f D E c d=>rb<|call_list_seq b C f D E (λN O F G H=>m.A o w ⟨F,H⟩ G c d x) (by simp only[cU,c.A];exact d);rcases v with rfl|⟨h,rfl,I⟩;.apply p.D;exact λb a l f c d=>q "tuple" b _ a l (.inr U) f U U c d
 .apply o.B I p;exact λJ a l K K f c d=>q "list" J.1 _ a l kr f U U c d
def Ut{a:ko}(b:t (.B (if φ<w then φ else w)) a.A):nc ah (.builtin "min") [.B w,.B φ] a t:=rB b λo i e j p q c r d m=>by apply d.E;intro s u f g;apply f.B;intro v;apply g.B;intro x;refine rb<|min_two_ints c.A λh k l n=>m _ _ (lP h k U l n) ?_;split<;>exact⟨_,U⟩
def I0{p q:bB}{s:jA}{n:Option bB->hB Fin}{o:Fin->bG->Prop}(u:l.units<=9500)(t:ki X i R e.heap)(v:R Z=V (.B d))(w:kP m=aj)(x:jZ i e.heap (.A Z) f)(y:jZ i e.heap m p)(z:jZ i e.heap s q)(k:∀h g,lR e g->jZ i g.heap ((kj d m).getD s) h->a h g) (b:bk) (j:f=.ref b) (A:∀h g,a h g->ay kc l.in1 (n<|V h) o c g) (B:∀g,(b==gm)=ah->a q g->ay kc l.in1 (n Y) o c g):ay kc l.in1 (acB b p>>=n) o c e:=by
 revert j;apply t.D v x;intro I J C _ D E F _ j;obtain rfl:=dG j;refine jK (AA (aX (bC u 1) jB) D E F w y (λG j=>?_) λG r h j H=>?_)<;>replace k:=j▸k;.exact B _ (tm<|t.M C)<|k _ _ (.A ..) z
 .exact A _ _<|k h _ (.A ..) H
end
end
section
variable{a:List (Str × Addr)}{b β:Value → Shared → Prop}{c:Addr}{d:Nat}{e:List jA}{f σ:List Value}{g ο:jA → jC → Prop}{i:List (Nat × Nat)}{j:List Str}{k:FuncData}{l δ:Heap}{m:ko}{n:Value}{o ρ:List kb}{p:jR}{q:jT}{r:jC → Prop}{s:Type}{t:jP}{u:Bool}{v:ke}{w:Str}{x:jA}{y:List (jA × jA)}{z:Obj}{N ξ:Shared}{O:Around}{Q:Array Value}{R:Prop}{S:jC}{T:String}{W:Bool → Shared → Prop}{X:List jR}{Z:Env}{α υ:Bool → jC → Prop}{γ:Unit → Shared → Prop}{ε:List (Str × NameKind)}{ζ:List Int}{η:og}{θ τ:List jA → jC → Prop}{ι:List Bool}{κ:Value → Prop}{μ:Operator}{ν:Addr → Prop}{π:k'}
section
variable{a f:jF}{h:List jA}{i k:jA}
def Uu(e:m.A a=V (.B y))(j:kP i=aj)(l:g ((kj y i).getD k) m.A):nc u (.builtin "dict.get") [.A a,i,k] m g:=rB l λx v N h z A n f d b=>by apply d.e_;intro B C D c o p;have q:=c;revert q;apply f.D e c;intro r E G _ s _ _ _ c;exact bq adT (nu s) adz (I0 (bL n.E) f e j c o p b r.1 U (λd t b=>ai<|jO d U b) λt w b=>jK<|hh w<|ai<|jO _ U b)<|F.args_dict_get_3 ..
def I1(e:m.A a=V (.B y))(j:kP i=aj)(k:g ((kj y i).getD .D) m.A):nc u (.builtin "dict.get") [.A a,i] m g:=rB k λt v N h w x l f d b=>by apply d.E;intro z A c n;have o:=c;revert o;apply f.D e c;intro p B C _ q _ _ _ c;exact bq adT (nu q) adz (I0 (s:=.D) (bL l.E) f e j c n U b p.1 U (λd r b=>ai<|jO d U b) λr s b=>jK<|hh s<|ai<|jO _ U b)<|F.args_dict_get_2 ..
def pN.D(i:pN q v N g b)(d:ki q v S N.heap)(e:S a=Y)(f:g (.A a)<|jE S a<|.B []):b (.ref (Lb N.heap.objs)) {N with heap:=N.heap.push {cls:=.type "dict",data:=.dict #[]}}:=have c:=d.a_ (o:=.B []) (a:=(Lb N.heap.objs,Lb N.heap.objs)) e (lL.C N.heap {cls:=.type "dict",data:=.dict #[]}) (al _) (al _) λh=>rV [] U (bJ _ U) U gZ<|bT _;i (.A a) _ _ _ _ f c.1 ⟨c.2,_,N.toks,U⟩ (jO _ (rv ..) U)
def Uv(f:m.A a=Y)(b:g (.A a)<|jE m.A a<|.B []):kn u JW m g:=λy d v N h j k c i=>k (λd=>ay _ _ (dy d _) h j N) λz l A n n o p=>by subst o;obtain rfl:l=[]:=p;exact wpAny_Dict_empty<|pN.D (λx S q r s b t e w=>i x S q r s b (c.C t e) e w) c.A f b
def Uw(d:m.A a=Y)(e:g (.A a)<|jE m.A a<|.E []):nc u (.type "set") [] m g:=λl v N h n f q j k i=>by subst k;refine call_set_0 λb=>?_;have c:=j.a_ (o:=.E []) (a:=(Lb N.heap.objs,Lb N.heap.objs)) d (lL.C N.heap {cls:=.type "set",dict:=Y,data:=.set #[] 0 (.fresh 0 0 b)}) (al _) (al _) λf=>⟨_,_,_,_,U,bJ _ U,lj U U U,U,U,U,by decide,λr=>⟨b,U⟩⟩;exact i (.A a) _ _ _ _ e c.1 ⟨c.2,_,N.toks,U⟩<|jO _ (rv ..) U
def ki.l_(c:ki q v S l)(d:S a=V (.E e))(f:jZ v l (.A a) n)(i:∀b,v a=V b->HC l e b->κ (.ref b.1)):κ n:=c.c_ d f i
def Ux(d:m.A a=V (.E e))(f:g (.B (La e)) m.A):nc u (.builtin "len") [.A a] m g:=rB f λr v N h s t w i b j=>by apply b.B;intro x b;apply i.l_ d b;intro y z k;obtain⟨A,B,C,D,_,l,n,o,p,c,q,_⟩:=k;exact call_len_set l n o p (sE c<|aX (bL q) jB)<|jx c<|j _ _ (.A ..) ⟨_,U⟩
def Uy(b:m.A a=V (.E []))(c:g (.F ah) m.A):lm u (mm<|dg .In) [.C w,.A a] m g:=qD c λo v N p q r s t d e f h=>by apply e.C;intro x;apply d.l_ b f;intro y z i;obtain⟨A,B,C,D,_,j,E,F,G,H,I,l⟩:=i;obtain⟨n,rfl⟩:=l U;exact wpAny_inSet_of (k:=w) (aC U) (by rfl) ((aem (knd:=fG lu.C ou) n).setOf j (by unfold scanBound;exact Nat.zero_lt_succ 4095))<|h _ _ (.A ..) U
def Uz(e:Le ζ):∀a,a<=La ζ->aeo (λa=>ζ.getD a 0) a=Ll a ζ:=λ{a}=>ue (λ_=>U) (λa f=>λb=>by
 simp only[aen,f<|bL b,List.take_succ_eq_append_getElem b,show ζ.getD a 0=ζ[a] by rw[bZ,aq b];rfl];unfold step_dedup;have g:(Ll a ζ).any (· ==ζ[a])=ah:=by rw[fy];intro i h;rw[aE];rintro rfl;obtain⟨j,c,d⟩:=List.mem_iff_getElem.a h;rw[dF]at c;rw[List.getElem_take]at d;have:=(hf e).a d;exact a' this<|bF<|au c<|iB ..
 first|rw[g];rfl|simp[g]) a
def I2:∀{a:List Int}{h:List bB},kf v l (a.map jA.B) h->gs h a:=by
 intro a;induction a with
 |nil=>exact λ{h} c=>by subst c;first|exact .nil|trivial
 |cons g a b=>exact λ{h} c=>c.D (p:=λh=>gs h _) λe h d f=>d.B (m:=λe=>gs (e::h) _) λi=>by have b:=b f;first|exact .cons b|exact⟨⟨_,rfl⟩,b⟩|(constructor<;>first|exact b|rfl|exact⟨_,rfl⟩)
def UA(q:m.A f=V (.A<|ζ.map .B))(r:Le ζ)(s:ζ≠[])(P:La ζ<4000)(t:m.A a=Y)(w:g (.A a)<|jE m.A a<|.E<|ζ.map .B):nc ah (.type "set") [.A f] m g:=λQ v N h R x y e b i=>by apply b.B;intro S b;apply e.B q b;intro T W X Z c z j _;have k:=j.A.a<|ab ..;refine rb<|call_set_list y.A (nS z) (I2 j) (by unfold scanBound;exact aZ (jL k.b<|‹ζ.length<4000›) (by decide:4000<4096)) λA B C D E=>ka λF=>?_;obtain⟨d,G,H,I,J,K,L,_,_,l,M⟩:=C.objOf;apply F;simp only[k,Uz r _<|al _,bI]at l;have n:=e.a_ (o:=.E<|ζ.map .B) (a:=(Lb N.heap.objs,Lb N.heap.objs)) t ⟨λu d c=>D u d (bn c) c,E⟩ (al _) (al _) λx=>⟨d,I,J,K,U,G,H,L,M,l.a (ab ..).b,by rw[ab];exact br ‹ζ.length<4000› jB,λO=>a' (dV.a O) s⟩;exact i (.A a) _ _ _ _ w n.1 ⟨n.2,A,B,U⟩<|jO _ (rv ..) U
def UB(f:kn u p m λx S=>∃a,x=.B a/\g (.B (-a)) S):kn u (.c_ p) m g:=λh d v N j b k l i=>k (λd=>ay _ _ (dy d _) j b N) λc z e=>wpAny_UnaryOp (f h c v N _ b e l λx S c n A o q r s=>o.a λa t=>t.elim λw y=>by subst w;apply s.B;intro e;exact P.neg_int<|i _ S _ n _ y (q.D<|.A ..) (r.A<|.C<|.A ..) ⟨_,U⟩)
def UC{c d:jF}(p:m.A c=V (.A h))(q:m.A d=V (.A e))(f:La h+La e<=16777216)(r:m.A a=Y)(s:g (.A a)<|jE m.A a<|.A<|h++e):lm u (mm<|fi .Add) [.A c,.A d] m g:=λD v N j E F G b t i=>by apply t.E;intro H I w x;apply b.B p w;intro y j z _ _ k l _;apply b.B q x;intro A B C _ _ n o _;exact concat_meets (jO _ k U) (jO _ n U) noFill_list_add seq_list_add PySem.F.slot_list_add PySem.F.entry_list_add (PySem.F.args_list_add_2 ..) (list_addW y.1 A.1 j B z C Y Y #[] #[] (by simp only[cU,l.A,o.A];exact f))<|lj k n<|i.A b r (.C ..) (bJ _ U) (kg Array.toList_append.b<|kf.a_ o l) (jx bH f) s
def UD:∀{b:List cj}{h:List bB},kf v l (b.map jA.C) h->∃a:List<|cj×Tok,h=adX a/\a.map (·.1)=b:=by intro b;induction b with|nil=>exact λ{h} c=>by subst c;exact jO [] U U|cons e b i=>exact λ{h} c=>c.D (p:=λh=>∃a:List _,h=adX a/\a.map _=e::b) λf h d j=>d.C (m:=λf=>∃a:List _,f::h=adX a/\a.map _=e::b) λk=>(i j).a λa g=>jO ((e,k)::a) (jx g.1 U)<|aB _ g.2
def tp(a:cj):Lt cj->cj|[b]=>b|c=>glued a c
def UE(e:adG ((Lc j).foldl (· +·.length+Ld w) 0)=ah)(b:Ld (tp w j)<=gE)(f:g (.C<|tp w j) m.A):nc u (.builtin "str.join") [.C w,.E<|j.map .C] m g:=rB f λx v N h y z A B i a=>by apply i.E;intro C D k l;apply k.C;intro c;apply l.D;intro n E o p q _;refine jU (UD q) λd r s=>?_;subst s;refine hn F.slot_str_join (adm N w c) F.entry_str_join (F.args_str_join_2 ..) (meets_str_join_tuple w c n d e) ⟨lP _ o p U<|jL r U,?_⟩;match d with|[]=>exact⟨b,a _ _ (.A ..) ⟨_,U⟩⟩|[t]=>exact a _ _ (.C _) ⟨_,U⟩|t::G::H=>exact⟨b,a _ _ (.A ..) ⟨_,U⟩⟩
theorem UF{a:Int}{e:Tok}(f:Ln N.heap c=V (rs Q d))(i:0<=a)(j:a<2^63)(k:a<Lb Q) (l:∀g m,Ln g c=V (rs (Q.setIfInBounds (Lg a) n) m)->d' c N.heap g->γ () {N with heap:=g}):ay kc O (setItem (.ref c) (.int a e) n) γ b N:=by revert N O b c Q d a e n γ;apply z3;generalize mg.1.1.1.1=b,mg.1.1.1.2=c,mg.1.1.2=d,mg.1.2.1=n,mg.1.2.2=N,mg.2.1.1.1=O,mg.2.1.1.2=Q,mg.2.1.2=γ,mg.2.2.1=a,mg.2.2.2=e;intros;have h:=(nS f).typeIs;refine bu<|jK<|fL h jB<|jK<|cq h adH<|bq adH h entry_list_setitem ?_<|args_list_setitem ..;show ay _ _ (aet (.int a e)>>=_) _ _ N;refine jK<|wpAny_listSubscript_int (fitsIndex_of i j) ?_;obtain⟨o,rfl⟩:=Int.eq_ofNat_of_zero_le i;have p:o<Lb Q:=cY.a k;refine jK<|jK<|wpAny_seqItemAt f U<|ai ?_;refine jx (iJ p) ?_;refine jK<|wpAny_setSeqItemAt f U ?_;first|exact jK _|exact ai ⟨.none,U,ai (l _ _ (cW _ f U) (ch ..))⟩
def UG(c:m.A a=V (.A e))(f:d<La e)(l:r<|jE m.A a<|.A<|e.set d x):AF (S:=u) (.A a) (.B d) x m r:=by intro A v N B C D E F G g n o p i;apply o.B;intro H;apply g.B c n;intro I J K q s t h j;refine UF t (cA d) (Dr (cY.b f) j) (jx h.A<|cY.b f) λw L y z=>?_;have k:=g.g_ c q s z y (by simp only[eP,Array.toList_setIfInBounds];exact h.p_ p d)<|jx List.length_set j;exact i _ _ l k.1 ⟨k.2,w,N.toks,U⟩
end
section
variable{a:cj->Option eR}
def UH:∀{b:Lt<|cj×bB}{c:cj->Op bB},(∀d∈b,d.1≠w)->bindL a b c w=c w:=by
 intro b;induction b with
 |nil=>exact λ_=>U|cons _ i f=>
  exact λ{c} e=>by
   unfold bindL;rw[f λd g=>e d<|af _ g];split;.exact aA λh=>e _ ae h.b
   .rfl
def UI:∀{b:Lt<|cj×bB}{c:cj->Op bB},(∀d∈b,d.1≠w)->bindC a b c w=c w:=by
 intro b;induction b with
 |nil=>exact λ_=>U|cons _ i f=>
  exact λ{c} e=>by
   unfold bindC;rw[f λd g=>e d<|af _ g];split;.rfl
   .exact aA λh=>e _ ae h.b
def UJ{d:List<|cj×bB}{g h:cj->Option bB}(l:Le (d.map (·.1)))(i:(w,n)∈d):(a w=V .local->bindL a d g w=V n)/\(a w≠V .local->bindC a d h w=V n):=by induction d generalizing g h with|nil=>exact a' i ac|cons e o j=>have f:=cQ.a l;unfold bindL bindC;refine(ao.a i).a (λc=>?_) λc=>⟨λb=>(j f.2 c (h:=λp=>Y)).1 b,λb=>(j f.2 c (g:=λp=>Y)).2 b⟩;subst c;have k:∀e∈o,e.1≠w:=λe q c=>f.1<|kg c<|am.b ⟨e,q,U⟩;exact⟨λb=>by rw[UH k,aC b];exact aC U,λb=>jx (UI k)<|jx (aA b)<|aC U⟩
end
def UK:∀{a:Lt bB},((j.zip a).map (·.1)).Sublist j:=by induction j with|nil=>exact acS _|cons b j c=>exact λ{a}=>by cases a with|nil=>exact acS _|cons=>exact c.cons_cons b
def I3(b:(w,acJ)∈ε\/(∃c,(w,c)∈a)):∃c,(w,c)∈ack d ε a:=by
 induction ε generalizing d a with
 |nil=>exact b.a (a' · jB) id|cons h i f=>
  unfold ack;split;.exact f<|b.a (λb=>(ao.a b).a (λe=>.inr ⟨d,jL e ae⟩) .inl) λb=>b.a λc b=>.inr ⟨c,af _ b⟩
  .rename_i g;exact f<|b.a (λb=>(ao.a b).a (λe=>a' (aB dO e).b (by simpa using g)) .inl) .inr
def UL{b:cj}(d:a.Pairwise λw b=>w.2≠b.2)(g:(w,c)∈a)(h:(b,c)∈a):w=b:=by
 induction a with
 |nil=>exact a' g ac|cons j k i=>
  have d:=db.a d;rcases ao.a g with e|e<;>rcases ao.a h with f|f;.exact aB ca<|e.a f.b
  .subst e;exact a' U<|d.1 (b,c) f
  .subst f;exact a' U<|d.1 (w,c) e
  .exact i d.2 e f
def rC(a:fD)(b:List cj):=a.kind=.function/\a.isGenerator=ah/\a.isCoroutine=ah/\Le (a.names.map (·.1))/\(∀d∈a.names,d.2≠.free)/\b=Ll (La b) (a.names.map (·.1))/\∀c∈Ll (La b) a.names,c.2=.local\/c.2=.cell
section
variable{a:fD}(b:rC a j)
def rC.B:=b.1
def rC.F:=b.2.1
def rC.G:=b.2.2.1
def rC.A:=b.2.2.2.1
def rC.D:=b.2.2.2.2.1
def rC.C:=b.2.2.2.2.2.1
def rC.E:=b.2.2.2.2.2.2
end
theorem UM{b:fD}(a:C7 b j=aj):rC b j:=by revert b j;apply od;generalize lX.1=j,lX.2=b;intros;unfold C7 at a;simp only[az,bc,eN,aR,cT,aE]at a;exact m3 (by have:=a.1.1.1.1.1.1;revert this;cases b.kind<;>decide) a.1.1.1.1.1.2 a.1.1.1.1.2 (IE a.1.1.1.2) (λc d=>a.1.1.2 c d) (Hn a.1.2) a.2
noncomputable def lv(a:Lt jA):jP:=λb=>a[b]?
section
def UN(a:rC k.scope j)(e:k.globals=cu)(f:k.builtins=gn)(c d:bk):ow (fP k c d) k.scope.names/\∀b,(fP k c d).kindOf b≠V .free:=by
 refine⟨lY a.B U ?_ (λb g h i=>?_) e f,λb l=>a.D _ (pt<|l) U⟩;.unfold of;rw[bY];exact a.A
 .refine(cF.a h).a λn m=>?_;have:(fP k c d).kindOf b=V g:=tk m a.A;exact jx this<|i.c (aB V)<|aB V
def ki.m_(a:ki q v S l)(b:∃d,l.Ns c d)(e:¬mA v c)(f:Ln q.A c=Y):ki (q.C c n) v S l:=po a.L a.A a.E a.I a.J a.G a.K λg h=>(ao.a h).a (λi=>by subst i;exact lj b e f)<|a.C g
def ki.i_(a:ki (q.C c n) v S l):ki q v S l:=po a.L a.A a.E a.I a.J a.G a.K λb d=>a.C b<|af _ d
def UO(h:rC k.scope j)(r:ki q v S N.heap)(D:kf v N.heap e f) (i:InCallC N (Lb N.heap.objs) (bindL (fP k (Lb N.heap.objs) c).kindOf (j.zip f) λn=>Y) (ack (Lb N.heap.objs+1) k.scope.names []) (bindC (fP k (Lb N.heap.objs) c).kindOf (j.zip f) λn=>Y) ξ) (E:La e=La j) (F:lL N.heap ξ.heap):ml (q.C (Lb N.heap.objs) k.code) v ξ.heap (fP k (Lb N.heap.objs) c)<|lv e:=by
 have x:∀s,Lb N.heap.objs<=s->¬mA v s:=λs p G=>cb.b p<|r.e_ G;have y:∀{a},Lj a k.scope.names=V .cell->∃g,Lj a (ack (Lb N.heap.objs+1) k.scope.names [])=V g:=λb=>(I3<|.inl<|pt b).a λn l=>yA l;refine po ⟨_,i.toInCall.ns⟩ (x _<|al _) (cR r.A.B) (λa g b=>?_) (λa d=>?_) (λa o g H I=>UL i.apart (pt H)<|pt I) (jO _ U U) λz a W X J p=>?_;.have t:=i.above a g<|pt b;exact mz ⟨_,i.cell a g b⟩ (x _<|bL t) (λn=>cR<|aX r.A.B<|bL t)<|bi t
 .exact d.a y λd=>a' U<|h.D _<|pt<|d
 .have u:(of k.scope.names)[z]?=V _:=J;unfold of at u;rw[ax,bO]at u;refine ka λK=>?_;obtain⟨⟨o,L⟩,w,b⟩:=u;obtain rfl:o=a:=aB ca b;refine jU (D.F p) λM O P=>?_;have A:=kg E (ag.a p).1;have Q:j[z]?=V o:=jx h.C<|jx (ci A)<|jx (ax)<|jx w U;obtain⟨R,T⟩:=UJ (a:=(fP k (Lb N.heap.objs) c).kindOf) (g:=λn=>Y) (h:=λn=>Y) (UK.nodup<|kd h.C<|aes (acK ..) h.A)<|aa (by rw[List.getElem?_zip_eq_some];exact⟨Q,O⟩);have d:(fP k (Lb N.heap.objs) c).kindOf o=V L:=tk w h.A;refine K<|jO M ?_<|P.E F;rcases h.E _<|aa<|jx (ci A) w with b|b<;>subst b;.exact .inl ⟨d,_,i.toInCall.ns,R d⟩
  .obtain⟨g,B⟩:=y d;have C:=i.cell o g B;rw[T (by rw[d];simp)]at C;exact .inr ⟨.inl d,g,B,C⟩
end
def o4(g:bk)(a:gG)(h:Lt cj)(i:Lt kb):=(∃b,Lj g kH=V b/\b.data=.func a)/\(∃c,a.body=.stmts c/\q5 i a.scope.names c)/\rC a.scope h/\a.globals=cu/\a.builtins=gn/\a.closure=[]/\∃d e f j,a.code=.ref d/\Lj d kH=V e/\e.data=.fields f/\f[1]?=V (.str a.qualname j)
def o4.A(a:o4 c k j o):=a.1
def o4.B(a:o4 c k j o):=a.2.1
def o4.C(a:o4 c k j o):=a.2.2.1
def o4.D(a:o4 c k j o):=a.2.2.2.1
def o4.E(a:o4 c k j o):=a.2.2.2.2.1
def o4.F(a:o4 c k j o):=a.2.2.2.2.2.1
def o4.G(a:o4 c k j o):=a.2.2.2.2.2.2
def AU(h:gG)(c:Lt cj)(d:Nat)(e:Lt jA):=d+La e=La c/\∀i a j b (f:Lt (cj×bB)->bG->Prop) k,kH.In a.heap->La b=d->(∀g,kf j a.heap e g->f (c.zip<|b++g) a)->ay kc i (ac9 h ⟨b,[]⟩) f k a
def wO(g:Bool)(h:bB)(i:List jA)(a:ko)(j:jA->jC->Prop):=∀d c b e (f:acE->bG->Prop),mB g a.B a.D d->ki a.B c a.A b.heap->kf c b.heap i e->pN a.B c b j (λk l=>f (.ok<|.ret k) l)->ff kc d (.call h ⟨e,[]⟩) f b
def I4(a:jA->jC->Prop):og:=λc b=>match c with|.B d=>a d b.A|.A=>a .D b.A|_=>False
section
def mB.K(a:mB u q (d+1) O)(e:Z.scope.kind=.function)(f:Z.frame=V c):mB u (q.C c n) d<|O.deeper Z:=by
 refine mS ?_ ?_ a.H a.F ?_;.exact aX (aw<|dN ..) a.C
 .exact aX (aX (aw<|dN O.units 3<|4*d)<|bm _) a.D
 .refine li a.G λg h i j=>kT (Z::g) ?_ ?_ λk b=>?_;.show O.frames.map _=_;rw[h];rfl
  .simp only[bo,i,f];rfl
  .rcases ao.a b with rfl|b;.exact e
   .exact j k b
def I5{J:List jA}(h:o4 c k j o)(K:AU k j (La e) J)(W:m.D=d+1) (X:∀Z,mM u o ⟨m.B.C Z k.code,d,lv<|e++J,m.A⟩<|I4 g):wO u (.ref c) e m g:=by
 intro L w b α a1 p q r M;replace p:=W▸p;have x:=qg.A.keeps q.F.A;refine ka λy=>jU h.A λz β γ=>jU h.B λδ ε ζ=>CQ h.G λN η θ ι κ μ ν ξ=>?_;have f:=h.C;refine y<|codeAny_call_function (aZ (dn p.C) jB) (x _ _ β) γ f.G f.F ε (z9 N η θ ι κ (x _ _ μ) ν ξ)<|K.2 L.in1 b w α _ _ x r.J λa2 ο=>?_;refine jx h.F ?_;refine wpAny_newFunctionEnv_cells f.B (λE π=>?_) λa3 ρ F i=>?_;.
  have O:=(List.of_mem_zip<|π).1;rw[f.C,<-iX]at O;refine ka λy=>?_;obtain⟨⟨a4,σ⟩,P,a⟩:=am.a O;obtain⟨a5,τ⟩:=cF.a<|cr P;have G:Lj E.1 k.scope.names=V σ:=jL a<|tk τ f.A;apply y;rcases f.E _ P with s|s<;>subst s;.exact .inl G
  .obtain⟨N,υ⟩:=I3<|.inl<|pt G;obtain⟨a6,φ⟩:=yA υ;exact .inr ⟨G,jx φ U⟩
 .subst ρ;refine⟨qg.B.keeps (q.F.D ⟨i.toInCall.keep,bL i.toInCall.ns.lt⟩).A,codeAny_func ?_⟩;have l:lL b.heap F.heap:=⟨i.toInCall.keep,bL i.toInCall.ns.lt⟩;have t:=UO f q (kf.a_ ο r) i (jx bH K.1) l;refine ug (UN f h.D h.E (Lb b.heap.objs) c) λχ ψ=>?_;have ω:oZ b F:=by obtain⟨Γ,Δ,a,_⟩:=i.done;exact m4 Γ Δ a
  refine X (Lb b.heap.objs) ⟨⟨k.scope.names,fP k (Lb b.heap.objs) c,L.deeper<|fP k (Lb b.heap.objs) c,χ,p.K f.B U⟩,ψ,U⟩ δ w F _ _ ζ ⟨(q.H l).m_ t.B t.F t.H,t⟩ λΘ a7 Q a8 H I v R n S=>?_;have T:kD lM w b H I:=⟨lY n.B.A (λu z a d a9=>n.B.D u z (l.A u z a) d λs=>cb.b ((show∀u,oM (fP k (Lb b.heap.objs) c) u->Lb b.heap.objs<=u from λu a=>a.a (λa=>aw a.b) λΞ=>Ξ.a λE a=>bL<|i.above E u<|pt a) u s)<|bn a) (λu Φ d=>n.B.B u (au Φ l.B) d) (λu Ψ d a=>n.B.F u Ψ d<|l.A _ _ a) (aX l.B n.B.C) λu j a=>n.B.G u j<|l.A _ _ a,ω.A n.F⟩;cases Θ with|A=>subst S;exact M _ Q .none H I v R.A.i_ T U|C=>exact v.elim|D=>exact v.elim|B Ω=>obtain⟨a0,rfl,r⟩:=S;exact M Ω Q a0 H I v R.A.i_ T r
def DX(a:wO u n e m g):nc u n e m g:=λb c d f l o h i j k=>wpAny_call<|a b c d f _ h i j k
def UP{k:bk}{b:jF}(w:adJ kH c=aj)(x:dk kH (.ref c) "__init__"=V (V<|.ref k))(y:iK kH (.ref k)=V (.type "function"))(z:m.A b=Y) (A:m.D=d+1) (B:wO u (.ref k) (.A b::e) ⟨m.B,d,m.E,jE m.A b<|.C c []⟩ λq C=>q=.D/\g (.A b) C):wO u (.ref c) e m g:=by
 intro j W D a X f r E F;rw[A]at f;have l:=qg.A.keeps r.F.A;obtain⟨i,G,H,s,I⟩:=D;obtain⟨J,t⟩:=ki.a_ (e:=i) r (o:=.C c []) (a:=(Lb i.objs+1,Lb i.objs)) z ((lL.C ..).D<|lL.C ..) (bm _) (al _) λZ=>x8 [] 0 (ec _) ((dr ..)▸bJ _ U) (bU _<|bJ _ U) U eU<|bT _;refine make_core (makes_of l w) (hx l x) (λK=>bind_fn l K y) kr ?_;have L:mB u m.B d<|j.under<|.builtin "type.__call__" ⟨.ref c::a,[]⟩:=by
  refine mS ?_ ?_ f.H ?_ ?_;.have:=f.C;show j.depth+(ea "type.__call__" ⟨.ref c::a,[]⟩).weight+d<=900;refine jx (show(ea "type.__call__" ⟨.ref c::a,[]⟩).weight=1 from U) ?_;lia
  .have:=f.D;show j.units+(ea "type.__call__" ⟨.ref c::a,[]⟩).cUnits+4*d<=9000;refine jx (show(ea "type.__call__" ⟨.ref c::a,[]⟩).cUnits=1 from U) ?_;lia
  .show pushGuards (ea "type.__call__" ⟨.ref c::a,[]⟩).guards j.guards=V [];exact jx (show(ea "type.__call__" ⟨.ref c::a,[]⟩).guards=[] from U)<|jx f.F U
  .exact li f.G λb M N O=>kT b (by show pushEnvs (ea "type.__call__" ⟨.ref c::a,[]⟩).envs j.frames=V b;rw[(show(ea "type.__call__" ⟨.ref c::a,[]⟩).envs=[] from U),M];rfl) N O
 refine B _ _ ⟨(i.push emptyDict).push _,G,H,s,I⟩ (.ref (Lb i.objs+1)::a) _ L J (.C (jO _ (rv ..) U)<|kf.G E t) λq P α Q R n S v T=>?_;obtain⟨rfl,n⟩:=n;subst T;exact⟨U,F (.A b) P _ Q R n S (kD.A ⟨t,(i.push emptyDict).push _,s,U⟩ v)<|jO _ (v.B.A _ _<|rv ..) U⟩
end
def mB.J(a:mB u q d O)(b:bB):mB aj q d<|O.mark<|V b:=mS a.C a.D ot a.F a.G
structure UQ(e:List bk)(c d:dX):Prop where
 A:∀a b,c.get? a=V b->a∉e->d.get? a=V b
 C:∀a,a∈e->∀b,c.get? a=V b->∃f,d.get? a=V f/\∃g,f={b with slots:=g}
 B:c.objs.size<=d.objs.size
section
def ki.j_(e:ki q v S l)(f:c∈q.B)(d:Ln l c=V z):(∃b g,z.data=.dict b g)/\ov z=ah:=(e.C c f).1.a λk a=>⟨a.a λm a=>a.a λb a=>li a λh i j n=>m4 b h<|jx (aY<|d.b.a i) j,k'.A a d⟩
def kS.G(c:kS Z m v N)(e:UQ m.B.B N.heap l) h:kS Z m v {N with heap:=l,toks:=h}/\kD lM v N v {N with heap:=l,toks:=h}:=by
 have i:∀{u b},Ln N.heap u=V b->ov b=aj->u∉m.B.B:=λa o d=>av<|(c.A.j_ d a).2.b.a o;have g:lC lM v N.heap v l:=⟨λf f a=>a,λu b a f f=>by
  by_cases d:u∈m.B.B;.exact(e.C u d b a).b λt j=>⟨j.1,.inr ⟨(c.A.j_ d a).1,j.2⟩⟩
  .exact⟨b,e.A u b a d,.A _⟩,λf f k=>k,λu w k a=>e.A u _ a<|i a U,e.B,λu p a=>⟨p,e.A u _ a<|i a U⟩⟩;exact⟨⟨c.A.d_ g ⟨λu b a=>e.A u b (c.A.A.A u b a) λd=>mh (c.A.C u d).2.2 a,aX c.A.A.B e.B⟩ (λn b q a=>e.A n b a λd=>(c.A.C n d).2.1 q) λr s=>(Ar c.A.C g (λf f=>id) r s).1,c.B.C g⟩,g,l,h,U⟩
def UR{b:Lt gu}:∀{q:Lt bk},b.map (·.frame)=q.map V->b.filterMap (·.frame)=q:=by induction b with|nil=>exact λa=>(dV.a a.b).b|cons d b c=>exact λ{q} a=>by cases q with|nil=>cases a|cons=>exact jx (gB (an a).1)<|jx (c (an a).2) U
theorem US{a:Lt gu}:∀{q:Lt bk},a.map (·.frame)=q.map V->(∀c∈a,c.scope.kind=.function)->(∀b,b∈q->(∃d,l.Ns b d)/\Ln δ b=Y)->l.FunFrames δ a:=by revert l δ a;apply q3;generalize mj.1.1=l,mj.1.2=δ,mj.2=a;induction a with|nil=>exact λe e e=>aH|cons c a i=>intro q l f g;cases q with|nil=>cases l|cons b q=>obtain⟨j,k⟩:=an l;obtain⟨⟨d,m,v,w,n,o,_⟩,p⟩:=g b ae;exact lj (by rw[f c ae];decide) (pL b m j p n (λx h=>by rw[o]at h;cases h))<|i k (λr s=>f r<|af _ s) λt u=>g t<|af _ u
theorem UT(ε:mB u q d O) (ζ:∃h,Z.frame=V h/\q.B.head?=V h) (F:∀h,h∈q.B->(∃G,N.heap.Ns h G)/\Ln q.A h=Y) (p:Ln N.heap c=V z) (m:z.data=.fields Q) (H:Q[1]?=V .none) (r:∀l s,(∀u a,Ln N.heap u=V a->u≠c->u∉q.B->Ln l u=V a)->(∀u,u∈q.B->∀a,Ln N.heap u=V a->∃I,Ln l u=V I/\∃t,I={a with slots:=t})->Lb N.heap.objs<=Lb l.objs->(∃v J,Ln l c=V v/\v.cls=z.cls/\v.data=.fields J/\J[1]?=V (.ref s))->Lb N.heap.objs<=s->(∃w i,Ln l s=V w/\w.cls=.type "traceback"/\w.data=.fields i/\3<Lb i)->γ () {N with heap:=l}):ay kc O (noteFrame (.ref c) Z) (λΓ η=>ay kc O (setFlight (.ref c) Y) γ b η) b N:=by
 revert u N Z q O b d c z Q γ;apply CM;generalize mR.1.1.1.1=b,mR.1.1.1.2=c,mR.1.1.2=d,mR.1.2.1.1=q,mR.1.2.1.2=u,mR.1.2.2=z,mR.2.1.1.1=N,mR.2.1.1.2=O,mR.2.1.2=Q,mR.2.2.1=Z,mR.2.2.2=γ;intros;refine ka λx=>?_;obtain⟨θ,K,L⟩:=ζ;refine li ε.G λι κ n μ=>?_;have y:=(iD.a H).1;have M:c∉q.B:=λν=>(F c ν).1.a λG k=>k.a λa k=>k.a λΔ k=>li k λΘ ξ ο Ξ=>by cases m.b.a<|(aB iP<|aY<|p.b.a ξ).a ο
 apply x;unfold noteFrame;refine jx K ?_;refine jK<|fh p m H<|lJ jB<|jK<|dP<|wpAny_frameEnvs κ ?_;obtain⟨π,Φ⟩:=q;cases π with
 |nil=>exact kh L|cons o Ψ=>
  cases ι with
  |nil=>cases n|cons A P=>
   obtain rfl:o=θ:=aY L;have R:A.frame=V o:=(an n).1;have ρ:((A::P).dropWhile λσ=>σ.frame !=Z.frame)=A::P:=by rw[List.dropWhile_cons,R,K];simp
   refine jx ρ ?_;refine jK<|jK<|wpAny_readyFrames_fun (US n μ F) λe f=>ai ?_;replace f:=UR n▸f;refine jx R ?_;refine ai<|jK<|wpAny_entryPlaceOf λΩ τ=>jK<|dK ?_<|τ.sizeOk5 ..;generalize B:({cls:=.type "traceback",dict:=Y,data:=.fields (Lc ([ad6,.ref o,.none,iM o,.none]++_))}:hP)=g;refine ka λx=>?_;obtain⟨i,C,S⟩:∃i,g.data=.fields i/\3<Lb i:=⟨_,jL B U,by simp only[cy,bH,cN];lia⟩;have υ:g.isFreed=ah:=jL B U;have φ:g.cls=.type "traceback":=jL B U;have T:=(f.2.1 c M).a p;have W:Ln (e.push g) c=V z:=bU _ T;refine x<|fK W m y ?_;have X:=bi<|bn T;have D:=ds m (·.setIfInBounds 1 (dm (Lb e.objs)));have α:=cW _ W<|fI D;have β:((e.push g).update c (gF (·.setIfInBounds 1 (dm (Lb e.objs))))).get? (Lb e.objs)=V g:=(fA _ _<|ha X).a<|bJ e υ;apply acX α D (by simp[y]) β C S;have δ:∀u a,Ln e u=V a->u≠c->(((e.push g).update c (gF (·.setIfInBounds 1 (dm (Lb e.objs))))).update (Lb e.objs) (gF (·.setIfInBounds 3 .none))).get? u=V a:=λu a j E=>by exact jx (fA _ _<|bi<|bn j)<|jx (fA _ _<|ha E)<|bU _ j
   refine r _ (Lb e.objs) (λu a j E χ=>δ u a ((f.2.1 u χ).a j) E) (λu j a ψ=>?_) ?_ (pL _ _ ((fA _ _ X).a α) (gA ..) D (by simp[y])) (aw f.1.b)<|pL _ _ (cW _ β<|fI<|ds C _) ((gA ..).a φ) (ds C _) (by simpa using S);.obtain⟨t,ω⟩:=f.2.2 u a ψ;exact⟨_,δ u _ ω λr=>M<|kg r j,t,U⟩
   .rw[ip,ip,dr,f.1];exact bm _
def AV(e:String)(N:bG)(f:bB)(c:bG):=lR N c/\∃a b d,f=.ref a/\Ln N.heap a=Y/\Ln c.heap a=V b/\b.cls=.type e/\b.data=.fields d/\d[1]?=V .none
def AV.A(a:Heap.NewExc N.heap l c T)(b:Lb N.heap.objs<=Lb l.objs):AV T N (.ref c) {N with heap:=l,toks:=d}:=by exact ka λe=>mr a.there λf j g h i=>e<|⟨ms l d U ⟨a.keeps,b⟩,c,f,_,U,a.new,g,h,i,U⟩
def yD(Z:gu)(m:ko)(v:ke)(N:bG)(f:String)(g:jC->Prop)(h:bB->bG->Prop):=∀b c d e a,g d->kS Z (m.C d) e a->kD lM v N e a->AV f a b c->h b c
def uu(d:jR)(m:ko)(e:String)(f:jC->Prop):=∀(a:n7 ah m.B m.D) b v N g c,kV d a.D b->kS a.A m v N->yD a.A m v N e f c->ay kc a.B (dy b a.A) g c N
def DY(f:Lt bB->hB bB)(g:Lt jA)(m:ko)(h:String):=∀a v N b i c,mB ah m.B m.D a->ki m.B v m.A N.heap->kf v N.heap g b->(∀d e,AV h N d e->c d e)->ay kc a (f b) i c N
def DZ(d:Lt kb)(m:ko)(e:String)(f:jC->Prop):=∀(a:wD ah m.B m.D) b v N g c,q5 d a.D b->kS a.A m v N->yD a.A m v N e f c->ay kc a.B (acj b a.A) g c N
def yD.A{a:ke}(c:yD Z m v N T r b)(d:kD lM v N a ξ):yD Z (m.C S) a ξ T r b:=λe f g h i j k l n=>c e f g h i j k (d.A l) n
def D0{f:jR}(s:kn ah p m λa g=>kn ah f (m.C g) λh b=>r b/\∀c N,qz N=ah->DY (mm<|eE c N) [a,h] (m.C b) T):uu (.C p f) m T r:=λd a v N i e t u w=>t (λa=>ay _ _ (dy a _) i e N) λj c L x y z=>hq<|s d j v N _ e y u λa g A B C D E F G=>D d c B C _ e z E λh b H k l n o q I=>n.2 j c x d.B k l [A,H] i e d.E o.A (.C (G.A q.B)<|.I I) λJ K p=>w J K b k l n.1 o (F.A q) p
def UU{c:jR}(f:kn ah p m λa d=>uu c (m.C d) T r):uu (.C p c) m T r:=λe a v N g b h i j=>h (λa=>ay _ _ (dy a _) g b N) λk l x y n o=>hq<|f e k v N _ b n i λa d z q s t u w A=>t e l q s _ b o u<|j.A w
def UV(b:uu p m T r):uu (.F p d X) m T r:=λc q v N e a f g h=>f (λd=>ay _ _ (dy d _) e a N) λi s t u w j k l n x o y=>Dw j k l n<|b c i v N _ a o g h
def UW(f:r0 p=aj)(g:uu p m T r):DZ (.E p::o) m T r:=λb c v N h a i j k=>i (λc=>ay _ _ (acj c _) h a N) λd q l s=>ei<|l (λd=>ay _ _ (et d _) _ a N) λn t e=>aez (g b.1 n v N _ a e j k) (by unfold interactive;rw[b.C.B];rfl)<|r1 f e ..
def UX{a:jR}(f:r0 a=aj)(g:uu a m T r):DZ (.F p d a::o) m T r:=λh s v N i b j k l=>j (λd=>ay _ _ (acj d _) i b N) λc t n u=>ei<|n (λc=>ay _ _ (et c _) _ b N) λw x y q z A B e=>iE (g h.1 q v N _ b e k l)<|r1 f e ..
def I6{b:jF}(h:m.A b=V (.B y))(i:kP x=aj)(j:kj y x=Y)(c d:cL)(k:qz d=ah):DY (mm<|eE c d) [.A b,x] m "KeyError":=by intro E v N F G H e f n o;apply n.E;intro p q r s;apply f.D h r;intro t I u _ a w z _;refine gf (nu a) eX.lookup (IA<|bu<|jK<|fL (nu a) jB<|jK<|cq (nu a) eX<|bq eX (nu a) adr ?_<|adL ..)<|wy k ..;show ay _ _ (acB t.1 q>>=_) _ _ N;exact jK<|AA (bL e.B) a w z i s (λA B=>jK<|hh (tm<|f.M u)<|jK<|wpAny_typeOf (nu a)<|lJ jB<|jK<|dZ<|wpAny_raise_newExc plainExc_KeyError e.A λl g C D=>o _ _<|.A C D) λA c p g B=>mh j g
def UY{a:Int}(b:qi e a=Y)(k:-(2^63)<=a)(n:a<2^63)(o g:cL)(p:qz g=ah):DY (mm<|eE o g) [.E e,.B a] m "IndexError":=by
 intro B v N C D E q F r s;apply r.E;intro G H t u;apply u.B;intro w;apply t.D;intro x h y i z j;have c:=vx i;have d:ej a (Lb h)=Y:=by rw[z.A];cases d:ej a (La e)with|none=>rfl|some I=>unfold qi at b;rw[d,g',bz]at b;exact(AB d).a (λf=>a' f.2.2.2<|cb.b b) λf=>a' f.2.2.2<|cb.b b
 refine gf c.typeIs hi.lookup (IA<|bu<|jK<|fL c.typeIs jB<|jK<|cq c.typeIs hi ?_)<|wy p ..;exact hn hi c.typeIs entry_tuple_getitem (args_tuple_getitem ..) (adN x h y a w k n d)<|lj i q.A λl J K A j=>s _ _<|.A A j
def UZ(d:mM u o m η):nA u (.L o p ρ) m η:=λa n v N c e f g h=>f (λo=>ay _ _ (et o _) c e N) λi q r s b j t w=>adV<|cE (d a i v N c rc j g h) (λk x b=>by cases k with|next=>exact ael b|_=>exact b) λl l a=>a.elim
inductive wP(b:String):jR->Prop where
 |B(c:cj)(a:String)(i:lu.A c=V (.type a))(j:subB b (.type a)=V aj)(k:subB a (.type "BaseException")=V aj)(l:subB ((hb a).elim "type" λd=>d.metatype) (.type "tuple")=V ah):wP b (.G c)
 |A(c:cj)(a:String)(f:cj)(e:String)(g h:Bool)(i:lu.A c=V (.type a))(m:lu.A f=V (.type e))(j:subB b (.type a)=V g)(n:subB b (.type e)=V h)(o:(g||h)=aj)
  (k:subB a (.type "BaseException")=V aj) (l:subB ((hb a).elim "type" λd=>d.metatype) (.type "tuple")=V ah) (p:subB e (.type "BaseException")=V aj) (q:subB ((hb e).elim "type" λd=>d.metatype) (.type "tuple")=V ah):wP b (.M [.G c,.G f])
end
section
theorem I7{I:kb}(C:DZ o m T r)(a1:wP T p)(M:∀l,r l->mM aj (I::ρ) (m.C l) η):nA ah (.L o p (I::ρ)) m η:=by
 revert m η o I ρ p T r;apply sz;generalize kG.1.1.1=m,kG.1.1.2=o,kG.1.2.1=ρ,kG.1.2.2=p,kG.2.1.1=r,kG.2.1.2=T,kG.2.2.1=η,kG.2.2.2=I;intros;exact λb f0 a2 κ N O a3 J a4=>a3 (λo=>ay _ _ (et o _) N O κ) λP μ t g ν a5 ξ ο=>by
  have R:=ο;revert R;apply ο;intro a6 a7 _ _ R;refine adV<|C b P a2 κ _ _ a5 J λc u l n S a8 v π C=>ka λq=>?_;obtain⟨w,x,f1,τ,rfl,W,a9,b0,b1,b2⟩:=C;have υ:=v.D w;refine q<|UT b.E J.B.I (λK y=>⟨(υ.A.C K y).1,(υ.A.C K y).2.2⟩) a9 b1 b2 λz D b3 b4 b5 b6 b7 b8=>ka λq=>qc b6 λb9 f2 φ c0 X c1=>qc b8 λc2 c3 χ c4 Z c5=>?_;obtain⟨ψ,c6⟩:kS b.A _ n {u with heap:=z}/\kD lM n S n {u with heap:=z}:=by refine pK w.G λf3 f4 c7=>?_;have E:=v.G ⟨λd i c c8=>b3 d i (w.B.A _ _ c) (λg=>mh W<|jL g c) c8,λd M i c=>b4 d M i<|w.B.A _ _ c,aX w.B.B b5⟩ u.toks;rw[c7]at E⊢;exact E
  have ω:∀{d},Ln S.heap d=Y->¬mA n d:=λc i=>i.a λΓ i=>jU i λν Δ c9=>(v.A.I Γ ν Δ).a λd0 α=>(v.A.E Γ d0 α).a λf5 L=>by obtain rfl:=aY<|Δ.b.a L.1;exact mr L.2.A λ_ _ C d1 _=>c9.a (λg=>mh (g▸c) C) λg=>mh (g▸c) d1
  have G:=aX w.B.B b7;have β:∀{j e d i τ},kD lM n {u with heap:=z} j e->Ln z d=V i->i.data=.fields τ->Ln S.heap d=Y->Ln e.heap d=V i:=λd2 c d3 Θ=>(d2.B.D _ _ c (ω Θ) id).a λf6 E=>E.2.a (λg=>g▸E.1) λg=>g.1.a λf7 g=>g.a λΘ g=>by cases d3.b.a g
  have Ξ:∀j (e:bG),kS b.A (m.C l) j e->kD lM n {u with heap:=z} j e->ay kc (b.B.mark<|V<|.ref x) (setFlight (.ref x) Y) (λf8 d4=>ay kc (b.B.mark<|V<|.ref x) (acj (a6::a7) b.A) (λb γ=>N b γ) (notedBy kc (b.B.mark<|V<|.ref x) b.A<|cameBackBy kc b.B b.A O) d4) (notedBy kc (b.B.mark<|V<|.ref x) b.A<|cameBackBy kc b.B b.A O) e:=by intro j e H k;have Φ:=β k χ Z<|cR G;apply acX (β k φ X W) X c1 Φ Z c5;have Ψ:=to (ch (h:=e.heap) (a:=D) (f:=gF (·.setIfInBounds 3 .none)));have Ω:∀d,d=D->tn e.heap d:=λd c=>kd c<|qj.A<|lP c2 c3 Φ c4 Z;exact M l a8 ⟨⟨b.D,b.A,b.B.mark _,b.C,b.E.J _⟩,b.F,b.H⟩ _ j _ N _ R (H.E (Q:=(· =D)) ⟨λd c=>c▸k.B.B D (bn χ) (ω<|cR G),λd c=>c▸wG v.B G,λd c=>c▸cR (aX v.A.A.B G)⟩ Ω Ψ) λd5 d6 s L d7 γ g d8 d9 c=>a4 d5 d6 s L d7 γ g d8 ((((π.A c6).A k).G (λd c=>kd (show d=D from c)<|aX π.B.C G) (m4 _ e.toks U) Ψ Ω).E.A d9) c
  have a0:∀{j e},kD lM n {u with heap:=z} j e->∃i,Ln e.heap x=V i/\i.cls=.type T:=λk=>jO b9 (β k φ X W)<|c0.a b0;apply q;cases a1 with|B K δ y ε ζ θ=>refine wpAny_handleBy_builtin (da ζ) (da θ) (da ε)<|um (d:=m.C l) (t:=λt s=>t=.G (.type δ)/\s=l) y lp ⟨b.D,b.A,b.B.mark _,b.C,b.E.J _⟩ μ n _ _ _ ξ ψ λt s P j e c H k ι=>ka λq=>?_;obtain⟨rfl,rfl⟩:=c;subst ι;exact q<|⟨U,a0 k,jx (aC U)<|Ξ j e H k⟩|A K δ f9 e0 g0 g1 y e1 ε e2 e3 ζ θ e4 e5=>refine wpAny_handleBy_tup2 (da ζ) (da θ) (da e4) (da e5) (da ε) (da e2)<|Dz (d:=m.C l) (t:=λt s=>t=.E [.G<|.type δ,.G<|.type e0]/\s=l) (ry<|um y<|ry<|um e1<|sC<|lj (bE U) U U) ⟨b.D,b.A,b.B.mark _,b.C,b.E.J _⟩ μ n _ _ _ ξ ψ λt s P j e c H k ι=>ka λq=>?_;obtain⟨rfl,rfl⟩:=c;apply q;apply ι.D;intro e6 g2 g3 α e7 _;have e8:=Array.toList_inj.a<|e7.E λo d e9 J=>jx (show o=_ from e9)<|jx (show d=_ from J) U;subst e8;exact nQ e6 U (vx α) (a0 k)<|jx (aC e3)<|Ξ j e H k
end
section
variable{a:Lt jA}{d f:jF}
def U0{k:jR}(l:kn u p m λb n=>rx u b (m.C n) λa d=>bif a then kn u k (m.C d) g else g b d):kn u (.f_ [p,k]) m g:=λe o v f h c C D q=>C (λo=>ay _ _ (dy o _) h c f) λr s a=>a (λr=>ay _ _ (dy (.BoolOp .And r s) _) h c f) λE F G a=>a (λF=>ay _ _ (dy (.BoolOp .And _ s) _) h c f) λH T I a=>by subst a;refine BoolOp_and<|l e E v f _ c G D λb n i J K L t w x=>L e.B J K i _ c e.E t.A x λu d y z A M j=>?_;have B:=t.C M j;cases u with|true=>exact jx (aC U:_=_)<|BoolOp_one<|A e H y z h c I B λb N i O P Q R S=>q b N i O P Q R<|(w.A j).A S|false=>exact q b d i y z A B (w.A j)<|x.A j.B
def sI(a:jA)(b:Option Int):=(a=.D/\b=Y)\/∃c,a=.B c/\b=V c
def AW{a:Option Int}(c:sI x a)(b:jZ v l x n):IsPart n a:=c.a (λd=>by obtain⟨rfl,rfl⟩:=d;refine jx (show n=.none from b) ?_;exact .none) λe=>e.a λi f=>f.elim λg h=>by subst g h;exact b.B (m:=λn=>IsPart n _) λj=>.int ..
noncomputable def tq(b c:Op Int)(e:Lt jA):Op<|Lt jA:=match b,c with|none,Y=>V e|some a,Y=>if 0<=a/\a<=La e then V<|Lm (Lg a) e else Y|none,V u=>if 0<=u then V<|Ll (Lg u) e else Y|some _,V _=>Y
def U1(a:Array bB)(u:Nat):iL a Y (V u) Y=Lc (Ll u (Lf a)):=by
 by_cases b:u<=(Lb a);.exact slicePick_upto a u b
 .have c:ac4 Y (V (u:Int)) Y (Lb a)=ac4 Y Y Y (Lb a):=by simp only[ac4,Option.getD_none];have d:¬((u:Int)<0):=jB;simp only[d,if_false];congr 1;congr 1;rw[aC (show(1:Int)>0 by decide),aC (show(1:Int)>0 by decide)];exact(aB (max 0)<|Int.min_eq_right<|fC.b<|Nat.le_of_not_le b).a<|Int.max_eq_right<|cA _
  have:iL a Y (V u) Y=iL a Y Y Y:=by unfold iL;rw[c]
  exact jx (this ..)<|jx (aeW ..)<|jx (dE (by simp;exact Nat.le_of_not_ge b)) U
def I8{f g:Op Int}(b:tq f g e=V a)(d:kf v l e (Lf Q)):kf v l a (Lf (iL Q f g Y))/\La a<=La e:=by
 match f,g with
 |none,Y=>obtain rfl:=aY b;rw[aeW];exact⟨d,al _⟩|some h,Y=>
  dsimp only[tq]at b;split at b;.rename_i i;obtain rfl:=aY b;obtain⟨c,rfl⟩:∃c:Nat,h=c:=⟨Lg h,(gz i.1).b⟩;exact jx (slicePick_from Q c (by rw[d.A];exact fC.a i.2)) ⟨d.d_ c,jx gL<|aeR ..⟩
  .exact kh b|none,V j=>
  dsimp only[tq]at b;split at b;.obtain rfl:=aY b;obtain⟨c,rfl⟩:∃c:Nat,j=c:=⟨Lg j,(gz ‹_›).b⟩;exact jx (U1 ..) ⟨d.j_ c,bg ..⟩
  .exact kh b
def D1(h:jA)(i j:Option Int)(g:jA->jC->Prop)(b:jC):=(∃d e a f,h=.A d/\b d=V (.A e)/\tq i j e=V a/\b f=Y/\g (.A f) (jE b f<|.A a))\/∃(e:List jA)(c:Nat),h=.E e/\i=V (c:Int)/\j=Y/\1<=c/\c<=La e/\g (.E<|Lm c e) b
theorem U2{w x:jR}(l:kn u p m λk E=>kn u w (m.C E) λh G=>kn u x (m.C G) λn H=>∃y o,sI h y/\sI n o/\D1 k y o g H):kn u (.j_ p w x) m g:=by
 revert u m g p w x;apply qv;generalize kE.1.1.1=g,kE.1.1.2=m,kE.1.2=p,kE.2.1.1=u,kE.2.1.2=w,kE.2.2=x;intros;exact λb T v i κ q μ I r=>μ (λT=>ay _ _ (dy T _) κ q i) λk d a8 o y ν ξ ο=>by
  have W:∀{J:jR}{K:Option cL}{s:ko}{v:ke}{i:bG}{X:jA->jC->Prop}{Z:bB->bG->Prop}(b:n7 u s.B s.D),kn u J s X->((K=Y/\J=.a_)\/∃h,K=V h/\kV J b.D h)->kS b.A s v i->wu b.A s v i X Z->ay kc b.B (evalPart K b.A) Z q i:=λb z t n r=>t.a (λt=>by obtain⟨rfl,rfl⟩:=t;exact z b (.Constant .none 0 i') _ _ _ q (λc I=>I ..) n r) λπ=>π.a λh ρ=>ρ.elim λp σ=>by subst p;exact z b h _ _ _ q σ n r
  refine hq<|l b k v i _ q ν I λa9 E α b0 b1 τ υ φ A=>wpAny_Slice<|W (s:=m.C E) b τ ξ υ λh G χ b2 b3 ψ ω β Γ=>W (s:=m.C G) b ψ ο ω λn H Δ Θ L M N O Ξ=>ai ?_;obtain⟨b4,b5,Φ,Ψ,M⟩:=M;have P:=AW Φ<|Γ.A O.B;have γ:=AW Ψ Ξ;have δ:=(φ.A β).A O;have A:=(A.A β.B).A O.B;have c:=lR.D L {cls:=.type "slice",data:=.fields #[χ,Δ,.none]}
  have ε:=N.A.H c.B;rcases M with⟨d,e,a,f,rfl,Ω,z,a0,Q⟩|⟨e,B,rfl,rfl,rfl,a1,a2,Q⟩;.apply ε.B Ω<|A.E c.B;intro y R a3 _ _ C j D;have ζ:=I8 z j;exact gf (nS C).typeIs adg (jn (nS C) (gM ..) P γ .none kh (pN.A (λk a4 α a5 a6 o a7 η=>r k a4 α a5 a6 o ((N.D c).C a7 η)<|(δ.A<|.C c).A η) ε a0 (.C ..) (bJ _ U) ζ.1 (aX ζ.2 D) Q)<|kd cU<|jx j.A D) U
  .cases γ;generalize θ:V _=b6 at P;cases P with
   |none=>cases θ|int b7 t=>
    obtain rfl:=aY θ;apply(A.E c.B).D;intro b8 R a3 C j D;have ι:=vx C;refine gf ι.typeIs F.slot_tuple_getitem.lookup (getItem_tuple_from ι (gM ..) a1 (kd j.A a2) ?_<|kd cU<|jx j.A D) U;have S:=lR.D {L with heap:=L.heap.push {cls:=.type "slice",data:=.fields #[.int (B:Int) t,.none,.none]}} {cls:=.type "tuple",data:=.seq (Lc (Lm B (Lf R)))}
    exact r _ H _ Θ _ Q ((N.D c).D S) ((δ.A<|.C c).A<|.C S)<|qw _ (Lc (Lm B (Lf R))) 0 U (bJ _ U) ((j.d_ B).H S.B) (by rw[gL];exact aX (aeR ..) ‹_›)
theorem I9(a:Lt Bool):(be (La a)).map (λb=>a.getD b ah)=a:=by revert a;apply pJ;generalize pn=a;exact List.ext_getElem (by simp) λb d c=>by simp[bZ,aq c]
def I'(c:kf v l (ι.map jA.F) (Lf Q)):TruthOf lu.C ou O (λa d=>Q[a]?=V d) (λa=>ι.getD a ah):=λa d j g k b h=>by exact((have e:=bl.a b;by have i:(ι.map jA.F)[a]?=V (.F<|ι.getD a ah):=jx (ax)<|jx (bZ)<|jx (aq<|kg (c.J.a<|ab ..) (ag.a e).1) U;refine jU (c.F i) λm f b=>?_;rw[e]at f;obtain rfl:=aY f;exact b))▸fJ h
def U3(l:m.A d=V (.A<|ι.map .F))(n:g (.F<|ι.all id) m.A):nc ah (.builtin "all") [.A d] m g:=rB n λA v i a B C o q c r=>by apply c.B;intro D c;apply q.B l c;intro s j E _ _ e k _;refine rb<|call_all_walk<|hv (nS e)<|⟨Lb i.heap.objs,_,_,_,_,_,_,U,ad5 (by exact o.A) (Lb i.heap.objs) s.1 (bF<|bn e) j,⟨kT _ (bJ _ U) U U,nS<|bU _ e⟩,I' k,λt w x y=>?_⟩;have b:(be (Lb j)).all (λh=>ι.getD h ah)=ι.all id:=jx (k.A ..)<|jx (ab ..)<|(adR (f:=λh=>ι.getD h ah) (p:=id)).b.a<|jx (I9 ..) U;exact jx b<|r _ _ (lP t w U (λu z b=>x u z (by simp;exact bF<|bn b)<|bU _ b) y) U
def U4(l:m.A d=V (.A<|ι.map .F))(n:g (.F<|ι.any id) m.A):nc ah (.builtin "any") [.A d] m g:=rB n λA v i a B C o q c r=>by apply c.B;intro D c;apply q.B l c;intro s j E _ _ e k _;refine rb<|call_any_walk<|hv (nS e)<|⟨Lb i.heap.objs,_,_,_,_,_,_,U,ad5 (by exact o.A) (Lb i.heap.objs) s.1 (bF<|bn e) j,⟨kT _ (bJ _ U) U U,nS<|bU _ e⟩,I' k,λt w x y=>?_⟩;have b:(be (Lb j)).any (λh=>ι.getD h ah)=ι.any id:=jx (k.A ..)<|jx (ab ..)<|(List.any_map (f:=λh=>ι.getD h ah) (p:=id)).b.a<|jx (I9 ..) U;exact jx b<|r _ _ (lP t w U (λu z b=>x u z (by simp;exact bF<|bn b)<|bU _ b) y) U
noncomputable def yE:List (jA×jA)->List (jA×jA)->List (jA×jA)|a,[]=>a|a,(b,c)::d=>yE (kF a b c) d
noncomputable def uv(v:ke)(l:dX):List (jA×jA)->List (bB×bB)->Prop|[],a=>a=[]|(e,f)::g,a=>∃b c d,a=(b,c)::d/\jZ v l e b/\jZ v l f c/\uv v l g d
def uv.A{b:ke}(c:lC ν v l b δ){a:Lt<|bB×bB}(d:uv v l y a):uv b δ y a:=by induction y generalizing a with|nil=>exact d|cons m n e=>exact vo d λf g h i j u k=>qw f g h i (j.A c) (u.A c)<|e k
def uv.B:∀{a:Lt<|bB×bB},uv v l y a->La a=La y:=by induction y with|nil=>exact λc=>aB df c|cons e c d=>exact λb=>b.a λf b=>b.a λg b=>b.a λh b=>(aB df b.1).a<|aB ek<|d b.2.2.2
noncomputable def D2(u:Bool):List jR->List jR->ko->(List (jA×jA)->jC->Prop)->Prop|[],[],m,g=>g [] m.A|a::b,c::e,m,g=>kn u a m λd f=>kn u c (m.C f) λh i=>D2 u b e (m.C i) λj k=>g ((d,h)::j) k|_,_,_,_=>False
theorem U5:∀{e:List jR}{m:ko}{g:List (jA×jA)->jC->Prop},D2 u X e m g->∀(b:n7 u m.B m.D){h d:List cL}{k:Pos}{c:bG}{v:ke}{i:List (bB×bB)->bG->Prop}{f:bB->bG->Prop},ny X b.D h->ny e b.D d->kS b.A m v c->(∀n w a o j,g n w->kS b.A (m.C w) o j->kD lM v c o j->uv o j.heap n a->i a j)->ay kc b.B (evalPairs<|pairTrees (h.map V) d b.A k) i f c:=by
 revert u X;apply od;generalize lX.1=u,lX.2=X;induction X with
 |nil=>intro e m g l b h d k c v i f p q r s;cases e with|cons=>exact l.elim|nil=>subst p;obtain rfl:d=[]:=q;exact pairTrees_nil_walk<|s [] _ [] v c l r .D U
 |cons α X y=>intro e m g l b h d k c v i f p q r s;cases e with|nil=>exact l.elim|cons β e=>apply p;intro z γ A B;apply q;intro C δ D E;exact pairTrees_cons_walk<|l b z v c _ f A r λε ζ F G H I J K L=>I b C G H _ f D J λη θ M ι κ N O x P=>y N b B E O λn Q a R S T W t Z=>s _ Q _ R S T W ((K.A x).A t)<|qw F M a U ((L.A x.B).A t.B) (P.A t.B) Z
def U6(C:O.units<=9600)(D:v d=V (c,c))(k:List<|jA×jA):∀(f:List<|jA×jA)(a:List<|bB×bB)(h:jC)(e:bG)(g:PUnit->bG->Prop),ki q v h e.heap->h d=V (.B f)->uv v e.heap k a->(∀i∈k,kP i.1=aj)->La f+La k<16777216->(∀m,ki q v (jE h d<|.B<|yE f k) m.heap->kD lM v e v m->g ⟨⟩ m)->ay kc O (forIn a ad9 λ(n:bB×bB) (_:PUnit)=>(do adK c n.1 n.2;er (fF ad9):hB<|ForInStep PUnit)) g b e:=lO (by
 intro f a h e g j p o r l s;subst o;refine ai<|s e ?_ .D;have t:jE h d (.B<|yE f [])=h:=aJ λn=>by
  by_cases y:n=d;.subst y;simp only[jS,p];rfl
  .rw[jQ _ _ y]
 exact jx t j) (λi k E=>by obtain⟨F,G⟩:=i;intro f a h e g j p o r l s;obtain⟨n,X,H,rfl,I,u,o⟩:=o;refine jx (gY ..) ?_;replace l:=cN▸l;have z:=q9 F G f;refine j.D (h:=λJ=>J=.ref c->_) p (jO _ D U) (λi Z K t L w M α N=>?_) U;obtain rfl:i.1=c:=dG N;refine jK<|jK<|Dq C L w M (r _ ae) I u (gW l) λA B β Q R S T=>ai ?_;have x:=j.h_ p K t Q R S T<|aX z<|bL<|aZ (bS (cM 1 _) _) l;exact E _ H _ {e with heap:=A,toks:=B} g x.1 (jS ..) (o.A x.2) (λi w=>r i<|af _ w) (aZ (bC z _)<|aZ (aw<|dN ..) l) λm j W=>s m (by rw[o3]at j;exact j)<|kD.A ⟨x.2,A,B,U⟩ W) k
def ny.A:∀{b:Lt jR}{a:Lt cL},ny b π a->La a=La b:=by intro b;induction b with|nil=>exact λ{a} c=>jx (show a=[] from c) U|cons e b d=>exact λ{a} c=>c (λa=>La a=La b+1) λf g h c=>aB ek<|d c
def J'{t:Lt jR}(K:X≠[])(L:m.A d=Y) (l:D2 u X t (m.G d<|.B []) λh w=>w d=V (.B [])/\(∀i∈h,kP i.1=aj)/\g (.A d) (jE w d<|.B<|yE [] h)):kn u (.L X t) m g:=λj x v b M y N z O=>N (λx=>ay _ _ (dy x _) M y b) λk A i P n B C=>by
 have e:=ny.A B;have D:(k.map V).all (·.isSome)=aj:=by simp
 have E:La (k.map V)=La A:=by simp only[ab,e,ny.A C,P]
 have f:=pairTrees_length _ A j.A i D E;simp only[ab]at f;refine jx (arm_eval_Dict ..)<|jx (zip_pairTrees _ _ _ _ D E)<|jx (dictDisplay_pairs _ (λq=>K<|gK.a (by simp only[<-e,<-f,q];rfl)) (by rw[f];exact aZ (e.b▸n) jB)) ?_;refine jK<|dY<|jK<|jK<|wpAny_alloc<|jK<|bu<|qy (by rw[f];exact aX (e.b▸n) jB) ?_;have r:=z.A.a_ (o:=.B []) (a:=(Lb b.heap.objs,Lb b.heap.objs)) L (lL.C b.heap {cls:=.type "dict",data:=.dict #[]}) (al _) (al _) λy=>rV [] U (bJ _ U) U gZ<|bT _;have Q:kD lM v b _ {b with heap:=b.heap.push {cls:=.type "dict",data:=.dict #[]}}:=⟨r.2,_,b.toks,U⟩;refine jK<|cE (wpAny_evalPairs_len<|U5 l j (i:=λa s=>La a=La k->_) B C ⟨r.1,z.B.C r.2⟩ λh S a T s c F G H W=>?_) (λa s c=>c.2<|c.1.a f) λZ Z q=>q;have I:=G.B.A _ _<|rv ..;exact bu<|jK<|U6 (aX (bL j.E.E) (show 9500<=9600 by decide)) I h [] a S s _ F.A c.1 H c.2.1 (by simp only[<-H.B,W,e];exact aZ (aX (aw<|ct _) n) jB) λα β J=>ai<|ai<|ai<|O (.A d) _ _ T α c.2.2 (F.C β J) ((Q.A G).A J)<|jO _ I U
end
def uw(b:jC)(a c:jA):Bool:=match a with
 |.A d=>match c with|.A e=>(q'<|b d).elim ah λf=>(q'<|b e).elim ah λg=>ba<|f=g|_=>ah
 |a=>ba<|a=c
def ux(b:jC)(c:Lt<|jA×jA)(a:jA×jA):Bool:=(kj c a.1).elim ah<|uw b a.2
def ts(c:jC)(a b:Lt<|jA×jA):Bool:=La a==(La b)&&a.all (ux c b)
def yF(b:jC)(a:jA):Bool:=match a with|.A c=>(q'<|b c).elim ah oy|a=>kP a
section
variable{a d:jF}{e:Lt (jA×jA)}
def K'(b:yF S x=aj):kP x=aj\/∃a c,x=.A a/\S a=V (.A c)/\oy c=aj:=by
 cases x with
 |A a=>have b:(q'<|S a).elim ah oy=aj:=b;cases d:q'<|S a with|none=>rw[d]at b;exact lf b|some c=>rw[d]at b;exact .inr<|lP a c U (DG d) b
 |_=>exact .inl b
def U7{f:jA}{h:bB}(p:O.units<=9600)(r:ki q v S N.heap)(u:yF S x=aj)(w:yF S f=aj)(i:kP x=kP f)(j:jZ v N.heap x n)(k:jZ v N.heap f h)(g:W (uw S x f) N):ay kc O (eqBool n h) W b N:=by
 refine(K' u).a (λy=>?_) λc=>pK c λa l c=>(K' w).a (λz=>?_) λe=>pK e λd m e=>?_;.
  have o:uw S x f=ba (x=f):=by cases x with|A a=>exact lf y|_=>rfl
  exact Dk p j k y (jL i y)<|jL o g
 .rw[c.1,z]at i;exact lf i
 .rw[c.1]at j g;rw[e.1]at k g;have s:=wB (b:=⟨q,0,λB=>Y,S⟩) c.2.1 c.2.2;have t:=wB (b:=⟨q,0,λB=>Y,S⟩) e.2.1 e.2.2;have o:uw S (.A a) (.A d)=ba (l=m):=by show((q'<|S a).elim ah λl=>(q'<|S d).elim ah λm=>ba<|l=m)=_;exact jx c.2.1<|jx e.2.1 U
  exact(s.2 q v N.heap n r j).a λE C=>(t.2 q v N.heap h r k).a λF D=>(keq_at C D s.1 t.1<|aZ (bC (bC p 1) 64) jB).of_in1 lu.C ou b W<|jx (Dt c.2.2 e.2.2)<|jL o g
def AX(S:jC)(y e:Lt<|jA×jA):=∃b,∀a,a∈y\/a∈e->yF S a.2=aj/\kP a.2=b
def Lo{m:bk}(I:O.units<=9600)(l:ki q v S N.heap)(δ:S a=V (.B y))(ε:S d=V (.B e))(ζ:jZ v N.heap (.A a)<|.ref c)(η:jZ v N.heap (.A d)<|.ref m)(n:AX S y e) (g:W (ts S y e) N):ay kc O (hg T c m) W b N:=by
 refine l.D (h:=λu=>u=.ref c->_) δ ζ (λw k θ x o J Γ x ι=>?_) U;obtain rfl:w.1=c:=dG ι;refine l.D (h:=λu=>u=.ref m->_) ε η (λκ Δ μ x z A K x ν=>?_) U;obtain rfl:κ.1=m:=dG ν;have p:=J.A;have L:=A.A;unfold ts at g;unfold hg eD;refine jx (aA<|(tm<|l.M θ)▸av)<|jx (aA<|(tm<|l.M μ)▸av) ?_;refine jK<|ai<|jK<|ai<|jK<|dD o U<|jK<|dD z U ?_;by_cases r:La y=La e;case neg=>apply qy (by simp[p,L,r]);rw[aM r,iH]at g;exact jK<|dZ<|ai g
 case pos=>
  rw[aE.b r,adB]at g;refine lJ (by simp[p,L,r])<|jK<|e' o U<|dP ?_;refine jx (adh ..) ?_;refine fa _ (λM B C=>C=N/\B=_/\∃h,M=fw h (La k-h)/\h<=La k/\(Lm h y).all (ux S e)=y.all (ux S e)) _ ?_ ?_ _ _ ⟨U,U,0,by simp,bT _,by simp⟩;.
   rintro s M B C ⟨rfl,rfl,h,j,Q,f⟩;have R:=gQ λX=>by rw[Nat.sub_eq_zero_of_le X]at j;cases j
   rw[show La k-h=(La k-(h+1))+1 from(gP<|acR ‹h<_›).b,hc]at j;refine ka λD=>?_;obtain⟨rfl,ξ⟩:=an j;obtain⟨⟨Z,t⟩,E⟩:∃w,y[s]?=V w:=⟨_,aq<|hM R p⟩;refine qc (J.B E) λΘ Ξ ο π ρ σ=>?_;have τ:Lm s y=_::Lm (s+1) y:=(ag.a E).a λυ F=>jx (iR υ)<|jx F U;apply D;simp only[τ,dz]at f;refine dP<|dD o U ?_;refine jx (cw)<|jx ο ?_;refine jK<|bu<|jK<|Dp I z A K π ρ (λφ=>?_) λΦ α G=>?_;.
    have H:ux S e (Z,t)=ah:=by unfold ux;rw[Dl φ];rfl
    rw[H,iH]at f;rw[<-f]at g;exact ai<|qy U<|ai<|ai g
   .refine ka λD=>qc (A.B G) λΨ Ω χ _ a0 ψ=>D ?_;have H:ux S e (Z,t)=uw S t α:=by unfold ux;rw[HS K G];rfl
    rw[H]at f;refine dP<|dD z U ?_;refine jx (cw)<|jx χ ?_;refine n.a λa1 n=>?_;have β:=n _<|.inl<|aa E;have γ:=n _<|.inr<|aa G;refine bu<|U7 I l β.1 γ.1 (β.2.a γ.2.b) σ ψ ?_;generalize uw S t α=F at f;cases F with|false=>rw[iH]at f;rw[<-f]at g;exact qy U<|ai<|ai g|true=>rw[adB]at f;exact lJ jB<|jK<|e' o U<|lJ (by simp)<|ai ⟨U,U,s+1,ξ,R,f⟩
  .rintro B C ⟨rfl,rfl,h,j,Q,f⟩;have ω:=cC Q (cv λX=>by rw[show La k-h=(La k-(h+1))+1 from(gP<|acR ‹h<_›).b,hc]at j;cases j);rw[ω,p,List.drop_length]at f;rw[<-f]at g;exact ai g
def U8{l:gh}{n:Bool}(w:(l=.Eq/\n=ts m.A y e)\/(l=.NotEq/\n=!ts m.A y e))(o:m.A a=V (.B y))(p:m.A d=V (.B e))(q:AX m.A y e)(x:g (.F n) m.A):lm u (mm<|dg l) [.A a,.A d] m g:=qD x λO v N C D E b f h r s t=>by
 have i:=r;have j:=s;revert i j;apply h.D o r;intro F G H _ z _ _ _;apply h.D p s;intro I J K _ B _ _ _ i j;have c:=nu z;have k:=nu B;rcases w with⟨rfl,rfl⟩|⟨rfl,rfl⟩;.exact ij (op:=.Eq) c k ib (bq ib c PySem.F.entry_dict_eq (jK<|jK<|eV c<|ai<|jK<|fZ k iW<|lJ (av)<|jK<|ai<|jK<|ai<|jK<|Lo (bL f.B) h o p i j q<|ai<|kT _ U jB<|t _ N (.C _) (by cases ts m.A y e<;>rfl))<|PySem.F.args_dict_eq_2 ..) f.E
 .exact ij (op:=.NotEq) c k ia (bq ia c PySem.F.entry_dict_ne (jK<|jK<|eV c<|ai<|jK<|fZ k iW<|lJ (av)<|jK<|ai<|jK<|ai<|jK<|Lo (O:=O.in1) (bL f.B) h o p i j q<|ai<|kT _ U jB<|t _ N (.C _) (by cases ts m.A y e<;>rfl))<|PySem.F.args_dict_ne_2 ..) f.E
end
section
variable{a:jF}
def Lp:∀{a:List bB},La a=La e->(∀(d:Nat) b,a[d]?=V b->∃f,e[d]?=V f/\jZ v l f b)->kf v l e a:=by induction e with|nil=>exact λc _=>gK.a c|cons f e i=>exact λ{a} c g=>by cases a with|nil=>exact a' c (dc _).a|cons b a=>exact .C ((g 0 b U).a λj h=>aY h.1▸h.2)<|i (eO c) λd b c=>g (d+1) b c
def Lq:∀{b:List cj}{a:List bB},kf v l (b.map jA.C) a->acD a b:=by intro b;induction b with|nil=>exact λ{a} c=>by subst c;exact .nil|cons h b e=>exact λ{a} c=>c.D (p:=λa=>acD a _) λd a f g=>f.C (m:=λd=>acD (d::a) _) λi=>.cons _ _<|e g
def U9(a:acD f j):kf v l (j.map jA.C) f:=by induction a with|nil=>rfl|cons d b e c=>exact .C ⟨b,U⟩ c
def Lr(a:gs f ζ):kf v l (ζ.map jA.B) f:=by induction a with|nil=>rfl|cons d b e c=>exact .C ⟨b,U⟩ c
structure AY{c:Type}[DecidableEq c](d:iO lu.C ou c)(e:c->jA):Prop where
 B:∀a b,d.is a b=aj->∀v l,jZ v l (e a) b
 A:∀a b v l,jZ v l (e a) b->d.is a b=aj
 C:∀a,d.hash a=nd (e a)
set_option tactic.hygienic true in def U':AY (fG lu.C ou) jA.C:=⟨λa b c v l=>by
 cases b<;>first|(simp[fG,iN]at c;done)|skip
 rename_i e d;obtain rfl:e=a:=by simpa[fG,iN]using c
 exact⟨d,U⟩,λa b v l c=>c.C (m:=λb=>(fG lu.C ou).is a b=aj) λd=>by simp[fG,iN],λa=>U⟩
set_option tactic.hygienic true in def Va:AY (acx lu.C ou) jA.B:=⟨λa b c v l=>by
 cases b<;>first|(simp[acx,iv]at c;done)|skip
 rename_i e d;obtain rfl:e=a:=by simpa[acx,iv]using c
 exact⟨d,U⟩,λa b v l c=>c.B (m:=λb=>(acx lu.C ou).is a b=aj) λd=>by simp[acx,iv],λa=>U⟩
def Vb[DecidableEq s]{e:iO lu.C ou s}{h:s->jA}(i:AY e h):∀{c:Lt dM}{d:Lt s},mL v l y c->y.map (·.1)=d.map h->∃a:Lt<|s×bB,a.map (·.1)=d/\Pairs e c a/\∀b∈c,∃m,e.is m b.key=aj/\b.hash=e.hash m:=by induction y with|nil=>intro c d j b;subst j;obtain rfl:d=[]:=dV.a b.b;exact kT [] U .nil λD l=>a' l ac|cons n y o=>intro c d j b;refine ka λp=>mr (List.map_eq_cons_iff.a b.b) λf E q g r=>?_;subst q;refine wk j λF t G u H k I w=>?_;subst u;refine li (o w r.b) λa x z A=>?_;have g:h f=n.1:=g;apply p;rw[<-g]at k;exact kT ((f,t)::a) (aB _ x) (.cons (i.A _ _ _ _ k) U z) λB C=>(ao.a C).a (λa=>jx a<|jO f (i.A _ _ _ _ k)<|jL g (i.C f).b)<|A B
inductive pu(S:jC):jA->List jA->Prop where
 |B{a:jF}{e:List jA}:S a=V (.A e)->pu S (.A a) e
 |A{a:jF}{c:List (jA×jA)}:S a=V (.B c)->pu S (.A a) (c.map (·.1))
 |C{b:cj}:b.length<=1000->pu S (.C b) (sH b)
def Ls[DecidableEq s]{γ:iO lu.C ou s}{f:s->jA}(I:AY γ f)(φ:∀u w,f u=f w->u=w){δ:List s}{J:List bB->bG->Prop}(K:O.handled=Y)(y:ki q v S N.heap)(z:jZ v N.heap x n)(ε:pu S x e)(o:δ.map f=e) (i:∀L c,lR N c->kf v c.heap e L->J L c):ay kc O (collect n) J b N:=by
 cases ε with
 |B D=>apply y.B D z;intro M χ ψ _ _ g P E;refine rb<|adE M.1 kr g U U (λd j k=>?_) (by simp only[cU,P.A];exact E);have p:lR N {N with heap:=d}:=lP d N.toks U j k;exact i _ _ p<|P.H p.B|@A a Q D=>
  apply y.D D z;intro M ζ η _ g θ r E;refine li (Vb I θ o.b) λR F ι κ=>?_;have μ:Le (R.map (·.1)):=by rw[F];have r:(Q.map _).Pairwise (λt ν=>¬t=ν):=r;rw[<-o,cc]at r;exact r.imp λl i=>l<|aB f i
  have T:La R=La Q:=by have:=aB df F;have d:=aB df o;simp at this d;lia
  refine rb<|kdu_collect (kdl_dict<|tm<|y.M η) K (x8 _ (Lc ζ) g (lj U U U) U (λh ξ=>κ h (by simpa using ξ)) (by simpa using ι) μ) (by simp only[cU,T];exact E) λd W ο j m k=>?_;have p:lR N {N with heap:=d,toks:=W}:=lP d W U j k;refine i _ _ p<|Lp ?_ λG n h=>?_;.simp only[ee,m.1,T,ab]
  .refine te (m.2 G n<|bl.b.a h) λX t H π=>?_;refine jO (f X) ?_<|I.B X n π ..;simp only[<-o,<-F,bY,ax,H];rfl|@C t ρ=>
  apply z.C;intro σ;refine rb<|wpAny_collect_str K t σ (λc ο j Z α g m k=>i _ _ (lP c.heap c.toks (by obtain⟨u,w,β,ω,h⟩:=c;simp only at Z α g;subst Z;subst α;subst g;rfl) j k)<|Lp ?_ λG n h=>?_)<|aX ρ jB;.simp only[ee,m.1];unfold sH;simp only[ab,ee]
  .refine te (m.2 G n<|bl.b.a h) λβ τ H υ=>?_;subst υ;exact⟨.C ⟨#[β]⟩,by unfold sH;simp only[ax,bl,H];rfl,τ,U⟩
def D3(i:pN q v N g b)(j:ki q v S N.heap)(k:S a=Y)(l:kf v N.heap e (Lf Q))(m:La e<=16777216)(n:g (.A a)<|jE S a<|.A e):b (.ref (Lb N.heap.objs)) {N with heap:=ado (N.heap.push<|fO "list" (Lc f) 0) (Lb N.heap.objs) f Q}:=by
 obtain⟨p,o⟩:=sortedHeap_at<|bJ _ U;have c:Lb (N.heap.push<|fO "list" (Lc f) 0).objs=Lb N.heap.objs+1:=hk ..;refine i.A j k ⟨λr s d=>?_,?_⟩ o l m n;.have h:=bn d;exact jx (sortedHeap_old (bF h)<|kd c<|cH h)<|bU _ d
 .unfold ado;simp only[eZ,hk,hk,eZ,c];exact aX (bm _)<|aX (bm _)<|bm _
def pN.B(a:pN q v N g b)(c:lR N ξ):pN q v ξ g b:=λd S e f h i j k=>a d S e f h i j<|(kD.C c).A k
def Vc(p:pu m.A x<|j.map jA.C)(b:La j<64)(q:∀c:List cj,c.Perm j->sortedS c=aj->∃a,m.A a=Y/\g (.A a) (jE m.A a<|.A<|c.map jA.C)):nc ah (.builtin "sorted") [x] m g:=λG v N H I J r f s t=>by apply s.B;intro K u;refine eb ac6 acv acA (acC _)<|jK<|ai<|jK<|Ls U' (λL M d=>jA.C.inj d) (r.A) f u p U λw h i k=>?_;have l:=k.J.a<|ab ..;have e:=Lq k;refine jK<|hY ?_<|aX (bL<|aT l b) jB;have n:Ln (h.heap.push _) (Lb h.heap.objs)=V (fO "list" (Lc w) 0):=bJ _ U;exact jK<|bu<|bq ir (jO _ n U) iY (list_sort_treeK strKind_oneLt n e.keysOf (λO P Q d=>keyKind_strs<|jL d e) (aT l b) λR y z=>jO _ U<|ka λA=>li (sorted_out_str e y z) λB C o D=>jU (q B o D) λa E F=>A<|ai<|jO _ U<|D3 (t.B i) (f.H i.B) E (U9 C) (by rw[ab,o.length_eq];exact aX (bL b) jB) F)<|iu _
def Vd(l:pu m.A x<|ζ.map jA.B)(b:La ζ<64)(n:∀c:List Int,c.Perm ζ->c.Pairwise (· <=·)->∃a,m.A a=Y/\g (.A a) (jE m.A a<|.A<|c.map jA.B)):nc ah (.builtin "sorted") [x] m g:=λC v N D E F o d p q=>by apply p.B;intro G r;refine eb ac6 acv acA (acC _)<|jK<|ai<|jK<|Ls Va (λH I s=>jA.B.inj s) (o.A) d r l U λt e f h=>?_;have i:=h.J.a<|ab ..;refine jK<|hY ?_<|aX (bL<|aT i b) jB;have j:Ln (e.heap.push _) (Lb e.heap.objs)=V (fO "list" (Lc t) 0):=bJ _ U;exact jK<|bu<|bq ir (jO _ j U) iY (list_sort_tree j (I2 h) (aT i b) λJ u w k y=>jO _ U<|ka λz=>jU (n u k y) λa A B=>z<|ai<|jO _ U<|D3 (q.B f) (d.H f.B) A (Lr w) (by rw[ab,k.length_eq];exact aX (bL b) jB) B)<|iu _
end
noncomputable def Ve:hP:={cls:=.none,data:=.freed}
def yG(a:dX)(b:bk->Bool):dX:={a with objs:=a.objs.mapIdx λc d=>if b c then d else Ve}
def D4(c:dX)(d:bk->Bool)(a:bk):Ln (yG c d) a=if d a then Ln c a else Y:=by unfold yG Heap.get?;refine jx (Array.getElem?_mapIdx) ?_;cases e:d a<;>cases c.objs[a]?<;>first|rfl|(rename_i o;show(match some (if d a=true then o else Ve)with|_=>_)=_;rw[e];rfl)
def Lu(a:dX)(b:bk->Bool):Lb (yG a b).objs=Lb a.objs:=by unfold yG;simp
def jT.D(a:jT)(c:dX)(d:Lt bk):jT:=⟨a.B,yG c λb=>(Lh (Ln a.A b))||d.contains b,a.E⟩
section
variable{a:Lt bk}
def D5(b:Lh (Ln q.A c)=aj\/c∈a)(d:Ln l c=V z):Ln (q.D l a).A c=V z:=(D4 ..).a<|(aC (by rcases b with b|b<;>simp[b])).a d
def D6(b:Ln q.A c=Y)(d:c∉a):Ln (q.D l a).A c=Y:=(D4 ..).a<|aA (by simp[b,d])
def Lv(b:lL q.A l):lL q.A (q.D l a).A:=⟨λu z c=>D5 (.inl<|jx c U)<|b.A u z c,aX b.B<|aw (Lu ..).b⟩
def ki.o_(d:ki q v S l)(h:∀u∈a,¬mA v u/\u∉q.B):ki (q.D l a) v S l:=(po (d.L.D<|Lv d.A) ⟨λu z b=>(by
 have b:=(D4 ..).b.a b;split at b;.exact b
 .exact kh b),aw<|Lu ..⟩ d.E d.I d.J (λf g b=>⟨D6 (d.G f g b).1 λe=>(h _ e).1<|ms f g b kr,D6 (d.G f g b).2 λe=>(h _ e).1<|ms f g b<|.inr U⟩) d.K (λj i=>let⟨c,u,k⟩:=d.C j i;(lj c u<|D6 k λe=>(h _ e).2 i)))
def ki.p_{e:ke}{f:jC}(g:ki q v S l)(b:ki (q.D l a) e f δ):ki q e f δ:=have d:=Lv g.A;(po g.L (d.D b.A) b.E b.I b.J (λh i j=>⟨d.E (b.G h i j).1,d.E (b.G h i j).2⟩) b.K (λk m=>let⟨c,u,n⟩:=b.C k m;(lj c u<|d.E n)))
def mB.M(b:mB u q d O):mB u (q.D l a) d O:=mS b.C b.D b.H b.F b.G
end
noncomputable def AZ:Lt bB->hB bB|a::b=>call a b|[]=>er .none
noncomputable def r7(b:dX):List (cj×bk)->List bB->Prop|[],a=>a=[]|(_,e)::f,a=>∃c d,a=c::d/\b.IsCell e (V c)/\r7 b f d
def r7.A:∀{e:List bB},(∀j d c,(j,d)∈a->Ln l d=V c->Ln δ d=V c)->r7 l a e->r7 δ a e:=by induction a with|nil=>exact λ_ f=>f|cons g a k=>exact λh b=>b.b λp b=>b.b λf b=>⟨b.1,b.2.1.b λc i=>⟨h g.1 g.2 c (.head _) i.1,i.2⟩,k (λm n c o=>h m n c<|.tail _ o) b.2.2⟩
def r7.B:∀{f:List bB},r7 l a f->(w,c)∈a->∃d,l.IsCell c<|V d:=by induction a with|nil=>exact λ_ e=>a' e ac|cons i a g=>exact λb e=>b.a λd b=>b.a λj b=>(ao.a e).a (λh=>⟨d,by cases h;exact b.2.1⟩)<|g b.2.2
theorem Vf:∀{e:List bB}{c:List jA},r7 l a e->kf v l c e->Lj w ((a.map (·.1)).zip c)=V x->∃f d,Lj w a=V f/\l.IsCell f (V d)/\jZ v l x d:=by
 revert l v w x a;apply uc;generalize mf.1.1.1=a,mf.1.1.2=l,mf.1.2=v,mf.2.1=w,mf.2.2=x;induction a with
 |nil=>intro _ _ _ _ b;exact kh b|cons g a i=>
  intro _ c j k b;cases c with
  |nil=>exact kh b|cons t c=>
   refine ka λm=>mr j λd u n o p=>mr k λy z q r s=>?_;obtain⟨rfl,rfl⟩:=an<|n.b.a q;apply m;rw[bo,acn,bx]at b;refine jx bx ?_;cases h:w==g.1;.rw[h]at b;exact i p s b
   .rw[h]at b;obtain rfl:=aY b;exact lP g.2 _ U o r
def Vg{c a b:s}(d:u=ah)(e:a=b):(if u=aj then c else a)=b:=by subst d;exact e
theorem Vh{a:Pos}:ac9 {k with params:=⟨[],[⟨w,Y,a⟩],Y,[],[],Y,[]⟩,defaults:=.none,kwdefaults:=.none} ⟨[n],[]⟩=er [(w,n)]:=by
 revert k w a n;apply qu;generalize lr.1.1=k,lr.1.2=n,lr.2.1=w,lr.2.2=a;exact have d:eI w [(w,n)]=V n:=by simp only[eI,aI]
  Vg (u:=!(aeb (λb=>(eI b [(w,n)]).isNone) [w]).isEmpty) (by rw[aeb,d];rfl) (aB (er (f:=hB)) (show f' (λb=>(eI b [(w,n)]).map _) [w]=[(w,n)] by rw[f',d];rfl))
def Vi{a}(b:k.params=a):{k with params:=a}=k:=jL b U
def Vj{a}(b:k.defaults=a):{k with defaults:=a}=k:=jL b U
def Vk{a}(b:k.kwdefaults=a):{k with kwdefaults:=a}=k:=jL b U
def Vl{a:Pos}(b:k.params=⟨[],[⟨w,Y,a⟩],Y,[],[],Y,[]⟩)(c:k.defaults=.none)(d:k.kwdefaults=.none):ac9 k ⟨[n],[]⟩=er [(w,n)]:=jL (Vi b)<|jL (Vj c)<|jx (Vk d) Vh
section
variable{b:jF}
def ki.n_(c:ki q v S l)(d:S b=V (.F z f e))(g:jZ v l (.A b) n)(h:∀a,v b=V a->HD v l z f e a->κ (.ref a.1)):κ n:=c.c_ d g h
def Lw(S:jC)(b:jF):=∃a f e,S b=V (.F a f e)
theorem Vm(J:m.E d=V (.A b))(l:oL u X m λe q=>Lw q b/\lm u AZ (.A b::e) (m.C q) g):kn u (.H (.A d) X) m g:=by
 revert m b g u d X;apply qv;generalize kE.1.1.1=d,kE.1.1.2=g,kE.1.2=m,kE.2.1.1=u,kE.2.1.2=X,kE.2.2=b;intros;exact λa z v N r c K L M=>K (λz=>ay _ _ (dy z _) r c N) λφ p s A t O R T=>by
  refine jK<|ps (t:=λh S=>h=.A b/\S=m.A) J lp a _ v N _ c R L λh q χ W B i Z α β=>?_;obtain⟨rfl,rfl⟩:=i;apply β.H;intro j γ;have δ:((gp A<|fN s a.A).any (·.1)||([]:List<|Option cj×hB bB).any (·.1.isNone))=ah:=jx (Du t) U;have w:ay kc a.B _ (λf o=>(∃k n,Ln o.heap j.1=V k/\k.data=.func n)/\ay kc a.B _ r c o) c B:=l a s A W B _ c T t Z λe ψ f C o p x D ε=>by refine ka λy=>?_;obtain⟨⟨ζ,ω,Γ,η⟩,θ⟩:=p;have E:jZ C o.heap (.A b)<|.ref j.1:=jO j (D.B.A _ _ γ) U;refine y<|x.A.n_ (κ:=λh=>h=.ref j.1->_) η E (λΔ O ι i=>ka λy=>?_) U;obtain⟨_,κ,⟨n,μ⟩,_⟩:=ι;exact y<|⟨ms ζ n (jL (dG i) κ) μ,θ a.B C o (.ref j.1::f) r c a.E x.A (.C E ε) λν ξ h ο π p ρ F=>M ν ξ h ο π p (x.C ρ F)<|(α.A D).A F⟩
  intro G H I;refine callWith_of (P:=λl=>∃k n,Ln l j.1=V k/\k.data=.func n) δ (λΘ σ=>pK σ λk n τ=>τ.elim λi υ=>jO .frame kr<|(by apply(Looks.ld i).andThen;exact jx υ .now)) ?_ G H I;cases s with|nil=>exact aeX<|w G H I|cons i Ξ=>rw[Aw t]at w⊢;exact aeJ w
def pS(e:dX)(a:gG)(i:cL)(j:Nat)(g:cj)(b:List<|cj×bk)(f:List bB):=a.body=.expr i/\r5 a.scope/\(a.scope.isGenerator=ah/\a.scope.isCoroutine=ah)/\(∃k,a.params=⟨[],[⟨g,Y,k⟩],Y,[],[],Y,[]⟩)/\a.scope.names[j]?=V (g,.local)/\(a.defaults=.none/\a.kwdefaults=.none)/\a.globals=cu/\a.builtins=gn/\a.closure=b/\r7 e b f/\(∀c,(c,dI)∈a.scope.names->∃d,(c,d)∈b)/\(∀c h d,Lj c b=V d->Lj h b=V d->c=h)/\e.CodeRec a.code a.qualname
section
variable{c:cL}(l:pS δ k c d w a σ)
def pS.F:=l.1
def pS.G:=l.2.1
def pS.A:=l.2.2.1
def pS.H:=l.2.2.2.1
def pS.B:=l.2.2.2.2.1
def pS.C:=l.2.2.2.2.2.1
def pS.I:=l.2.2.2.2.2.2.1
def pS.J:=l.2.2.2.2.2.2.2.1
def pS.D:=l.2.2.2.2.2.2.2.2.1
def pS.E:=l.2.2.2.2.2.2.2.2.2.1
def pS.K:=l.2.2.2.2.2.2.2.2.2.2.1
def pS.L:=l.2.2.2.2.2.2.2.2.2.2.2.1
def pS.M:=l.2.2.2.2.2.2.2.2.2.2.2.2
end
def Lx(d:List<|cj×eR)(f:List<|cj×bk)(e:List jA)(g:jP):=∀a b,g a=V b->∃c,d[a]?=V (c,.free)/\Lj c ((f.map (·.1)).zip e)=V b
def Vn{O:cL}{ζ:Nat}(υ:m.D=ζ+1)(φ:m.A b=V (.F z f e))(χ:z.data=.func k)(i:pS m.B.A k O d w a f)(ψ:Lx k.scope.names a e t) (ω:kV p k.scope.names O) (l:∀P,kn ah p ⟨m.B.C P k.code,ζ,t.A d x,m.A⟩ g):lm ah AZ [.A b,x] m g:=by
 intro Γ v N c9 d0 d1 H o Δ Θ;replace H:=υ▸H;apply Δ.E;intro d2 Q Ξ Φ;apply o.n_ φ Ξ;intro d3 η Ψ;obtain⟨_,Ω,_,a0⟩:=Ψ;have q:=i.G;obtain⟨d4,a1⟩:=i.H;have a2:N.heap.CodeRec k.code k.qualname:=by exact CQ i.M λp a3 a4 a5 a6 a7 a8 a9=>z9 p a3 a4 a5 a6 (o.A.A _ _ a7) a8 a9
 refine wpAny_call<|kla_callFunE (aZ (dn H.C) jB) Ω χ i.A.2 i.A.1 i.F a2 ?_;refine jx (Vl a1 i.C.1 i.C.2) ?_;have θ:=tk i.B q.A;refine ai<|acZ q.B (λc b0=>jx (ak.a b0) θ) (λR S I=>⟨qg.B.keeps (o.F.D ⟨λT r j=>I.extBut T r (bF<|bn j)<|bU _ j,by rw[I.1,dr];exact bm _⟩).A,?_⟩) q.C;have y:lL N.heap R:=⟨λT r j=>I.extBut T r (bF<|bn j)<|bU _ j,by rw[I.1,dr];exact bm _⟩;have W:=cR o.A.B;have ι:=λr=>dR _<|o.e_ r;have X:∀{c p},Lj c k.closure=V p->Lj c a=V p:=λj=>i.D▸j;have κ:∀{c p},Lj c a=V p->Lj c k.closure=V p:=λj=>i.D.b▸j;have Z:∀{c d},Lj c k.scope.names=V d->_∈k.scope.names:=λj=>pt j;generalize u:newEnv k.scope (Lb N.heap.objs) k.globals k.closure _ _ k.code Y k.builtins=n;have B:n.kindOf=λc=>Lj c k.scope.names:=jL u U;have C:n.locals=Lb N.heap.objs:=jL u U;have D:n.cells=k.closure:=jL u U;have μ:n.frame=V (Lb N.heap.objs):=jL u U;have J:n.scope=k.scope:=jL u U;have b1:ml (m.B.C (Lb N.heap.objs) k.code) v R n<|t.A d x:=by
  refine po ⟨_,jx C S⟩ (jx C ι) (jx C W) (λc E j=>?_) (λc h=>?_) (λc F E α A=>i.L c F E (X<|D▸α)<|X<|D▸A) (jO _ μ U) λK c P b2 β L=>?_;.
   refine ka λγ=>?_;obtain⟨ν,δ⟩:=i.E.B<|pt<|X<|D▸j;refine γ<|mz ⟨_,δ.b λr M=>⟨y.A _ _<|o.A.A _ _ M.1,M.2⟩⟩ (λr=>?_) (λh=>a' U<|q.B _<|Z (show Lj c k.scope.names=V .cell by rw[B]at h;exact h)) λh=>?_;.
    obtain⟨b3,G,_⟩:=δ;obtain⟨ξ,ο,A,h|h⟩:=r;.exact mh (o.G ξ ο A).1<|h▸G
    .exact mh (o.G ξ ο A).2<|h▸G
   .obtain⟨b3,G,_⟩:=δ;simp only[h,C,W]at G;exact kh G
  .rw[B]at h;obtain⟨E,b4⟩:=i.K c<|h.a (λh=>a' U<|q.B _<|Z h) Z;obtain⟨b5,b6⟩:=yA b4;exact⟨b5,jx D<|κ b6⟩
  .replace β:=J▸β;have ε:(of k.scope.names)[K]?=V (c,P):=β;unfold of at ε;rw[ax,bO]at ε;obtain⟨⟨F,π⟩,ρ,j⟩:=ε;obtain rfl:F=c:=aB ca j;by_cases σ:K=d;.
    subst σ;rw[jP.C]at L;obtain rfl:=aY L;obtain⟨rfl,rfl⟩:F=w/\π=.local:=by cases ρ.b.a i.B;exact lp
    exact jO Q (.inl ⟨jx B θ,_,jx C S,by simp[eI]⟩)<|Φ.E y
   .rw[jP.B _ _ σ]at L;refine ka λγ=>jU (ψ K b2 L) λM τ b7=>?_;obtain⟨rfl,rfl⟩:F=M/\π=.free:=by cases ρ.b.a τ;exact lp
    exact mr (Vf (i.E.A λc p r d5 j=>y.A _ _<|o.A.A _ _ j) (a0.H y) b7) λE ν α A b8=>γ<|jO ν (.inr ⟨.inr<|jx B<|tk τ q.A,E,jx D<|κ α,A⟩) b8
 have b9:ow n k.scope.names:=by refine lY (jx J q.C) (jx J U) (by unfold of;rw[bY];exact q.A) (λc d η h=>?_) ((show n.globals=k.globals from u▸U).a i.I)<|(show n.builtins=k.builtins from u▸U).a i.J;obtain⟨K,c0⟩:=cF.a η;refine jx B ?_;have:=tk c0 q.A;exact h.c (λh=>this.a<|aB V h) λh=>this.a<|aB V h
 exact kla_codeExpr<|l (Lb N.heap.objs) ⟨k.scope.names,n,Γ.deeper n,b9,H.K (jx J q.C) μ⟩ O v {N with heap:=R,toks:=N.toks+[(w,Q)].length} _ _ ω ⟨(o.H y).m_ ⟨_,S⟩ ι W,b1⟩ λc1 c2 c3 c4 c5 h c6 c7 c8=>Θ c1 c2 c3 c4 c5 h c6.A.i_ (kD.A (.C<|lR.F (g:=N) (N.toks+[(w,Q)].length) y) c7) c8
end
section
def ki.q_{g:jF}{p:Array bB}(b:ki q v S l)(w:S g=V (.D c Q))(o:ex c l δ)(x:Lb l.objs<=Lb δ.objs)(y:Ln δ c=V (z' p)):ki q v (jE S g<|.D c p) δ/\lC lM v l v δ:=by
 refine ka λr=>li (b.E g _ w) λK m E F=>?_;subst E;have i:=λe j f a=>o e j f a;have s:lC lM v l v δ:=⟨λh h a=>a,λe j a G h=>⟨j,i e j ((λa f d=>f<|ms g _ m<|.inl d) a G) a,.A _⟩,λh h f=>f,λe L f a=>i e _ (λd=>by simp only[d,F]at a;cases a) a,x,λe Q a=>by
  by_cases d:e=c;.exact⟨p,jx d y⟩
  .exact⟨Q,i e _ d a⟩⟩;refine r<|⟨po b.L ⟨λe j a=>i e j ((λa d=>mh (b.G g _ m).1<|d▸a) a)<|b.A.A _ _ a,aX b.A.B x⟩ (λk H a=>?_) (λk n a=>?_) b.J b.G ?_<|Ar b.C s λh h=>id,s⟩;.exact CS a (λI J=>jO _ (jx I m)<|jL J ⟨U,y⟩) λf a=>ka λr=>jU (b.E k H a) λn t z=>mr z.A λM N A B _=>r<|jO n t<|z.B s ((i _ _ (λu=>f<|b.J k g n _ t m<|.inl u) A).a A.b)<|(i _ _ (λu=>f<|b.J k g n _ t m<|kC<|.inl u) B).a B.b
 .by_cases d:k=g;.exact⟨_,jx d<|jS ..⟩
  .exact(b.I k n a).b λh l=>(jQ S _ d).a l
 .exact b.K.b λO C D o=>(jQ S _ λd=>mh (C D o)<|d.b▸w).a<|C D o
def Vo{j:cj->jA->Prop}:(∀c k,(c,k)∈a->∃b d,l.IsCell k (V d)/\jZ v l b d/\j c b)->∃f e,r7 l a e/\kf v l f e/\∀c,c∈a.map (·.1)->∃b,Lj c ((a.map (·.1)).zip f)=V b/\j c b:=lO (λn=>lP [] [] U U λn l=>a' l ac) (λh a o=>by
 intro m;refine ka λp=>mr (m h.1 h.2<|.head _) λb d q r s=>mr (o λg t u=>m g t<|.tail _ u) λf e w x y=>p<|lP (b::f) (d::e) (lP d e U q w) (.C r x) λg z=>?_;refine jx bo<|jx acn<|jx bx ?_;cases i:g==h.1;.exact y g ((ao.a z).b λA=>by rw[A,aI]at i;exact ot i)
 .exact jO b U<|jx (aE.a i) s) a
def A2(l:(w,c)∈oO Z ε):(w,dI)∈ε/\Lj w Z.cells=V c:=by
 obtain⟨⟨g,d⟩,e,a⟩:=cV.a<|he.a l;unfold wM at a;cases b:d==dI;.rw[b]at a;exact kh a
 .rw[b]at a;refine jU (bO.a<|a) λh f a=>?_;cases a;cases aE.a b;exact⟨e,f⟩
def o5(Z:gu)(n:hP)(e:Lt bB)(o:Lt jA)(i:Lt<|Nat×Nat)(p:jP)(r:Nat)(d:jR)(v:ke)(l:dX)(q:jT)(b:Lt<|cj×bk)(c:bk):=(∃a j f,n.data=.func a/\(∀g,r7 g b e->g.CodeRec a.code a.qualname->pS g a j r f b e)/\Lx a.scope.names b o (oh i p)/\kV d a.scope.names j/\a.code=.ref c/\∃k m s,Ln l c=V k/\k.data=.fields m/\m[1]?=V (.str a.qualname s))/\r7 l b e/\(∀h d,(h,d)∈b->Lj h Z.cells=V d/\∃f∈i,(oY Z.scope)[f.2]?=V (h,ah))/\¬mA v c/\c∉q.B/\¬oM Z c
def o5.E(b:o5 Z z f e i t d p v l q a c):=b.1
def o5.F(b:o5 Z z f e i t d p v l q a c):=b.2.1
def o5.B(b:o5 Z z f e i t d p v l q a c):=b.2.2.1
def o5.C(b:o5 Z z f e i t d p v l q a c):=b.2.2.2.1
def o5.D(b:o5 Z z f e i t d p v l q a c):=b.2.2.2.2.1
def o5.G(b:o5 Z z f e i t d p v l q a c):=b.2.2.2.2.2
def Ly{e:wD ah m.B m.D}{α γ:Nat}{j:cL}{S:bk}{J T:jF}(Ξ:kV (.i_ d i α γ p) e.D j)(f:kS e.A m v N)(Φ:m.B.E=.ref c)(Ψ:hO nl c S)(Ω:∃K,nl.Ns cu K/\nl.BuiltinsAt K S)(ε:m.A J=V (.D S Q))(a0:TriplesOk (Lf Q))(a1:∀L:Pos,L.line=α->L.col=γ->codeAmong L (Lf Q)=Y) (a2:∀μ∈i,∃y,m.E μ.2=V y) (ν:m.A T=Y) (z:∀W A a3 k M O X P,o5 e.A k M O i m.E d p X P.heap m.B a3 A->kS e.A (m.C<|jE (jE m.A J<|.D S<|Q++#[iM α,iM γ,.ref A]) T<|.F k M O) X P->kD lM v N X P->jZ X P.heap (.A T) W->b W P):ay kc e.B (dy j e.A) b β N:=by
 apply Ξ;intro a ζ g h L n B C a4;have ξ:=IF n.B;have a5:h.isGenerator=ah/\h.isCoroutine=ah:=by have:=n.B;unfold vp at this;simp only[az,eN]at this;exact⟨this.1.1.1.2,this.1.1.2⟩
 have ο:∀a,(a,dI)∈h.names->e.A.kindOf a=V .cell\/e.A.kindOf a=V .free:=λa q=>e.C.C a .cell (n.D _ q U) kr;have η:=λa q=>f.B.D a<|ο a q;refine ka λr=>jU Ω λK π a6=>li (f.A.E J _ ε) λμ ρ a7 a8=>?_;subst a7;obtain⟨O,M,a9,b0,b1⟩:=Vo (a:=oO e.A h.names) (j:=λa y=>∀t,h.names[t]?=V _->∃u,Lj t i=V u/\m.E u=V y) λa p w=>by have θ:=A2 w;obtain⟨t,D⟩:=cF.a θ.1;obtain⟨⟨u,s⟩,_⟩:=AQ n.A D;refine qc (AP n.A s) λE σ x ι _ _=>?_;obtain rfl:a=E:=aB ca<|aY<|D.b.a x;obtain⟨y,F⟩:=a2 _<|pt s;refine jU (f.B.G u a ah y (jx e.C.A ι) F) λW H b2=>?_;obtain⟨κ,B,C⟩:∃p,Lj a e.A.cells=V p/\N.heap.IsCell p _:=H.a (λH=>(ο a θ.1).a (λg=>a' (H.1.b.a g) jB) λg=>a' (H.1.b.a g) jB) λH=>H.2;obtain rfl:p=κ:=aY<|θ.2.b.a B;refine lP y W C b2 λb3 τ=>?_;obtain rfl:b3=t:=(dT (kd (ab ..)<|(ag.a τ).1) ξ.A).a<|kd (ax)<|jx (ax)<|jx D<|jx τ U;exact jO u s F
 refine r<|kla_eval U<|kla_makeFunction (clos:=oO e.A h.names) (IJ η) e.C.D (π.keeps f.A.F.A) (e.H.a Φ) (Ψ.keeps f.A.F.A) a8 a0 (a1 L B C) (λg=>π.a λI j=>j.a λd4 j=>j.a λd5 j=>mh (f.A.L.E (f.A.G J _ ρ).1)<|g▸j.1) (a6.keeps f.A.F.A) λA υ δ φ q Z χ b4 b5=>?_;obtain⟨b6,ψ⟩:=f.A.q_ ε q (bL<|aZ Z χ) b5;generalize ω:kla_obj "<lambda>" (e.A.qual++"<lambda>") ⟨[],[⟨a,Y,ζ⟩],Y,[],[],Y,[]⟩ g h (oO e.A h.names) ((K "__name__").getD .none) A υ=k;have Γ:k.data=.func (kla_fn "<lambda>" (e.A.qual++"<lambda>") ⟨[],[⟨a,Y,ζ⟩],Y,[],[],Y,[]⟩ g h (oO e.A h.names) ((K "__name__").getD .none) (.ref A) υ):=jL ω U;have b7:k.isFreed=ah:=jL ω U;refine ka λr=>?_;obtain⟨Δ,b8⟩:=b6.a_ (j:=T) (o:=.F k M O) (a:=(Lb δ.objs,Lb δ.objs)) ((jQ _ _ λz=>mh ν<|z▸ε).a ν) (lL.C δ k) (al _) (al _) λβ=>mz U (bJ _ b7) ⟨_,Γ⟩<|(b0.G ψ).G β;have Θ:kD lM v N _ {N with heap:=δ.push k,toks:=φ}:=⟨ψ.H b8,_,φ,U⟩;refine CQ b4 λκ b9 c0 c1 c2 c3 c4 c5=>?_;obtain rfl:A=κ:=dG c2;apply r;rw[B,C]at Δ;refine z _ A (oO e.A h.names) k M O _ _ (lY ⟨_,g,a,Γ,λd6 R c6=>⟨U,ξ,a5,⟨ζ,U⟩,n.C,lp,U,U,U,R,λa q=>?_,λa c7 p B C=>f.B.E a c7 p (us B).2 (us C).2,c6⟩,λt y F=>?_,a4,U,b9,c0,c1,bU _ c3,c4,c5⟩ (a9.A λa p I w g=>?_) (λa p w=>?_) (λI=>?_) (λw=>cb.b Z<|(λc8 c9=>(f.A.C c8 c9).1.a λd7 j=>j.lt) _ w)<|wG f.B Z) ⟨Δ,f.B.C Θ.B⟩ Θ<|jO _ (rv ..) U;.exact(η a q).a λp R=>⟨p,pt<|AR q R⟩
 .refine ka λr=>jU (bD.a F) λu s F=>r<|ka λr=>te (AP n.A s) λE σ x _=>?_;obtain⟨p,R⟩:=η E<|aa x;refine jU (b1 E<|am.b<|jO _ (pt<|AR (aa x) R) U) λd8 d0 d1=>jU (d1 t x) λd9 d2 d3=>?_;obtain rfl:=aY<|s.b.a d2;exact r<|jO E x (by simp only[d0,<-d3,F])
 .exact bU _<|q p I (λz=>(f.B.A a p (A2 w).2).2.1<|ms J _ ρ<|.inl z) g
 .refine(cF.a (A2 w).1).a λt D=>ka λr=>?_;obtain⟨⟨u,s⟩,_⟩:=AQ n.A D;refine mr (AP n.A s) λE σ x ι _=>?_;obtain rfl:=aB ca<|aY<|D.b.a x;exact r<|⟨(A2 w).2,(t,u),pt s,jx e.C.A ι⟩
 .exact(DS I).a (λz=>bF χ z) λI=>cb.b Z<|f.A.e_ I
end
section
variable{g:ke}
def uy(e:dX)(f:hP)(g:List bB)(h:List jA)(i:jP)(j:Nat)(k:jR):=∀{m:ko}{a:Nat}{b:jF}{c:jA}{d:jA->jC->Prop},m.B.A=e->m.D=a+1->m.A b=V (.F f g h)->(∀l n,kn ah k ⟨m.B.C l n,a,i.A j c,m.A⟩ d)->lm ah AZ [.A b,c] m d
def lC.I(b:lC ν v l g δ)(d:Ln l c=V z)(e:¬mA v c)(h:¬ν c)(i:DD z):Ln δ c=V z/\¬mA g c:=⟨(b.D c z d e h).a λm f=>f.2.a (λa=>jL a f.1) λa=>a.1.a λj a=>a.a λk a=>(i j k a).elim,b.B c (bn d) e⟩
def yH(Z:gu)(b:cj)(a:bk):=a=Z.locals\/Lj b Z.cells=V a
def Lz{a:Option bB}(b:l.IsCell c a)(d:Ln l c=V z):DD z:=λh i e=>jU b λj f g=>nomatch g.b.a<|(aB iP<|aY<|f.b.a d).a e
def o5.A{n:Nat}(b:o5 Z z f e i t d p v N.heap q a c)(o:kS Z m v N)(B:ow Z π)(C:(oY Z.scope)[n]?=V (w,ah))(D:∀l∈i,l.2≠n)(r:∀j,ν j->yH Z w j)(s:lC ν v N.heap g δ):o5 Z z f e i t d p g δ q a c:=by refine ka λE=>?_;obtain⟨F,G,l,H,I,J,K,L,M,O,P,Q,u,R⟩:=b.E;have x:=s.I Q b.C (λh=>b.G<|(show∀j,yH Z w j->oM Z j from λj h=>h.c id λh=>⟨w,h⟩) _<|r _ h)<|(λζ η k=>by cases u.b.a k);refine E<|lY ⟨F,G,l,H,I,J,K,L,M,O,P,x.1,u,R⟩ (b.F.A λh p θ S y=>?_) b.B x.2 b.D b.G;obtain⟨A,k,T,W⟩:=b.B h p S;obtain⟨⟨ι,X⟩,α,_,β⟩:=o.B.A h p A;exact(s.I y α (λγ=>(r _ γ).a (λk=>β k) λε=>D k T<|DA B C<|jL (o.B.E _ _ _ A ε) W)<|Lz X y).1
def o5.H{k:jT}{g:List bk}(j:o5 Z z f e i t d p v l q a c)(n:c∈g)(o:∀h b,(h,b)∈a->b∈g):uy (k.D l g).A z f e (oh i t) d p:=by obtain⟨r,N,O,s,u,w,x,y,A,B,C,D,E,F⟩:=j.E;intro m P Q R S G H I J;refine Vn H I s (jx G<|u _ (j.F.A λh b T K L=>D5 (.inr<|o h b K) L)<|z9 c A B C y (D5 (.inr n) D) E F) w x λM=>J M r.code
def Vp(a:kS Z m v N)(d:Lj w Z.cells=V c):¬mA v c/\c∉m.B.B:=⟨(a.B.A w c d).2.1,λg=>(a.B.A w c d).1.a λh e=>jU e λh f k=>(a.A.j_ g f).1.a λi b=>b.a λj b=>Lz e f i j b⟩
def LA(f:kS Z m v N)(l:∀b c,(b,c)∈a->Lj b Z.cells=V c):∀d∈a.map (·.2),¬mA v d/\d∉m.B.B:=λg h=>(am.a h).a λg e=>jL e.2<|Vp f<|l _ _ e.1
def Vq{e:cL}(l:kn ah p m λi j=>i=x/\j=S)(a:n7 ah m.B m.D)(k:kV p a.D e)(f:kS a.A m v N)(n:∀d g c,kS a.A (m.C S) g c->kD lM v N g c->jZ g c.heap x d->b d c):ay kc a.B (dy e a.A) b β N:=l a e v N b β k f λo o d g c h f q r=>n d g c (jL h.2 f) q<|jL h.1 r
theorem Vr{j π E ρ τ F T G W:Nat}{H:List<|Nat×Nat}{υ:jR}{Z h q:jF}{D:bk}(φ:m.B.E=.ref c) (χ:hO nl c D) (ψ:∃I,nl.Ns cu I/\nl.BuiltinsAt I D) (α:m.A Z=V (.D D #[])) (ω:(F.beq T&&G.beq W)=ah) (c0:∀e∈i,∃B,m.E e.2=V B) (c1:∀e∈H,∃B,(m.E.A d<|.A h) e.2=V B) (Γ:m.A h=Y) (Δ:m.A q=Y) (c2:q≠h) (J:∀e∈i,e.2≠d/\e.2≠j) (Θ:∀e∈H,e.2≠j) (c3:lu.A w=V n) (c4:qd kH n=aj) (c5:d≠j) (c6:m.E E=V x) (Ξ:E≠d/\E≠j) (l:∀(β:jT) γ δ Φ Ψ Ω a0 a1 a2,uy β.A Φ Ω a1 (oh i m.E) ρ p->uy β.A Ψ a0 a2 (oh H<|m.E.A d<|.A h) τ υ->nc ah n [x,.A q,.A h] ⟨β,m.D,(m.E.A d<|.A h).A j<|.A q,jE (jE (jE (jE m.A Z<|.D D γ) h<|.F Φ Ω a1) Z<|.D D δ) q<|.F Ψ a0 a2⟩ λB ε=>mM ah o (m.F (((m.E.A d<|.A h).A j<|.A q).A π B) ε) η):mM ah (.A (.A d) (.i_ ρ i F G p)::.A (.A j) (.i_ τ H T W υ)::.A (.A π) (.H (.G w) [.A E,.A j,.A d])::o) m η:=by
 intro a s v N c7 k y c8 c9;apply y;intro j3 j4 d0 y;apply y;intro j5 j6 d1 y;apply y;intro j7 d2 d3 y;refine ei<|d0 (λs=>ay _ _ (et s _) _ k N) λj8 d4 d5 d6 a3=>d6 (λt=>ay _ _ (et (.Assign [t] d4 d5) _) _ k N) λa4 a5 d7=>?_;have K:=a.C.A▸rt d7;refine fM (Ly a3 c8 φ χ ψ α aH (λb b b=>U) c0 Γ λj9 d8 k0 d9 e0 e1 e2 k1 e3 ζ e4 e5=>sF (Q:=yH a.A a4) a.C ζ.A ζ.B K e5 (a.F a4) (λb=>.inl U) (λb b r=>.inr r) λθ e6 e7 a6=>?_)<|r1 U a3 ..;have a7:kS a.A (m.F (m.E.A d<|.A h) _) e2 θ:=⟨e6,e7⟩;refine ei<|d1 (λs=>ay _ _ (et s _) _ k θ) λk2 e8 e9 f0 a8=>f0 (λt=>ay _ _ (et (.Assign [t] e8 e9) _) _ k θ) λa9 b0 f1=>?_;have L:=a.C.A▸rt f1;refine fM (Ly (m:=m.F (m.E.A d<|.A h) _) a8 a7 φ χ ψ ((jQ _ _ λu=>mh Γ<|u▸α).a<|jS ..) aH (λb1 f2 f3=>?_) c1 ((jQ _ _ c2).a<|(jQ _ _ λu=>mh Δ<|u▸α).a Δ) λk3 k4 k5 f4 f5 f6 f7 k6 f8 M b2 f9=>?_)<|r1 U a8 ..;.show(if(F:Int)==b1.line&&(G:Int)==b1.col then V<|dm d8 else Y)=Y;refine jx f2<|jx f3 ?_;refine aA λu=>?_;have a5:F=T:=dH<|eq_of_beq ((az ..).mp u).1;have b0:G=W:=dH<|eq_of_beq ((az ..).mp u).2;simp only[a5,b0,dp,dp]at ω;exact ot ω
 refine sF (Q:=yH a.A a9) a.C M.A M.B L f9 (a.F a9) (λb=>.inl U) (λb b r=>.inr r) λO g0 g1 ι=>?_;have κ:kS a.A (m.F ((m.E.A d<|.A h).A j<|.A q) _) f7 O:=⟨g0,g1⟩;refine ei<|d3 (λs=>ay _ _ (et s _) _ k O) λk7 g2 g3 g4 b3=>g4 (λt=>ay _ _ (et (.Assign [t] g2 g3) _) _ k O) λμ k8 g5=>fM ?_<|r1 U b3 ..;have b4:∀{z:cj}{v g:ke}{N P:bG},Internal.kD (yH a.A z) v N g P->Internal.kD (oM a.A) v N g P:=λb5=>⟨b5.B.E λb=>(λf=>f.c id λf=>⟨_,f⟩),b5.F⟩;refine b3 (λs=>ay kc a.B (dy s a.A) (λt N=>ay kc a.B (storeName a.A μ t) _ k N) k O) λk9 l0 g6 g7 b6 b γ δ=>jK<|Vq (um (d:=m.F ((m.E.A d<|.A h).A j<|.A q) _) c3 lp) a.1 γ κ λl1 I g8 g9 h0 h1=>?_;subst h1;refine Dv c4 b6<|ry (d:=m.F ((m.E.A d<|.A h).A j<|.A q) _) (ξ:=λb7 ε=>b7=[x,.A q,.A h]/\ε=_) (ps ((jP.B _ _ Ξ.2).a<|(jP.B _ _ Ξ.1).a c6)<|ry<|ps (jP.C ..)<|ry<|ps ((jP.B _ _ c5).a<|jP.C ..)<|sC lp) a.1 g6 g7 I g8 _ k δ b6 g9 λb7 l2 h2 h3 h4 r C h5 h6=>ka λh7=>?_;obtain⟨rfl,rfl⟩:=r;have ν:=h0.A h5;have R:=(((e3.A ζ a.C K (λe A=>(J e A).1) (λb f=>f) a6.B).A a7 a.C K (λe A=>(J e A).1) (λb f=>f.elim) b2.B).A M a.C L (λe A=>(J e A).2) (λb f=>f) ι.B).A κ a.C K (λe A=>(J e A).1) (λb f=>f.elim) ν.B;have S:=(f8.A M a.C L Θ (λb f=>f) ι.B).A κ a.C L Θ (λb f=>f.elim) ν.B;refine h7<|⟨qg.A.keeps C.A.F.A,?_⟩;refine l _ _ _ d9 f4 e0 f5 e1 f6 (R.H (.head _) λz h8 ξ=>af _<|af _<|bM _<|am.b ⟨_,ξ,U⟩) (S.H (.tail _<|.head _) λz h8 ξ=>af _<|af _<|bP _<|am.b ⟨_,ξ,U⟩) a.B h3 h4 h2 _ k a.E.M (C.A.o_<|jm.b ⟨⟨R.C,R.D⟩,jm.b ⟨⟨S.C,S.D⟩,List.forall_mem_append.b ⟨(LA C (λz ο l=>(R.B z ο l).1):),(LA C (λz ο l=>(S.B z ο l).1):)⟩⟩⟩) h6 λB l3 t h9 l4 i0 i1 b8 i2=>?_;have b9:=C.C (C.A.p_ i1) b8;exact sF a.C b9.A b9.B (jx a.C.A<|rt g5) i2 (a.F μ) (λb=>.inl U) (λb b r=>.inr ⟨μ,r⟩) λi3 i4 i5 i6=>i0 a d2 h9 i3 c7 k y ⟨i4,i5⟩ λi7 i8 i9 j0 g P u j1 j2 r=>c9 i7 i8 i9 j0 g P u j1 (((((((e4.E.A<|b4 a6).A b2.E).A<|b4 ι).A ν.E).A b8.E).A i6).A j2) r
end
def A3(e:jC)(b:jA)(a:cj):=(b=.C a/\Ld a<=10000)\/∃(c:jF)(d:List cj),b=.A c/\e c=V (.A<|d.map .C)/\(hU<|d.map .str).shown=a/\Ld a<=10000
def Vs(a:jR)(b:ko)(c:cj->jC->Prop):=match a with|.I d=>Ld d<=10000/\c d b.A|a=>kn ah a b λg e=>∃f,A3 e g f/\c f e
noncomputable def yI:Lt jR->ko->(Lt cj->jC->Prop)->Prop|[],a,b=>b [] a.A|d::e,a,b=>Vs d a λf c=>yI e (a.C c) λg c=>b (f::g) c
noncomputable def uz:cj->Lt cj->cj|a,[]=>a|a,b::c=>uz (a++b) c
noncomputable def wQ:Lt cj->Nat|[]=>0|a::b=>Ld a+wQ b
def Vt:∀a:Lt cj,jh (a.map .str)=aj:=λ{a}=>lO U (λc a b=>by rw[bo];unfold jh;rw[b];rfl) a
def Vu:∀a:Lt cj,jr (a.map .str)=ah:=λ{a}=>lO U (λc a b=>by rw[bo];unfold jr;rw[b];rfl) a
def Vv:∀a:Lt cj,hZ (a.map .str)=0:=λ{a}=>lO U (λc a b=>by rw[bo];unfold hZ;rw[b];rfl) a
def Vw(a:acD f j):∃b,iz l f (j.map .str) b:=by induction a with|nil=>exact⟨[],.nil⟩|cons c d a e=>exact e.a λb g=>⟨_,.cons (.str c d) g⟩
section
def Vx{c:n7 ah m.B m.D}{f:cL}{B:Pos}{r:cj->jC->Prop}(g:kV p c.D f)(C:kS c.A m v N)(D:kn ah p m λs d=>∃f,A3 d s f/\r f d)(E:∀e g d t l,Ld e<=10000->r e d->kS c.A (m.C d) t l->kD lM v N t l->β (.str e g) l):ay kc c.B (dy (.FormattedValue f 115 Y B) c.A) β b N:=by
 refine wpAny_FormattedValue_s<|D c f v N _ b g C λs d F G n o u H w=>?_;obtain⟨e,I,o⟩:=o;have i:=λg J x a=>E e g d G J a o (u.D x)<|H.A<|.C x;rcases I with⟨rfl,a⟩|⟨T,K,rfl,L,q,a⟩;.apply w.C;intro g;have k:Ld e<=gE:=aX ‹_› jB;exact wpAny_habitSame_str (gv (i _ _ (.C _) a) (i _ _ (.A ..) a) k) (gv (i _ _ (.A ..) a) (i _ _ ((lR.A ..).E<|.A ..) a) k) k
 .apply u.A.B L w;intro W X Z _ _ M O _;obtain⟨α,P⟩:=Vw (l:=n.heap)<|Lq O;have k:Ld e<=gE:=aX ‹_› jB;subst q;refine rb<|convS_of_reads (.list M U U P) (by unfold PyData.showable;exact Vt K) (by unfold PyData.hasDict;rw[Vu];exact lf) c.E.F (by unfold PyData.depth;rw[Vv];exact c.E.L (c:=1)) (λQ Q q=>q) (λy F z R S=>?_) k;have A:lR n {n with heap:=y,toks:=z}:=lP y z U R S;exact gv (i _ _ A a) (i _ _ (A.E<|.A ..) a) k
def Vy:∀{m:ko}{k:List cj->jC->Prop}{v:ke}{N:bG}(c:n7 ah m.B m.D){q:List cL}{g:cj}{l:cj->bG->Prop},vq X c.D q->kS c.A m v N->yI X m k->Ld g+10000*La X<=1000000->(∀h a y u,k h a->kS c.A (m.C a) y u->kD lM v N y u->wQ h<=10000*La X->l (uz g h) u)->Joins kc c.B b (evalEach q c.A) g l N:=by
 induction X with
 |nil=>intro m k v N c q g l d r i s w;subst d;exact w [] _ v N i r .D<|bT _|cons E X F=>
  intro m k v N c q g l d r i s w;simp only[cN,ed]at s;apply d;intro z Z G H;have A:∀e d a j f,Ld e<=10000->yI X _ (λh a=>k _ a)->kS c.A _ j f->kD lM v N j f->∃t I,hT e d=.str t I/\Ld (g++t)<=gE/\Joins kc c.B b _ (g++t) l f:=λe d a j f n x o p=>lP e d U (by simp only[AC,cU];exact aX (bS (aX n<|cM ..) _)<|aX s jB)<|F (m:=m.C a) c H o x (by rw[AC,cS,ck (Ld e)];exact aX (bS (bS n _) _) s) λh J K L M O P R=>w (e::h) J K L M O (p.A P) (by show Ld e+wQ h<=_;rw[ck];exact bv R n);rcases G with⟨B,S,C,rfl,rfl⟩|⟨t,C,rfl,T⟩;.exact As (t:=λD a=>D=.C B/\a=m.A) lp c _ v N _ b (λα e=>e S C) r λD a β j f z o p W=>by obtain⟨rfl,rfl⟩:=z;apply W.C;intro d;exact A B d _ j f i.1 i.2 o p
  .refine Vx T r ?_ λe d a j f n x o p=>A e d a j f n x o p;cases E<;>first|exact i|exact As ⟨_,.inl ⟨U,i.1⟩,i.2⟩
def Vz:∀(b:Lt cj)(a:cj),Ld (uz a b)=Ld a+wQ b:=λ{b}=>lO (λa=>U) (λc d e=>λa=>by unfold uz wQ;rw[e,AC];exact cS (Ld a) (Ld c)<|wQ d) b
def vq.A:∀{b:Lt jR}{a:Lt cL},vq b π a->La a=La b:=by intro b;induction b with|nil=>exact λ{a} c=>jx (show a=[] from c) U|cons e b d=>exact λ{a} c=>c (λa=>La a=La b+1) λf g h c=>aB ek<|d c
def VA(c:2<=La X)(f:La X<=50)(j:yI X m λh e=>g (.C<|uz gO h) e):kn ah (.l_ X) m g:=λk i v N l b n o p=>n (λi=>ay _ _ (dy i _) l b N) λq y d=>by have a:=vq.A d;match q,a,d with|[],a,_=>rw[<-a]at c;exact a' c jB|[r],a,_=>rw[<-a]at c;exact a' c jB|r::z::A,a,d=>refine wpAny_JoinedStr<|Vy k d o j (aX (aw<|ct _)<|aX (bW 10000 f) jB) λh e s B t u w x=>⟨?_,p _ e _ s _ t (u.D<|.A ..) (w.A<|.C<|.A ..) ⟨_,U⟩⟩;simp only[Vz,cU];show 0+_<=_;exact aX (aw<|ct _)<|aX x<|aX (bW 10000 f) jB
def VB{h:jF}{i:bk}{q:List<|Nat×jA}{e:Nat}(r:m.A h=V (.C c q))(s:dk kH (.ref c) "__len__"=V (V<|.ref i))(t:iK kH (.ref i)=V (.type "function"))(K:d<2^63)(w:m.D=e+1) (x:nc u (.ref i) [.A h] ⟨m.B,e,m.E,m.A⟩ λo y=>o=.B d/\g (.B d) y):nc u (.builtin "len") [.A h] m g:=λj v N L M b a k z A=>by rw[w]at a;apply z.B;intro B f;have C:=f;revert C;apply k.b_ r f;intro l O P Q _ D E _ _ _ f;have p:=qg.A.keeps k.F.A;refine eb kind_len adZ ad2 (args_len1 _)<|jK<|ai<|jK<|jK<|jK<|(show jf N.heap l.1 _ c<|V _ from⟨D,U,U,E⟩).type.here<|(hx p s).here<|bu<|jK<|(bind_fn p (.ref l.1) t).here<|jK<|x j.in1 v N [.ref l.1] _ b (mS (by have:=a.C;show j.depth+e<=900;exact cI this) (by have:=a.D;show j.units+1+4*e<=9000;lia) a.H a.F a.G) k (.I f) λo F B G R n H I J=>ai ?_;obtain⟨rfl,n⟩:=n;apply J.B;intro S;exact jK<|bu<|ai<|jK<|ac2<|lJ (fS.b<|cA _)<|lJ (by lia)<|jK<|ac0<|ai<|jO _ U<|A (.B d) F _ G _ n (H.H<|.F _) (I.A<|.C<|.A ..) ⟨_,U⟩
end
section
variable{a:jF}{h:Lt jA}{i:bk}{j:bk}
def vC(v:ke)(l:dX)(e:Lt jA)(j:bk):=∃a b,Ln l j=V (m5 a b)/\kf v l e (Lf a)
def VC(g:O.units<=9600)(h:W ah N):∀{c d:List bB} a,kf v N.heap e c->kf v N.heap e d->e.all kP=aj->KatLex lu.C lu.E O u ah W (c.zip d) a N:=by induction e with|nil=>exact λa j i i=>by subst j;exact kat_nil h|cons f e k=>exact λa l m b=>mr l λt w n j o=>mr m λx y q r s=>by subst n;subst q;exact kat_cons<|Dk g j r (kB b).1 (kB b).1<|jx (aD (p:=f=f) U)<|kat_yes<|k _ o s (kB b).2
def VD{h:SortSt->bG->Prop}(m:O.units<=9600)(n:e.all kP=aj)(o:vC v N.heap e c)(p:vC v N.heap e i)(l:∀a,arrOf a=#[(.ref c,.ref c),(.ref i,.ref i)]->failedOf a=Y->h a N):ay kc O ((sortRuns').run<|SortSt.mk' (tuples' u) ([dm c,.ref i].toArray.zip [dm c,.ref i].toArray) #[] 7 Y) (λq g=>h q.2 g) b N:=o.a λt d=>d.a λw d=>p.a λx f=>f.a λy f=>kat_run (G:=λj g=>j=#[0,1]/\g=N) U (al 2) (show 2<64 by decide) (λj a g z r s k=>kd k.2<|l a (by simp only[r,k.1];simp[kas_item]) s)<|kat_lt f.1 U d.1 U (by exact jx (aG (by simp only[f.2.A,d.2.A];exact dR _))<|VC m lp 0 f.2 d.2 n)
def VE(v:ke)(l:dX)(j:bk)(h:Lt bB):=La h<2\/∃b a c i,h=[.ref c,.ref i]/\(c≠j/\i≠j)/\a.all kP=aj/\vC v l (.B b::a) c/\vC v l (.B b::a) i
def vC.A(k:vC v l e c)(f:∀u g,u≠j->Ln l u=V g->Ln δ u=V g)(h:∀u a b,Ln l u=V (m5 a b)->u≠j):vC v δ e c:=k.a λa m=>jU m λb i n=>ms a b (f _ _ (h _ _ _ i) i)<|kf.K (λo o d=>d) (λu a b d=>f _ _ (h _ _ _ d) d) _ n
theorem VF{o:Fin->bG->Prop}(M:O.units<=9600)(m:Ln N.heap j=V (fO "list" (Lc f) d))(e:VE v N.heap j f) (l:o (.done<|.ret .none) {N with heap:=ado N.heap j f (Lc f)}):ay kc O (Builtin.«list.sort» ⟨[.ref j],[]⟩) o b N:=by
 revert v N O b j f d o;apply sz;generalize kG.1.1.1=b,kG.1.1.2=d,kG.1.2.1=f,kG.1.2.2=v,kG.2.1.1=N,kG.2.1.2=O,kG.2.2.1=j,kG.2.2.2=o;intros;rw[list_sort_plain];have z:=bn m;have r:=e.a (λl=>cg<|cH l) λP=>QY P λ_ _ _ _ a _=>jx a<|al 2;have p:2<=gE:=by rw[cU];decide
 refine jK<|listItems_at m U<|jK<|jq m U ?_ (jx cy<|aX r p)<|bT _;obtain⟨s,A⟩:∃s,Ln (N.heap.update j _) j=V (fO "list" #[] s):=⟨_,get?_update_seq m λn=>#[]⟩;refine jK<|ac5 A U<|jK<|aew (jK<|hY (bu ?_)<|bT _)<|aX r p;have q:(((N.heap.update j<|hL λn=>#[]).push<|fO "tuple" (Lc f) 0).push<|fO "list" #[] 0).get? j=V (fO "list" #[] s):=by exact jx (fz _ _ _<|jx (hk ..)<|jx (eZ ..)<|bF<|cH z)<|jx (fz _ _ _<|jx (eZ ..)<|bF z) A
 dsimp only;have B:((Lc f).zip (Lc f)).map (·.2)=Lc f:=by apply Array.ext';exact jx Array.toList_map<|jx Array.toList_zip<|List.map_snd_zip<|al _
 by_cases g:Lb (Lc f)<2;.refine jx (aC g)<|jx (aC g) ?_;refine dP<|ai ?_;refine jx (StateT.run_pure ..) ?_;refine jK<|ai<|jK<|ac5 q U<|jK<|jq q U ?_ (bT _) (by show Lb (((Lc f).zip (Lc f)).map _)<=_;rw[B,cy];exact dB<|aX r p);refine jx (aQ ..)<|jx (aA av) ?_;apply ai;exact jx (show arrOf _=(Lc f).zip (Lc f) from U)<|jx B l
 .refine ka λt=>?_;obtain⟨w,C,c,i,rfl,⟨μ,ν⟩,R,S,W⟩:=e.b λl=>g<|jx cy l;refine t<|lJ g ?_;refine jx (aA g) ?_;have D:∀u x,u≠j->Ln N.heap u=V x->(((N.heap.update j<|hL λn=>#[]).push<|fO "tuple" [dm c,dm i].toArray 0).push<|fO "list" #[] 0).get? u=V x:=λu x X a=>by have E:=bn a;exact jx (fz _ _ _<|jx (hk ..)<|jx (eZ ..)<|bF<|cH E)<|jx (fz _ _ _<|jx (eZ ..)<|bF E)<|jx (Heap.get?_update_ne _ _ _ _ X) a
  have F:∀u h G,Ln N.heap u=V (m5 h G)->u≠j:=λu h G a Z=>by have α:=aB (ji Obj.cls)<|a.b.a<|jx Z m;exact a' (ae0<|aY α) jI
  have H:=S.A D F;have I:=W.A D F;refine ka λt=>te (id H) λξ ο β γ=>te (id I) λπ ρ δ ε=>?_;have J:∀{h:Array bB},kf v (((N.heap.update j<|hL λn=>#[]).push<|fO "tuple" [dm c,dm i].toArray 0).push<|fO "list" #[] 0) (.B w::C) (Lf h)->∃y,h[0]?=V (.int w y):=λ{h} e=>by obtain⟨σ,τ,a,⟨y,rfl⟩,_⟩:=e;exact⟨y,jL (bl)<|jx a U⟩
  obtain⟨υ,ζ⟩:=J γ;obtain⟨φ,η⟩:=J ε;refine t<|jK<|kat_kind (T:=.type "int") (.cons β U U ζ<|.cons δ U U η .nil) (fB _) (λχ e=>?_) U ?_;.
   rcases ao.a e with rfl|e;.exact .now
   .rcases ak.a e with rfl;exact .now
  refine dP<|cE (VD (h:=λk K=>K=_/\arrOf k=#[(.ref c,.ref c),(.ref i,.ref i)]/\failedOf k=Y) M (show(jA.B w::C).all kP=aj from(az ..).mpr ⟨U,R⟩) H I λk θ g=>lj U θ g) ?_ λn n a=>a;rintro⟨⟨⟩,k⟩ K ⟨rfl,ι,κ⟩;have L:(arrOf k).map (·.2)=#[dm c,dm i]:=by rw[ι];simp
  refine jK (ac5 q U (jK (jq q U ?_ (bT _) (by show Lb ((arrOf k).map (·.2))<=_;rw[L];exact dB p))));refine jx κ ?_;refine jx (aQ ..)<|jx (aA av) ?_;apply ai;exact jx L l
def VG{w n:jF}(D:m.A w=V (.A h))(E:La h<2\/∃j e,h=[.E (.B j::e),.E (.B j::e)]/\e.all kP=aj)(F:m.A n=Y)(G:g (.A n)<|jE m.A n<|.A h):nc ah (.builtin "sorted") [.A w] m g:=λO v N H γ b I x e J=>by
 apply e.B;intro δ K;apply x.B D K;intro L o ε _ _ M y p;have q:=y.A;refine eb ac6 acv acA (acC _)<|jK<|ai<|jK<|rb<|adE L.1 kr M U U (λf P Q=>?_) (by simp only[cU,q];exact p);have r:lR N {N with heap:=f}:=lP f N.toks U P Q;have t:=y.H r.B;refine jK<|hY ?_ (by simp only[cU,ee,q];exact p);have z:Ln (f.push _) (Lb f.objs)=V (fO "list" (Lc (Lf o)) 0):=bJ _ U;refine jK<|bu<|bq ir (jO _ z U) iY (VF (N:={N with heap:=f.push<|fO "list" (Lc (Lf o)) 0}) (v:=v) (aX (bC (dn I.D) 2) jB) z ?_<|jO _ U ?_)<|iu _;.
  rcases E with l|⟨j,e,rfl,R⟩;.exact .inl (by simp only[ee,q];exact l)
  .refine .inr ?_;generalize Lf o=H at t;refine ka λS=>?_;obtain⟨ζ,η,rfl,⟨c,T,W,rfl,A,X,_⟩,θ,ι,rfl,⟨i,Z,α,rfl,B,β,_⟩,rfl⟩:=t;have k:∀{u C},Ln f u=V C->(f.push<|fO "list" [dm c,dm i].toArray 0).get? u=V C:=λa=>bU _ a;exact S<|CR j e c i U ⟨bF<|bn A,bF<|bn B⟩ R (ms T W (k A)<|kf.K (λd d a=>a) (λd d d a=>k a) _ X)<|ms Z α (k B)<|kf.K (λd d a=>a) (λd d d a=>k a) _ β
 .exact ai<|jO _ U<|D3 (J.B r) (x.H r.B) F t p G
end
abbrev kA(a:Prop)(b:s->Prop)(c:Op s):Prop:=dC (motive:=λd=>Prop) a b c
abbrev nL(a b:Prop)(c:Bool):Prop:=ae4 (motive:=λd=>Prop) a b c
def nY(b c:s)(d:Bool->s)(e:Int->s)(f:cj->s)(g:List jA->s)(h:jF->s)(i:jA):s:=jA.rec (motive_1:=λa=>s) (motive_2:=λa=>s) c d e f (λj a=>g j) h (λa=>b) b (λa a a a=>b) i
def n9(b:s)(d:Lt jA->s)(e:Lt (jA×jA)->s)(f:bk->Lt (Nat×jA)->s)(c:Op km):s:=dC (motive:=λa=>s) b (λc=>km.rec (motive:=λa=>s) d e (λa=>b) f (λa a=>b) (λa a a=>b) c) c
noncomputable abbrev lg{a:Type}:s->Op a:=λb=>Y
section
def kA.B{c:Prop}{d:s->Prop}{a:Op s}(e:kA c d a)(f:a=Y->c->R)(g:∀b,a=V b->d b->R):R:=by cases a with|none=>exact f U e|some b=>exact g b U e
def kA.A{a:s->Prop}{b:Op s}(d:kA False a b)(e:∀c,b=V c->a c->R):R:=d.B (λg f=>f.elim) e
def nY.A{d:Option s}{e:Bool->Option s}{f:Int->Option s}{g:cj->Option s}{h:List jA->Option s}{i:jF->Option s}{b:s}(c:nY Y d e f g h i x=V b)(j:x=.D->d=V b->R)(k:∀a,x=.F a->e a=V b->R)(l:∀a,x=.B a->f a=V b->R) (m:∀a,x=.C a->g a=V b->R) (n:∀a,x=.E a->h a=V b->R) (o:∀a,x=.A a->i a=V b->R):R:=by cases x with|D=>exact j U c|F a=>exact k a U c|B a=>exact l a U c|C a=>exact m a U c|E a=>exact n a U c|A a=>exact o a U c|G a=>exact kh c
def n9.A{g:Lt jA->Op s}{h:Lt (jA×jA)->Op s}{i:bk->Lt (Nat×jA)->Op s}{b:Op km}{d:s}(c:n9 Y g h i b=V d)(j:∀a,b=V (.A a)->g a=V d->R)(k:∀a,b=V (.B a)->h a=V d->R)(l:∀e f,b=V (.C e f)->i e f=V d->R):R:=by cases b with|none=>exact kh c|some b=>cases b with|A a=>exact j a U c|B a=>exact k a U c|C e f=>exact l e f U c|_=>exact kh c
def m8{a:Type}{b:s}{c:a}(d:lg b=V c):R:=kh d
def rd{a:Op s}{b:s}(c:(bif u then a else Y)=V b)(d:u=aj->a=V b->R):R:=by cases u with|true=>exact d U c|false=>exact kh c
end
def tt{a:Op s}{b:s}{c:s->Prop}(d:a=V b)(e:c b):dC (motive:=λf=>Prop) R c a:=kd d e
def lD(b:jC):=∃c,∀a,c<=a->b (.B a)=Y
def wR(a:jC)(c:jF->Prop):=lD a->∃b,a b=Y/\c b
structure VH where
 A:bk->Nat->Bool
 B:bk->Nat->Option Int
 C:bk->Bool
 D:bk->Nat->Option bk
def wS(b:Lt<|Nat×Nat)(c:Nat):Op Nat:=eT (motive:=λd=>Op Nat) Y (λa d e=>bif a.1.beq c then V a.2 else e) b
def o6:VH where
 A a b:=bif a.beq 135 then[0,1,2,8,9,11,15,16,17,18].any<|hW b else bif a.beq 100 then b.ble 14 else bif a.beq 427 then cK 29 b&&b.ble 41 else a.beq 283&&(cK 19 b&&b.ble 28)
 B a b:=bif a.beq 100&&(b.beq 13||b.beq 14)then V 0 else Y
 C a:=a.beq 135||a.beq 427
 D a b:=bif a.beq 427 then wS [(59,340),(60,347),(61,354),(62,361),(63,368),(64,375),(65,382),(66,389),(67,396),(68,403),(69,410),(70,417),(71,424)] b else
  bif a.beq 283 then wS [(53,201),(54,209),(55,258),(56,265),(57,273),(58,280)] b else Y
def wT:=(∀a b,o6.A a b=aj->q4 kH a=aj/\tf kH a b=aj)/\(∀a b d,o6.B a b=V d->q4 kH a=aj/\copiedNames.contains (lU b)=ah/\wo kH a b=V d)/\(∀a,o6.C a=aj->dk kH (.ref a) "__bool__"=V Y/\dk kH (.ref a) "__len__"=V Y)/\∀a b c,o6.D a b=V c->hw kH a (lU b)=aj/\dk kH (.ref a) (lU b)=V (V<|.ref c)/\isFn kH (.ref c)=aj/\qd kH (.ref c)=aj
section
variable(a:wT)
def wT.A:=a.1
def wT.B:=a.2.1
def wT.C:=a.2.2.1
def wT.D:=a.2.2.2
end
def LB{b:Nat}:∀{c:Lt<|Nat×Nat},wS c d=V b->(d,b)∈c:=λ{c}=>lO (λa=>kh a) (λe g h=>λa=>by have a:(bif e.1.beq d then V e.2 else wS g d)=V b:=a;cases f:e.1.beq d with|true=>rw[f]at a;obtain rfl:e.2=b:=aY a;exact jL (bA f) ae|false=>rw[f]at a;exact af _<|h a) c
def wU:(Db.all (λa=>adJ kH a.1&&dk kH (.ref a.1) "__init__"==V (V<|.ref a.2)&&iK kH (.ref a.2)==V (.type "function"))=aj/\Dc.all (λa=>q4 kH a.1&&tf kH a.1 a.2)=aj)/\(q4 kH 100=aj/\wo kH 100 13=V 0/\wo kH 100 14=V 0)/\[135,427].all (λb=>dk kH (.ref b) "__bool__"==V Y&&dk kH (.ref b) "__len__"==V Y)=aj/\Dd.all (λa=>hw kH a.1 (lU a.2.1)&&dk kH (.ref a.1) (lU a.2.1)==V (V<|.ref a.2.2)&&isFn kH (.ref a.2.2)&&qd kH (.ref a.2.2))=aj/\dk kH (.ref 100) "__len__"=V (V<|.ref 83)/\iK kH (.ref 83)=V (.type "function"):=by have c:=kB<|(uk yo).1.2.1;have d:=kB c.1;have e:=kB d.1;have f:=kB e.1;have g:=kB f.2;have h:=kB g.1;have i:=kB c.2;exact lY (kB f.1) ⟨h.1,aE.a h.2,aE.a g.2⟩ e.2 d.2 (aE.a i.1)<|aE.a i.2
def uA:wT:=⟨(λb c a=>kB<|bc.a wU.1.2 _<|(by
 have i:∀b∈[135,100,427,283],∀c,c<60->o6.A b c=aj->(b,c)∈Dc:=by decide+kernel
 have d:b∈[135,100,427,283]/\c<60:=by have a:(bif b.beq 135 then[0,1,2,8,9,11,15,16,17,18].any<|hW c else bif b.beq 100 then c.ble 14 else bif b.beq 427 then cK 29 c&&c.ble 41 else b.beq 283&&(cK 19 c&&c.ble 28))=aj:=a;cases e:b.beq 135 with|true=>replace a:=e▸a;exact jU (eC.a a) λi s g=>⟨by rw[bA e];decide,jx (bA g)<|(by decide:∀i∈[0,1,2,8,9,11,15,16,17,18],i<60) i s⟩|false=>cases f:b.beq 100 with|true=>rw[e,f]at a;exact⟨by rw[bA f];decide,aZ (bE a) jB⟩|false=>cases j:b.beq 427 with|true=>rw[e,f,j]at a;exact⟨by rw[bA j];decide,aZ (bE (kB a).2) jB⟩|false=>rw[e,f,j]at a;exact⟨by rw[bA (kB a).1];decide,aZ (bE (kB (kB a).2).2) jB⟩
 exact i b d.1 c d.2 a)),(λb c n a=>by
 have a:(bif b.beq 100&&_ then V _ else Y)=V n:=a;cases l:b.beq 100&&_ with
 |false=>rw[l]at a;exact kh a|true=>
  rw[l]at a;obtain rfl:0=n:=aY a;have d:=kB l;obtain rfl:=bA d.1;have h:=wU.2.1;rcases(cT ..).mp d.2 with g|g<;>obtain rfl:=bA g;.exact lj h.1 (by decide+kernel) h.2.1
  .exact lj h.1 (by decide+kernel) h.2.2),(λb a=>by
 have m:b∈[135,427]:=by rcases(cT ..).mp a with g|g<;>rw[bA g]<;>decide
 have d:=kB<|bc.a wU.2.2.1 b m;exact⟨aE.a d.1,aE.a d.2⟩),(λb c o a=>by
 have a:(bif b.beq 427 then wS [(59,340),_,_,_,_,_,_,_,_,_,_,_,_] c else bif b.beq 283 then wS [(53,201),_,_,_,_,_] c else Y)=V o:=a;have m:(b,c,o)∈Dd:=by cases e:b.beq 427 with|true=>rw[e]at a;exact jx (bA e)<|(by decide:∀p∈[(59,340),_,_,_,_,_,_,_,_,_,_,_,_],_∈Dd) _<|LB a|false=>cases f:b.beq 283 with|true=>rw[e,f]at a;exact jx (bA f)<|(by decide:∀p∈[(53,201),_,_,_,_,_],_∈Dd) _<|LB a|false=>rw[e,f]at a;exact kh a
 have d:=kB<|bc.a wU.2.2.2.1 _ m;have q:=kB d.1;have r:=kB q.1;exact mz r.1 (aE.a r.2) q.2 d.2)⟩
noncomputable def sJ:List (Nat×jA)->Nat->Option jA|[],_=>Y|(b,c)::d,a=>bif a.beq b then V c else sJ d a
def A4(b:Lt<|Nat×jA) a:Lj a b=sJ b a:=lO (by rfl) (λc e f=>by
 refine jx bx<|jx f ?_;show _=bif a.beq c.1 then V c.2 else sJ e a;by_cases d:a=c.1;.exact jx (d ..)<|jx (dp ..)<|jx (aI ..) U
 .exact jx (aR.b d)<|jx (o2 d) U) b
abbrev lk:=jA->jC->Prop
abbrev kl:=qF->jP->jC->Prop
def r8(b:kl):og:=λc a=>b c a.E a.A
structure lz(a:bB)(b:List jA)(c:jT)(d:Nat)(e:jC)(f:lk):Prop where
 go:∀{g},nc ah a b ⟨c,d,g,e⟩ f
structure pv(a:jR)(b:jT)(c:Nat)(d:jP)(e:jC)(f:lk):Prop where
 go:kn ah a ⟨b,c,d,e⟩ f
structure ach(a:jR)(b:jT)(c:Nat)(d:jP)(e:jC)(f:Bool->jC->Prop):Prop where
 go:ox ah a ⟨b,c,d,e⟩ f
structure qI(a:kb)(b:jT)(c:Nat)(d:jP)(e:jC)(f:kl):Prop where
 go:nA ah a ⟨b,c,d,e⟩ (r8 f)
structure jW(c:gh)(d e:jA)(f:jC)(g:Bool):Prop where
 e_:∀{a:ko}{b:lk},a.A=f->b (.F g) a.A->lm ah (mm (dg c)) [d,e] a b
def mN(b:cj)(a:bB):=lu.A b=V a/\qd kH a=aj
def mN.A(a:mN w n):=a.1
def mN.B(a:mN w n):=a.2
def wV(a:Nat)(b:bk)(d:Lt<|Nat×jA):Op jA:=dC (motive:=λe=>Op jA) (dC (motive:=λe=>Op jA) Y (λf=>V<|.B f)<|o6.B b a) (λc=>bif o6.A b a&&wz c then V c else Y)<|sJ d a
def pw(a:Nat)(b:jA)(c:jC):Option jA:=nY Y Y lg lg lg lg (λd=>n9 Y lg lg (wV a)<|c d) b
def nZ(a:jA):Option Int:=nY Y Y lg V lg lg lg a
def mY(d a:jA)(e:jC):Option jA:=nY Y Y lg lg (λb=>bif(Ld b).ble 16777216 then(nZ a).bind λa=>((ej a (Ld b)).bind (b.cps[·]?)).map λf=>.C ⟨#[f]⟩else Y) (λc=>(nZ a).bind<|qi c) (λg=>n9 Y (λc=>(nZ a).bind<|qi c) (λh=>bif kP a then kj h a else Y) (λi=>lg)<|e g) d
noncomputable def wW(c:dw)(b a:Int):Op Int:=match c with|.Add=>V<|b+a|.Sub=>V<|b-a|.Mod=>bif ba (a≠0)then V<|b.fmod a else Y|.FloorDiv=>bif ba (a≠0)&&!dh b a then V<|b.fdiv a else Y|_=>Y
noncomputable def yJ(a:dw):Bool:=match a with|.Add=>aj|_=>ah
inductive uB where
 |A(a:jA)
 |B(b:List jA)
def vD(a:Op km):Op<|Lt jA:=n9 Y V lg (λb=>lg) a
def qJ(a:dw)(h b:jA)(c:jC):Op uB:=nY Y Y lg (λi=>(nZ b).bind λj=>(wW a i j).map λk=>.A<|.B k) (λd=>nY Y Y lg lg (λe=>bif yJ a&&cK (Ld d+Ld e) 16777216 then V<|.A<|.C<|d++e else Y) lg lg b) lg (λl=>nY Y Y lg lg lg lg (λm=>(vD<|c l).bind λf=>(vD<|c m).bind λg=>bif yJ a&&cK (La f+La g) 16777216 then V<|.B<|f++g else Y) b) h
def A5(a:jC)(b:lk)(d:uB):Prop:=uB.rec (motive:=λg=>Prop) (λe=>b e a) (λf=>wR a λc=>b (.A c)<|jE a c<|.A f) d
def yK(b:gh)(c d:jA)(e:jC)(f:Bool->Prop):=∃a,jW b c d e a/\f a
def mv(c:jA)(d:jC):Option Bool:=nY Y (V ah) V (λe=>V<|e !=0) (λb=>bif(Ld b).ble 16777216 then V<|(Ld b:Int) !=0 else Y) (λa=>V (!a.isEmpty)) (λf=>n9 Y (λa=>V (!a.isEmpty)) (λg=>V (!g.isEmpty)) (λh i=>bif o6.C h then V aj else Y)<|d f) c
noncomputable def LC(a:Nat):Op String:=bif a.beq 42 then V "list.append"else bif a.beq 43 then V "list.pop"else bif a.beq 44 then V "list.insert"else Y
noncomputable def LD(a:Nat):Op String:=bif a.beq 46 then V "dict.get"else Y
def VI(a:Nat):Op String:=bif a.beq 49 then V "str.join"else Y
def A6(a:Nat)(c:jA)(d:jC):Option bB:=nY Y Y lg lg (λb=>(VI a).map .builtin) lg (λe=>n9 Y (λb=>(LC a).map .builtin) (λb=>(LD a).map .builtin) (λf g=>dC (motive:=λb=>Option bB) ((o6.D f a).map .ref) (λb=>Y)<|sJ g a)<|d e) c
def lm.B{a:Lt bB->hB bB}{b:lk}(d:lD m.A->lm ah a e m b):lm ah a e m b:=λf g h i j k l c=>d c.K f g h i j k l c
def kn.B{a:lk}(c:lD m.A->kn ah p m a):kn ah p m a:=λd e f g h i j b=>c b.A.K d e f g h i j b
def kn.C{c:lk}(e:kn ah p m λb a=>lD a->c b a):kn ah p m c:=λf g h i j k l n o=>e f g h i j k l n λb a q r s t d=>o b a q r s (t d.A.K) d
def oL.B(d:oL ah X m λb a=>lD a->θ b a):oL ah X m θ:=λe f g h i j k l n o p=>d e f g h i j k l n o λb a q r s t c=>p b a q r s (t c.A.K) c
def lz.A{a:lk}(b:lD S->lz n e q d S a):lz n e q d S a:=⟨lm.B λc=>(b c).go⟩
def pv.A{a:lk}(b:lD S->pv p q d t S a):pv p q d t S a:=⟨kn.B λc=>(b c).go⟩
section
variable{a:lk}{b:jA}
def sK{c:Int}(a:nZ x=V c):x=.B c:=nY.A a (λb a=>kh a) (λb b a=>m8 a) (λb d a=>d.a<|aB jA.B<|aY a) (λb b a=>m8 a) (λb b a=>m8 a) λb b a=>m8 a
def LF{c:Op km}(a:vD c=V e):c=V (.A e):=n9.A a (λb d a=>d.a<|jx (aY a) U) (λb b a=>m8 a) λb b b a=>m8 a
def wX{c:jF->Option s}{d:s}(a:nY Y Y lg lg lg lg c x=V d)(f:∀e,x=.A e->c e=V d->R):R:=nY.A a (λb a=>kh a) (λb b a=>m8 a) (λb b a=>m8 a) (λb b a=>m8 a) (λb b a=>m8 a) f
def D7(c:kA False (λb=>a b m.A)<|pw d x m.A)(k:d<La nR):lm ah (wv λq=>acz q (lU d) aj) [x] m a:=kA.A c λb c l=>wX c λu r c=>r▸n9.A c (λg g c=>m8 c) (λg g c=>m8 c) λh i n c=>by
 unfold wV at c;cases f:sJ i d with
 |none=>rw[f]at c;cases j:o6.B h d with|none=>rw[j]at c;exact kh c|some o=>rw[j]at c;obtain rfl:jA.B o=b:=aY c;have e:=uA.B h d o j;exact Ss n ((A4 i d).a f) e.1 e.2.1 e.2.2 l k
 |some s=>rw[f]at c;exact rd c λt c=>by obtain rfl:s=b:=aY c;have p:=kB t;have e:=uA.A h d p.1;exact H0 n ((A4 i d).a f) e.1 e.2 p.2 l k
def LG(c:kA False (λb=>a b m.A)<|mY x b m.A)(f e:cL)(h:qz e=ah):lm ah (mm<|eE f e) [x,b] m a:=kA.A c λq c i=>nY.A c (λd c=>kh c) (λd d c=>m8 c) (λd d c=>m8 c) (λr g c=>rd c λn c=>(bD.a c).a λk c=>(bO.a c.2).a λs l=>jx g<|jx (sK c.1)<|So l.1 (bE n) (jL l.2.b i) f e h) (λo g c=>(bD.a c).a λk c=>g▸sK c.1▸Sn c.2 i f e h) λt g c=>g▸n9.A c (λo j c=>(bD.a c).a λk c=>sK c.1▸Sm j c.2 i f e h) (λu j c=>rd c λp c=>Sp j p c i f e h) λd d d c=>m8 c
def LH{a:dw->Prop}(b:yJ μ=aj)(c:a .Add):a μ:=by cases μ with|Add=>exact c|_=>exact a' b av
def VJ{e f g:Int}(b:wW μ e f=V g)(c:a (.B g) m.A):lm ah (mm<|fi μ) [.B e,.B f] m a:=by cases μ with|Add=>exact Su<|aY b▸c|Sub=>exact Sv<|aY b▸c|Mod=>exact rd b λd b=>Sw (aF d)<|jx (aY b) c|FloorDiv=>exact rd b λd b=>have h:=kB d;Sx (aF h.1) (pp h.2) (jx (aY b) c)|_=>exact kh b
theorem LI(c:kA False (A5 m.A a)<|qJ μ x b m.A):lm ah (mm<|fi μ) [x,b] m a:=by revert m a x b μ;apply uc;generalize mf.1.1.1=m,mf.1.1.2=x,mf.1.2=μ,mf.2.1=a,mf.2.2=b;intros;exact kA.A c λr c h=>nY.A c (λd c=>kh c) (λd d c=>m8 c) (λs f c=>(bD.a c).a λt c=>(bO.a c.2).a λu e=>f▸sK c.1▸VJ e.1 (by obtain⟨_,rfl⟩:=e;exact h)) (λl f c=>nY.A c (λd c=>kh c) (λd d c=>m8 c) (λd d c=>m8 c) (λg i c=>rd c λj c=>have e:=kB j;f▸i▸LH (a:=λμ=>lm ah (mm _) [.C l,.C g] m a) e.1 (SD (bE e.2) (by obtain rfl:=aY c;exact h))) (λd d c=>m8 c) λd d c=>m8 c) (λd d c=>m8 c) λn f c=>wX c λo i c=>(bD.a c).a λv c=>(bD.a c.2).a λw k=>rd k.2 λj p=>have e:=kB j;f▸jx i (LH (a:=λμ=>lm ah (mm _) [.A n,.A o] m a) e.1 (lm.B λq=>by obtain rfl:=aY p;exact(h q).a λy g=>UC (LF c.1) (LF k.1) (bE e.2) g.1 g.2))
def LJ(a:kA False (λf=>α f m.A)<|mv x m.A):rx ah x m α:=kA.A a λf a c=>nY.A a (λb a=>jx b<|SU<|jx (aY a) c) (λe b a=>jx b<|SV<|aY a▸c) (λe b a=>jx b<|SW<|aY a▸c) (λe b a=>rd a λh a=>jx b<|SX (bE h)<|jx (aY a) c) (λe b a=>jx b<|SY<|aY a▸c) λl b a=>jx b (n9.A a (λi d a=>S0 d<|aY a▸c) (λi d a=>S1 d<|aY a▸c) λj n d a=>rd a λk a=>have g:=uA.C j k;S2 d g.1 g.2 (jx (aY a) c))
def LK{c:gh}(d:yK c x b m.A λa=>α a m.A):lm ah (mm<|dg c) [x,b] m λx e=>∃a,x=.F a/\α a e:=jU d λa f g=>f.e_ U<|jO a U g
def VK{c d:Bool}{e f g a:s}(b:(bif u then V e else bif c then V f else bif d then V g else Y)=V a)(h:u=aj->a=e->R)(i:c=aj->a=f->R)(j:d=aj->a=g->R):R:=by cases u with|true=>exact h U (aY b).b|false=>cases c with|true=>exact i U (aY b).b|false=>cases d with|true=>exact j U (aY b).b|false=>exact kh b
def LL{a b:s}(c:(bif u then V a else Y)=V b)(d:u=aj->b=a->R):R:=by cases u with|true=>exact d U (aY c).b|false=>exact kh c
theorem VL(a:A6 d x m.A=V n):qd kH n=aj/\(d<La nR->up d x m.A m.B n [x]):=by revert m x d n;apply qu;generalize lr.1.1=d,lr.1.2=m,lr.2.1=n,lr.2.2=x;intros;exact nY.A a (λc a=>kh a) (λc c a=>m8 a) (λc c a=>m8 a) (λl b a=>(bO.a a).a λi a=>a.2▸b▸LL a.1 λe b=>⟨U,λc=>jx (bA e)<|jx b<|Ui PySem.F.slot_str_join PySem.F.type_str_join⟩) (λc c a=>m8 a) λr b a=>b▸n9.A a (λs f a=>(bO.a a).a λi a=>a.2▸VK a.1 (λe b=>⟨U,λc=>bA e▸jx b (DW f PySem.F.slot_list_append PySem.F.type_list_append)⟩) (λe b=>⟨U,λc=>bA e▸jx b (DW f adS PySem.F.type_list_pop)⟩) (λe b=>⟨U,λc=>bA e▸jx b (DW f PySem.F.slot_list_insert PySem.F.type_list_insert)⟩)) (λt f a=>(bO.a a).a λi a=>a.2▸LL a.1 λe b=>⟨U,λc=>bA e▸jx b (IV f adT PySem.F.type_dict_get)⟩) λo j f a=>by cases h:sJ j d with|some l=>rw[h]at a;exact kh a|none=>rw[h]at a;exact(bO.a a).a λp k=>have g:=uA.D o d p k.1;k.2▸⟨g.2.2.2,λq=>S7 q f ((A4 j d).a h) g.1 g.2.1 g.2.2.1⟩
end
def ox.A(c:ox ah p m α)(d:∀a b,α a b->υ a b):ox ah p m υ:=λe f g h i j k l n=>c e f g h i j k l λa b o q r=>n a b o q<|d a b r
def oL.A(d:oL ah X m θ)(e:∀b a,θ b a->τ b a):oL ah X m τ:=λf g h i j k l n o p q=>d f g h i j k l n o p λc a r s t u=>q c a r s t<|e c a u
def VM{c:Type}{d:Op s}{e:s->Op c}{f:c}(a:d.bind e=V f)(g:∀b,d=V b->e b=V f->R):R:=(bD.a a).a λb a=>g b a.1 a.2
def LM(b:Int)(c:Nat):Op Nat:=Int.rec (motive:=λd=>Op Nat) (λa=>bif cK (a+1) c then V a else Y) (λd=>Y) b
def qK(g a d:jA)(b:jC):Option jC:=nY Y Y lg lg lg lg (λc=>n9 Y (λe=>(nZ a).bind λh=>(LM h (La e)).map λi=>jE b c<|.A<|e.set i d) (λf=>bif kP a&&cK (La f+1) 16777216 then V<|jE b c<|.B<|kF f a d else Y) (λj=>lg)<|b c) g
def oP(a:Nat)(f g:jA)(b:jC):Option jC:=nY Y Y lg lg lg lg (λc=>n9 Y lg lg (λd e=>bif o6.A d a&&cK (La e) 199 then V<|jE b c<|.C d<|n8 e a g else Y)<|b c) f
def LN(c:kM)(b:jR):Bool:=r0 b&&(kM.rec (motive_1:=λa=>Bool) (motive_2:=λa=>Bool) (λa=>aj) (λa a=>DB b) aj (λa a a a=>aj) c)
section
def LO{g:jA}{h:jC}(a:oP d x g S=V h):∃c b e,x=.A c/\S c=V (.C b e)/\q4 kH b=aj/\tf kH b d=aj/\La e<200/\jE S c (.C b<|n8 e d g)=h:=wX a λc k a=>n9.A a (λf f a=>m8 a) (λf f a=>m8 a) λb e l a=>rd a λm a=>have i:=kB m;have j:=uA.A b d i.1;(Gq c b e k l j.1 j.2 (dA<|bE i.2)<|aY a)
def LP{b:Int}{c:Nat}(a:LM b d=V c):b=c/\c<d:=by cases b with|ofNat e=>exact rd a λf a=>jL (aY a) ⟨U,bE f⟩|negSucc e=>exact kh a
def VN{e f:jA}(a:kA False r<|qK x e f m.A):AF (S:=ah) x e f m r:=kA.A a λk a g=>wX a λl i a=>i▸n9.A a (λn d a=>(bD.a a).a λo a=>(bO.a a.2).a λp c=>jx (sK a.1)<|jx (LP c.1).1<|UG d (LP c.1).2<|kd c.2 g) (λq d a=>rd a λj a=>have c:=kB j;Ii d c.1 (bE c.2) (kd (aY a) g)) λh h h a=>m8 a
def nA.A{e:kb}{f:og}(g:nA ah e m η)(h:∀a b c,η a (m.F b c)->f a (m.F b c)):nA ah e m f:=λi d j k l n o p q=>g i d j k l n o p λa b c r s t u=>q a b c r s t<|h _ _ _ u
def mM.B{e:og}(f:mM ah o m η)(g:∀a b c,η a (m.F b c)->e a (m.F b c)):mM ah o m e:=λh d i j k l n p q=>f h d i j k l n p λa b c r s t u=>q a b c r s t<|g _ _ _ u
end
def kw(c d:jP):=∀a b,c a=V b->d a=V b
def kw.A(a:jP):kw a a:=λb b c=>c
def kw.D{a b:jP}(e:kw t a)(f:kw a b):kw t b:=λc d g=>f c d<|e c d g
def kw.C{a:jP}(c:kw t a)(e:t d=Y):kw t<|a.A d x:=λf g b=>(a.B x λh=>mh e<|h▸b).a<|c f g b
def lE(a:t d=Y):kw t<|t.A d x:=(kw.A _).C a
def mC{a:Nat}{c:jA}(b:(t a,t d)=(Y,Y)):kw t<|(t.A d x).A a c:=(lE (bf b).2).C (bf b).1
def r9{a b:Nat}{e f:jA}(c:(t b,t a,t d)=(Y,Y,Y)):kw t<|((t.A d x).A a e).A b f:=(mC (bf c).2).C (bf c).1
def wY{a b c:Nat}{f g h:jA}(e:(t c,t b,t a,t d)=(Y,Y,Y,Y)):kw t<|(((t.A d x).A a f).A b g).A c h:=(r9 (bf e).2).C (bf e).1
def LQ{a b c e:Nat}{g h i j:jA}(f:(t e,t c,t b,t a,t d)=(Y,Y,Y,Y,Y)):kw t<|((((t.A d x).A a g).A b h).A c i).A e j:=(wY (bf f).2).C (bf f).1
def A7{a b c e f:Nat}{h i j k l:jA}(g:(t f,t e,t c,t b,t a,t d)=(Y,Y,Y,Y,Y,Y)):kw t<|(((((t.A d x).A a h).A b i).A c j).A e k).A f l:=(LQ (bf g).2).C (bf g).1
def kw.B{c:jP}(g:kw t c) b(d:jA):kw (t.A b d)<|c.A b d:=λe h a=>by
 by_cases f:e=b;.subst f;rw[jP.C]at a⊢;exact a
 .rw[jP.B _ _ f]at a⊢;exact g e h a
def mM.A{a:jP}(c:mM u o ⟨q,d,t,S⟩ η)(e:kw t a):mM u o ⟨q,d,a,S⟩ η:=λf g h i j k l b m=>c f g h i j k l ⟨b.A,b.B.L e⟩ m
def VO{a:jP}(b:r2 [] e t=V a)(c:e=[]->a=t->R):R:=by cases e with|nil=>exact c U (aY b).b|cons _ _=>exact kh b
def VP{d:kM}{f:List kM}{g:jP}(h:r2 (d::f) e t=V g)(j:∀a b c,e=a::b->mu d a t=V c->r2 f b c=V g->R):R:=by cases e with|nil=>exact kh h|cons a b=>exact(bD.a h).a λc i=>j a b c U i.1 i.2
def VQ{b:List kM}{c:jP}(d:mu (.B b) x t=V c)(e:∀a,x=.E a->r2 b a t=V c->R):R:=by cases x with|E a=>exact e a U d|_=>exact kh d
def LR:∀(k:kM){g:jA}{b c d:jP},mu k g b=V d->kw b c->∃e,mu k g c=V e/\kw d e:=kM.rec (motive_2:=λi=>∀{j:List jA}{b c d:jP},r2 i j b=V d->kw b c->∃e,r2 i j c=V e/\kw d e) (λn {g b c d} a f=>jO _ U<|jL (aY a)<|f.B n g) (λi o {g b c d} a f=>VQ a λj l a=>(o a f).b λe h=>⟨jx l h.1,h.2⟩) (λa f=>VO a λp q=>jO _ (jx p U)<|jx q f) λk i r s {j b c d} a f=>VP a λg w e l t u=>(r t f).a λv h=>(s u h.2).b λx m=>⟨jx l<|bD.b<|jO v h.1 m.1,m.2⟩
def D8(a:kM)(h:Lt kb)(i:cL->Prop)(j:lQ)(b:jT)(c:Nat)(d:jP)(e:jC)(k:kl):=(∀f l,nb a l f->i f)/\∃g m,g m 0 ⟨b,c,d,e⟩/\DE ah a h [] j ⟨b,c,d,e⟩ g (r8 k)
structure oi(c:(cL->Prop)->lQ->Prop)(d:kM)(e:List kb)(f:jT)(g:Nat)(h:jP)(i:jC)(j:kl):Prop where
 A:∃a b,c a b/\D8 d e a b f g h i j
structure yL(c:jA)(d:jC)(e:cL->Prop)(f:lQ):Prop where
 A:∃a b,c=.A a/\d a=V (.B b)/\e=qH/\f=yz a b.length
inductive ky where
 |A|C|L|J|D
 |M(c:Nat)(a:ky)
 |E(h:jA)(a:ky)
 |a_(i:Nat)(a:ky)
 |b_(i:Nat)(a:ky)
 |l_(a:ky)
 |K(a:ky)
 |m_(b:dw)(a:ky)
 |c_(a:ky)
 |n_(b:gh)(a:ky)
 |o_(d:Nat)(a:ky)
 |p_(d:Nat)(a:ky)
 |q_(a:ky)
 |d_(l:cj)(a:ky)
 |r_(e:Nat)(a:ky)
 |e_(d:Nat)(a:ky)
 |G(m:jR)(a:ky)
 |s_(j k:ky)
 |t_(b:gh)(j k:ky)
 |u_(n a:ky)
 |B(c:Nat)(a:ky)
 |v_(o:List kM)(a:ky)
 |f_(e:Nat)(a:ky)
 |g_(a:ky)
 |h_(c:Nat)(a:ky)
 |i_(c:Nat)(b:dw)(a:ky)
 |j_(e:Nat)(a:ky)
 |k_(e:Nat)(b:dw)(a:ky)
 |H(a:ky)
 |I(a:ky)
 |F(h:kb)(a:ky)
 |w_(f:kM)(g:List kb)(a:ky)
 |x_(d:Nat)(f:kM)(g:List kb)(a:ky)
 |y_(f:kM)(g:List kb)(a:ky)
end
section
variable{a x:Type}{b z:List jA}{c u:Nat}{d:jC}{e:List kb}{f Q:List jA → List jA → Prop}{g Z:jP}{i:jT}{j:(Expr → Prop) → lQ → Prop}{k:kl}{l N:Prop}{m:jR}{n:List (jA × jA)}{o T:jP → jC → Prop}{p:Expr → Prop}{q:jF → Prop}{r:Bool}{s:ky}{t:jA}{v:List Bool}{w:Str}{y:kM}{O:lQ}{R:Addr}{S:lk}{W:ko}{X:jF}
instance:Nonempty ky:=⟨.A⟩
abbrev tu:=Lt jA->jP->jC->Prop
def kW(b:Prop)(c:jA->List jA->Prop)(a:List jA):Prop:=eT (motive:=λd=>Prop) b (λe a d=>c e a) a
def nv(a:Prop)(b:jA->jA->List jA->Prop)(c:List jA):Prop:=kW a (λd=>kW a λe=>b d e) c
def qL(a:Prop)(b:jA->jA->jA->List jA->Prop)(c:List jA):Prop:=kW a (λd=>nv a λe=>b d e) c
def oj(c:Prop)(d:List jA->List jA->Prop)(e:Nat)(a b:List jA):Prop:=fj (motive:=λf=>List jA->List jA->Prop) (λa b=>d a b) (λf g a b=>kW c (λh=>g (h::a)) b) e a b
def tv(b:dw)(a c:jA):Op Int:=(nZ a).bind λa=>(nZ c).bind<|AJ b a
def tw(b:jA):Option bB:=jA.rec (motive_1:=λa=>Option bB) (motive_2:=λa=>Option bB) Y lg lg lg (λa a=>Y) lg V Y (λa a a a=>Y) b
abbrev n0(d:tu)(e:List jA)(c:kl):kl:=λf a b=>qF.rec (motive:=λh=>Prop) (d e a b) (c .C a b) (c .D a b) (λg=>c (.B g) a b) f
section
def jY(c:jT)(e:Nat)(d:kl)(q:ky):tu:=ky.rec (motive:=λi=>jT->Nat->kl->tu) (λc e d i f b=>d .A f b) (λc e d i f b=>d .C f b) (λc e d i f b=>d .D f b) (λc e d a f b=>kW False (λh i=>d (.B h) f b) a) (λc e d i i i=>False) (λk i g c e d a f b=>kA False (λh=>g c e d (h::a) f b)<|f k) (λh i g c e d a f b=>g c e d (h::a) f b) (λn i g c e d a f b=>kW False (λh a=>kA False (λj=>g c e d (j::a) f b)<|pw n h b) a) (λn i g c e d a f b=>kW False (λh a=>kA False (λj=>g c e d (j::a) f b)<|pw n h b) a) (λi g c e d a f b=>nv False (λk h a=>kA False (λj=>g c e d (j::a) f b)<|mY h k b) a) (λi g c e d a f b=>qL False (λt l h a=>lD b->∃B C,sI l B/\sI t C/\D1 h B C (λj b=>g c e d (j::a) f b) b) a) (λo i g c e d a f b=>nv False (λj h a=>kA False (A5 b λs b=>g c e d (s::a) f b)<|qJ o h j b) a) (λi g c e d a f b=>kW False (λh a=>kA False (λk=>g c e d (.B (-k)::a) f b)<|nZ h) a) (λo i g c e d a f b=>nv False (λj h a=>yK o h j b λD=>g c e d (.F D::a) f b) a) (λp i g c e d a f b=>nL False (oj False (λr a=>g c e d (.E r::a) f b) p [] a)<|p.ble 1000) (λp i g c e d a f b=>nL False (oj False (λr a=>wR b λu=>g c e d (.A u::a) f<|jE b u<|.A r) p [] a)<|p.ble 1000) (λi g c e d a f b=>wR b λu=>g c e d (.A u::a) f<|jE b u<|.B []) (λE i g c e d a f b=>∃m,mN E m/\g c e d (.G m::a) f b) (λn i g c e d a f b=>kW False (λh a=>kA False (λm=>g c e d (h::.G m::a) f b)<|A6 n h b) a) (λp i g c e d a f b=>oj False (λr a=>kW False (λm a=>kA False (λm=>lz m r c e b λh b=>g c e d (h::a) f b)<|tw m) a) p [] a) (λF i g c e d a f b=>pv F c e f b λh b=>g c e d (h::a) f b) (λi i x y c e d a f b=>kW False (λh a=>kA False (λq=>nL (y c e d a f b) (x c e d a f b) q)<|mv h b) a) (λo i i x y c e d a f b=>nv False (λj h a=>yK o h j b λq=>nL (y c e d a f b) (x c e d a f b) q) a) (λi i G g c e d a f b=>kW False (λh a=>kA False (λq=>nL (g c e d (h::a) f b) (G c e d a f b) q)<|mv h b) a) (λk i g c e d a f b=>kW False (λh a=>g c e d a (f.A k h) b) a) (λH i g c e d a f b=>kW False (λh a=>kA False (λf=>g c e d a f b)<|mu (.B H) h f) a) (λn i g c e d a f b=>nv False (λz h a=>kA False (g c e d a f)<|oP n z h b) a) (λi g c e d a f b=>qL False (λk z h a=>kA False (g c e d a f)<|qK z k h b) a) (λk i g c e d a f b=>kA False (λl=>kA False (λA=>g c e d (.B A::a) f b)<|nZ l)<|f k) (λk o i g c e d a f b=>nv False (λt l a=>kA False (λv=>g c e d a (f.A k<|.B v) b)<|tv o l t) a) (λn i g c e d a f b=>kW False (λs a=>kA False (λj=>kA False (λA=>g c e d (.B A::s::a) f b)<|nZ j)<|pw n s b) a) (λn o i g c e d a f b=>qL False (λt l s a=>kA False (g c e d a f)<|(tv o l t).bind λv=>oP n s (.B v) b) a) (λi g c e d a f b=>kW False (λi a=>g c e d a f b) a) (λi g c e d a f b=>g c e d a f b) (λv i g c e d a f b=>qI v c e f b<|n0 (g c e d) a d) (λw l i g c e d a f b=>kW False (λh a=>oi (m7 c h b) w l c e f b<|n0 (g c e d) a d) a) (λp w l i g c e d a f b=>oj False (λr a=>kW False (λm a=>kA False (λm=>oi (ra c m r b) w l c e f b<|n0 (g c e d) a d)<|tw m) a) p [] a) (λw l i g c e d a f b=>kW False (λh a=>oi (yL h b) w l c e f b<|n0 (g c e d) a d) a) q c e d
end
structure m9 where
 A:ky->ky
 B:ky->ky->ky
structure qk where
 A:ky->ky
 B:ky->ky
 C:ky->ky->ky
 D:ky->ky->ky
noncomputable def n1(a:ky->ky):m9:=⟨a,λb c=>a<|.s_ b c⟩
def LS(c:a)(d:cj->a)(e:jR):a:=jR.rec (motive_1:=λb=>a) (motive_2:=λb=>a) (λb=>c) c (λb=>c) (λb=>c) (λb=>c) d (λb b b=>c) (λb b b b=>c) (λb b b b b b=>c) (λb b b b b=>c) (λb b=>c) (λb b=>c) (λb b b b b=>c) (λb b=>c) (λb b=>c) (λb b b b b b=>c) (λb b=>c) (λb b=>c) (λb b b b=>c) (λb b b b=>c) (λb b b b b=>c) (λb b b b b b b b b=>c) (λb b b b b b b b b b b=>c) (λb b b b b b=>c) (λb b=>c) c (λb b b b=>c) e
def vE(c:Lt a):Nat:=eT (motive:=λb=>Nat) 0 (λb b d=>d+1) c
def oz(c:Lt a):Bool:=eT (motive:=λb=>Bool) aj (λb b b=>ah) c
def yM(b:Lt a):Bool:=(vE b).beq 2
def LU(a:Nat)(c:m9):m9:=n1 λb=>c.A (bif a.beq 13||a.beq 14 then .b_ a b else .a_ a b)
def LV(a b:m9):m9:=n1 λc=>a.A<|b.A<|.l_ c
def LW(a b c:m9):m9:=n1 λd=>a.A<|b.A<|c.A<|.K d
def LX(a:dw)(b c:m9):m9:=n1 λd=>b.A<|c.A<|.m_ a d
def LY(a:jR)(b:m9):m9:=⟨.G<|.e_ a,λc d=>b.B d c⟩
noncomputable def LZ(a:gh)(b c:m9):m9:=⟨λd=>b.A<|c.A<|.n_ a d,λe f=>b.A<|c.A<|.t_ a e f⟩
def L0(a:List jR)(b:qk):m9:=⟨λc=>bif yM a then b.B c else .G (.f_ a) c,b.C⟩
def L1(a:Lt jR)(b:qk):m9:=⟨.G<|.g_ a,b.D⟩
noncomputable def L2(f g h:jR)(b c d:m9):m9:=⟨λa=>b.B (c.A a)<|d.A a,λe e=>.D⟩
def L3(a:Lt jR)(b:qk):m9:=n1 λc=>b.A<|.o_ (vE a) c
def L4(a:Lt jR)(b:qk):m9:=n1 λc=>b.A<|.p_ (vE a) c
def L5(a b:Lt jR):m9:=n1 λc=>bif oz a&&oz b then .q_ c else .G (.L a b) c
def L6(a:jR)(b:Lt jR)(d:qk):m9:=n1 λc=>LS (.G (.H a b) c) (λe=>.d_ e<|d.A<|.e_ (vE b) c) a
def L7(a:Nat)(b:Lt jR)(c:m9)(d:qk):m9:=n1 λe=>c.A<|.r_ a<|d.A<|.e_ (vE b+1) e
def r'(a:jR):m9:=n1<|.G a
def D9:qk:=⟨id,λa=>.D,λb a=>b,λa c=>c⟩
def D'(f:List jR)(a:m9)(c:qk):qk:=⟨λb=>a.A<|c.A b,λb=>bif oz f then a.A b else a.A<|.u_ (c.B b) b,λd e=>a.B (c.C d e) e,λd e=>a.B d<|c.D d e⟩
def mD:jR->m9:=jR.rec (motive_1:=λa=>m9) (motive_2:=λa=>qk) (λd=>n1<|.M d) (n1<|.E .D) (λe=>n1<|.E<|.F e) (λd=>n1<|.E<|.B d) (λl=>n1<|.E<|.C l) (λm=>r'<|.G m) (λa=>LU) (λa a=>LV) (λa a a=>LW) (λf a a=>LX f) (λa g=>n1 λn=>g.A<|.c_ n) LY (λf a a=>LZ f) L0 L1 L2 L3 L4 (λo p a a=>L5 o p) (λq b a g=>L6 q b g) (λa r b=>L7 r b) (λh c s i j k a a a=>r'<|.d_ h c s i j k) (λh c t u i j k a a a a=>r'<|.k_ h c t u i j k) (λv c w x e a=>r'<|.i_ v c w x e) (λb a=>r'<|.l_ b) D9 λa b=>D' b
def L8:List jR->qk:=jR.rec_1 (motive_1:=λa=>m9) (motive_2:=λa=>qk) (λd=>n1<|.M d) (n1<|.E .D) (λe=>n1<|.E<|.F e) (λd=>n1<|.E<|.B d) (λl=>n1<|.E<|.C l) (λm=>r'<|.G m) (λa=>LU) (λa a=>LV) (λa a a=>LW) (λf a a=>LX f) (λa g=>n1 λn=>g.A<|.c_ n) LY (λf a a=>LZ f) L0 L1 L2 L3 L4 (λo p a a=>L5 o p) (λq b a g=>L6 q b g) (λa r b=>L7 r b) (λh c s i j k a a a=>r'<|.d_ h c s i j k) (λh c t u i j k a a a a=>r'<|.k_ h c t u i j k) (λv c w x e a=>r'<|.i_ v c w x e) (λb a=>r'<|.l_ b) D9 λa b=>D' b
def A8(c:kM)(b:jR)(d:ky):ky:=bif LN c b then kM.rec (motive_1:=λa=>ky) (motive_2:=λa=>ky) (λe=>(mD b).A<|.B e d) (λf a=>(mD b).A<|.v_ f d) .D (λa a a a=>.D) c else .F (.A c b) d
def Ea(b:jR):Op<|cj×Lt jR:=jR.rec (motive_1:=λa=>Op<|cj×Lt jR) (motive_2:=λa=>Unit) (λa=>Y) Y (λa=>Y) (λa=>Y) (λa=>Y) (λa=>Y) (λa a a=>Y) (λa a a a=>Y) (λa a a a a a=>Y) (λa a a a a=>Y) (λa a=>Y) (λa a=>Y) (λa a a a a=>Y) (λa a=>Y) (λa a=>Y) (λa a a a a a=>Y) (λa a=>Y) (λa a=>Y) (λa a a a=>Y) (λc d a a=>LS Y (λe=>V (e,d)) c) (λa a a a a=>Y) (λa a a a a a a a a=>Y) (λa a a a a a a a a a a=>Y) (λa a a a a a=>Y) (λa a=>Y) () (λa a a a=>()) b
def Eb(b:jR):Op jR:=jR.rec (motive_1:=λa=>Op jR) (motive_2:=λa=>Unit) (λa=>Y) Y (λa=>Y) (λa=>Y) (λa=>Y) (λa=>Y) (λa a a=>Y) (λa a a a=>Y) (λa a a a a a=>Y) (λa a a a a=>Y) (λa a=>Y) (λa a=>Y) (λa a a a a=>Y) (λa a=>Y) (λa a=>Y) (λa a a a a a=>Y) (λa a=>Y) (λa a=>Y) (λa a a a=>Y) (λa a a a=>Y) (λb c d a a=>bif c.beq 47&&oz d then V b else Y) (λa a a a a a a a a=>Y) (λa a a a a a a a a a a=>Y) (λa a a a a a=>Y) (λa a=>Y) () (λa a a a=>()) b
def yN(b:kM)(a:jR)(c:Lt kb)(d:ky):ky:=dC (motive:=λf=>ky) (dC (motive:=λf=>ky) ((mD a).A<|.w_ b c d) (λa=>(mD a).A<|.y_ b c d)<|Eb a) (λe=>.d_ e.1<|(L8 e.2).A<|.x_ (vE e.2) b c d)<|Ea a
def uC(a:jR)(b:ky):ky:=bif r0 a then b else .D
def A9:kb->ky->ky:=kb.rec (motive_1:=λc=>ky->ky) (motive_2:=λc=>ky->ky) A8 (λf g b a=>uC b<|(mD b).A<|(mD f).A<|.f_ g a) (λf h b a=>uC b<|(mD b).A<|(mD f).A<|(mD h).A<|.g_ a) (λh i b a=>.h_ h<|(mD b).A<|.i_ h i a) (λf g i b a=>(mD f).A<|.j_ g<|(mD b).A<|.k_ g i a) (λb a=>uC b<|(mD b).A<|.H a) (λj c c d e a=>(mD j).B (d<|.I a)<|e<|.I a) (λj d e c c=>.F<|.H j d e) (λk b d e c c a=>bif oz e then yN k b d a else .F (.C k b d e) a) (λc=>.C) (λc=>.L) (λb c=>(mD b).A .J) (λa=>a) (λd b e c c=>.F<|.L d b e) (λc=>.D) (λc=>.D) (λa=>a) λc c d e a=>d<|e a
def VR:Lt kb->ky->ky:=kb.rec_1 (motive_1:=λc=>ky->ky) (motive_2:=λc=>ky->ky) A8 (λf g b a=>uC b<|(mD b).A<|(mD f).A<|.f_ g a) (λf h b a=>uC b<|(mD b).A<|(mD f).A<|(mD h).A<|.g_ a) (λh i b a=>.h_ h<|(mD b).A<|.i_ h i a) (λf g i b a=>(mD f).A<|.j_ g<|(mD b).A<|.k_ g i a) (λb a=>uC b<|(mD b).A<|.H a) (λj c c d e a=>(mD j).B (d<|.I a)<|e<|.I a) (λj d e c c=>.F<|.H j d e) (λk b d e c c a=>bif oz e then yN k b d a else .F (.C k b d e) a) (λc=>.C) (λc=>.L) (λb c=>(mD b).A .J) (λa=>a) (λd b e c c=>.F<|.L d b e) (λc=>.D) (λc=>.D) (λa=>a) λc c d e a=>d<|e a
def kt(a:Lt kb)(b:ky):ky:=eT (motive:=λc=>ky) b (λd c e=>A9 d e) a
structure jX(b:bB)(c:List jA)(d:jT)(e:Nat)(f:jC)(g:jA)(h:jC):Prop where
 G:∀{a:lk},a g h->lz b c d e f a
structure mi(b:jR)(c:jT)(d:Nat)(e:jP)(f:jC)(g:jA)(h:jC):Prop where
 A:∀{a:lk},a g h->pv b c d e f a
structure nw(b:kb)(c:jT)(d:Nat)(e:jP)(f:jC)(g:jP)(h:jC):Prop where
 B:∀{a:kl},a .A g h->qI b c d e f a
structure tx(b:(cL->Prop)->lQ->Prop)(c:kM)(d:List kb)(e:jT)(f:Nat)(g:jP)(h:jC)(i:jP)(j:jC):Prop where
 A:∀{a:kl},a .A i j->oi b c d e f g h a
set_option genCtorIdx true
inductive Ec where
 |A|B|D|E|C
set_option genCtorIdx false
def rD(a b c:Prop)(d:Ec):Prop:=Ec.rec (motive:=λe=>Prop) a b c True True d
def L9(a:jA)(b:jC):Option km:=nY Y Y lg lg lg lg b a
def Ed(a:Nat)(c:Op km):Op bB:=n9 Y (λb=>(LC a).map .builtin) (λb=>(LD a).map .builtin) (λd e=>dC (motive:=λb=>Op bB) ((o6.D d a).map .ref) (λb=>Y)<|sJ e a) c
def Ee(a:Nat)(b:km):Op jA:=n9 Y lg lg (wV a)<|V b
abbrev nn(b:a->Prop)(c:Op a):Prop:=kA True b c
def L'(b:Nat)(f:jA)(c:jC)(d:bB->Prop):Prop:=jA.rec (motive_1:=λa=>Prop) (motive_2:=λa=>Prop) True (λa=>True) (λa=>True) (λg=>nn d<|A6 b (.C g) c) (λa a=>True) (λh=>∀{e},c h=V e->nn d (Ed b<|V e)) (λa=>True) True (λa a a a=>True) f
def yO(a:jA):Option<|Option Int:=nY Y (V Y) lg (λb=>V<|V b) lg lg lg a
def Ef(b:jA)(c:jF->Prop):Prop:=jA.rec (motive_1:=λa=>Prop) (motive_2:=λa=>Prop) True (λa=>True) (λa=>True) (λa=>True) (λa a=>True) c (λa=>True) True (λa a a a=>True) b
def uD(a:jC)(c:km)(d:jA->jC->Prop):=∀b,(lD a->a b=Y)->d (.A b) (jE a b c)
section
variable(a:jT)(d:Nat)(e:kl)(f:Prop)
def Ma(b:bB)(c:Lt jA)(e:jC)(i:jA->jC->Prop)(j:lk):=∀k,rD (∀{g h},jX b c a d e g h->i g h) (lz b c a d e j->f) True k
def vF(b:(cL->Prop)->lQ->Prop)(c:kM)(e:Lt kb)(g:jP)(h:jC)(k:jP->jC->Prop)(l:kl):=∀m,rD (∀{i j},tx b c e a d g h i j->k i j) (oi b c e a d g h l->f) True m
def vG(b:Bool->Prop)(c d e g:Prop):=∀h,Ec.rec (motive:=λi=>Prop) (∀{ξ},b ξ->nL d c ξ) (∀{ξ},b ξ->(ξ=aj->(e->f)->f)->(ξ=ah->(g->f)->f)->f) (∀{a:Prop}[Decidable a],b (ba a)->(a->(e->f)->f)->(¬a->(g->f)->f)->f) (∀{ξ},b ξ->(ξ=aj->c->f)->(ξ=ah->d->f)->f) (∀{a:Prop}[Decidable a],b (ba a)->(a->c->f)->(¬a->d->f)->f) h
def yP(a:jC)(b:jA->jC->Prop)(c:uB):Prop:=uB.rec (motive:=λf=>Prop) (λd=>b d a) (λe=>uD a (.A e) b) c
def mp(k:ky):tu:=ky.rec (motive:=λj=>jT->Nat->kl->Prop->tu) (λa d e f j g c=>e .A g c->f) (λa d e f j g c=>e .C g c->f) (λa d e f j g c=>e .D g c->f) (λa d e f b g c=>kW True (λh j=>e (.B h) g c->f) b) (λa d e f j j j=>True) (λn j i a d e f b g c=>nn (λh=>i a d e f (h::b) g c)<|g n) (λh j i a d e f b g c=>i a d e f (h::b) g c) (λr j i a d e f b g c=>kW True (λh b=>∀{v},L9 h c=V v->nn (λl=>i a d e f (l::b) g c) (Ee r v)) b) (λr j i a d e f b g c=>kW True (λh b=>∀{l},pw r h c=V l->i a d e f (l::b) g c) b) (λj i a d e f b g c=>nv True (λn h b=>∀{l},mY h n c=V l->i a d e f (l::b) g c) b) (λk i a d e f b g c=>∀p,rD (qL True (λw o h b=>nn (λH=>nn (λI=>Ef h λJ=>∀{s},c J=V (.A s)->∀{D},tq H I s=V D->uD c (.A D) λh=>i a d e f (h::b) g)<|yO w)<|yO o) b) (jY a d e (.K k) b g c->f) True p) (λt j i a d e f b g c=>nv True (λl h b=>∀p,rD (nn (yP c λh=>i a d e f (h::b) g)<|qJ t h l c) (∀{E},qJ t h l c=V E->yP c (λh=>i a d e f (h::b) g) E) True p) b) (λj i a d e f b g c=>kW True (λh b=>nn (λn=>i a d e f (.B (-n)::b) g c)<|nZ h) b) (λt j i a d e f b g c=>nv True (λl h b=>∀{p},jW t h l c p->i a d e f (.F p::b) g c) b) (λu j i a d e f b g c=>nL True (oj True (λs b=>i a d e f (.E s::b) g c) u [] b)<|u.ble 1000) (λu j i a d e f b g c=>nL True (oj True (λs b=>uD c (.A s) λh=>i a d e f (h::b) g) u [] b)<|u.ble 1000) (λj i a d e f b g c=>uD c (.B []) λh=>i a d e f (h::b) g) (λK j i a d e f b g c=>∀{q},mN K q->i a d e f (.G q::b) g c) (λr j i a d e f b g c=>kW True (λh b=>L' r h c λq=>i a d e f (h::.G q::b) g c) b) (λu k i a d e f b g c=>oj True (λs b=>kW True (λq b=>nn (λq=>Ma a d f q s c (λh=>i a d e f (h::b) g) λh=>jY a d e k (h::b) g)<|tw q) b) u [] b) (λF k i a d e f b g c=>∀p,rD (∀{l m},mi F a d g c l m->i a d e f (l::b) g m) (pv F a d g c (λh=>jY a d e k (h::b) g)->f) True p) (λx y z A a d e f b g c=>kW True (λh b=>vG f (λk=>mv h c=V k) (z a d e f b g c) (A a d e f b g c) (jY a d e x b g c)<|jY a d e y b g c) b) (λt x y z A a d e f b g c=>nv True (λl h b=>vG f (jW t h l c) (z a d e f b g c) (A a d e f b g c) (jY a d e x b g c)<|jY a d e y b g c) b) (λx y z A a d e f b g c=>kW True (λh b=>vG f (λk=>mv h c=V k) (z a d e f b g c) (A a d e f (h::b) g c) (jY a d e x b g c)<|jY a d e y (h::b) g c) b) (λn j i a d e f b g c=>kW True (λh b=>i a d e f b (g.A n h) c) b) (λL j i a d e f b g c=>kW True (λh b=>nn (λg=>i a d e f b g c)<|mu (.B L) h g) b) (λr j i a d e f b g c=>nv True (λv h b=>∀{m},oP r v h c=V m->i a d e f b g m) b) (λj i a d e f b g c=>qL True (λn v h b=>∀{m},qK v n h c=V m->i a d e f b g m) b) (λn j i a d e f b g c=>nn (λo=>nn (λC=>i a d e f (.B C::b) g c)<|nZ o)<|g n) (λn t j i a d e f b g c=>nv True (λw o b=>∀{χ},tv t o w=V χ->i a d e f b (g.A n<|.B χ) c) b) (λr j i a d e f b g c=>kW True (λh b=>∀{l},pw r h c=V l->nn (λC=>i a d e f (.B C::h::b) g c) (nZ l)) b) (λr t j i a d e f b g c=>qL True (λw o M b=>∀{m},((tv t o w).bind λχ=>oP r M (.B χ) c)=V m->i a d e f b g m) b) (λj i a d e f b g c=>kW True (λj b=>i a d e f b g c) b) (λk i a d e f b g c=>∀p,rD (i a d e f b g c) (jY a d e k b g c->f) True p) (λχ k i a d e f b g c=>∀p,rD (∀{G m},nw χ a d g c G m->i a d e f b G m) (qI χ a d g c (n0 (jY a d e k) b e)->f) True p) (λB o k i a d e f b g c=>kW True (λh b=>vF a d f (m7 a h c) B o g c (i a d e f b)<|n0 (jY a d e k) b e) b) (λu B o k i a d e f b g c=>oj True (λs b=>kW True (λq b=>nn (λq=>vF a d f (ra a q s c) B o g c (i a d e f b)<|n0 (jY a d e k) b e)<|tw q) b) u [] b) (λB o k i a d e f b g c=>kW True (λh b=>vF a d f (yL h c) B o g c (i a d e f b)<|n0 (jY a d e k) b e) b) k a d e f
end
section
def sL{c:Op a}{d e:a->Prop}(f:kA False e c->l)(g:∀b,c=V b->(e b->l)->d b):nn d c:=by cases c with|none=>trivial|some b=>exact g b U f
def oQ{c d:jA->List jA->Prop}(e:kW False d b->l)(f:∀a b,(d a b->l)->c a b):kW True c b:=by cases b with|nil=>trivial|cons a b=>exact f a b e
def vH{e f:jA->jA->List jA->Prop}(a:nv False f b->l)(g:∀c d b,(f c d b->l)->e c d b):nv True e b:=oQ a λc b a=>oQ a λd b a=>g c d b a
def Eg{f g:jA->jA->jA->List jA->Prop}(a:qL False g b->l)(h:∀c d e b,(g c d e b->l)->f c d e b):qL True f b:=oQ a λd b a=>vH a λe c b a=>h d e c b a
def A'(g:∀e a,(Q e a->l)->f e a):∀d (b a:List jA),(oj False Q d b a->l)->oj True f d b a:=fj (λb a c=>g b a c) λd h b a c=>oQ c λi a c=>h _ a c
def Mb{a:Prop}(b:nL False a r->l)(c:(a->l)->N):nL True N r:=by cases r with|false=>trivial|true=>exact c b
def Ba{b:km}{c:jA->jC->Prop}(e:wR d q->l)(f:∀a,(q a->l)->c (.A a) (jE d a b)):uD d b c:=λa g=>f a λh=>e λi=>jO a (g i) h
def Mc{d:Option Int}(a:yO t=V d):sI t d:=nY.A a (λc a=>.inl ⟨c,(aY a).b⟩) (λb b a=>m8 a) (λe c a=>.inr<|jO e c<|(aY a).b) (λb b a=>m8 a) (λb b a=>m8 a) λb b a=>m8 a
def Md{c:Op a}{d:a->Prop}(e:∀b,c=V b->d b):nn d c:=by cases c with|none=>trivial|some b=>exact e b U
def VS(b:∀a,t=.A a->q a):Ef t q:=by cases t with|A a=>exact b a U|_=>trivial
def Eh(a:oi j y e i c g d k->l)(b:∀g d,T g d->k .A g d)(f:∀g d,(T g d->l)->o g d):vF i c l j y e g d o k:=λh=>by cases h with|A=>exact λ{m n} p=>f m n λq=>a<|p.A<|b _ _ q|B=>exact a|_=>trivial
def Ei{k:Bool->Prop}{o g h:Prop}(i:(∃b,k b/\nL h g b)->l)(m:(g->l)->N)(n:(h->l)->o):vG l k N o g h:=by
 intro p;have j:∀b,k b->(b=aj->(g->l)->l)->(b=ah->(h->l)->l)->l:=λb c e f=>by cases b with|true=>exact e U λa=>i<|jO _ c a|false=>exact f U λa=>i<|jO _ c a
 cases p with
 |A=>intro b c;cases b with|true=>exact m λa=>i<|jO _ c a|false=>exact n λa=>i<|jO _ c a
 |B=>exact λ{b} c e f=>j b c e f|D=>exact λ{q} _ c e f=>j _ c (λd=>e<|aF d) λd=>f<|of_decide_eq_false d|E=>exact λ{b} c e f=>j b c (λd a=>e d<|m a) λd a=>f d<|n a|C=>exact λ{q} _ c e f=>j _ c (λd a=>e (aF d)<|m a) λd a=>f (of_decide_eq_false d)<|n a
def Me{b:Op Bool}(c:∃a,b=V a/\nL N l a):kA False (λa=>nL N l a) b:=jU c λa d e=>tt d e
def vI{c:Op a}{d e:a->Prop}(f:kA False e c->l)(g:∀b,(e b->l)->d b):∀{b},c=V b->d b:=λ{b} h=>g b λi=>f<|tt h i
abbrev kU(l:Prop)(d e:tu):=∀a b c,(d a b c->l)->e a b c
section
variable{a e f h:tu}
def VT h(i:kU l a e):kU l (λc b d=>kA False (λf=>a (f::c) b d)<|b h) λc b d=>nn (λf=>e (f::c) b d)<|b h:=λc b d g=>sL g λf j g=>i _ _ _ g
def VU j(m:kU l a e):kU l (λb g c=>kW False (λh b=>kA False (λd=>a (d::b) g c)<|pw j h c) b) λb g c=>kW True (λh b=>∀{i},L9 h c=V i->nn (λd=>e (d::b) g c) (Ee j i)) b:=λb g c f=>oQ f λh b f=>(λ{i} k=>by cases n:Ee j i with|none=>trivial|some d=>exact(λd f=>m _ _ _ f) d λo=>f<|tt (wX k λq p k=>jx p<|(aB (n9 Y lg lg _) k).a n) o)
def VV i(j:kU l a e):kU l (λb g c=>kW False (λh b=>kA False (λd=>a (d::b) g c)<|pw i h c) b) λb g c=>kW True (λh b=>∀{d},pw i h c=V d->e (d::b) g c) b:=λb g c f=>oQ f λh b f=>vI f λd f=>j _ _ _ f
def VW(j:kU l a e):kU l (λb g c=>nv False (λh i b=>kA False (λd=>a (d::b) g c)<|mY i h c) b) λb g c=>nv True (λh i b=>∀{d},mY i h c=V d->e (d::b) g c) b:=λb g c f=>vH f λh i b f=>vI f λd f=>j _ _ _ f
def Mf(a:tu):tu:=λc f b=>qL False (λg h i c=>lD b->∃d e,sI h d/\sI g e/\D1 i d e (λj b=>a (j::c) f b) b) c
def VX(s:kU l a e):kU l (Mf a) λb k f=>∀d,rD (qL True (λp q g b=>nn (λm=>nn (λn=>Ef g λo=>∀{h},f o=V (.A h)->∀{i},tq m n h=V i->uD f (.A i) λg=>e (g::b) k)<|yO p)<|yO q) b) (Mf a b k f->l) True d:=λb k f c d=>by cases d with|A=>exact Eg c λp q g b c=>Md λm t=>Md λn u=>VS λo v {h} w {i} x=>Ba (λj=>c λd=>(j d).a λr j=>lP m n (Mc t) (Mc u)<|.inl<|CR o h i r v w x j.1 j.2) λr c=>s _ _ _ c|B=>exact c|_=>trivial
def Mg(i:kU l a e)(f:uB)(c:A5 d (λj d=>a (j::b) g d) f->l):yP d (λh=>e (h::b) g) f:=by cases f with|A j=>exact i _ _ _ c|B m=>exact Ba (c:=λh=>e (h::b) g) c λn c=>i _ _ _ c
def VY(j:dw)(m:kU l a e):kU l (λb h c=>nv False (λi d b=>kA False (A5 c λn c=>a (n::b) h c)<|qJ j d i c) b) λb h c=>nv True (λi d b=>∀k,rD (nn (yP c λd=>e (d::b) h)<|qJ j d i c) (∀{f},qJ j d i c=V f->yP c (λd=>e (d::b) h) f) True k) b:=λb h c g=>vH g λi d b g k=>by cases k with|A=>exact sL g λf q g=>Mg m f g|B=>exact λ{f} o=>Mg m f λp=>g<|tt o p|_=>trivial
def VZ(i:kU l a e):kU l (λb d f=>kW False (λg b=>kA False (λh=>a (.B (-h)::b) d f)<|nZ g) b) λb d f=>kW True (λg b=>nn (λh=>e (.B (-h)::b) d f)<|nZ g) b:=λb d f c=>oQ c λg b c=>sL c λh j c=>i _ _ _ c
def V0(j:gh)(k:kU l a e):kU l (λb f c=>nv False (λg h b=>yK j h g c λd=>a (.F d::b) f c) b) λb f c=>nv True (λg h b=>∀{d},jW j h g c d->e (.F d::b) f c) b:=λb f c i=>vH i λg h b i {d} m=>k _ _ _ λn=>i<|jO d m n
def V1 d(i:kU l a e):kU l (λb f g=>nL False (oj False (λh b=>a (.E h::b) f g) d [] b)<|d.ble 1000) λb f g=>nL True (oj True (λh b=>e (.E h::b) f g) d [] b)<|d.ble 1000:=λb f g c=>Mb c λc=>A' (λh b c=>i _ _ _ c) _ _ _ c
def V2 f(j:kU l a e):kU l (λb g d=>nL False (oj False (λh b=>wR d λi=>a (.A i::b) g<|jE d i<|.A h) f [] b)<|f.ble 1000) λb g d=>nL True (oj True (λh b=>uD d (.A h) λk=>e (k::b) g) f [] b)<|f.ble 1000:=λb g d c=>Mb c λc=>A' (λh b c=>Ba c λi c=>j _ _ _ c) _ _ _ c
def V3(h:kU l a e):kU l (λc d b=>wR b λf=>a (.A f::c) d<|jE b f<|.B []) λc d b=>uD b (.B []) λi=>e (i::c) d:=λc d b g=>Ba g λf g=>h _ _ _ g
def V4(g:cj)(h:kU l a e):kU l (λc d f=>∃b,mN g b/\a (.G b::c) d f) λc d f=>∀{b},mN g b->e (.G b::c) d f:=λc d f i {b} j=>h _ _ _ λk=>i<|jO b j k
def V5 h(j:kU l a e):kU l (λc i g=>kW False (λf c=>kA False (λd=>a (f::.G d::c) i g)<|A6 h f g) c) λc i g=>kW True (λf c=>L' h f g λd=>e (f::.G d::c) i g) c:=λc i g b=>oQ b λf c b=>(by
 cases f with
 |C o=>exact sL b λd p b=>(λd b=>j _ _ _ b) d b|A q=>exact λ{r} k=>by cases m:Ed h _ with|none=>trivial|some d=>exact(λd b=>j _ _ _ b) d λn=>b<|tt ((aB (Ed h) k).a m) n
 |_=>trivial)
def V6 m(p:kU l a e):kU l (λb j g=>oj False (λk b=>kW False (λf b=>kA False (λf=>lz f k i c g λh g=>a (h::b) j g)<|tw f) b) m [] b) λb j g=>oj True (λk b=>kW True (λf b=>nn (λf=>Ma i c l f k g (λh=>e (h::b) j) λh=>a (h::b) j)<|tw f) b) m [] b:=λb j g d=>A' (λk b d=>oQ d λh b d=>sL d λf t d=>(λq=>by cases q with|A=>exact λ{n o} r=>(λn o d=>p _ _ _ d) n o λs=>d<|r.G s|B=>exact d|_=>trivial)) _ _ _ d
def V7(g:jR)(o:kU l a e):kU l (λf b d=>pv g i c b d λh d=>a (h::f) b d) λf b d=>∀j,rD (∀{k m},mi g i c b d k m->e (k::f) b m) (pv g i c b d (λh=>a (h::f) b)->l) True j:=λf b d n j=>by cases j with|A=>exact λ{k m} p=>o _ _ _ λq=>n<|p.A q|B=>exact n|_=>trivial
def V8(k:kU l a e)(m:kU l f h):kU l (λb d c=>kW False (λi b=>kA False (λj=>nL (f b d c) (a b d c) j)<|mv i c) b) λb d c=>kW True (λi b=>vG l (λj=>mv i c=V j) (e b d c) (h b d c) (a b d c)<|f b d c) b:=λb d c g=>oQ g λi b g=>Ei (λn=>g<|Me n) (λg=>k _ _ _ g) λg=>m _ _ _ g
def V9(k:gh)(m:kU l a e)(n:kU l f h):kU l (λb d c=>nv False (λi j b=>yK k j i c λo=>nL (f b d c) (a b d c) o) b) λb d c=>nv True (λi j b=>vG l (jW k j i c) (e b d c) (h b d c) (a b d c)<|f b d c) b:=λb d c g=>vH g λi j b g=>Ei g (λg=>m _ _ _ g) λg=>n _ _ _ g
def V'(k:kU l a e)(m:kU l f h):kU l (λb d c=>kW False (λg b=>kA False (λj=>nL (f (g::b) d c) (a b d c) j)<|mv g c) b) λb d c=>kW True (λg b=>vG l (λj=>mv g c=V j) (e b d c) (h (g::b) d c) (a b d c)<|f (g::b) d c) b:=λb d c i=>oQ i λg b i=>Ei (λn=>i<|Me n) (λi=>k _ _ _ i) λi=>m _ _ _ i
def Wa h(i:kU l a e):kU l (λb c d=>kW False (λf b=>a b (c.A h f) d) b) λb c d=>kW True (λf b=>e b (c.A h f) d) b:=λb c d g=>oQ g λf b g=>i _ _ _ g
def Wb(h:List kM)(i:kU l a e):kU l (λb c f=>kW False (λg b=>kA False (λc=>a b c f)<|mu (.B h) g c) b) λb c f=>kW True (λg b=>nn (λc=>e b c f)<|mu (.B h) g c) b:=λb c f d=>oQ d λg b d=>sL d λj k d=>i _ _ _ d
def Wc j(k:kU l a e):kU l (λb d f=>nv False (λg h b=>kA False (a b d)<|oP j g h f) b) λb d f=>nv True (λg h b=>∀{i},oP j g h f=V i->e b d i) b:=λb d f c=>vH c λg h b c=>vI c λi c=>k _ _ _ c
def Wd(k:kU l a e):kU l (λb d f=>qL False (λg h i b=>kA False (a b d)<|qK h g i f) b) λb d f=>qL True (λg h i b=>∀{j},qK h g i f=V j->e b d j) b:=λb d f c=>Eg c λg h i b c=>vI c λj c=>k _ _ _ c
def We i(j:kU l a e):kU l (λd b f=>kA False (λg=>kA False (λh=>a (.B h::d) b f)<|nZ g)<|b i) λd b f=>nn (λg=>nn (λh=>e (.B h::d) b f)<|nZ g)<|b i:=λd b f c=>sL c λg k c=>sL c λh k c=>j _ _ _ c
def Wf j(k:dw)(m:kU l a e):kU l (λb f g=>nv False (λh i b=>kA False (λc=>a b (f.A j<|.B c) g)<|tv k i h) b) λb f g=>nv True (λh i b=>∀{c},tv k i h=V c->e b (f.A j<|.B c) g) b:=λb f g d=>vH d λh i b d=>vI d λc d=>m _ _ _ d
def Wg j(m:kU l a e):kU l (λb g d=>kW False (λk b=>kA False (λf=>kA False (λh=>a (.B h::k::b) g d)<|nZ f)<|pw j k d) b) λb g d=>kW True (λi b=>∀{f},pw j i d=V f->nn (λh=>e (.B h::i::b) g d) (nZ f)) b:=λb g d c=>oQ c λi b c=>vI c λf c=>sL c λh n c=>m _ _ _ c
def Wh m(n:dw)(o:kU l a e):kU l (λb d f=>qL False (λg h i b=>kA False (a b d)<|(tv n h g).bind λj=>oP m i (.B j) f) b) λb d f=>qL True (λg h i b=>∀{k},((tv n h g).bind λj=>oP m i (.B j) f)=V k->e b d k) b:=λb d f c=>Eg c λg h i b c=>vI c λk c=>o _ _ _ c
def Wi(g:kU l a e):kU l (λb c d=>kW False (λh b=>a b c d) b) λb c d=>kW True (λh b=>e b c d) b:=λb c d f=>oQ f λi b f=>g _ _ _ f
def Wj(h:kU l a e):kU l a λb c d=>∀f,rD (e b c d) (a b c d->l) True f:=λb c d g f=>by cases f with|A=>exact h _ _ _ g|B=>exact g|_=>trivial
def Wk(b:kb)(o:kU l a e):kU l (λd f g=>qI b i c f g<|n0 a d k) λd f g=>∀h,rD (∀{j m},nw b i c f g j m->e d j m) (qI b i c f g (n0 a d k)->l) True h:=λd f g n h=>by cases h with|A=>exact λ{j m} b=>o _ _ _ λp=>n<|b.B p|B=>exact n|_=>trivial
def Wl(j:kM)(m:List kb)(n:kU l a e):kU l (λb f d=>kW False (λh b=>oi (m7 i h d) j m i c f d<|n0 a b k) b) λb f d=>kW True (λh b=>vF i c l (m7 i h d) j m f d (e b)<|n0 a b k) b:=λb f d g=>oQ g λh b g=>Eh g (λf d (o:a b f d)=>o) λf d g=>n _ _ _ g
def Wm m(n:kM)(o:List kb)(p:kU l a e):kU l (λb h d=>oj False (λj b=>kW False (λg b=>kA False (λg=>oi (ra i g j d) n o i c h d<|n0 a b k)<|tw g) b) m [] b) λb h d=>oj True (λj b=>kW True (λg b=>nn (λg=>vF i c l (ra i g j d) n o h d (e b)<|n0 a b k)<|tw g) b) m [] b:=λb h d f=>A' (λj b f=>oQ f λr b f=>sL f λg s f=>Eh f (λh d (q:a b h d)=>q) λh d f=>p _ _ _ f) _ _ _ f
def Wn(j:kM)(m:List kb)(n:kU l a e):kU l (λb f d=>kW False (λh b=>oi (yL h d) j m i c f d<|n0 a b k) b) λb f d=>kW True (λh b=>vF i c l (yL h d) j m f d (e b)<|n0 a b k) b:=λb f d g=>oQ g λh b g=>Eh g (λf d (o:a b f d)=>o) λf d g=>n _ _ _ g
end
def Mh:∀s,kU l (jY i c k s)<|mp i c k l s:=ky.rec (λd d d e=>e) (λd d d e=>e) (λd d d e=>e) (λd d d e=>oQ e λd d e=>e) (λd d d d=>aH) (λm a b=>VT (a:=jY i c k a) (e:=mp i c k l a) m b) (λx a b y z A e=>b _ _ _ e) (λf a b=>VU (a:=jY i c k a) (e:=mp i c k l a) f b) (λf a b=>VV (a:=jY i c k a) (e:=mp i c k l a) f b) (λa b=>VW (a:=jY i c k a) (e:=mp i c k l a) b) (λa b=>VX (a:=jY i c k a) (e:=mp i c k l a) b) (λg a b=>VY (a:=jY i c k a) (e:=mp i c k l a) g b) (λa b=>VZ (a:=jY i c k a) (e:=mp i c k l a) b) (λg a b=>V0 (a:=jY i c k a) (e:=mp i c k l a) g b) (λn a b=>V1 (a:=jY i c k a) (e:=mp i c k l a) n b) (λn a b=>V2 (a:=jY i c k a) (e:=mp i c k l a) n b) (λa b=>V3 (a:=jY i c k a) (e:=mp i c k l a) b) (λt a b=>V4 (a:=jY i c k a) (e:=mp i c k l a) t b) (λf a b=>V5 (a:=jY i c k a) (e:=mp i c k l a) f b) (λn a b=>V6 (a:=jY i c k a) (e:=mp i c k l a) n b) (λu a b=>V7 (a:=jY i c k a) (e:=mp i c k l a) u b) (λh j o p=>V8 (a:=jY i c k h) (e:=mp i c k l h) (f:=jY i c k j) (h:=mp i c k l j) o p) (λg h j o p=>V9 (a:=jY i c k h) (e:=mp i c k l h) (f:=jY i c k j) (h:=mp i c k l j) g o p) (λh j o p=>V' (a:=jY i c k h) (e:=mp i c k l h) (f:=jY i c k j) (h:=mp i c k l j) o p) (λm a b=>Wa (a:=jY i c k a) (e:=mp i c k l a) m b) (λv a b=>Wb (a:=jY i c k a) (e:=mp i c k l a) v b) (λf a b=>Wc (a:=jY i c k a) (e:=mp i c k l a) f b) (λa b=>Wd (a:=jY i c k a) (e:=mp i c k l a) b) (λm a b=>We (a:=jY i c k a) (e:=mp i c k l a) m b) (λm g a b=>Wf (a:=jY i c k a) (e:=mp i c k l a) m g b) (λf a b=>Wg (a:=jY i c k a) (e:=mp i c k l a) f b) (λf g a b=>Wh (a:=jY i c k a) (e:=mp i c k l a) f g b) (λa b=>Wi (a:=jY i c k a) (e:=mp i c k l a) b) (λa b=>Wj (e:=mp i c k l a) b) (λw a b=>Wk (a:=jY i c k a) (e:=mp i c k l a) w b) (λq r a b=>Wl (a:=jY i c k a) (e:=mp i c k l a) q r b) (λn q r a b=>Wm (a:=jY i c k a) (e:=mp i c k l a) n q r b) λq r a b=>Wn (a:=jY i c k a) (e:=mp i c k l a) q r b
def sa(a:jY i c k s b g d->l):mp i c k l s b g d:=Mh s b g d a
def jN(a:∀{l},mp i c k l s b g d->l):jY i c k s b g d:=a<|Mh s b g d id
end
def vJ(g:jR)(h:m9):Prop:=(∀{b:jT}{c:Nat}{e:kl}{i f d a},jY b c e (h.A i) f d a->kn ah g ⟨b,c,d,a⟩ λl a=>jY b c e i (l::f) d a)/\∀{b:jT}{c:Nat}{e:kl}{j k f d a},jY b c e (h.B j k) f d a->ox ah g ⟨b,c,d,a⟩ λm a=>nL (jY b c e k f d a) (jY b c e j f d a) m
section
variable{a:m9}(b:vJ m a)
def vJ.A:=@b.1
def vJ.B:=@b.2
end
structure Bb(h:List jR)(i:qk):Prop where
 A:∀{b:jT}{c:Nat}{e:kl}{g A d a},jY b c e (i.A g) A d a->oL ah h ⟨b,c,d,a⟩ λn a=>n.length=vE h/\jY b c e g (n.reverseAux A) d a
 D:∀{b:jT}{c:Nat}{e:kl}{g A d a o},h=[o]->jY b c e (i.B g) A d a->kn ah o ⟨b,c,d,a⟩ λl a=>jY b c e g (l::A) d a
 E:∀{b:jT}{c:Nat}{e:kl}{g A d a},yM h=aj->jY b c e (i.B g) A d a->kn ah (.f_ h) ⟨b,c,d,a⟩ λl a=>jY b c e g (l::A) d a
 B:∀{b:jT}{c:Nat}{e:kl}{B k A d a},jY b c e (i.C B k) A d a->ox ah (.f_ h) ⟨b,c,d,a⟩ λm a=>nL (jY b c e k A d a) (jY b c e B A d a) m
 C:∀{b:jT}{c:Nat}{e:kl}{B k A d a},jY b c e (i.D B k) A d a->ox ah (.g_ h) ⟨b,c,d,a⟩ λm a=>nL (jY b c e k A d a) (jY b c e B A d a) m
def pT{g:ky->ky}(k:Au m=aj)(h:∀{b:jT}{c:Nat}{e:kl}{i f d a},jY b c e (g i) f d a->kn ah m ⟨b,c,d,a⟩ λj a=>jY b c e i (j::f) d a):vJ m<|n1 g:=⟨h,λ{b c e l n f d a} o=>R' k<|(h o).A λj a=>LJ (m:=⟨b,c,d,a⟩) (α:=λp a=>nL (jY b c e n f d a) (jY b c e l f d a) p)⟩
def yQ(a:Au m=aj):vJ m<|r' m:=pT a pv.go
theorem Mi:∀(b:List jA) a (c d:List jA),oj l f (La b+a) c (b.reverseAux d)->oj l f a (b++c) d|[],a,c,d,e=>jL (ct a) e|g::b,a,c,d,e=>Mi b (a+1) c (g::d) (jL (cS ..) (jx (dN ..) e))
def yR(d:La b=c)(e:oj l f c []<|b.reverseAux z):f b z:=by have a:=Mi b 0 [] z<|jx (aea ..)<|jx (d ..) e;rw[bQ]at a;exact a
def Mj(a:nL False l r):r=aj/\l:=by cases r with|true=>exact⟨U,a⟩|false=>exact a.elim
def Bc{b:Lt a}(c:oz b=aj):b=[]:=by cases b with|nil=>rfl|cons _ _=>exact lf c
def Wo{b:Lt a}(e:yM b=aj):∃c d,b=[c,d]:=by match b,e with|[c,d],_=>exact m4 c d U
abbrev Mk(d:jT)(e:Nat)(f:kl)(g:ky)(h:jP)(a:jC):List jA->List jA->Prop:=λi b=>kW False (λc b=>kA False (λc=>lz c i d e a λj a=>jY d e f g (j::b) h a)<|tw c) b
def Ml(a:c.ble 1000=aj)(d:La b=c):La b<=1000:=jx d<|bE a
def Mm:Bb [] D9:=⟨λa=>sC ⟨U,a⟩,λb=>a' b jB,λb=>lf b,λa=>HJ (a:=.And) a,λa=>HJ (a:=.Or) a⟩
def Mn{l:List jR}{n:m9}{o:qk}(d:vJ m n)(f:Bb l o):Bb (m::l)<|D' l n o:={
 A:=λ{g h i p j k c} a=>ry<|(d.A a).A λq c b=>(f.A b).A λv c b=>⟨aB ek b.1,b.2⟩
 D:=λ{g h i p j k c r} m a=>by
  cases m
  exact d.A a
 E:=λ{g h i p j k c} m a=>by
  refine pK (Wo m) λw r m=>?_
  cases m
  exact U0<|(d.A a).A λq c b=>LJ<|kA.A b λe s a=>tt s (by
   cases e with
   |true=>exact f.D U a
   |false=>exact a)
 B:=λ{g h i t u j k c} a=>HK (a:=.And) ((d.B a).A λe c b=>by
  cases e with
  |true=>exact f.B b
  |false=>exact b)
 C:=λ{g h i t u j k c} a=>HK (a:=.Or) ((d.B a).A λe c b=>by
  cases e with
  |true=>exact b
  |false=>exact f.C b)}
def ok:∀A,vJ A<|mD A:=jR.rec (λB=>pT U λb=>kA.A b λn J a=>ps J a) (pT U λb=>HF b) (λv=>pT U λb=>R3 b) (λv=>pT U λb=>yq b) (λv=>pT U λb=>As b) (λL=>yQ U) (λl t j=>pT U λ{e d g h i f c} b=>by have m:jY e d g _ i f c->kn ah (.B l t) ⟨e,d,f,c⟩ λn c=>jY e d g h _ f c:=λb=>Di<|(j.A (i:=.a_ t h) b).A λn c a C=>D7 a C;have w:jY e d g _ i f c->kn ah (.B l t) ⟨e,d,f,c⟩ λn c=>jY e d g h _ f c:=λb=>Di<|(j.A (i:=.b_ t h) b).A λn c a C=>D7 a C;cases F:t.beq 13||t.beq 14 with|true=>rw[F]at b;exact w b|false=>rw[F]at b;exact m b) (λl B o p=>pT U λ{e d g h i f c} b=>HH<|(o.A b).A λn c a=>(p.A a).A λx c a M i N=>LG a M i N) (λl X Z o p D=>pT U λ{e d g h i f c} b=>U2<|(o.A b).A λn c a=>(p.A a).A λx c a=>(D.A a).C) (λO y w o p=>pT U λ{e d g h i f c} b=>yr<|(o.A b).A λn c a=>(p.A a).A λx c a=>LI a) (λy j=>pT U λ{e d g h i f c} b=>UB<|(j.A b).A λn c a=>kA.A a λB l a=>jO B (sK l) a) (λy j=>⟨pv.go,λb=>Sa ((j.B b).A λs c a=>by cases s with|true=>exact a|false=>exact a)⟩) (λO y w o p=>⟨λ{e d g h i f c} b=>R7<|(o.A b).A λn c a=>(p.A a).A λx c a=>(LK (m:=⟨e,d,f,c⟩) a).A λn c a=>a.a λs a=>jx a.1 a.2,λ{e d g t v i f c} b=>R8<|(o.A b).A λn c a=>(p.A a).A λx c a=>LK a⟩) (λr j=>⟨λ{e d g h i f c} b=>by have b:jY e d g (bif yM r then qk.B _ h else .G (.f_ r) h) i f c:=b;cases l:yM r with|true=>rw[l]at b;exact j.E l b|false=>rw[l]at b;exact b.go,j.B⟩) (λr j=>⟨pv.go,j.C⟩) (λA y w o p D=>⟨λ{e d g h i f c} b=>Sd ((o.B b).A λs c a=>by cases s with|true=>exact p.A a|false=>exact D.A a),λb=>b.elim⟩) (λr j=>pT U λ{e d g h i f c} b=>Dz ((j.A b).A λu c a=>have m:=Mj a.2;⟨Ml m.1 a.1,yR a.1 m.2⟩)) (λr j=>pT U λ{e d g h i f c} b=>Dy<|((j.A b).A λu c a s=>have m:=Mj a.2;(⟨aX (Ml m.1 a.1) jB,(yR a.1 m.2) s⟩:La u<=16777216/\∃E,c E=Y/\jY e d g h (.A E::i) f _)).B) (λP u q q=>pT U λ{e d g h i f c} b=>by cases l:oz P&&oz u with|true=>rw[l]at b;have m:=kB l;exact jx (Bc m.1)<|jx (Bc m.2)<|kn.B λs=>(b s).a λE m=>Uv m.1 m.2|false=>rw[l]at b;exact b.go) (λz r q j=>pT U λ{e d g h i f c} b=>by cases z with|G L=>exact jU b λz H Q=>S4 H.A H.B<|(j.A Q).A λu c a=>(yR (f:=Mk e d g h f c) a.1 a.2).go|_=>exact pv.go b) (λl α r o p=>pT U λ{e d g h i f c} b=>S6 ((o.A b).A λn c a=>kA.A a λz R a=>have m:=VL (m:=⟨e,d,f,c⟩) R;(lP z [n] m.1 m.2<|(p.A a).A λu c a=>(yR (f:=Mk e d g h f c) (b:=n::u) (aB ek a.1) a.2).go))) (λd I β S T W q q q=>yQ U) (λd I γ δ S T W q q q q=>yQ U) (λε I ζ η v q=>yQ U) (λr q=>yQ U) Mm λl r o p=>Mn o p
def Wp:∀a,Bb a<|L8 a:=eT Mm λb a c=>Mn (ok b) c
abbrev Ej(h:kb)(i:ky->ky):=∀{a:jT}{b:Nat}{c:kl}{d e f g},jY a b c (i d) e f g->nA ah h ⟨a,b,f,g⟩ (r8<|n0 (jY a b c d) e c)
abbrev Mo(g:Lt kb)(h:ky->ky):=∀{a:jT}{b:Nat}{c:kl}{k d e f},jY a b c (h k) d e f->mM ah g ⟨a,b,e,f⟩ (r8<|n0 (jY a b c k) d c)
def Bd{b d e}(a:jY i c k (uC m s) b d e):r0 m=aj/\jY i c k s b d e:=by unfold uC at a;cases f:r0 m with|true=>rw[f]at a;exact⟨U,a⟩|false=>rw[f]at a;exact a.elim
def Mp{g:ky}{d}(j:∀{a b},jY i c k s d a b->mM ah e ⟨i,c,a,b⟩ (r8<|n0 (jY i c k g) d k))(f:qF)(a:jP)(b:jC)(h:n0 (jY i c k s) d k f a b):Ie ah e (r8<|n0 (jY i c k g) d k) f ⟨i,c,a,b⟩:=by cases f with|A=>exact j h|_=>exact h
def Wq(c:kM)(b:jR):Ej (.A c b)<|A8 c b:=λ{j k l m n f g} a=>by unfold A8 at a;cases d:LN c b with|false=>rw[d]at a;exact qI.go a|true=>rw[d]at a;have e:=kB d;cases c with|A o=>exact Tn e.1<|(ok b).A a|B p=>exact Tp e.1 e.2<|((ok b).A a).A λq g a=>kA.A a λf h i=>jO f h i
def Ek(a:oi j y e i c g d k):∃f h,j f h/\∃b l,(∀n o,nb y o n->f n)/\b l 0 ⟨i,c,g,d⟩/\DE ah y e [] h ⟨i,c,g,d⟩ b (r8 k):=a.A.b λf a=>a.b λh a=>⟨a.1,a.2.2.a λb m=>m.a λl m=>ms b l a.2.1 m⟩
theorem Wr{a:cj×Lt jR}(b:Ea m=V a):m=.H (.G a.1) a.2:=by
 revert m a;apply od;generalize lX.1=m,lX.2=a;intros;cases m with
 |H c d=>cases c with|G e=>exact jL (aY b) U|_=>exact kh b
 |_=>exact kh b
def Ws{b:jR}(a:Eb m=V b):m=.F b 47 []:=by cases m with|F m e f=>exact rd a λd a=>have c:=kB d;bA c.1▸Bc c.2▸aY a▸U|_=>exact kh a
theorem Wt(e:kM)(a:jR)(f:List kb):Ej (.C e a f [])<|yN e a f:=by revert e a f;apply q3;generalize mj.1.1=e,mj.1.2=a,mj.2=f;exact λ{q r s t u v g} b=>AK (by unfold yN at b;cases h:Ea a with|some k=>rw[h]at b;exact jx (Wr h)<|b.a λw d=>DL d.1.A d.1.B<|((Wp k.2).A d.2).A λx g c=>Ek<|yR c.1 c.2|none=>rw[h]at b;cases i:Eb a with|none=>rw[i]at b;exact wF<|((ok a).A b).A λl g c=>Ek c|some m=>rw[i]at b;exact jx (Ws i)<|TU (((ok m).A b).A λl g c=>(Ek c).a λy d=>jU d λz n o=>n.A.a λA j=>j.a λB j=>by refine ka λp=>?_;obtain⟨rfl,a,rfl,rfl⟩:=j;exact p<|lP _ _ U (λC=>IV a PySem.F.slot_dict_items PySem.F.type_dict_items)<|sC<|ms _ _ (T5 a) o))
def Wu:∀d,Ej d<|A9 d:=kb.rec (motive_2:=λs=>Mo s<|VR s) Wq (λo w c {h i j e l m b} a=>have a:=Bd a;Ig a.1 (((ok c).A a.2).A λp b a=>((ok o).A a).A λf b a=>kA.A a λE a q=>(LO a).b λx a=>a.b λy a=>a.b λz a=>by exact lY a.1 a.2.1 a.2.2.1 a.2.2.2.1 a.2.2.2.2.1<|jx a.2.2.2.2.2 q)) (λo A c {h i j e l m b} a=>have a:=Bd a;Ih a.1 (((ok c).A a.2).A λp b a=>((ok o).A a).A λf b a=>((ok A).A a).A λX b a=>VN a)) (λA F c {h i j e l m b} a=>kA.A a λf t a=>kA.A a λf G a=>Tu (jL (sK G) t)<|((ok c).A a).A λp b a=>kA.A a λd H q=>(bD.a (show(nZ p).bind _=V d from H)).a λg B=>lP g d (sK B.1) B.2 q) (λo w F c {h i j e l m b} a=>Tv<|((ok o).A a).A λZ b u=>kA.A u λα C I=>wX C λx D β=>jO x D λJ=>D7 (tt C<|kA.A I λf t K=>jO f (sK t)<|((ok c).A K).A λp b a=>kA.A a λE a q=>VM a λd a u=>(bD.a (show(nZ p).bind _=V d from a)).a λg r=>(LO u).a λγ a=>a.a λy a=>CO a λz L M N O P Q=>Q7 g d y z (sK r.1) r.2 (by cases D.b.a L;exact mS M N O P<|jx Q q)) J) (λc {h i j e l m b} a=>have a:=Bd a;If (λδ w n=>r1 a.1 n) ((ok c).A a.2)) (λd f g R S {h i j e l m b} a=>Ti (((ok d).B a).A λn b a=>by cases n with|true=>exact R (k:=.I e) a|false=>exact S (k:=.I e) a)) (λd f g v v=>qI.go) (λn c f g _ _ {h i j e l m b} a=>by cases r:oz g with|true=>rw[Bc r]at a⊢;exact Wt n c f a|false=>have a:jY h i j (bif oz g then yN n c f e else .F (.C n c f g) e) l m b:=a;rw[r]at a;exact qI.go a) (λa=>Tg a) (λa=>Th a) (λc {h i j e l m b} a=>Te<|(ok c).A a) (λa=>Tf a) (λf c g v v=>qI.go) (λa=>a.elim) (λa=>a.elim) (λa=>uq a) λd s T W {h i j e l m b} a=>yv<|nA.A (T a)<|Mp W
def sM:∀ξ,Mo ξ<|kt ξ:=eT (λa=>uq a) λb ξ c {d e f g h i j} a=>yv<|nA.A (Wu b a)<|Mp c
abbrev sb(a:lk):kl:=λc d b=>qF.rec (motive:=λd=>Prop) (a .D b) False False (λe=>a e b) c
abbrev Wv(a:lk):kl:=λb c d=>qF.rec (motive:=λc=>Prop) False False False (λe=>a e d) b
abbrev nB(a:jR)(b:jT)(c:Nat)(d:jP)(e:jC)(f:lk):Prop:=jY b c (Wv f) ((mD a).A .J) [] d e
def nC{a b c d e}(f:nB m a b c d e):kn ah m ⟨a,b,c,d⟩ e:=(ok m).A f
def sN(a:mM ah e W<|r8<|n0 (jY i c k .A) b k):mM ah e W<|r8 k:=a.B λd g h f=>by cases d<;>exact f
abbrev lV(f:a->Prop)(c:a->jP×jC)(g:kl):kl:=λh d e=>qF.rec (motive:=λj=>Prop) (∃b,f b/\kw (c b).1 d/\e=(c b).2) (g .A d e) (∃b,f b/\kw (c b).1 d/\e=(c b).2) (λi=>g (.B i) d e) h
def lh{e:a->Prop}{c:a->jP×jC}(b:a)(f:e b)(h:kw (c b).1 g)(i:d=(c b).2):∃b,e b/\kw (c b).1 g/\d=(c b).2:=kT b f h i
def El{e:ko->Prop}(f:∀a b,o a b->e (W.F a b))(d:qF)(a:jP)(b:jC)(c:qF.rec (motive:=λh=>Prop) (o a b) (k .A a b) (o a b) (λg=>k (.B g) a b) d):DC e (r8 k) d<|W.F a b:=by cases d with|A=>exact f a b c|D=>exact f a b c|C=>exact c|B g=>exact c
section
def wZ(j:Nat->a->Prop)(h:Nat->a->jP×jC)(m:Nat->a->Option jA) n(o:a)(D:j 0 o)(E:kw (h 0 o).1 g)(F:d=(h 0 o).2)(G:∀v H,nb y H v->p v) (I:∀b f,j b f->O b (h b f).2=V (m b f)) (J:∀b f l,j b f->m b f=V l->b<n) (K:∀b f l,j b f->m b f=V l->kA False (λw=>jY i c (lV (j<|b+1) (h<|b+1) k) (kt e .A) [] w (h b f).2) (mu y l (h b f).1)) (L:∀b f,b<=n->j b f->m b f=Y->k .A (h b f).1 (h b f).2):D8 y e p O i c g d k:=by
 refine⟨G,λq b x=>q+b=n/\∃f,j b f/\kw (h b f).1 x.E/\x.A=(h b f).2,n,⟨U,o,D,E,F⟩,λq b R S ⟨s,f,r,z,t⟩=>kT (m b f) ?_ (λM=>?_) λl A=>?_⟩;.exact(aB _ t).a<|I b f r
 .subst t;exact(uq<|L b f (kg s<|cM b q) r M:mM ah [] ⟨i,c,(h b f).1,(h b f).2⟩ _).A z
 .have B:=J b f l r A;subst t;exact kA.A (K b f l r A) λw N P=>(LR y N z).b λT C=>⟨C.1,(mM.A (sN<|sM e P) C.2).B λQ g d u=>El (λg d u=>kT (q-1) (uf s B).1 (uf s B).2 u) Q g d u⟩
abbrev uE(g:jP)(d:jC):kl:=λc a b=>qF.rec (motive:=λe=>Prop) (kw g a/\b=d) False (kw g a/\b=d) (λe=>False) c
def Em(b:List jA)(h:jP)(f:Nat->jC)(z:d=f 0)(E:∀r F,nb y F r->p r)(G:kw h g)(H:∀a,a<=La b->O a (f a)=V b[a]?) (I:∀a l,b[a]?=V l->kA False (λs=>jY i c (uE h<|f<|a+1) (kt e .A) [] s<|f a) (mu y l h)) (J:k .A h<|f (La b)):D8 y e p O i c g d k:=by
 refine⟨E,λm a t=>m+a=La b/\kw h t.E/\t.A=f a,La b,lj U G z,λm a S T K=>K.elim λo L=>L.elim λu q=>kT (b[a]?) ?_ (λM=>?_) λl v=>?_⟩;.exact(aB _ q).a<|H a<|kg o<|cM a m
 .have N:=cC (hC<|(ck ..).a o)<|bz.a M;subst N;subst q;exact(uq J:mM ah [] ⟨i,c,h,f (La b)⟩ _).A u
 .have w:=(ag.a v).1;subst q;exact kA.A (I a l v) λs P Q=>(LR y P u).b λW n=>⟨n.1,(mM.A (sN<|sM e Q) n.2).B λR g d j=>by have n:∀{g d},kw h g/\d=f _->∃x,x<m/\x+(a+1)=La b/\kw h g/\d=f (a+1):=λj=>kT (m-1) (uf o w).1 (uf o w).2 j;cases R with|A=>exact n j|D=>exact n j|C=>exact j.elim|B l=>exact j.elim⟩
section
def sO(c:d X=V (.A b)) a:yx X a d=V b[a]?:=aB (λe=>(q' e).map _) c
def Mq(b:d X=V (.B n)) a:AO X (La n) a d=V ((n.map (·.1))[a]?):=by unfold AO;refine jx b<|jx (ax) ?_;show(bif(La n).beq (La n)then _ else _)=_;exact jx (dp ..) U
def Ww(c:d X=V (.B n)) a:yz X (La n) a d=V ((n.map λb=>r4 b.1 b.2)[a]?):=by unfold yz;refine jx c<|jx (ax) ?_;show(bif(La n).beq (La n)then _ else _)=_;exact jx (dp ..) U
def uF(b:List jA):List jA:=b.mapIdx λa c=>r4 (.B a) c
def Be(a:O c d=V b[c]?):wK O c d=V ((uF b)[c]?):=by unfold wK uF;simp only[a,gk];rfl
def Wx(c a:Nat):yy c a d=V (((be c).map λ(a:Nat)=>jA.B a)[a]?):=by
 unfold yy;rw[ax];by_cases b:a<c;.rw[aC b,bp b];rfl
 .rw[aA b,cx<|jx bX<|cv b];rfl
abbrev Bf(y:kM)(e:List kb)(i:jT)(c:Nat)(Z:jP)(d:Nat->jC)(b:List jA):=∀a f,b[a]?=V f->kA False (λg=>jY i c (uE Z<|d<|a+1) (kt e .A) [] g<|d a) (mu y f Z)
def Mr{g:List a}{h:a->jA}{f:Nat->jC}(k:∀b d,g[b]?=V d->kA False (λl=>jY i c (uE Z<|f<|b+1) (kt e .A) [] l<|f b) (mu y (h d) Z)):Bf y e i c Z f<|g.map h:=λb n m=>(bO.a<|(ax ..).b.a m).a λd j=>jL j.2<|k b d j.1
def Ms(a:Nat->jC)(h:d=a 0)(j:∀f,f<=La b->a f X=V (.A b))(k:kw Z g)(l:Bf y e i c Z a b):tx (m7 i (.A X) d) y e i c g d Z<|a (La b):=⟨λm=>⟨_,_,vz<|jx h<|j 0<|bT _,Em b Z a h (pR y) k (λf n=>sO (j f n) f) l m⟩⟩
def o7{h:Lt a}{j:a->jA}(f:Nat->jC)(l:d=f 0)(m:∀b,f b X=V (.A<|h.map j))(n:kw Z g) (o:∀b k,h[b]?=V k->kA False (λp=>jY i c (uE Z<|f<|b+1) (kt e .A) [] p<|f b) (mu y (j k) Z)):tx (m7 i (.A X) d) y e i c g d Z<|f (La h):=⟨λq=>(Ms f l (λb r=>m b) n<|Mr o).A<|jL (ab j).b q⟩
def Wy(a:Nat->jC)(f:d=a 0)(h:kw Z g)(j:Bf y e i c Z a b):tx (m7 i (.E b) d) y e i c g d Z<|a (La b):=⟨λk=>⟨_,_,AM,Em b Z a f (pR y) h (λl m=>U) j k⟩⟩
def Mt(a:Nat->jC)(j:d=a 0)(k:∀f,a f X=V (.A b))(l:kw Z g)(m:∀h n,nb y n h->qH h)(h:Bf y e i c Z a<|uF b):tx (ra i (.type "enumerate") [.A X] d) y e i c g d Z<|a (La b):=⟨λo=>⟨_,_,DM<|jx j<|k 0,Em _ Z a j m l (λf p=>Be<|sO (k f) f) h<|jL (hE).b o⟩⟩
def oR{b:a->x}{d:List a}{f:x}(h:(d.map b)[c]?=V f)(i:∀e,d[c]?=V e->b e=f->l):l:=(bO.a<|(ax ..).b.a h).a λe g=>i e g.1 g.2
def w0{b:a->x}{d:Lt a}(e:(d.map b)[c]?=Y):La d<=c:=jL (ab b)<|bz.a e
def En{t:x->jA}(j:Nat->a->Prop)(h:Nat->a->jP×jC)(o:Nat->a->List x) p(m:a)(u:j 0 m)(z:kw (h 0 m).1 g)(v:d=(h 0 m).2)(w:∀b f,j b f->(h b f).2 X=V (.A<|(o b f).map t))(A:∀b f,j b f->b<La (o b f)->b<p) (B:∀b f n,j b f->(o b f)[b]?=V n->kA False (λC=>jY i c (lV (j<|b+1) (h<|b+1) k) (kt e .A) [] C (h b f).2) (mu y (t n) (h b f).1)) (D:∀b f,b<=p->j b f->La (o b f)<=b->k .A (h b f).1 (h b f).2):oi (m7 i (.A X) d) y e i c g d k:=⟨_,_,vz<|jx v<|w 0 m u,wZ j h (λb f=>_[b]?) p m u z v (pR y) (λb f l=>sO (w b f l) b) (λb f E l q=>oR q λn r G=>A b f l (ag.a r).1) (λb f E l q=>oR q λn r s=>jL s<|B b f n l r) λb f l F s=>D b f l F<|w0 s⟩
def nT{j:Lt x}{p:x->jA}(l:Nat->a->Prop)(h:Nat->a->jP×jC)(m:a)(r:l 0 m)(s:kw (h 0 m).1 g)(t:d=(h 0 m).2)(u:∀f b,l f b->(h f b).2 X=V (.A<|j.map p)) (v:∀f b q,l f b->j[f]?=V q->kA False (λw=>jY i c (lV (l<|f+1) (h<|f+1) k) (kt e .A) [] w (h f b).2) (mu y (p q) (h f b).1)) (z:∀b,l (La j) b->k .A (h (La j) b).1 (h (La j) b).2):oi (m7 i (.A X) d) y e i c g d k:=En l h (λn n=>j) (La j) m r s t u (λn n n o=>o) v λf b o A B=>by obtain rfl:f=La j:=cC o B;exact z b A
def uG{j:List x}{u:x->jA}(l:Nat->a->Prop)(h:Nat->a->jP×jC)(n:a)(v:l 0 n)(B:kw (h 0 n).1 g)(w:d=(h 0 n).2)(z:∀b f,l b f->∃o,(h b f).2 X=V (.B o)/\o.map (·.1)=j.map u) (C:∀b f p,l b f->j[b]?=V p->kA False (λD=>jY i c (lV (l<|b+1) (h<|b+1) k) (kt e .A) [] D (h b f).2) (mu y (u p) (h b f).1)) (E:∀f,l (La j) f->k .A (h (La j) f).1 (h (La j) f).2):oi (m7 i (.A X) d) y e i c g d k:=(z 0 n v).a λF A=>⟨_,_,IC<|jx w A.1,wZ l h (λb G=>_[b]?) (La j) n v B w (pR y) (λb f m=>(z b f m).a λo r=>by
 have q:La F=La o:=by rw[<-ab,<-ab (as:=o),A.2,r.2]
 exact jx q<|(Mq r.1 b).a<|jx r.2 U) (λb f H m s=>oR s λp t G=>(ag.a t).1) (λb f H m s=>oR s λp t q=>jL q<|C b f p m t) λb f m I q=>by obtain rfl:b=La j:=cC m<|w0 q;exact E f I⟩
end
end
abbrev sP(f:a->Prop)(c:a->jP×jC)(g:a->Prop)(h:kl):kl:=λi d e=>qF.rec (motive:=λk=>Prop) (∃b,f b/\g b/\kw (c b).1 d/\e=(c b).2) (h .A d e) (∃b,f b/\g b/\kw (c b).1 d/\e=(c b).2) (λj=>h (.B j) d e) i
section
def sQ(n:a->Prop)(f:a->jP×jC)(o:a->Nat)(p:a)(v:n p)(w:kw (f p).1 g)(x:d=(f p).2) (y:∀b,n b->jY i c (sP n f (λh=>o h<o b) k) ((mD m).B (kt e .A) .C) [] (f b).1 (f b).2):qI (.H m e []) i c g d k:=⟨Iq (λs t=>∃b,n b/\s=o b/\kw (f b).1 t.E/\t.A=(f b).2) (λs Q R z=>oe z λb A B q C=>by subst C;subst B;refine λD h E F G H I l K=>(((ok m).B<|y b A).A λr d j=>?_) D h E F G H I ⟨l.A,l.B.L q⟩ λr d L M j N u=>K r d L M j ⟨N.A,l.B.C u.B⟩ u;cases r with|false=>exact mM.A (uq j) q|true=>exact(mM.A (sN<|sM e j) q).B λO g d j=>El (o:=λg d=>∃h,n h/\o h<o b/\kw (f h).1 g/\d=(f h).2) (λg d j=>j.a λP l=>⟨_,l.2.1,P,l.1,U,l.2.2⟩) O g d j) _<|nQ p v U w x⟩
end
def sc{b:a->Prop}{c:a->jP×jC}{e:a->Prop}(f:k .A g d):sP b c e k .C g d:=f
def mE(e:∀{a},mp i c k a s b g d->a):n0 (jY i c k s) b k .A g d:=jN e
def Wz{r:List kb}(s:nB m i c g d λh f=>h=.E (t::b)/\f=d)(u:mu y t g=V Z)(v:jY i c (λj k f=>j=.C/\k=Z/\f=d) (kt e .A) [] Z d):nw (.C y m e r) i c g d Z d:=⟨λ{x} l=>⟨AK<|wF<|(nC s).A λh f n=>⟨r3,sG _,jx n.1 AM,λz o p=>o=0/\p.E=g/\p.A=d,0,pR y,lj U U n.2,λA o k q a=>⟨V t,jx a.1 U,λa=>a' a jB,λh w=>⟨Z,aY w▸jx (show k=g from a.2.1) u,by obtain rfl:q=d:=a.2.2;exact(sN<|sM e v).B λj g d l=>by obtain⟨rfl,rfl,rfl⟩:=(show j=.C/\g=Z/\d=q from l);assumption⟩⟩⟩⟩⟩
structure mn(c:bk)(d:Nat)(e:List jA)(f:List kb):Prop where
 A:∃a b,o4 c a b f/\AU a b d e
section
variable{a:bk}
def Mu(a:qF)(b:ko)(c:r8 (sb S) a b):I4 S a b:=by cases a<;>exact c
def Eo(f:mn R c b e)(h:La z=c)(j:∀a k,jY (i.C a k) u (sb S) (kt e .A) [] (lv<|z++b) d):wO ah (.ref R) z ⟨i,u+1,g,d⟩ S:=f.A.a λl m=>jU m λp n o=>I5 n (jx h o) U λa=>(sN<|sM e<|j a l.code).C Mu
def Ep(a:mn R c b e)(f:La z=c)(g:∀h j,jY (i.C h j) u (sb S) (kt e .A) [] (lv<|z++b) d):lz (.ref R) z i (u+1) d S:=⟨DX<|Eo a f g⟩
def mZ(a:mn R c b e)(f:La z=c)(g:∀i,jY i u (sb S) (kt e .A) [] (lv<|z++b) d):lz (.ref R) z i (u+1) d S:=Ep a f λh h=>g _
structure Bg(R:bk)(c:Nat)(e:List kb)(d:bk):Prop where
 A:∃a b,o4 R a b e/\AU a b c []/\a.code=.ref d
def sR(a R:bk):=adJ kH a=aj/\dk kH (.ref a) "__init__"=V (V<|.ref R)/\iK kH (.ref R)=V (.type "function")
section
variable{a R:bk}(f:sR a R)
def sR.A:=f.1
def sR.B:=f.2.1
def sR.C:=f.2.2
end
def yS(g:sR a R)(h:mn R c b e)(f:jF)(j:d f=Y)(k:La z+1=c)(l:∀i,jY i u (sb λm d=>m=.D/\S (.A f) d) (kt e .A) [] (lv (.A f::z++b))<|jE d f<|.C a []):lz (.ref a) z i (u+2) d S:=⟨DX<|UP g.A g.B g.C j U<|Eo h k λn n=>l _⟩
end
section
variable{a:jF}{e f g:jA}{h j:Int}
def jX.D(a:d X=V (.A b)):jX (.builtin "len") [.A X] i c d (.B (La b)) d:=⟨λe=>⟨Uj a e⟩⟩
def jX.K:jX (.builtin "len") [.E b] i c d (.B (La b)) d:=⟨λa=>⟨Uk a⟩⟩
def jX.f_(a:Ld w<=16777216):jX (.builtin "len") [.C w] i c d (.B (Ld w)) d:=⟨λb=>⟨Ul a b⟩⟩
def jX.g_(a:d X=V (.B n)):jX (.builtin "len") [.A X] i c d (.B (La n)) d:=⟨λb=>⟨Um a b⟩⟩
def jX.L(a:d X=V (.E b)):jX (.builtin "len") [.A X] i c d (.B (La b)) d:=⟨λe=>⟨Ux a e⟩⟩
def jX.A(a:d X=V (.A b))(f:La b<16777216):jX (.builtin "list.append") [.A X,e] i c d .D<|jE d X<|.A<|b++[e]:=⟨λg=>⟨Un a f g⟩⟩
def jX.h_(a:d X=V (.A b))(f:b[La b-1]?=V e):jX (.builtin "list.pop") [.A X] i c d e<|jE d X<|.A<|b.eraseIdx<|La b-1:=⟨λg=>⟨Uo a f g⟩⟩
def jX.H(a:d X=V (.A b))(f:b[u]?=V e):jX (.builtin "list.pop") [.A X,.B u] i c d e<|jE d X<|.A<|b.eraseIdx u:=⟨λg=>⟨Up a f g⟩⟩
def jX.i_(a:d X=V (.A b))(f:u<=La b)(g:La b<16777216):jX (.builtin "list.insert") [.A X,.B u,e] i c d .D<|jE d X<|.A (Ll u b++e::Lm u b):=⟨λh=>⟨Uq a f g h⟩⟩
def jX.M(a:d X=V (.B n))(b:kP t=aj)(f:kj n t=V e):jX (.builtin "dict.get") [.A X,t] i c d e d:=⟨λg=>⟨I1 a b<|jL f.b g⟩⟩
def jX.C(a:d X=V (.B n))(b:kP t=aj)(f:(kj n t).getD g=e):jX (.builtin "dict.get") [.A X,t,g] i c d e d:=⟨λh=>⟨Uu a b<|jL f.b h⟩⟩
def jX.B(a:d X=V (.B n))(b:kP t=aj)(f:(kj n t).getD .D=e):jX (.builtin "dict.get") [.A X,t] i c d e d:=⟨λg=>⟨I1 a b<|jL f.b g⟩⟩
def jX.I(a:d X=V (.A b)):jX (.type "tuple") [.A X] i c d (.E b) d:=⟨λe=>⟨Ur a e⟩⟩
def jX.a_(a:IZ d e b)(f:d X=Y):jX (.type "list") [e] i c d (.A X)<|jE d X<|.A b:=⟨λg=>⟨Us a f g⟩⟩
def jX.j_:jX (.builtin "min") [.B h,.B j] i c d (.B (if j<h then j else h)) d:=⟨λa=>⟨Ut a⟩⟩
def jX.b_(a:d X=Y):jX (.type "set") [] i c d (.A X)<|jE d X<|.E []:=⟨λb=>⟨Uw a b⟩⟩
def jX.k_{b:Lt Int}(e:d a=V (.A<|b.map .B))(f:Le b)(g:b≠[])(h:La b<4000)(j:d X=Y):jX (.type "set") [.A a] i c d (.A X)<|jE d X<|.E<|b.map .B:=⟨λk=>⟨UA e f g h j k⟩⟩
def jX.l_(a:d X=V (.A<|v.map .F)):jX (.builtin "all") [.A X] i c d (.F<|v.all id) d:=⟨λb=>⟨U3 a b⟩⟩
def jX.m_(a:d X=V (.A<|v.map .F)):jX (.builtin "any") [.A X] i c d (.F<|v.any id) d:=⟨λb=>⟨U4 a b⟩⟩
def jX.n_{a:Lt cj}(b:adG ((Lc a).foldl (· +·.length+Ld w) 0)=ah)(e:Ld (tp w a)<=gE):jX (.builtin "str.join") [.C w,.E<|a.map .C] i c d (.C<|tp w a) d:=⟨λf=>⟨UE b e f⟩⟩
def jX.E{a:bB}{e:jC}(f:lD d->jX a b i c d t e):jX a b i c d t e:=⟨λg=>lz.A λh=>(f h).G g⟩
variable{k m:jA}{o:gh}{p q:Lt (jA×jA)}
def jW.H:jW .Lt (.B h) (.B j) d<|ba<|h<j:=⟨λb a=>SE a⟩
def jW.K:jW .Gt (.B h) (.B j) d<|ba<|j<h:=⟨λb a=>SF a⟩
def jW.M:jW .GtE (.B h) (.B j) d<|ba<|j<=h:=⟨λb a=>SG a⟩
def jW.A{a:Bool}(b:jW o k m d r)(c:r=a):jW o k m d a:=kg c b
def jW.B{c:Decidable l}[Decidable N](a:jW o k m d<|ba l)(b:l↔N):jW o k m d<|ba N:=a.A<|aS.b b
def jW.C(a:kP k=aj)(b:kP m=aj):jW .Eq k m d<|ba<|k=m:=⟨λe c=>H2 (AD a) (AD b) (Ay a b) c⟩
def jW.G(a:kP k=aj)(b:kP m=aj):jW .NotEq k m d<|ba<|k≠m:=⟨λe c=>H3 (AD a) (AD b) (Ay a b)<|jL (aU (p:=k=m)) c⟩
def jW.a_(g:d X=V (.A z))(h:d a=V (.A b))(c:oy z=aj)(e:oy b=aj):jW .Eq (.A X) (.A a) d<|ba<|z=b:=⟨λf i=>H2 (wB (jx f g) c) (wB (jx f h) e) (Dt c e) i⟩
def jW.I(g:d X=V (.A z))(h:d a=V (.A b))(c:oy z=aj)(e:oy b=aj):jW .NotEq (.A X) (.A a) d<|ba<|z≠b:=⟨λf i=>H3 (wB (jx f g) c) (wB (jx f h) e) (Dt c e)<|jL (aU (p:=z=b)) i⟩
def jW.b_(c:d X=V (.B p))(e:d a=V (.B q))(f:AX d p q):jW .NotEq (.A X) (.A a) d (!ts d p q):=⟨λb g=>U8 (.inr ⟨U,jx b U⟩) (jx b c) (b▸e) (b▸f) g⟩
def jW.f_(a:wz k=aj):jW .IsNot k .D d<|ba<|k≠.D:=⟨λc b=>SH a _ .IsNot (.inr ⟨U,aU⟩) b⟩
def jW.F(a:d X=V (.A b))(c:oy b=aj)(e:kP k=aj):jW .In k (.A X) d<|ba<|k∈b:=⟨λf g=>SK (jx f a) c e g⟩
def jW.c_{a:cj}:jW .In (.C w) (.C a) d (!(dJ a w 0 (Ld a) 1).isEmpty):=⟨λc b=>SM b⟩
def jW.D(a:d X=V (.B p))(b:kP k=aj):jW .In k (.A X) d (Lh (kj p k)):=⟨λc e=>SN (jx c a) b e⟩
def jW.d_(a:d X=V (.E [])):jW .In (.C w) (.A X) d ah:=⟨λb c=>Uy (jx b a) c⟩
def jW.J(a:jW .In k m d r):jW .NotIn k m d (!r):=⟨λb c=>SP<|a.e_ b<|jO r U c⟩
def jW.E[Decidable l](a:jW .In k m d<|ba l):jW .NotIn k m d<|ba (¬l):=a.J.A (aU).b
variable{s:Lt (Nat×jA)}
def Er(a:d X=V (.C R s)):pw u (.A X) d=wV u R s:=aB (n9 Y lg lg _) a
def Bh(a:d X=V (.A b)):mY (.A X) t d=(nZ t).bind (qi b):=aB _ a
def ne(a:d X=V (.B n))(b:kP t=aj)(c:kj n t=V f):mY (.A X) t d=V f:=(aB _ a).a (by show _=_;rw[b];exact c)
def o8(a:d X=V (.A b)):mv (.A X) d=V (!b.isEmpty):=aB _ a
def w1(a:d X=V (.B n)):mv (.A X) d=V (!n.isEmpty):=aB _ a
def w2(a:d X=V (.C R s)):mv (.A X) d=bif o6.C R then V aj else Y:=aB _ a
def yT(a:d X=V (.C R s)):oP u (.A X) f d=bif o6.A R u&&cK (La s) 199 then V<|jE d X<|.C R<|n8 s u f else Y:=aB _ a
def lN(a:d X=V (.B n))(b:kP t=aj)(c:La n<16777216):qK (.A X) t f d=V (jE d X<|.B<|kF n t f):=by show n9 Y _ _ _ _=_;simp only[a];show(bif kP t&&cK _ 16777216 then _ else _)=_;simp only[b,cG c];rfl
def WA(a:d X=V (.A b))(e:c<La b):qK (.A X) (.B c) f d=V (jE d X<|.A<|b.set c f):=by show n9 Y _ _ _ _=_;simp only[a];show ji _ (bif cK _ (La b)then V c else Y)=_;exact jx (cG e) U
end
set_option genCtorIdx true
inductive jD where
 |E|D|A|B|I|J|K|M|C|a_|L
 deriving DecidableEq
instance:Nonempty jD:=⟨.C⟩
set_option genCtorIdx false
noncomputable def jD.G:jD->cj|.E=>"S'"|.D=>"S"|.A=>"A"|.B=>"B"|.I=>"a"|.J=>"b"|.K=>"c"|.M=>"error"|.C=>"$end"|.a_=>"."|.L=>"<empty>"
noncomputable def re:Lt jD:=[.E,.D,.A,.B,.I,.J,.K,.M,.C,.a_,.L]
def pU(a:jD):a∈re:=by cases a<;>decide
def jG(a:jD):jA:=.C a.G
def m'{a b:jD}:jG a=jG b↔a=b:=⟨λc=>(have d:∀a∈re,∀b∈re,a.G=b.G->a=b:=by decide+kernel
 d a (pU a) b (pU b) (jA.C.inj c)),λc=>jx c U⟩
def vK(a:jD) b:lK b (jG a)=aj:=by
 have c:∀a∈re,eH a.G=aj:=by decide+kernel
 have:=c a<|pU a;cases b<;>exact this
end
section
variable{a:List jD}{b:Type}
def kk(a:jD):kP (jG a)=aj:=vK a 5
def oA(a:List jD):oy (a.map jG)=aj:=bc.b λe b=>(am.a b).a λc d=>jL d.2<|vK c 4
def uH{c:jD}:jG c∈a.map jG↔c∈a:=⟨λb=>(am.a b).a λd b=>kg (m'.a b.2) b.1,λb=>am.b<|jO c b U⟩
def no(b:Le a):La a<=11:=b.a λc d=>pU c
noncomputable def jD.F(a:jD):Bool:=a.ctorIdx.ble 3&&!a.ctorIdx.beq 0
noncomputable def jD.H(a:jD):Bool:=a.ctorIdx.ble 7&&!a.ctorIdx.ble 3
noncomputable def kN[DecidableEq b](a:Lt b)(c:b):Lt b:=if c∈a then a else a++[c]
noncomputable def lG:jF:=.A 0 []
def lH:jF:=.A 30 []
noncomputable def m0:Lt jD:=[.I,.J,.K]
def Bi(a:jD)(b:Lt jD):cj:=uz gO [a.G," -> ",tp " "<|b.map jD.G]
abbrev kJ:=jD×jD×Op jD
structure rE where
 H:List kJ
 G:List jD
 o_:Bool
 e_:Bool
def px(a:rE):=a.H≠[]/\La a.H<=4/\Le a.H/\(∀b∈a.H,b.1∈m0)/\(∀b∈a.H,b.2.1=.A\/b.2.1=.B)/\(∀b∈a.H,∀c,b.2.2=V c->c∈m0)/\(La a.G=1\/La a.G=2)/\(∀c∈a.G,c∈m0)/\(a.H.Pairwise λb d=>b.2.1=.B->d.2.1=.B)
section
variable{a:rE}(b:px a)
def px.G:=b.1
def px.E:=b.2.1
def px.H:=b.2.2.1
def px.C:=b.2.2.2.1
def px.A:=b.2.2.2.2.1
def px.D:=b.2.2.2.2.2.1
def px.F:=b.2.2.2.2.2.2.1
def px.B:=b.2.2.2.2.2.2.2.1
def px.I:=b.2.2.2.2.2.2.2.2
end
def rE.c_(a:rE):Lt jD:=bif a.o_ then[.B,.A]else[.A,.B]
def n2(a:Op jD):jA:=dC (motive:=λb=>jA) (.C "") jG a
def na(a:kJ):jA:=.E [jG a.1,jG a.2.1,n2 a.2.2]
def lW(a:Nat):jA:=.B (a:Nat)
noncomputable abbrev nf(a:Nat):jF:=.A 19 [a]
abbrev Bj(a:bB)(b:Nat):jP:=((lv [.G a]).A 1<|.A J2).A 2<|lW b
abbrev yU(a:bB)(b:Nat):jP:=((Bj a b).A 3<|.A Kt).A 4<|.A Km
abbrev Bk(a:bB)(b:Nat):jP:=((yU a b).A 5<|.A Kl).A 5<|.A KW
def w3(c:rE):=∀(e:jT)(f:Nat)(g:kl)(j:bB)(h:Nat)(a:jC),a (nf 0)=V (.A<|[jD.I,.J,.K].map jG)->(∀{b i},b≠13->b≠14->b≠15->b≠16->jF.A b i≠nf 0->b≠52->a (.A b i)=Y)->a KW=V (.A<|c.H.map na)->a Kt=V (.A<|c.G.map jG)->a Km=V (.A<|c.c_.map jG)->(∀{d},a (.A 15 [d])=Y)->(∀{k d},a (.A 16 [k,d])=Y)->a Ky=V (.D 391 #[])->a Kz=V (.D 398 #[])->c.e_=ba (h/162%2=1)->(∀l a,g (.B<|.F aj) l a)->lz (.ref 283) [.A<|nf 0] e (f+11) a λm a=>jY e (f+11) g (.B 6<|kt (Lm 7 nX) .A) [m] (Bk j h) a
def Es:∃b,px b/\((∃a,px a/\¬w3 a)->¬w3 b):=by
 by_cases c:∃a,px a/\¬w3 a;.exact c.b λb d=>⟨d.1,λ_=>d.2⟩
 .refine jO ⟨[(.I,.A,Y)],[.I],ah,ah⟩ ?_ λe=>a' e c;unfold px;decide
def jy:rE:=jg Es
def kO:px jy:=(gH Es).1
def WB(b:w3 jy){a:rE}(c:px a):w3 a:=eQ λd=>(gH Es).2 (jO a c d) b
namespace jy
def J:Nat:=La jy.H
noncomputable def f_(a:kJ):Lt jD:=a.1::a.2.1::a.2.2.toList
def M(a:Nat):jD:=if a=0 then .E else if a<=jy.J then .D else jy.c_.getD (a-(jy.J+1)) .A
def L(a:Nat):Lt jD:=if a=0 then[.D]else if a<=jy.J then f_<|jy.H.getD (a-1) (.I,.A,Y)else jy.G
end jy
def jz.B:Nat:=jy.J+3
def jz.D:Nat->jD:=jy.M
def jz.A:Nat->Lt jD:=jy.L
def jz.G(a:Nat):Int:=if a=0 then 0 else if a<=jy.J then a else if jy.e_ then 50-(a:Int)else a
def jz.v_(a:Nat):cj:=Bi (jy.M a)<|jy.L a
abbrev py(a:Lt jD)(b:jD):Lt jD:=if b.F=aj then kN a b else a
noncomputable def w4(d:b->Nat->b)(a:b)(e:Nat):b:=(be e).foldl (λa c=>if c=0 then a else d a c) a
def Bl(b:Lt jD)(a:Nat):Lt jD:=(jz.A a).foldl py<|kN b<|jz.D a
def jz.H(a:Nat):Lt jD:=w4 Bl [] a
def jz.r_:Lt jD:=jz.H<|jy.J+3
abbrev jH:=Nat×Nat
def jz.s_(a:jH):Bool:=cK (a.1+1) jz.B&&cK a.2 (La (jz.A a.1))
def jz.I(a:jH):=a.1<jz.B/\a.2<=La (jz.A a.1)
def w5{a:jH}:jz.s_ a=aj↔jz.I a:=(az ..).to_iff.c<|and_congr (iff_of_eq aeS)<|iff_of_eq aeS
def jz.C(a:jH):Op jD:=(jz.A a.1)[a.2]?
def jz.g_(b:jD):Lt Nat:=(be jz.B).filter λa=>ba<|a≠0/\jz.D a=b
def jz.J(b:jH):Lt Nat:=match jz.C b with|some a=>if a.F=aj then jz.g_ a else[]|none=>[]
def jz.c_(a:jH):Lt jD:=Ll a.2 (jz.A a.1)++jD.a_::Lm a.2 (jz.A a.1)
def jz.K(a:Nat):Lt jD:=(jz.A a).foldl kN []
def jz.L(a:jH):Bool:=dC (motive:=λc=>Bool) aj (λb=>!b.F)<|jz.C a
noncomputable def lZ(a:Nat):jF:=.A 20 [a]
noncomputable def ng(a:jH):jF:=.A 24 [a.1,a.2]
def kK(a:jH):jA:=.A<|ng a
def ln(a:Nat):jA:=.A<|lZ a
noncomputable def nD(a:Nat):jA:=.A<|.A a []
def jz.h_(a:jH):jF:=bif jz.L a then .A 26 [a.1,a.2]else .A 12 [((jz.C a).getD .E).ctorIdx]
def jz.k_(a:jH):jD:=(jz.c_ a).getD (bif a.2.beq 0 then La (jz.A a.1)else a.2-1) .a_
def jz.n_(a:jH):jA:=if a.2<La (jz.A a.1)then kK (a.1,a.2+1)else .D
def jz.f_(a:Nat):Lt<|Nat×jA:=[(0,jG<|jz.D a),(1,.E<|(jz.A a).map jG),(2,.B a),(3,.D),(4,.D),(5,.C ""),(6,.B<|jz.G a),(7,.E [.C "right",.B 0]),(8,.B (La (jz.A a))),(9,.A<|.A 21 [a]),(10,.A<|.A 23 [a]),(11,kK (a,0)),(12,.C<|jz.v_ a)]
def jz.l_(a:jH)(b:jA):Lt<|Nat×jA:=[(0,jG<|jz.D a.1),(1,.E<|(jz.c_ a).map jG),(2,.B a.1),(15,.B a.2),(16,.A<|.A 25 [a.1,a.2]),(8,.B<|La (jz.A a.1)+1),(9,.A<|.A 21 [a.1]),(17,.A<|jz.h_ a),(18,jG<|jz.k_ a),(11,b)]
def jz.p_(a:jH):Lt<|Nat×jA:=jz.l_ a<|jz.n_ a
def ty:Lt<|Nat×jA:=[(19,nD 1),(20,nD 2),(21,nD 3),(22,nD 4),(23,nD 5),(24,nD 6),(25,nD 7),(26,nD 8),(27,nD 9),(28,jG .D)]
def vL(a:Nat):Lt<|Nat×jA:=[(29,nD 0),(30,.C "LALR"),(31,nD 31),(32,nD 32),(33,nD 1),(34,nD 33),(35,nD 34),(36,.B a),(37,.B 0),(38,.B 0),(39,nD 35),(40,nD 36),(41,nD 37)]
def lS(b:Nat)(c:Lt jD):Lt<|jA×jA:=c.map λa=>(jG a,.A<|.A b [a.ctorIdx])
abbrev ku:=Nat->Lt (Nat×jA)
end
section
variable{a:Expr → Prop}{b:Type}{c d:Nat}{e:jC}{f:List jA}{g:List kb}{i q:Addr}{j t:jH}{k:lQ}{l u:jF}{m:ku}{n:Value}{o:jT}{p:Str}{r:km}{s:jA}
def o9(f:Nat)(g:ku)(b:Nat)(c:Lt Nat):Op km:=bif b.beq 24 then(match c with|[a,d]=>bif jz.s_ (a,d)then V<|.C 135<|jz.p_ (a,d)else Y|_=>Y)else bif b.beq 20 then(match c with|[a]=>bif cK (a+1) jz.B then V<|.C 100<|jz.f_ a++g a else Y|_=>Y)else bif b.beq 30&&oz c then V<|.C 427<|vL f else bif b.beq 0&&oz c then V<|.C 283 ty else bif b.beq 1&&oz c then V<|.A<|(be jz.B).map ln else bif b.beq 4&&oz c then V<|.B<|lS 10 [.I,.J,.K,.M]else bif b.beq 5&&oz c then V<|.B<|lS 11 jz.r_ else bif b.beq 8&&oz c then V<|.B []else bif b.beq 12 then(match c with|[h]=>(re[h]?).bind λe=>bif e.F then V<|.A<|(jz.g_ e).map ln else Y|_=>Y)else bif b.beq 21 then(match c with|[a]=>bif cK (a+1) jz.B then V<|.A<|(jz.K a).map jG else Y|_=>Y)else bif b.beq 23 then(match c with|[a]=>bif cK (a+1) jz.B then V<|.A<|(be<|La (jz.A a)+1).map λd=>kK (a,d)else Y|_=>Y)else bif b.beq 26 then(match c with|[a,d]=>bif jz.s_ (a,d)&&jz.L (a,d)then V<|.A []else Y|_=>Y)else Y
def w6(a:Nat)(b:ku)(c:jF):Op km:=jF.rec (motive:=λd=>Op km) (λd=>Y) (o9 a b) c
def kv(c:Nat)(d:ku)(e:jC):=∀a b,w6 c d a=V b->e a=V b
def w7{a:Bool}{c d:b}(e:a=aj):(bif a then c else d)=c:=jx e U
def w8(a:jD):re[a.ctorIdx]?=V a:=by cases a<;>rfl
section
def WC(a:jz.L j=aj):jz.J j=[]:=by unfold jz.L at a;unfold jz.J;cases b:jz.C j with|none=>rfl|some c=>rw[b]at a;exact aA<|nt<|pp a
def kv.C(a:kv c m e)(b:jz.I j):e (ng j)=V (.C 135<|jz.p_ j):=a _ _<|w7<|w5.b b
def kv.D(a:kv c m e)(b:d<jz.B):e (lZ d)=V (.C 100<|jz.f_ d++m d):=a _ _<|w7<|cG b
def kv.K(a:kv c m e)(b:d<jz.B):e (.A 21 [d])=V (.A<|(jz.K d).map jG):=a _ _<|w7<|cG b
def kv.a_(a:kv c m e)(b:d<jz.B):e (.A 23 [d])=V (.A<|(be<|La (jz.A d)+1).map λf=>kK (d,f)):=a _ _<|w7<|cG b
def kv.A(a:kv c m e):e lH=V (.C 427<|vL c):=a _ _ U
def kv.G(a:kv c m e):e lG=V (.C 283 ty):=a _ _ U
def kv.I(a:kv c m e):e Kf=V (.A<|(be jz.B).map ln):=a _ _ U
def kv.J(a:kv c m e):e Ko=V (.B<|lS 10 [.I,.J,.K,.M]):=a _ _ U
def kv.L(a:kv c m e):e KE=V (.B<|lS 11 jz.r_):=a _ _ U
def kv.b_(f:kv c m e)(g:jz.I j):e (jz.h_ j)=V (.A<|(jz.J j).map ln):=f _ _ (by
 unfold jz.h_;cases a:jz.L j with
 |true=>rw[WC a];show(bif jz.s_ j&&jz.L j then V _ else Y)=_;exact jx (w5.b g)<|jx a U|false=>
  unfold jz.L at a;unfold jz.J;cases d:jz.C j with
  |none=>rw[d]at a;exact ot a|some b=>
   rw[d]at a;have a:b.F=aj:=by cases h:b.F with|true=>rfl|false=>exact a' (aB (!·) h)<|nt a
   show(re[b.ctorIdx]?).bind (λb=>bif b.F then V _ else Y)=_;rw[w8];show(bif b.F then _ else _)=V (km.A<|ey ln (if b.F=aj then jz.g_ b else[]));refine jx (aC a)<|jx a ?_;rfl)
def kv.B(b:kv c m e)(d:w6 c m l=Y):kv c m<|jE e l r:=λf g a=>(jQ e r λh=>mh d<|h▸a).a<|b f g a
end
def Et{d:Lt b}{e:b->Bool}(f:d.all e=aj){a:b}(g:d[c]?=V a):e a=aj:=bc.a f a<|aa g
def nM(b:Nat)(c:Hr[b]?=V (p,n)):mN p n:=by have a:=kB<|Et (kB (kB<|(uk yo).1.1).1).1 c;exact⟨jx An<|aE.a a.1,a.2⟩
def Bm(c:Nat)(d:Db[c]?=V (i,q)):sR i q:=by have a:=kB<|Et wU.1.1 d;have b:=kB a.1;exact lj b.1 (aE.a b.2)<|aE.a a.2
def WD:∀{a:Lt bB},La a<=8->a=Ll (La a) (th (a.getD 0 .none) (a.getD 1 .none) (a.getD 2 .none) (a.getD 3 .none) (a.getD 4 .none) (a.getD 5 .none) (a.getD 6 .none)<|a.getD 7 .none)|[],_=>U|[_],_=>U|[_,_],_=>U|[_,_,_],_=>U|[_,_,_,_],_=>U|[_,_,_,_,_],_=>U|[_,_,_,_,_,_],_=>U|[_,_,_,_,_,_,_],_=>U|[_,_,_,_,_,_,_,_],_=>U|_::_::_::_::_::_::_::_::_::_,b=>a' b jB
def Mv{c:Op b}{d:b->Bool}(e:c.any d=aj):∃a,c=V a/\d a=aj:=by cases c with|none=>exact lf e|some a=>exact jO a U e
theorem Mw{k:Op bk}(l:Nat)(b:q7[l]?=V ⟨i,c,f,g,k⟩)(B:c<=8):∃e q,(o4 i e q g/\AU e q c f)/\Ho e k=aj:=by
 revert i c f g k l;apply qv;generalize kE.1.1.1=c,kE.1.1.2=f,kE.1.2=g,kE.2.1.1=i,kE.2.1.2=k,kE.2.2=l;intros;have j:=Et (uk yo).2.2 b;refine ka λC=>jU (Mv j) λe r j=>jU (Mv j) λd D j=>?_;have s:=kB j;have t:=kB s.1;have u:=kB t.1;have v:=kB u.1;have w:=kB v.1;have x:=kB w.1;have y:=kB x.1;refine C<|ms e (yi e _) (lj (m3 (RI r) (jO d (RJ D)<|mX.A y.1) (UM y.2) (aE.a x.2) (aE.a w.2) (acT.a v.2)<|RK u.2) ((bA s.2).b) λK L M a N O z n E=>?_) t.2;have F:=λo=>by
  have h:=aB (·[l]?)<|RW o (a.getD 0 .none) (a.getD 1 .none) (a.getD 2 .none) (a.getD 3 .none) (a.getD 4 .none) (a.getD 5 .none) (a.getD 6 .none)<|a.getD 7 .none;try dsimp only at h
  simp only[ax,ax,b,fT,fT]at h;have A:=WD<|jx n B;simp only[n]at A;have h:=aY h;try dsimp only at h
  rw[<-A]at h;exact h
 have G:=λo=>by have b:=F o;unfold yk at b;rw[r,g',bO]at b;refine jU b λd p b=>?_;have m:=kB (aB (·.2) b);exact(nQ d p (n▸Hn m.1) (aB (·.1) b) m.2)
 refine oe (G ⟨lu.C,ou.params⟩) λd p H m I=>(Looks.of_peek z p).here ?_;have J:d=(yi e<|c+La f).zip (a++Lm (La a) (d.map (·.2))):=by have:a++Lm (La a) (d.map _)=d.map _:=(aB (· ++Lm (La a) (d.map _)) m.b).a<|jb ..;simp only[this,<-H,List.zip_map',List.map_id']
 exact jx J<|E _<|RO z I
def mO(b:Nat)(d:q7[b]?=V ⟨i,c,f,g,Y⟩)(e:c<=8):mn i c f g:=⟨(Mw b d e).b λh a=>a.b λh a=>a.1⟩
def Mx(b:Nat)(d:q7[b]?=V ⟨i,c,[],g,V q⟩)(e:c<=8):Bg i c g q:=⟨(Mw b d e).b λf a=>a.b λf a=>lj a.1.1 a.1.2<|aE.a a.2⟩
def My(a:(qf kH p==V n)=aj):lu.A p=V n:=jx An<|aE.a a
def Mz:Hu kH=V 9223372036854775807/\Hv kH=V "abcdefghijklmnopqrstuvwxyzABCDEFGHIJKLMNOPQRSTUVWXYZ0123456789_-":=by have a:=kB (kB<|(uk yo).1.2.2).1;exact⟨aE.a a.1,aE.a a.2⟩
def WE:∃a,lu.A "MAXINT"=V (.int 9223372036854775807 a):=(bD.a Mz.1).a λd b=>(yb b.2).b λa c=>(aN An _).a<|b.1.a<|aB V c
def WF:∃a,lu.A "_IDENTIFIER"=V (.str "abcdefghijklmnopqrstuvwxyzABCDEFGHIJKLMNOPQRSTUVWXYZ0123456789_-" a):=(bD.a Mz.2).a λd b=>(Ab b.2).b λa c=>(aN An _).a<|b.1.a<|aB V c
def MA:qf kH "law"=V (.ref 476)/\lu.A "KeyError"=V (.type "KeyError")/\lu.A "IndexError"=V (.type "IndexError"):=by have a:=kB<|(uk yo).1.1;exact⟨aE.a (kB a.1).2,My (kB a.2).1,My (kB a.2).2⟩
def WG:mn 476 1 [] nX:=mO 34 U jB
def jV.f_:mn 39 1 [] GB:=mO 0 U jB
def jV.g_:mn 62 8 [] yf:=mO 1 U jB
def jV.h_:mn 62 4 [.E [.C "right",.B 0],.D,.C "",.B 0] yf:=mO 2 U jB
def jV.i_:mn 83 1 [] GC:=mO 3 U jB
def jV.j_:mn 118 3 [] GD:=mO 4 U jB
def jV.k_:mn 146 2 [] GF:=mO 5 U jB
def jV.l_:mn 172 2 [] GG:=mO 6 U jB
def jV.m_:mn 201 6 [] GH:=mO 7 U jB
def jV.n_:mn 209 2 [] GI:=mO 8 U jB
def jV.I:mn 258 2 [] GJ:=mO 9 U jB
def jV.o_:mn 265 1 [] GK:=mO 10 U jB
def jV.p_:mn 273 1 [.D] GL:=mO 11 U jB
def jV.q_:mn 280 1 [] GN:=mO 12 U jB
def jV.r_:mn 294 3 [] GO:=mO 13 U jB
def jV.s_:mn 301 7 [] GP:=mO 14 U jB
def jV.J:mn 318 1 [] GQ:=mO 15 U jB
def jV.t_:mn 333 3 [.D] GR:=mO 16 U jB
def jV.u_:mn 340 2 [] GS:=mO 17 U jB
def jV.E:mn 347 3 [] GU:=mO 18 U jB
def jV.v_:mn 354 1 [] GV:=mO 19 U jB
def jV.w_:mn 361 1 [] GW:=mO 20 U jB
def jV.x_:mn 368 2 [] GX:=mO 21 U jB
def jV.y_:mn 375 4 [] GY:=mO 22 U jB
def jV.z_:mn 382 4 [] GZ:=mO 23 U jB
def jV.A_:mn 389 4 [] G0:=mO 24 U jB
def jV.B_:mn 410 3 [] G3:=mO 25 U jB
def jV.C_:mn 417 2 [] G4:=mO 26 U jB
def jV.D_:mn 424 1 [] G5:=mO 27 U jB
def jV.E_:mn 438 0 [] G6:=mO 28 U jB
def jV.F_:mn 445 1 [] G7:=mO 29 U jB
def jV.G_:mn 452 1 [] G8:=mO 30 U jB
def jV.H_:mn 459 4 [] G9:=mO 31 U jB
def jV.I_:mn 466 3 [] G':=mO 32 U jB
def jV.J_:mn 471 3 [] Ha:=mO 33 U jB
def jV.K_:Bg 396 4 G1 395:=Mx 35 U jB
def jV.L_:Bg 403 4 G2 402:=Mx 36 U jB
def jV.M_:hO nl 395 391:=Am.1.1
def jV.N_:∃a,nl.Ns cu a/\nl.BuiltinsAt a 391:=Am.2.1
def jV.O_:hO nl 402 398:=Am.1.2
def jV.P_:∃a,nl.Ns cu a/\nl.BuiltinsAt a 398:=Am.2.2
def jV.K:mN "list"<|.type "list":=nM 0 U
def jV.F:mN "set"<|.type "set":=nM 1 U
def jV.Q_:mN "min"<|.builtin "min":=nM 2 U
def jV.R_:mN "all"<|.builtin "all":=nM 3 U
def jV.S_:mN "any"<|.builtin "any":=nM 4 U
def jV.C:mN "sorted"<|.builtin "sorted":=nM 5 U
def jV.L:mN "_is_identifier"<|.ref 39:=nM 6 U
def jV.T_:mN "rightmost_terminal"<|.ref 146:=nM 7 U
def jV.M:mN "digraph"<|.ref 294:=nM 8 U
def jV.U_:mN "traverse"<|.ref 301:=nM 9 U
def jV.A:mN "_place"<|.ref 318:=nM 10 U
def jV.V_:mN "_law_ENDS"<|.ref 438:=nM 11 U
def jV.a_:mN "_law_lines"<|.ref 445:=nM 12 U
def jV.W_:mN "_law_orders"<|.ref 452:=nM 13 U
def jV.X_:mN "_law_wanted"<|.ref 459:=nM 14 U
def jV.Y_:mN "_law_bodies"<|.ref 466:=nM 15 U
def jV.Z_:mN "_law_openings"<|.ref 471:=nM 16 U
def jV.b_:mN "Production"<|.ref 100:=nM 17 U
def jV.a_0:mN "LRItem"<|.ref 135:=nM 18 U
def jV.a_1:mN "Grammar"<|.ref 283:=nM 19 U
def jV.a_2:mN "LRGeneratedTable"<|.ref 427:=nM 20 U
def jV.B:mN "len"<|.builtin "len":=nM 21 U
def jV.G:mN "tuple"<|.type "tuple":=nM 22 U
def jV.D:mN "enumerate"<|.type "enumerate":=nM 23 U
def jV.c_:mN "range"<|.type "range":=nM 24 U
def jV.d_:sR 100 62:=Bm 0 U
def jV.a_3:sR 135 118:=Bm 1 U
def jV.a_4:sR 283 172:=Bm 2 U
def jV.a_5:sR 427 333:=Bm 3 U
def jV.a_6:∃a,lu.A "MAXINT"=V (.int 9223372036854775807 a):=WE
def jV.H:lu.A "KeyError"=V (.type "KeyError"):=MA.2.1
def jV.e_:lu.A "IndexError"=V (.type "IndexError"):=MA.2.2
def jV.a_7:∃a,lu.A "_IDENTIFIER"=V (.str "abcdefghijklmnopqrstuvwxyzABCDEFGHIJKLMNOPQRSTUVWXYZ0123456789_-" a):=WF
noncomputable def ol(a:jH):jA:=.E [.B a.1,.B a.2]
def pc(a:Lt jH):jA:=.E<|a.map ol
def MB(a:kK j=kK t):j=t:=bt (an (jF.A.inj<|jA.A.inj a).2).1 (an (an (jF.A.inj<|jA.A.inj a).2).2).1
def Eu{c:b->jA}(f:∀a d,c a=c d->a=d)(e:b->Option jA):∃g:jA->Option jA,∀a,g (c a)=e a:=by classical exact⟨λh=>if i:∃d,c d=h then e i.choose else Y,λa=>(dif_pos ⟨a,U⟩).a<|aB e<|f _ _<|Exists.choose_spec (p:=λd=>c d=c a) ⟨a,U⟩⟩
abbrev Bn(a:jA)(b:jC):lk:=λc d=>c=a/\d=b
section
variable{f:jP}{g h:jR}{i:kM}{j:Lt (Nat×Nat)}
def mi.B{w:List jR}{q:List b}{n:b->jA}{r:b->Option jA}(E:∀m s,n m=n s->m=s)(F:∀t∈pO i,Lj t j=Y)(G:pQ h ⟨o,c,f,e⟩ λx y z=>x=a/\y=k/\z=e)(H:∀A I,nb i I A->a A) (J:∀p t,k t (jE e l<|.A p)=V (q.map n)[t]?) (K:e l=Y) (L:La q<16777216) (M:∀p m,m∈q->∃u,mu i (n m) (oh j f)=V u/\r6 w ⟨o,c,u,jE e l<|.A p⟩ λN v=>v=jE e l (.A p)/\bif N then kn ah g ⟨o,c,u,v⟩ (λs O=>r m=V s/\O=v)else r m=Y):mi (.d_ d j g i h w) o c f e (.A l)<|jE e l<|.A<|q.filterMap r:=(Eu E r).a λB C=>⟨λP=>⟨DU (G.A λx y z Q=>by obtain⟨rfl,rfl,rfl⟩:=Q;exact DV ⟨H,F,l,q.map n,B,K,jL (ab n).b L,J,λp S R=>(am.a R).a λm D=>D.2▸(C m).b▸M p m D.1,(by refine jx eq<|jx (show(B∘n)=r from aJ C) ?_;exact P)⟩)⟩⟩
def mi.H{n:List b}{q:b->jA}(t:b->jA)(y:∀m u,q m=q u->m=u)(z:∀r∈pO i,Lj r j=Y)(A:pQ h ⟨o,c,f,e⟩ λB C s=>B=a/\C=k/\s=e)(D:∀v E,nb i E v->a v) (F:∀p r,k r (jE e l<|.A p)=V (n.map q)[r]?) (G:e l=Y) (H:La n<16777216) (I:∀p m,m∈n->kA False (λf=>nB g o c f (jE e l<|.A p) λw s=>w=t m/\s=jE e l (.A p)) (mu i (q m)<|oh j f)):mi (.d_ d j g i h []) o c f e (.A l)<|jE e l<|.A<|n.map t:=jL (aN (ez) n:n.filterMap (λm=>V _)=n.map t)<|mi.B y z A D F G H λp m J=>kA.A (I p m J) λK L M=>kT K L U<|(nC M).A λw s x=>⟨aB V x.1.b,x.2⟩
def yV(i:nB h o c f e λg b=>g=s/\b=e)(j:m7 o s e a k):pQ h ⟨o,c,f,e⟩ λl m b=>l=a/\m=k/\b=e:=wF<|(nC i).A λg b d=>pL a k (jL d.1.b<|jL d.2.b j) U U d.2
def mi.C{n:List b}{p:b->jA}(y:m7 o s e a k)(z:∀w A,nb i A w->a w)(B:∀q r,k r (jE e l<|.A q)=V (n.map p)[r]?)(C:∀r∈pO i,Lj r j=Y)(t:b->jA)(D:∀m x,p m=p x->m=x)(E:e l=Y)(F:La n<16777216) (G:∀q m,m∈n->kA False (λf=>nB g o c f (jE e l<|.A q) λu v=>u=t m/\v=jE e l (.A q)) (mu i (p m)<|oh j f)) (H:nB h o c f e λu v=>u=s/\v=e):mi (.d_ d j g i h []) o c f e (.A l)<|jE e l<|.A<|n.map t:=mi.H t D C (yV H y) z B E F G
def mi.D{k:List b}{m:b->jA}(n:e u=V (.A<|k.map m))(x:∀p∈pO i,Lj p j=Y)(q:b->jA)(y:∀a v,m a=m v->a=v)(w:e l=Y)(z:La k<16777216) (A:∀r a,a∈k->kA False (λf=>nB g o c f (jE e l<|.A r) λs t=>s=q a/\t=jE e l (.A r)) (mu i (m a)<|oh j f)) (B:nB h o c f e λs t=>s=.A u/\t=e):mi (.d_ d j g i h []) o c f e (.A l)<|jE e l<|.A<|k.map q:=mi.C (vz n) (pR i) (λr p=>sO ((jQ e _ λC=>mh w<|C▸n).a n) p) x q y w z A B
end
def mH(b:jC):Nat:=cJ λc=>∀a,c<=a->b (.B a)=Y
def ks(a:jC)(b:km):jC:=jE a (.B<|mH a) b
def mb(a:lD e):e (.B<|mH e)=Y:=el a _<|al _
def kv.H(a:kv c m e):kv c m<|ks e r:=a.B U
def Bo(a:e l=V (.A f))(b:f≠[]):mv (.A l) e=V aj:=(o8 a).a (by cases f with|nil=>exact a' U b|cons _ _=>rfl)
section
def qM{a:Lt jH}(g:kv d m e)(h:e l=V (.A<|a.map kK))(i:∀f∈a,jz.I f)(n:a≠[])(p:La a<16777216):jX (.ref 318) [.A l] o (c+1) e (pc a)<|ks e<|.A<|a.map ol:=.E λq=>⟨λ{t} r=>mZ jV.J U λo=>jN λb=>b .A (Bo h λs=>n<|dV.a s) .A jV.G .A (mi.D h (λu j=>U) ol (λj j=>MB) (mb q) p (λv f k=>jN λb=>b (g.C<|i f k) (g.C<|i f k) lp)<|jN λb=>b lp) .A (jX.I<|jS ..) r⟩
end
def Ev(a:ol j=ol t):j=t:=bt (dH<|jA.B.inj (an<|jA.E.inj a).1)<|dH<|jA.B.inj (an (an<|jA.E.inj a).2).1
def WH(a:List jH):lK 4 (pc a)=aj:=bc.b λd b=>(am.a b).a λe c=>jL c.2 U
def nh(a:Lt jH)(b:jD):jA:=.E [pc a,jG b]
def tz(a:Lt jH)(b:jD):kP (nh a b)=aj:=by show([pc a,jG b].all _)=aj;simp only[dz,dz,WH,vK];rfl
noncomputable def ll(a:Nat):jF:=.A 41 [a]
structure j' where
 A:List (List jH)
 C:List jH->jD->List jH
 D:Nat->Nat
 F:List jH->jD->Nat
end
section
variable{a e m x O:Nat}{b s X:List jH}{c t R Z:jC}{d y:List (jA × jA)}{f:jD}{g:List Nat}{i Q:List (List jH)}{j:jH}{k:Type}{l z:jA}{n:jT}{o:ku}{p:j'}{q:km}{r:jF}{u:jD → Bool}{v:List jA}{w:List jD}{N:Nat × jD}{S:jP}{T:lk}{W:Prop}
instance:Nonempty j':=⟨[],i',id,i'⟩
def mo(b:j')(d:jC):=d J8=V (.A<|(be (La b.A)).map λf=>.A<|ll<|b.D f)/\(∀{f a},b.A[f]?=V a->d (ll<|b.D f)=V (.A<|a.map kK))/\(∀{a e c},a∈b.A->e∈a->jz.C e=V c->d (ll<|b.F a c)=V (.A<|(b.C a c).map kK))/\(∃g,d J0=V (.B g)/\∀{a e c},a∈b.A->e∈a->jz.C e=V c->kj g (nh a c)=V (.A<|ll<|b.F a c))/\d KG=V (.B<|b.A.zipIdx.map λh=>(pc h.1,.B h.2))
section
variable(a:mo p c)
def mo.F:=a.1
def mo.A:=@a.2.1
def mo.D:=@a.2.2.1
def mo.G:=a.2.2.2.1
def mo.B:=a.2.2.2.2
end
def nE(b:j'):=(∀{a},a∈b.A->∀e∈a,jz.I e)/\(∀a∈b.A,La a<1000)/\La b.A<=1000/\∀{a d c},a∈b.A->d∈a->jz.C d=V c->b.C a c∈b.A/\b.C a c≠[]
section
variable(a:nE p)
def nE.A:=@a.1
def nE.B:=a.2.1
def nE.D:=a.2.2.1
def nE.C:=@a.2.2.2
end
def mo.E(b:mo p c)(d:∀a e,a.ble 34&&cK 33 a||a.ble 42&&cK 41 a->t (.A a e)=c (.A a e)):mo p t:=mS ((d 42 [] U).a b.F) (λg=>(d 41 _ U).a<|b.A g) (λh i j=>(d 41 _ U).a<|b.D h i j) (b.G.b λk f=>⟨(d 33 [] U).a f.1,f.2⟩)<|(d 34 [] U).a b.B
def mo.H(b:mo p c):mo p<|ks c q:=b.E λa a a=>U
section
def ni(c:jC)(a:Lt jH):jC:=Internal.ks c<|.A<|a.map ol
def kv.F(d:kv a o c):kv a o<|ni c b:=d.H
def w9(l:kv a o c)(h:nE p)(m:mo p c)(q:c r=V (.A<|b.map kK))(d:b∈p.A)(g:j∈b)(i:jz.C j=V f):jX (.ref 347) [.A lH,.A r,jG f] n (e+2) c (.A<|ll<|p.F b f)<|ni c b:=m.G.a λv k=>⟨λ{w} s=>mZ jV.E U λn=>jN λt=>t l.A k.1 jV.A .A (qM l q (h.A d) (eo g)<|br (h.B b d) jB) .A (jX.M k.1 (tz b f)<|k.2 d g i) .A (Bo (m.D d g i) λu=>(h.C d g i).2<|dV.a u) s⟩
end
def xa(b:c r=V q):jE c r q=c:=aJ λd=>by
 by_cases a:d=r;.simp only[a,jS,b]
 .exact jQ c q a
def sS{b:Lt k}{c:k}(d:b[a]?=V c):qi b (a:Int)=V c:=by unfold qi;exact jx (IX<|(ag.a d).1) d
def ql(b:c r=V (.A v))(d:v[a]?=V l):mY (.A r) (.B a) c=V l:=(Bh b).a<|sS d
def sd:jA.B a=jA.B e↔a=e:=⟨λb=>dH<|jA.B.inj b,λb=>jx b U⟩
def om[DecidableEq k](c:jD->Bool)(d:jD->k)(a:Lt k)(e:jH):Lt k:=dC (motive:=λf=>Lt k) a (λb=>if c b=aj then kN a<|d b else a)<|jz.C e
abbrev MC(a:Lt jD)(b:jH):Lt jD:=om jD.H id a b
def jz.m_(a:Lt jH):Lt jD:=a.foldl MC []
def tA[DecidableEq k]{a:Lt k}{c:k}(b:Le a):Le (kN a c):=by
 unfold kN;split;.exact b
 .rename_i d;exact cz.b ⟨b,cD ..,λh e i f g=>d<|kg (ak.a f)<|kg g e⟩
def MD[DecidableEq k]{e:jD->k}{a:Lt k}(b:Le a):Le (om u e a j):=by
 unfold om;cases jz.C j with
 |none=>exact b|some c=>
  by_cases d:u c=aj;.show Le (if u c=aj then kN a _ else a);exact jx (aC d)<|tA b
  .show Le (if u c=aj then kN a _ else a);exact jx (aA d) b
def nN{b:Lt k}{c:k}(d:b[a]?=V c):Ll (a+1) b=Ll a b++[c]:=by simp only[acL,d];rfl
def n3{b:Type}{c:b->k->b}{e:b}{d:Lt k}{f:k}(g:d[a]?=V f):(Ll (a+1) d).foldl c e=c ((Ll a d).foldl c e) f:=by simp only[nN g,co];rfl
def rF{b:Type}{f:Lt b->k->Lt b}(g:∀a c,Le a->Le (f a c)):∀(d:Lt k)(a:Lt b),Le a->Le (d.foldl f a):=λ{d}=>lO (λ_ e=>e) (λc i h=>λa e=>h _<|g a c e) d
def Bp(a:Lt jH):Le (jz.m_ a):=rF (λb b=>MD) a [] eU
def Bq(b:jz.I j)(c:jz.C j=V f):((jz.c_ j).map jG)[j.2+1]?=V (jG f):=by have a:=dF▸dx b.2;rw[ax];unfold jz.c_;simp only[fq<|hC<|aN (aB HAdd.hAdd a) 1,a,gR,ie,hF];exact aB _ c
def ME:(j.2:Int)<(La (jz.A j.1):Nat)+1-1↔∃b,jz.C j=V b:=⟨λa=>⟨_,aq<|cY.a<|kg (ew (La (jz.A j.1):Int) 1) a⟩,λc=>c.a λb a=>kg (ew (La (jz.A j.1):Int) 1).b<|cY.b (ag.a a).1⟩
def Ew:ba ((j.2:Int)<(La (jz.A j.1):Nat)+1-1)=Lh (jz.C j):=by
 by_cases a:(j.2:Int)<(La (jz.A j.1):Nat)+1-1;.rw[aD a];obtain⟨c,b⟩:=ME.a a;exact jx b U
 .rw[aG a];cases b:jz.C j with|none=>rfl|some c=>exact a' (ME.b ⟨c,b⟩) a
def Ex{a:Op k}(c:Lh a=aj)(d:∀b,a=V b->W):W:=by cases a with|none=>exact lf c|some b=>exact d b U
def MF{a:Op k}(b:Lh a=ah):a=Y:=by cases a with|none=>rfl|some c=>exact ot b
def yW[BEq k][LawfulBEq k]{d:k->jA}(i:∀{g a},d g=d a->g=a){h:k->jA}{a:k}{f:Lt k}:kj (f.map λa=>(d a,h a)) (d a)=if a∈f then V<|h a else Y:=lO (by rfl) (λj l m=>by
 rw[bo,kj];by_cases b:j=a;.rw[aC<|jx b U,aC<|kg b ae,b]
 .rw[aA λc=>b<|i c,m];by_cases e:a∈l;.rw[aC e,aC<|af _ e]
  .rw[aA e,aA λc=>(ao.a c).a (λc=>b c.b) e]) f
def vM(a:jD):Lh (kj (lS 10 [.I,.J,.K,.M])<|jG a)=a.H:=(aB gr<|yW m'.a).a (by cases a<;>rfl)
def kR(a:Nat×jD):jA:=.E [.B a.1,jG a.2]
def jz.o_:jD:=(jz.A 0).headD .E
def tB(b:j')(a:Nat×jD)(c:Lt jH):Lt jD:=jz.m_ (b.C c a.2)++if a.1=0/\a.2=jz.o_ then[.C]else[]
def mU(a:Nat×jD):jF:=.A 50 [a.1,a.2.ctorIdx]
section
variable[DecidableEq k]{a:jD->k}{b:Lt k}
def Br(e:∀c,jz.C j=V c->u c=aj->a c∈b):om u a b j=b:=by
 unfold om;cases f:jz.C j with
 |none=>rfl|some c=>
  by_cases d:u c=aj;.exact(aC d).a<|aC<|e c f d
  .exact aA d
def MG(c:jz.C j=V f)(d:u f=aj)(e:a f∉b):om u a b j=b++[a f]:=by unfold om;exact jx c<|(aC d).a<|aA e
end
def Bs(a:Le w):La (w.map jG)<16777216:=aZ (jL (ab jG).b<|no a) jB
section
def vN(c:jC)(a:Nat×jD)(b:Lt jH)(d:Lt jD):jC:=jE (ni (jE c (mU a)<|.A []) b) (mU a)<|.A<|d.map jG
def MH:jE (vN c N b w) (mU N) (.A<|w.map jG++[jG f])=vN c N b (w++[f]):=(aB (λa=>jE _ _<|.A a) (bK (l₂:=[f])).b).a<|o3 ..
def yX:vN c N b w (mU N)=V (.A<|w.map jG):=jS ..
theorem WI(A:kv a o c)(k:nE p)(B:mo p c)(r:p.A[N.1]?=V b)(s:j∈b)(g:jz.C j=V N.2)(t:0<jz.B)(C:jz.A 0≠[])(E:c (mU N)=Y):jX (.ref 375) [.A lH,.A J8,kR N,l] n (e+3) c (.A<|mU N)<|vN c N b<|tB p N b:=by
 revert A k B r s g t C E;revert p a o c n e N b j l;apply z3;generalize mg.1.1.1.1=a,mg.1.1.1.2=e,mg.1.1.2=b,mg.1.2.1=c,mg.1.2.2=j,mg.2.1.1.1=l,mg.2.1.1.2=n,mg.2.1.2=o,mg.2.2.1=p,mg.2.2.2=N;intro A k B r s g t C E;exact have F:=aa r;have M:=k.C F s g;have G:=A.B U;have u:=B.E λβ γ d=>jQ c _ λi=>by injection i with i;subst i;exact lf d
  have O:∀P,kv a o<|vN c N b P:=λP=>G.F.B U;have W:(jz.A 0)[0]?=V jz.o_:=by unfold jz.o_;cases f:jz.A 0 with|nil=>exact a' f C|cons δ ε=>rfl
  ⟨λ{Q} i=>have R:=bI;have v:=O _;have S:¬(N.1=0/\N.2=jz.o_)->Q (.A _) _:=λf=>R.b▸(by rw[tB,aA f,bQ]at i;exact i);have X:N.1=0/\N.2=jz.o_->Q (.A _) (jE _ _<|.A<|((jz.m_ _).map jG)++[jG .C]):=λf=>by rw[tB,aC f]at i;rw[R,MH];exact i
  mZ jV.y_ U λn=>jN λd=>d _ (λZ=>E) G.A (ql u.F (by simp only[ax,bp (ag.a r).1];rfl)) .A (w9 G k u (u.A r) F s g) .A (o7 (λH=>vN c N b<|jz.m_<|Ll H<|p.C b N.2) (xa (c:=ni (jE c _<|.A []) b) (r:=mU N)<|jS c ..).b (λH=>u.H.D F s g) (.A _) λH I x=>have y:=O _;have z:=y.C<|k.A M.1 I<|aa x;have J:∀{T},kw _ T->MC _ I=jz.m_ _->uE _ _ .A T _:=λm f=>⟨m,aB _<|f.b.a (n3 x).b⟩;jN λd=>d z z .A .E (jW.H.A Ew) (λf d=>Ex f λm g=>d z z .A (sS<|Bq (k.A M.1 I<|aa x) g) y.A y.G .E ((jW.D y.J<|kk m).A<|vM m) (λf d=>d .C (jW.E<|jW.B (jW.F yX (oA _)<|kk m) uH) (λh d=>d yX .A (jX.A yX<|Bs<|Bp _) .A .A .A ⟨mC U,MH.a<|aB _ ((n3 x).a<|MG g f h).b⟩) λh d=>d .A .A .A<|J (mC U)<|Br λα K Z=>kg (aY<|g.b.a K)<|cB.a h) λh d=>d .A .A<|J (mC U)<|Br λα K d=>a' (jx (aY<|g.b.a K) d)<|nt h) λf d=>d .A<|J (lE U)<|Br λm g=>kh<|(MF f).b.a g) .C (jW.B (jW.C U U)<|sd) (λL d=>d v.A v.G (ql v.I (l:=ln 0) (by simp only[ax,bp t];rfl)) (v.D t) (sS<|(ax ..).a<|aB _ W) .C (jW.B (jW.C (kk _)<|kk _) m') (λh d=>d yX .A (jX.A yX<|Bs<|Bp _) (.A)<|X ⟨L,h⟩) λh d=>d .A<|S λd=>h d.2) λL d=>d .A<|S λd=>L d.1⟩
end
abbrev lb[DecidableEq k](a b:Lt k):Lt k:=b.foldl kN a
section
variable[DecidableEq k]{a b:Lt k}{c:k}
def qN(c:Le a):Le (lb a b):=by induction b generalizing a with|nil=>exact c|cons e f d=>exact d<|tA c
def rf{b:k}:c∈kN a b↔c∈a\/c=b:=by
 unfold kN;split;.exact⟨.inl,λd=>d.a id λe=>kd e<|‹_›⟩
 .rw[bR,ak]
def qO:c∈lb a b↔c∈a\/c∈b:=by induction b generalizing a with|nil=>exact⟨.inl,λd=>d.a id jB⟩|cons f g e=>exact e.c (by rw[rf,ao,aL])
def WJ(d:∀c∈b,c∈a):lb a b=a:=by induction b with|nil=>rfl|cons e f g=>show lb _ f=a;rw[kN,aC<|d e ae];exact g λc h=>d c<|af _ h
def WK:La a<=La (kN a c):=by
 unfold kN;split;.exact al _
 .exact kd bH<|bd ..
def MI:La a<=La (lb a b):=by induction b generalizing a with|nil=>exact al _|cons d e c=>exact aX WK c
end
def jz.a_(a:Lt jH):Lt Nat:=lb []<|a.flatMap jz.J
def jz.F(a:Lt jH):Lt jH:=a++(jz.a_ a).map λb=>(b,0)
def jz.t_:=∀a,a≠0->a<jz.B->jz.J (a,0)=[]
def MJ:a∈jz.g_ f↔a<jz.B/\a≠0/\jz.D a=f:=by unfold jz.g_;rw[ar,bj,aP]
def Ey(b:a∈jz.J j):a<jz.B/\a≠0:=by
 unfold jz.J at b;cases c:jz.C j with
 |none=>rw[c]at b;exact a' b ac|some d=>
  rw[c]at b;dsimp only at b;split at b;.exact⟨(MJ.a b).1,(MJ.a b).2.1⟩
  .exact a' b ac
def tC(d:Nat)(e:ku)(b:jC):jC:=λf=>jF.rec (motive:=λg=>Op km) (λh=>b<|.B h) (λa c=>bif a.beq 20||a.beq 30 then dC (motive:=λg=>Op km) (b<|.A a c) V<|o9 d e a c else b<|.A a c) f
section
variable{d:ku}
def WL(c:(m.beq 20||m.beq 30)=ah):o9 a o m g=o9 e d m g:=by have b:=cf.a c;unfold o9;exact jx b.1<|jx b.2 U
def kv.c_(i:kv a o c):kv e d<|tC e d c:=λj g f=>by cases j with|B l=>exact kh f|A b h=>show(bif b.beq 20||b.beq 30 then _ else _)=_;cases k:b.beq 20||b.beq 30 with|true=>exact aB _ (f:o9 e d b h=V g)|false=>exact i (.A b h) g<|(WL k).a f
def WM(e:kv a o c):Internal.tC a o c=c:=aJ λf=>by cases f with|B i=>rfl|A b d=>show(bif b.beq 20||b.beq 30 then _ else _)=_;cases j:b.beq 20||b.beq 30 with|false=>rfl|true=>cases g:o9 a o b d with|none=>rfl|some h=>exact(e (.A b d) h g).b
def MK(i:w6 e d r=V q)(j:∀b f,r=.A b f->(b.beq 20||b.beq 30)=aj)(k:∀b f,r≠.A b f->(b.beq 20||b.beq 30)=aj->o9 a o b f=o9 e d b f):jE (Internal.tC a o c) r q=Internal.tC e d c:=aJ λg=>by
 by_cases h:g=r;.subst h;rw[jS];cases g with|B l=>exact kh i|A b f=>show _=(bif b.beq 20||b.beq 30 then _ else _);exact jx (j b f U) (aB (dC _ V) (i:o9 e d b f=V q)).b
 .refine jx (jQ _ _ h) ?_;cases g with|B l=>rfl|A b f=>show(bif b.beq 20||b.beq 30 then _ else _)=(bif b.beq 20||b.beq 30 then _ else _);cases m:b.beq 20||b.beq 30 with|false=>rfl|true=>rw[k b f (λn=>h n.b) m]
def WN:jE (Internal.tC a o c) lH (.C 427<|vL e)=Internal.tC e o c:=MK U (λd b g=>jL (jF.A.inj g).1 U) λd b h j=>by unfold o9;cases i:d.beq 30&&oz b with|false=>rfl|true=>have f:=kB i;refine a' ?_ h;cases b with|nil=>exact aB (jF.A · []) (bA f.1).b|cons k l=>exact a' f.2 av
noncomputable def rg(o:ku)(c:Lt Nat)(a:Nat):ku:=λb=>if b∈c then[(14,.B a)]else o b
def WO(j:e<jz.B){g:Lt<|Nat×jA}(f:∀b,b≠e->d b=o b)(k:d e=g):jE (Internal.tC a o c) (lZ e) (.C 100<|jz.f_ e++g)=Internal.tC a d c:=MK ((w7<|cG j).a<|jx k U) (λh i f=>by cases f;rfl) λh i l p=>by unfold o9;cases m:h.beq 20 with|false=>rfl|true=>obtain rfl:=bA m;match i with|[]=>rfl|[b]=>show(bif cK _ jz.B then V _ else Y)=bif cK _ jz.B then V _ else Y;exact jx (f b λn=>l<|jx n U) U|_::_::_=>rfl
def tD(a:Nat)(o:ku):=∀b,o b=[]\/∃c:Nat,c<=a/\o b=[(14,.B c)]
def WP{a:jF}{e:km}(g:a≠r):jE (jE c a q) r e=jE (jE c r e) a q:=aJ λf=>by
 by_cases b:f=r;.subst b;rw[jS,jQ _ _ λh=>g h.b,jS]
 .rw[jQ _ _ b];by_cases d:f=a;.subst d;rw[jS,jS]
  .rw[jQ _ _ d,jQ _ _ d,jQ _ _ b]
def WQ(b:Lt jH)(c:Lt Nat) d:(b++c.map λa=>(a,0)).map kK++[kK (d,0)]=(b++(c++[d]).map λa=>(a,0)).map kK:=by simp only[bK,bw];rfl
def pz(a:Nat)(o:ku)(c:jC)(d:Nat)(e:Lt jH)(b:Lt Nat):jC:=jE (Internal.tC a (rg o b a) c) (ll d)<|.A<|(e++b.map λf=>(f,0)).map kK
def Bt(d:kv a o c):kv e (rg o g e)<|pz e o c m b g:=d.c_.B U
def yY:pz a o c e b g (ll e)=V (.A<|(b++g.map λd=>(d,0)).map kK):=jS ..
def WR:rg o [] a=o:=aJ λb=>aA jB
def WS(l:kv a o c)(i:tD a o)(n:m<jz.B):∃h:Nat,pw 14 (ln m) (pz (a+1) o c e b g)=V (.B h)/\(jA.B h=jA.B (a+1:Nat)↔m∈g):=by
 have k:∀{i h},rg o g _ m=i->wV 14 100 _=V (.B h)->pw 14 _ (pz (a+1) o c e b g)=V (.B h):=λd f=>(Er (Bt l|>.D n)).a<|jx d f;by_cases f:m∈g;.exact jO (a+1) (k (aC f) U) ⟨λp=>f,λp=>U⟩
 .rcases i m with d|⟨h,q,d⟩;.exact⟨0,k ((aA f).a d) U,λd=>a' (sd.a d) jB,λd=>a' d f⟩
  .exact jO h (k ((aA f).a d) U) ⟨λd=>a' (sd.a d)<|bF<|dA ‹h<=a›,λd=>a' d f⟩
def WT(n:kv a o c)(p:tD a o)(j:m<jz.B)(f:m∉g):oP 14 (ln m) (.B (a+1:Nat)) (jE (pz (a+1) o c e b g) (ll e)<|.A<|(b++g.map λh=>(h,0)).map kK++[kK (m,0)])=V (pz (a+1) o c e b<|kN g m):=by
 rw[show oP 14 (ln m) _ _=_ from yT<|((Bt n).B U).D j,kN,aA f];have d:rg o g (a+1) m=o m:=aA f;have k:cK (La (jz.f_ m++rg o g (a+1) m)) 199=aj/\n8 (jz.f_ m++rg o g (a+1) m) 14 (.B (a+1:Nat))=jz.f_ m++[(14,.B (a+1:Nat))]:=by refine jx d ?_;rcases p m with d|⟨r,s,d⟩<;>rw[d]<;>exact lp
 simp only[k.1,k.2];apply aB V;unfold pz;exact jx (o3 ..) (jx (WQ ..) (jx (WP (r:=lZ m) (a:=ll e) (λf=>by cases f)) (jx (WO j (d:=rg o _ _) (λh q=>by
  unfold rg;by_cases d:h∈g;.rw[aC d,aC<|bM _ d]
  .rw[aA d,aA λi=>(bR.a i).a d λi=>q<|ak.a i])<|aC<|bP _ ae) U)))
end
def ML(c:Le g)(d:∀b∈g,b<a):La g<=a:=kg (bX (n:=a))<|c.a λb e=>bj.b<|d b e
def WU{d g:jA}(h:S 5=Y):kw ((S.A 3 l).A 4 d)<|(((S.A 3 z).A 4 d).A 5 g).A 3 l:=λb i a=>by
 by_cases c:b=3;.subst c;exact a
 .rw[jP.B _ _ c];by_cases e:b=5;.subst e;exact kh<|h.b.a a
  .rw[jP.B _ _ e];by_cases f:b=4;.subst f;exact a
   .rw[jP.B _ _ f,jP.B _ _ c]at a⊢;exact a
section
def jz.d_(b:Lt jH)(g:Lt Nat)(m:Nat):Lt Nat:=lb g<|(Ll m b).flatMap jz.J
def Bu(c:∀x∈g,x<jz.B/\x≠0)(a:x∈jz.d_ b g m):x<jz.B/\x≠0:=(qO.a a).a (c x) λa=>(bV.a a).a λd a=>Ey a.2
def WV(e:jz.t_)(f:∀j∈b,jz.I j)(h:∀x∈g,x<jz.B/\x≠0)(a:(b++(jz.d_ b g m).map λx=>(x,0))[m]?=V j):jz.I j/\jz.d_ b g (m+1)=lb (jz.d_ b g m) (jz.J j):=by
 unfold jz.d_;rcases hV m (La b)with c|c;.rw[dv c]at a;exact⟨f j<|aa a,by rw[nN a,dj,lb,co,dU]⟩
 .rw[fq c]at a;exact oR a λx i k=>by subst k;have d:=Bu h<|aa i;exact⟨⟨d.1,bT _⟩,by simp only[e x d.2 d.1,dE c,dE<|dB c];rfl⟩
def WW(d:kv a o c):jE (jE c lH<|.C 427<|vL<|a+1) (ll e) (.A<|b.map kK)=pz (a+1) o c e b []:=by rw[pz,WR,<-WN,WM d,im,bQ]
def pV(b:Lt jH)(a:Nat):Lt Nat:=if a=2 then[]else jz.a_ b
abbrev yZ(a:jF)(b:Nat):jP:=(lv [.A lH,.A a]).A 2<|.A<|ll b
def y0(a b:Lt Nat):Bool:=ba<|La a<La b
theorem MM(q:kv a o c)(w:tD a o)(G:jz.t_)(H:c r=V (.A<|b.map kK))(J:∀Z,jE c lH Z r=c r)(K:∀j∈b,jz.I j)(L:La b+jz.B<16777216)(β:c (ll O)=Y):jX (.ref 340) [.A lH,.A r] n (e+1) c (.A<|ll O)<|pz (a+1) o c O b<|jz.a_ b:=by
 revert q w G H J K L;revert a o c n e b r O;apply sz;generalize kG.1.1.1=a,kG.1.1.2=e,kG.1.2.1=O,kG.1.2.2=b,kG.2.1.1=c,kG.2.1.2=n,kG.2.2.1=o,kG.2.2.2=r;intros;exact⟨λ{η} s=>by
  have y:∀d,∀x∈pV b d,x<jz.B/\x≠0:=λd x f=>by
   unfold pV at f;split at f;.exact a' f ac
   .exact Bu (g:=[]) jB (by unfold jz.d_;rw[bI];exact f)
  have γ:∀d,jz.d_ b (pV b d) (La b)=jz.a_ b:=λd=>by
   unfold jz.d_ pV;refine jx bI ?_;split;.rfl
   .exact WJ λj z=>qO.b<|.inr z
  have N:∀d m,Le (jz.d_ b (pV b d) m):=λd m=>qN (by
   unfold pV;split;.exact eU
   .exact qN eU);have t:∀l,kv _ _<|pz (a+1) o c O b l:=λl=>Bt q;refine mZ jV.u_ U λn=>jN λf=>f (Er q.A) (yT q.A) .A ((J _).a H) U (ll O) (λg=>β) .B<|sQ (a:=Nat×Bool) (λd=>(d.1=2/\d.2=aj)\/d.1=1\/(d.1=0/\d.2=ah)) (λd=>((yZ r O).A 3<|.F d.2,pz _ o c O b<|pV b d.1)) (λd=>d.1) (2,aj) (.inl lp) (.A _) (WW q) λd p=>jN λf=>f .E U (λB f=>f .B<|En (λm g=>True) (λm g=>(((yZ r O).A 3<|.F d.2).A 3<|.F<|y0 (pV b d.1)<|jz.d_ b (pV b d.1) m,pz _ o c O b<|jz.d_ b (pV b d.1) m)) (λm g=>b++(jz.d_ b _ m).map λx=>_) (La b+jz.B+1) () aH (jL (aG<|dR _)<|.A _) U (λm g g=>yY) (λm g g C=>?_) (λm g j g z=>?_) λm g C g P=>?_) λB f=>f<|sc ?_;.have δ:=(λd m=>ML (N d m) λx f=>(Bu (y d) f).1) d.1 m;rw[bH,ab]at C;exact dA<|aX (bL C)<|bS δ _
  .have u:=WV G K (y d.1) z;generalize D:jz.d_ b _ m=l at u;exact jN λf=>f ((t l).C u.1) .B (nT (λh g=>True) (λh g=>((((yZ r O).A 3<|.F d.2).A 3<|.F<|y0 (pV b d.1)<|lb l<|Ll h<|jz.J j).A 4<|kK j,pz (a+1) o c O b<|lb l<|Ll h<|jz.J j)) () aH (.A _) U (λh g g=>(t<|lb l<|Ll h<|jz.J j).b_ u.1) (λh g s g Q=>by
    have E:=Ey<|aa Q;have R:lb l (Ll (h+1)<|jz.J j)=kN (lb l<|Ll h<|jz.J j) s:=n3 Q;refine jU (WS q w (e:=O) (b:=b) (g:=lb l<|Ll h<|jz.J j) E.1) λS ε ζ=>jN λf=>f ε (t<|lb l<|Ll h<|jz.J j).A .C (jW.B (jW.C U U) ζ) (λv f=>f ⟨(),aH,?_⟩) λv f=>f .A yY ((t<|lb l<|Ll h<|jz.J j).D E.1) .A (jX.A yY<|(λf=>by simp only[ab,bH,ab];exact aZ (bS f _) L)<|(show∀h,La (lb l<|Ll h<|jz.J j)<=jz.B from λh=>ML (qN<|kg D<|N d.1 m) λx f=>(qO.a f).a (λf=>(Bu (y d.1)<|jx D f).1) λf=>(Ey<|cr f).1) h) (t<|lb l<|Ll h<|jz.J j).A (WT q w E.1 v) ⟨(),aH,?_⟩;.rw[R,kN,aC v];exact⟨lE U,U⟩
    .rw[R];refine⟨?_,U⟩;refine jx (show y0 (pV b d.1) (kN (lb l<|Ll h<|jz.J j) s)=aj from aD (by rw[kN,aA v,bH];have:=MI (a:=l) (b:=Ll h<|jz.J j);exact dA<|aX (D▸MI) this)) ?_;exact WU U) λg g=>⟨(),aH,by refine jx bI<|jL u.2 ?_;exact⟨lE U,U⟩⟩)
  .rw[bH,ab]at P;refine jx ((by unfold jz.d_;rw[bI,dE<|dn P]:jz.d_ b (pV b d.1) m=jz.d_ b (pV b d.1) b.length).a<|γ d.1) ?_;have T:∀{W S},kw ((yZ r O).A 3 W)<|((yZ r O).A 3 S).A 3 W:=(lE U).B 3 _;rcases p with p|p|p;.exact nQ (1,y0 (pV b d.1)<|jz.a_ b) (.inr kr) (kd p.1<|bN 1) T U
   .have F:pV b d.1=jz.a_ b:=jx p U;simp only[F,(show y0 (jz.a_ b) (jz.a_ b)=ah from aG<|dR _)];exact nQ (0,ah) (kC lp) (kd p<|bN 0) T U
   .exact lf<|p.2.b.a B
  .have F:pV b d.1=jz.a_ b:=by
    unfold pV;rw[aA];rintro X;rcases p with p|p|p;.exact lf<|B.b.a p.2
    .exact a' (X.b.a p) jB
    .exact a' (X.b.a p.1) jB
   exact mE λf=>f (by rw[<-F]at s;exact s)⟩
end
def nF(e:List<|jA×jA)(d h c:jA):kj (kF e d h) c=if c=d then V h else kj e c:=lO (by
 unfold kF kj;by_cases a:c=d;.rw[aC a,aC a.b]
 .rw[aA a,aA λb=>a b.b];rfl) (λi k j=>by
 obtain⟨f,l⟩:=i;unfold kF;by_cases g:f=d;.
  subst g;rw[aC U];unfold kj;by_cases a:c=f;.rw[aC a,aC a.b]
  .rw[aA a,aA λb=>a b.b,aA λb=>a b.b]
 .rw[aA g];unfold kj;rw[j];by_cases a:f=c;.rw[aC a,aA λb=>g<|a.a b,aC a]
  .rw[aA a,aA a]) e
def vO(a:V (km.B d)=V (km.B y)):d=y:=by cases a;rfl
def uI{b c:jA}(a:kj (kF d l z) b=V c)(e:b=l->z=c->W)(f:kj d b=V c->W):W:=by
 rw[nF]at a;split at a;.exact e ‹_›<|aY a
 .exact f a
def jz.E(b:Lt jH)(c:jD):Lt jH:=b.filterMap λa=>if jz.C a=V c then V (a.1,a.2+1)else Y
def Ez{a:jD}(d:nh b f=nh s a):b=s/\f=a:=have c:=an<|jA.E.inj d;⟨aco (λe e=>Ev)|>.mp (jA.E.inj c.1),m'.a (an c.2).1⟩
structure lc where
 C:Nat
 E:Nat
 B:Nat
 A:Nat
 F:ku
 D:Nat->Option (jD×List jH)
instance:Nonempty lc:=⟨0,0,0,0,i',i'⟩
def nU(a:Nat):jF:=.A 40 [a]
def vP(b:lc)(c:jD)(d:List jH)(e:jA):=∃a,e=.A (nU a)/\b.D a=V (c,d)
def pW(e:Nat)(d:jC)(b:List jH)(c:jA):=(b=[]/\(c=.D\/∃a,a<e/\c=.A (.A 44 [a])/\d (.A 44 [a])=V (.A [])))\/(b≠[]/\∃a,c=.A (ll a)/\d (ll a)=V (.A<|(jz.F b).map kK))
def pX(c:lc)(f:jC)(d:List<|jA×jA):=La d<=c.A/\(∀{a b},kj d (jG a)=V b->vP c a [] b)/\∀{e a b},kj d (nh e a)=V b->pW c.B f (jz.E e a) b
section
variable{a:lc}(b:pX a c d)
def pX.B:=b.1
def pX.D:=@b.2.1
def pX.C:=@b.2.2
end
def oS(b:lc)(f:jC)(g:jD)(d:List jH)(c:List<|jA×jA):=La c<=b.A/\(∀{e a},kj c (ol e)=V a->vP b g (d++[e]) a)/\∀{a},kj c (jG .C)=V a->pW b.B f d a
section
variable{a:lc}(e:oS a c f b d)
def oS.C:=e.1
def oS.D:=@e.2.1
def oS.B:=@e.2.2
end
def mc(a:lc)(c:jC):=kv a.C a.F c/\tD a.C a.F/\(∃d,c J0=V (.B d)/\pX a c d)/\(∀{b e f},a.D b=V (e,f)->∃g,c (nU b)=V (.B g)/\oS a c e f g)/\(∀b,a.E<=b->c (nU b)=Y/\a.D b=Y)/\∀b,a.C<=b->c (ll b)=Y
section
variable{a:lc}(b:mc a c)
def mc.A:=b.1
def mc.D:=b.2.1
def mc.E:=b.2.2.1
def mc.B:=@b.2.2.2.1
def mc.C:=b.2.2.2.2.1
def mc.F:=b.2.2.2.2.2
end
def y1(b:jC)(c:jA):=∃a d,b J0=V (.B a)/\kj a c=V d
def mP(b:lc)(e:jC)(d:lc)(f:jC):=(∀{g h},b.D g=V h->d.D g=V h)/\b.B<=d.B/\b.A<=d.A/\b.C<=d.C/\(∀{a c},a<b.B->e (.A 44 [a])=V c->f (.A 44 [a])=V c)/\(∀{a c},e (ll a)=V c->f (ll a)=V c)/\∀{i},y1 e i->y1 f i
section
variable{a:lc}{b:lc}(d:mP a c b t)
def mP.F:=@d.1
def mP.D:=d.2.1
def mP.E:=d.2.2.1
def mP.H:=d.2.2.2.1
def mP.G:=@d.2.2.2.2.1
def mP.B:=@d.2.2.2.2.2.1
def mP.C:=@d.2.2.2.2.2.2
end
section
variable{e g h:lc}
def mP.I:mP e c e c:=m3 id (al _) (al _) (al _) (λa=>id) id id
def mP.A(a:mP e c g t)(d:mP g t h R):mP e c h R:=m3 (λb=>d.F<|a.F b) (aX a.D d.D) (aX a.E d.E) (aX a.H d.H) (λb f=>d.G (au b a.D)<|a.G b f) (λb=>d.B<|a.B b) λb=>d.C<|a.C b
def vP.A(d:vP e f b l)(h:mP e c g t):vP g f b l:=d.b λi a=>⟨a.1,h.F a.2⟩
def pW.A(f:pW e.B c b l)(d:mP e c g t):pW g.B t b l:=f.c (λa=>⟨a.1,a.2.c id λa=>a.b λh a=>⟨au a.1 d.D,a.2.1,d.G a.1 a.2.2⟩⟩) λa=>⟨a.1,a.2.b λh a=>⟨a.1,d.B a.2⟩⟩
def pX.A(a:pX e c d)(b:mP e c g t):pX g t d:=⟨aX a.B b.E,λf=>(a.D f).A b,λf=>(a.C f).A b⟩
def oS.A(a:oS e c f b y)(d:mP e c g t):oS g t f b y:=⟨aX a.C d.E,λh=>(a.D h).A d,λh=>(a.B h).A d⟩
def Bv(b:La y<=a)(c:a+1<=e.A):La (kF y l z)<=e.A:=aX (q9 ..)<|aX (bb b) c
def pX.E(b:pX e c d)(i:mP e c g t)(j:e.A+1<=g.A)(k:vP g f [] l):pX g t<|kF d (jG f) l:=⟨Bv b.B j,λa=>uI a (λh m=>jx (m'.a h)<|kg m k) λa=>(b.D a).A i,λa=>uI a (λh n=>(by cases h)) λa=>(b.C a).A i⟩
def pX.F(i:pX e c d)(j:mP e c g t)(k:e.A+1<=g.A)(m:pW g.B t (jz.E b f) l):pX g t<|kF d (nh b f) l:=⟨Bv i.B k,λa=>uI a (λh o=>(by cases h)) λa=>(i.D a).A j,λa=>uI a (λh n=>jx (Ez h).1<|jx (Ez h).2<|kg n m) λa=>(i.C a).A j⟩
def oS.E(d:oS e c f b y)(i:mP e c g t)(k:e.A+1<=g.A)(m:vP g f (b++[j]) l):oS g t f b<|kF y (ol j) l:=⟨Bv d.C k,λa=>uI a (λh n=>jx (Ev h)<|kg n m) λa=>(d.D a).A i,λa=>uI a (λh o=>(by cases h)) λa=>(d.B a).A i⟩
def oS.F(d:oS e c f b y)(h:mP e c g t)(i:e.A+1<=g.A)(j:pW g.B t b l):oS g t f b<|kF y (jG .C) l:=⟨Bv d.C i,λa=>uI a (λk m=>(by cases k)) λa=>(d.D a).A h,λa=>uI a (λm n=>kg n j) λa=>(d.B a).A h⟩
def mc.I(k:mc e c) b(m:jD×Lt jH)(p:e.D b=Y\/e.D b=V m){h:lc}(j:h={e with E:=h.E,A:=e.A+1,D:=λa=>if a=b then V m else e.D a})(q:e.E<=h.E)(r:b<h.E) (s:mP e c h (jE c (nU b)<|.B y)->oS h (jE c (nU b)<|.B y) m.1 m.2 y):mc h (jE c (nU b)<|.B y)/\mP e c h (jE c (nU b)<|.B y):=by
 have n:∀a,h.D a=if a=b then V m else e.D a:=λa=>jx j U;have o:mP e c h _:=⟨λ{a l} g=>by
  rw[n];by_cases f:a=b;.subst f;exact jx (aC U)<|p.a (λi=>kh<|i.b.a g) λi=>i.b.a g
  .rw[aA f];exact g,jx j<|al _,jx j<|bm _,jx j<|al _,λt=>id,id,id⟩;refine⟨lY ?_ ?_ (k.E.b λd f=>⟨f.1,f.2.A o⟩) (λ{a i u} g=>?_) (λa g=>?_) ?_,o⟩;.exact jx j<|k.A.B U
 .exact jx j k.D
 .by_cases f:a=b;.subst f;rw[n,aC U]at g;obtain rfl:=aY g;exact jO y (jS ..)<|s o
  .rw[n,aA f]at g;exact(k.B g).b λv i=>⟨(jQ _ _ λl=>f (an (jF.A.inj l).2).1).a i.1,i.2.A o⟩
 .have f:a≠b:=λl=>a' (kg l g)<|dd r;have i:=k.C a<|aX q g;exact⟨(jQ _ _ λl=>f (an (jF.A.inj l).2).1).a i.1,jx (n ..)<|jx (aA f) i.2⟩
 .exact jx j k.F
def mc.J(b:mc e c)(i:c J0=V (.B d))(j:mP e c {e with A:=e.A+1} (jE c J0<|.B<|kF d l z)->pX {e with A:=e.A+1} (jE c J0<|.B<|kF d l z) (kF d l z)):mc {e with A:=e.A+1} (jE c J0<|.B<|kF d l z)/\mP e c {e with A:=e.A+1} (jE c J0<|.B<|kF d l z):=have f:=⟨id,al _,bm _,al _,λn=>id,id,λ{k} a=>a.a λo a=>a.a λm a=>by
 by_cases g:k=l;.exact⟨_,z,jS ..,(nF ..).a<|aC g⟩
 .exact⟨_,m,jS ..,(nF ..).a<|(aA g).a<|jx (vO<|i.b.a a.1) a.2⟩⟩;⟨lY (b.A.B U) b.D ⟨_,jS ..,j f⟩ (λa=>(b.B a).b λl h=>⟨h.1,h.2.A f⟩) b.C b.F,f⟩
end
noncomputable def y2(a:Nat):Bool:=a.beq 20||a.beq 30||a.beq 33||a.beq 40||a.beq 41||a.beq 44
def nG(c:Nat->Bool)(d e:jC):=∀a b,c a=ah->e (.A a b)=d (.A a b)
section
variable{e i k:lc}{m:Nat->Bool}
def nG.C:nG m c c:=λa a a=>U
def nG.A(e:nG m c R)(f:nG m R t):nG m c t:=λa b d=>(f a b d).a<|e a b d
def nG.B(d:m a=aj):nG m c<|jE c (.A a g) q:=λf h b=>jQ _ _ λe=>by rw[(jF.A.inj e).1,d]at b;exact ot b
def nG.D:nG m c<|ks c q:=λa a a=>U
def oB(e:lc)(c:jC)(k:lc)(R:jC):=mc k R/\mP e c k R/\nG y2 c R
section
variable{e:lc}{k:lc}{R:jC}(a:oB e Z k R)
def oB.A:=a.1
def oB.B:=a.2.1
def oB.D:=a.2.2
end
def oB.E(a:mc e c):oB e c e c:=lj a .I .C
def oB.C(b:oB e c k R)(a:oB k R i t):oB e c i t:=lj a.A (b.B.A a.B)<|b.D.A a.D
def mc.G(a:mc e c):oB e c e<|ks c q:=have b:=⟨id,al _,al _,al _,λi=>id,id,id⟩;(lj (lY a.A.H a.D (a.E.b λd f=>⟨f.1,f.2.A b⟩) (λh=>(a.B h).b λj g=>⟨g.1,g.2.A b⟩) a.C a.F) b .D)
def tD.A(c:tD a o):tD (a+1)<|rg o g<|a+1:=λd=>by
 unfold rg;split;.exact .inr ⟨a+1,al _,U⟩
 .exact(c d).c id λb=>b.b λe b=>⟨dB b.1,b.2⟩
theorem mc.K(b:mc e c):oB e c {e with C:=e.C+1,F:=rg e.F g<|e.C+1}<|pz (e.C+1) e.F c e.C s g:=by
 revert e c s g;apply qu;generalize lr.1.1=s,lr.1.2=c,lr.2.1=g,lr.2.2=e;intros;exact have m:∀{j},j≠e.C->pz _ e.F c e.C s g _=c (ll j):=λa=>(jQ _ _<|λf=>a (an (jF.A.inj f).2).1).a U;have k:=⟨id,al _,al _,bm _,λp=>id,λ{j q} f=>(m λl=>mh (b.F j<|aw l.b) f).a f,id⟩;⟨lY (Bt b.A) b.D.A (b.E.b λd h=>⟨h.1,h.2.A k⟩) (λa=>(b.B a).b λr n=>⟨n.1,n.2.A k⟩) b.C λo a=>(m λl=>a' (kg l a)<|fW _).a<|b.F o<|cI a,k,λi t a=>(jQ _ _ λf=>by rw[(jF.A.inj f).1]at a;exact ot a).a (by
  show(bif i.beq 20||i.beq 30 then _ else _)=_;have h:(i.beq 20||i.beq 30)=ah:=by unfold y2 at a;cases h:i.beq 20||i.beq 30 with|false=>rfl|true=>rw[h]at a;exact ot a
  refine jx h ?_;rfl)⟩
def y3(f:pW a c b l):mv l c=V (!b.isEmpty):=f.a (λd=>jx d.1<|d.2.a (λe=>jx e U) λg=>li g λh n i j=>jx i<|o8 j) λd=>jU d.2 λh k m=>jx k<|(Bo m λe=>d.1 (gT.a<|dV.a e).1).a (by cases b with|nil=>exact a' U d.1|cons _ _=>rfl)
def MN(b:s[a]?=V j):jz.E (Ll (a+1) s) f=jz.E (Ll a s) f++if jz.C j=V f then[(j.1,j.2+1)]else[]:=by
 unfold jz.E;refine jx (nN b)<|jx ge ?_;split;.rw[eA,aC ‹_›];rfl
 .rw[eA,aA ‹_›];rfl
end
def xb:(S.A a l).A a z=S.A a z:=aJ λc=>by
 by_cases b:c=a;.subst b;simp only[jP.C,jP.C]
 .simp only[jP.B _ _ b,jP.B _ _ b,jP.B _ _ b]
def EA(f:a≠e):(S.A a l).A e z=(S.A e z).A a l:=aJ λd=>by
 by_cases b:d=e;.subst b;simp only[jP.C,jP.B _ _ λg=>f g.b,jP.C]
 .by_cases c:d=a;.subst c;simp only[jP.B _ _ b,jP.C,jP.C]
  .simp only[jP.B _ _ b,jP.B _ _ c,jP.B _ _ c,jP.B _ _ b]
def MO:Lt kb:=[.D Qp (.M [.H J6 [Jb],Jc]) Jg,.G Jg]
def MP:Lt kb:=.A Jo (.F Jh 46 [.I "$end"])::.B Qv [.B Jd [.A Jo<|.F Ja 59 [Jd],.D Jh J7 Jg] [.D Jh J7 Jd]] []::MO
def se(c:lc)(g:jC)(d:List jH)(e:jD)(a:lc)(b:jC)(h:jA):=oB c g a b/\pW a.B b (jz.E d e) h/\(∀f,a.B<=f->b (.A 44 [f])=Y)/\a.A<=c.A+2*La d+6/\a.B<=c.B+1/\y1 b (nh d e)
section
variable{a:lc}{d:lc}(e:se a c b f d t l)
def se.A:=e.1
def se.C:=e.2.1
def se.D:=e.2.2.1
def se.E:=e.2.2.2.1
def se.B:=e.2.2.2.2.2
end
section
variable{g i:lc}
def qP(g:lc)(c:jC)(a:Nat)(b:Lt jH):=mc g c/\c (ll a)=V (.A<|b.map kK)/\(∀e∈b,jz.I e)/\b≠[]/\(∀d,g.B<=d->c (.A 44 [d])=Y)/\g.A+2*La b+6<16777216/\La b+jz.B<16777216/\jz.t_
section
variable{g:lc}(d:qP g R m s)
def qP.A:=d.1
def qP.E:=d.2.1
def qP.C:=d.2.2.1
def qP.G:=d.2.2.2.1
def qP.F:=d.2.2.2.2.1
def qP.D:=d.2.2.2.2.2.1
def qP.B:=d.2.2.2.2.2.2.1
def qP.H:=d.2.2.2.2.2.2.2
end
abbrev sT(a:Nat)(f:jD)(z b c:jA):jP:=(((lv [.A lH,.A<|ll a,jG f]).A 3 z).A 4 b).A 5 c
def Bw{b c:jA}:(sT a f z b c).A 3 l=sT a f l b c:=by simp only[sT,EA (a:=5) (e:=3) jB,EA (a:=4) (e:=3) jB,xb]
def EB(h:qP g c a b)(d:oB g c i t)(m:pW i.B t (jz.E b f) l)(w:∀p,i.B<=p->t (.A 44 [p])=Y)(q:i.A+1<=g.A+2*La b+6)(x:i.B<=g.B+1){y:jA}(A:∀B r,se g c b f B r l->T l r):jY n (e+1) (sb T) (kt MO .A) [] (sT a f l z y) t:=jU d.A.E λD s u=>jN λC=>C d.A.A.A jV.A .A (qM d.A.A (d.B.B h.E) h.C h.G (by have:=h.B;exact gW this)) (lN s (tz b f)<|aZ (aX u.B<|cI q) h.D) (by have j:=d.A.G (q:=.A<|b.map ol);have k:=j.A.J s λv=>u.F (j.B.A v) (al _)<|(m.A j.B).A v;exact A _ _<|lY (d.C<|j.C<|lj k.1 k.2<|.B U) ((m.A j.B).A k.2) w q x<|ms _ l (jS ..)<|(nF ..).a<|aC U)
def mc.b_(a:mc g c):oB g c {g with B:=g.B+1} c:=have b:=⟨id,bm _,al _,al _,λh=>id,id,id⟩;(lj (lY a.A a.D (a.E.b λi d=>⟨d.1,d.2.A b⟩) (λf=>(a.B f).b λj e=>⟨e.1,e.2.A b⟩) a.C a.F) b .C)
def mc.H(b:mc g c){d:jD×Lt jH}(e:g.D a=V d):a<g.E:=gQ λf=>mh (b.C a f).2 e
def mc.L(i:mc g c)(j:g.D a=V (f,b))(p:c (nU a)=V (.B d))(n:oS g c f b d)(o:pW g.B c b l):∃h,h.A=g.A+1/\h.B=g.B/\oB g c h (jE c (nU a)<|.B<|kF d (jG .C) l):=have k:=i.I a _ (.inr j) (h:={g with A:=g.A+1,D:=λe=>if e=a then V _ else g.D e}) U (al _) (i.H j) λm=>n.F m (al _)<|o.A m;(rV {g with A:=g.A+1,D:=λe=>if e=a then V _ else g.D e} U U k.1 k.2<|.B U)
theorem WX(p:qP g c a b)(j:oB g c i t)(F:i.D m=V (f,jz.E b f))(C:t (.A 44 [g.B])=V (.A<|(jz.E b f).map kK))(v:i.B=g.B)(P:∀m,g.B+1<=m->t (.A 44 [m])=Y)(G:i.A+2<=g.A+2*La b+6)(w:∀r q l,se g c b f r q l->T l q):jY n (e+1) (sb T) (kt MP .A) [] (sT a f z (.A<|nU m)<|.A<|.A 44 [g.B]) t:=by
 revert p j;revert g i c t f b z a n e T m;apply CN;generalize my.1.1.1.1=a,my.1.1.1.2=e,my.1.1.2=m,my.1.2.1.1=b,my.1.2.1.2=c,my.1.2.2=t,my.2.1.1.1=f,my.2.1.1.2=z,my.2.1.2=n,my.2.2.1.1=T,my.2.2.1.2=g,my.2.2.2=i;intros;refine ka λQ=>jU (j.A.B F) λx k s=>?_;have y:La x<16777216:=aZ (aX s.C<|dn ‹_+2<=_›) p.D;have o:=j.A.b_;have J:=λm d=>P m<|v▸d;apply Q;by_cases h:jz.E b f=[];.
  have M:pW i.B t (jz.E b f)<|(kj x<|jG .C).getD .D:=by cases d:kj x _ with|none=>exact .inl ⟨h,.inl U⟩|some l=>exact s.B d
  have D:pW (i.B+1) t _<|.A<|.A 44 [g.B]:=.inl ⟨h,.inr ⟨g.B,v▸bN _,U,jx C<|jx h U⟩⟩;refine li (o.A.L F k (s.A o.B) D) λR K u B=>?_;have L:mv (.A<|.A 44 [g.B]) t=V ah:=(o8 C).a<|jx h U;exact jN λd=>d k .A (jX.B k (kk .C) U) .A (show mv _ t=V ah from(y3 M).a<|jx h U) .A L (lN k (kk .C) y) .A .B<|Bw (z:=z)▸(EB p (j.C<|o.C B) (z:=.A<|nU m) (y:=.A<|.A 44 [g.B]) (n:=n) (e:=e) (M.A<|o.B.A B.B) (λm d=>J m<|aX (aw u.b) d) (jx K G) (u▸v▸al _) λr q=>w r q _)
 .have N:=λw=>h<|acT.a w;cases E:kj x _ with
  |some l=>have L:mv l t=V aj:=(y3<|s.B E).a<|jx (di.b N) U;exact jN λd=>d k .A (jX.M k (kk .C) E) .A L .B<|Bw (z:=z)▸(EB p (j.C o) ((s.B E).A o.B) J (by show i.A+1<=_;exact cI G) (v▸al _) λr q=>w r q _)|none=>
   have u:=o.A.K (s:=jz.E b f) (g:=jz.a_<|jz.E b f);have Z:La (jz.E b f)<=La b:=eg ..;have D:pW (i.B+1) _ _<|.A _:=.inr ⟨h,i.C,U,yY (a:=i.C+1) (o:=i.F) (c:=t)⟩;refine li (u.A.L F k (s.A<|o.B.A u.B) D) λR K O B=>?_;have S:(kj x<|jG .C).getD .D=.D:=jx E U;exact jN λd=>d k .A (jX.B k (kk .C) S) .A U .A (show mv (.A<|.A 44 [g.B]) t=V aj from(o8 C).a<|jx List.isEmpty_map<|jx (di.b N) U) j.A.A.A .A (MM j.A.A j.A.D p.H C (λα=>U) ((λβ W=>(cV.a W).a λX y=>by
    have h:=y.2;split at h;.obtain rfl:=aY h;exact⟨(p.C X y.1).1,(ag.a ‹_›).1⟩
    .exact kh h)) (aZ (bC ‹_<=b.length› _) p.B)<|j.A.F _<|al _) (lN k (kk .C) y) .A .B<|kd (Bw (z:=z)) (Bw (z:=.D))▸(EB p (j.C<|o.C<|u.C B) (D.A B.B) (λm d=>J m<|aX (aw O.b) d) (jx K G) (jx O<|v▸al _) λr q=>w r q _)
end
def MQ:Lt kb:=[.A Jz<|.B Jj 11,.B Qw [.A Jx<|.F Jh 46 [.M [.B Jl 2,.B Jl 15]],.B (.e_ Jk) [.A Jx JW,.D Jh (.M [.B Jl 2,.B Jl 15]) Jk] [],.E<|.F Jd 42 [Jl],.A Jq Jk] []]
def WY:Lt kb:=.A Jt JY::.C Jy Jb MQ []::MP
def EC(a:c r=V (.B d)):(d=[]/\mv (.A r) c=V ah)\/mv (.A r) c=V aj:=by cases d with|nil=>exact .inl ⟨U,w1 a⟩|cons b e=>exact .inr<|w1 a
def Bx(a:jz.C j=V f):jz.k_ (j.1,j.2+1)=f:=by unfold jz.k_ jz.c_;show List.getD _ (j.2+1-1) _=f;exact jx (acI ..) (jx (bZ ..) (jx (dv<|kd dF<|Nat.lt_min.b ⟨bN _,(ag.a a).1⟩) (jx (ci<|bN _) (aB (fH · _) a))))
section
variable{g i k:lc}
def sf(b:e≠m):jF.A a [e]≠.A a [m]:=λc=>b (an (jF.A.inj c).2).1
def mc.M(a:mc g c)(j:jD×Lt jH):mc {g with E:=g.E+1,A:=g.A+1,D:=λe=>if e=g.E then V j else g.D e} (jE c (nU g.E)<|.B [])/\mP g c {g with E:=g.E+1,A:=g.A+1,D:=λe=>if e=g.E then V j else g.D e} (jE c (nU g.E)<|.B []):=a.I g.E j (.inl (a.C _<|al _).2) U (bm _) (bN _) λb=>lj (bT _) kh nofun
structure By(g:lc)(c:jC)(f:jD)(b:List jH)(a:lc)(d:jC)(m:Nat):Prop where
 A:oB g c a d
 D:a.D m=V (f,b)
 B:a.B=g.B
 E:a.A<=g.A+2
 C:∀m,d (.A 44 [m])=c (.A 44 [m])
def mc.c_(a:mc g c)(h:g.D m=V (f,b))(r:c (nU m)=V (.B d))(o:oS g c f b d)(i:jH):∃p,By g c f (b++[i]) p (jE (jE c (nU g.E)<|.B []) (nU m)<|.B<|kF d (ol i)<|.A<|nU g.E) g.E:=by have j:=a.M (f,b++[i]);have k:=bF<|a.H h;have n:=j.1.I m _ (.inr<|(aA k).a h) (h:=⟨g.C,g.E+1,g.B,g.A+1+1,g.F,λe=>if e=m then V _ else if e=g.E then V _ else g.D e⟩) U (al _) (cH<|a.H h) λq=>(o.A j.2).E q (al _)<|jO g.E U<|(aA λl=>k l.b).a<|aC U;exact⟨_,lj n.1 (j.2.A n.2)<|.A (.B U)<|.B U,(aA λl=>k l.b).a<|aC U,U,al _,λs=>U⟩
def mc.d_(d:mc g c)(e:c J0=V (.B y))(h:pX g c y)(f:jD):∃i,By g c f [] i (jE (jE c (nU g.E)<|.B []) J0<|.B<|kF y (jG f)<|.A<|nU g.E) g.E:=by have a:=d.M (f,[]);have b:=a.1.J e λj=>(h.A a.2).E j (al _)<|jO g.E U<|aC U;exact⟨_,lj b.1 (a.2.A b.2)<|.A (.B U)<|.B U,aC U,U,al _,λk=>U⟩
def mc.a_(a:mc g c)(b:g.B<=e):oB g c g<|jE c (.A 44 [e]) q:=have d:=⟨id,al _,al _,al _,λ{m k} i j=>(jQ _ _<|sf<|bF<|au i b).a j,id,id⟩;(lj (lY (a.A.B U) a.D (a.E.b λy f=>⟨f.1,f.2.A d⟩) (λb=>(a.B b).b λl h=>⟨h.1,h.2.A d⟩) a.C a.F) d<|.B U)
def qm(g:lc)(c:jC)(s:Lt jH)(f:jD)(e:Nat)(a:lc×jC×Nat):=oB g c a.1 a.2.1/\a.1.D a.2.2=V (f,jz.E (Ll e s) f)/\a.2.1 (.A 44 [g.B])=V (.A<|(jz.E (Ll e s) f).map kK)/\a.1.B=g.B/\(∀m,g.B+1<=m->a.2.1 (.A 44 [m])=Y)/\a.1.A<=g.A+2+2*e
section
variable{g:lc}{f:jD}{o:lc×jC×Nat}(p:qm g Z X f O o)
def qm.A:=p.1
def qm.C:=p.2.1
def qm.B:=p.2.2.1
def qm.E:=p.2.2.2.1
def qm.F:=p.2.2.2.2.1
def qm.D:=p.2.2.2.2.2
end
def qm.G{b:lc×jC×Nat}(a:qm g c s f e b)(h:s[e]?=V j)(i:jz.C j≠V f):qm g c s f (e+1) b:=by have d:=(MN h).a<|jx (aA i)<|jx (bQ ..) U;exact lY a.A (jx d a.C) (jx d a.B) a.E a.F<|aX a.D (by lia)
def qm.H(d:qm g c s f e (i,t,m))(o:s[e]?=V j)(h:jz.C j=V f)(b:By i t f (jz.E (Ll e s) f++[(j.1,j.2+1)]) k R a):qm g c s f (e+1) (k,jE R (.A 44 [g.B])<|.A<|(jz.E (Ll e s) f).map kK++[kK (j.1,j.2+1)],a):=by have l:=(MN o).a<|jx (aC h) U;have n:=b.B.a d.E;exact lY (d.A.C<|b.A.C<|b.A.A.a_<|aw n) (l▸b.D) ((jS ..).a (by simp only[l,bK];rfl)) n (λm h=>(jQ _ _<|sf<|bi h).a<|(b.C m).a<|d.F m h)<|aX b.E (by have:i.A<=g.A+2+2*e:=d.D;show i.A+2<=g.A+2+2*_;exact bC this 2)
def Bz(a:kv g.C g.F c)(b:jz.I j)(d:jz.n_ j=l):c (ng j)=V (.C 135<|jz.l_ j l):=jL d<|a.C b
def ED(a:jz.C j=Y):jz.n_ j=.D:=aA λb=>kh<|a.b.a<|aq b
def y4(a:jz.C j=V f):jz.n_ j=kK (j.1,j.2+1):=aC (ag.a a).1
def jW.L{a:jD}:jW .Eq (jG f) (jG a) c<|ba<|f=a:=(jW.C (kk _)<|kk _).B m'
def WZ{b c:jA}:(sT a f z l b).A 4 c=sT a f z c b:=by simp only[sT,EA (a:=5) (e:=4) jB,xb]
def oS.G(h:mc g c)(n:oS g c f b d)(k:jH):∃a,(kj d<|ol k).getD .D=a/\(mv a c=V ah\/∃e,a=.A (nU e)/\g.D e=V (f,b++[k])/\mv a c=V aj):=⟨_,U,ka λi=>by cases j:kj d _ with|none=>exact i<|.inl<|jx j U|some l=>refine jU (n.D j) λe o m=>jU (h.B m) λq p _=>?_;rw[j,o]at i;exact i ((EC p).c (·.2) λh=>kT e U m h)⟩
def EE(j:jH)(f:jD):jz.C j=Y\/jz.C j=V f\/∃a,jz.C j=V a/\a≠f:=by cases jz.C j with|none=>exact .inl U|some a=>exact .inr<|(afd _).c (aB V) λb=>jO a U b
def EF(g:lc)(a:Nat)(f:jD)(z:jA)(b:lc×jC×Nat):jP×jC:=(sT a f z (.A<|nU b.2.2)<|.A<|.A 44 [g.B],b.2.1)
def W0(c:a<=e)(d:e<=m+2+2*x){b:Nat}(f:x<b)(g:m+2*b+6<O):a<O:=aZ (aX c<|aX d (by rw[dN];exact aX (bS (bW 2 f) m)<|bd ..)) g
def W1(b:a<=e+2+2*m):a+2<=e+2*m+6:=aX (bC (aX b<|aw<|dN ..) 2)<|bS (jB:4<=6)<|e+2*m
def MR(b:a<e)(c:e+x<m):a<m:=au b<|bL<|aZ (bd ..) c
theorem W2{l:kl}(u:qP g c a s){o:lc×jC×Nat}(p:s[e]?=V j)(b:qm g c s f e o):jY n x (lV (qm g c s f<|e+1) (EF g a f z) l) (kt MQ .A) [] ((EF g a f z o).1.A 6<|kK j) o.2.1:=by
 revert u;revert g c f s z a e n x j l o;apply CN;generalize my.1.1.1.1=a,my.1.1.1.2=e,my.1.1.2=x,my.1.2.1.1=s,my.1.2.1.2=c,my.1.2.2=f,my.2.1.1.1=j,my.2.1.1.2=z,my.2.1.2=n,my.2.2.1.1=g,my.2.2.1.2=l,my.2.2.2=o;intros;exact ka λv=>by
  have q:=u.C j<|aa p;have r:=b.A.A.A;have w:=(ag.a p).1;rcases EE j f with h|h|⟨N,h,B⟩;.exact v<|jN λm=>m (Bz r q<|ED h) .A U .A<|lh o (b.G p λl=>kh<|h.b.a l) (mC U) U
  .have H:jz.I (j.1,j.2+1):=⟨q.1,(ag.a h).1⟩;have i:=r.C H;have C:=aD<|Bx h;refine jU (b.A.A.B b.C) λd t y=>?_;have D:∀{E:jP}{I},kw (sT a f z (.A<|nU o.2.2)<|.A<|.A 44 [g.B]) E->kw _ (E.A 4 I):=λm=>WZ▸m.B 4 _;obtain⟨O,F,A|⟨P,G,J,A⟩⟩:=y.G b.A.A _;.obtain⟨k,K⟩:=b.A.A.c_ b.C t y _;exact v<|jN λm=>m (Bz r q<|y4 h) .A (w2 i) i .A (jW.L.A C) t i i .A (jX.B t U F) .A A _ (λL=>(b.A.A.C _<|al _).1) i i (lN ((jQ _ _<|sf<|bF<|b.A.A.H b.C).a t) U<|W0 y.C b.D w u.D) .A b.B .A (jX.A b.B<|MR (aZ ((ab kK).b▸aX (eg ..) (fc ..)) w) u.B) .A<|lh _ (b.H p h K) (D<|wY U) U
   .have M:=G▸A;exact v<|jN λm=>m (Bz r q<|y4 h) .A (w2 i) i .A (jW.L.A C) t i i .A (jX.B t U<|F.a G) .A M .A b.B .A (jX.A b.B<|MR (aZ ((ab kK).b▸aX (eg ..) (fc ..)) w) u.B) .A<|lh _ (b.H p h ⟨.E b.A.A,J,U,bd ..,λL=>U⟩) (D<|r9 U) U
  .have i:=r.C (j:=(j.1,j.2+1)) ⟨q.1,(ag.a h).1⟩;exact v<|jN λm=>m (Bz r q<|y4 h) .A (w2 i) i .A (jW.L.A<|aG λl=>B<|(Bx h).b.a l) .A<|lh o (b.G p λl=>B<|aY<|h.b.a l) (mC U) U
def MS(h:qP g c a s)(d:By g c f [] i t m)(u:∀v o l,se g c s f v o l->T l o):jY n (x+1) (sb T) (kt WY .A) [] (((lv [.A lH,.A<|ll a,jG f]).A 3 z).A 4<|.A<|nU m) t:=jN λk=>k (.A 44 [g.B]) (λw=>(d.C _).a<|h.F _<|al _) .B (nT _ (λw=>EF g a f z) (i,jE t (.A 44 [g.B])<|.A [],m) (lY (d.A.C<|d.A.A.a_<|aw d.B) d.D (jS ..) d.B (λm k=>(jQ _ _<|sf<|bi k).a<|(d.C m).a<|h.F m<|cI k) d.E) (.A _) U (λe p b=>b.A.B.B h.E) (λe p j b y=>W2 h y b) λp b=>by have q:=b.C;have r:=b.B;rw[bI]at q r;exact WX h b.A q r b.E b.F (W1 b.D) u)
end
section
variable{d:lc}
theorem W3(g:qP d c a b)(y:∀F C m,se d c b f F C m->T m C):lz (.ref 347) [.A lH,.A<|ll a,jG f] n (e+2) c T:=by
 revert d c f b a n e T;apply sz;generalize kG.1.1.1=a,kG.1.1.2=e,kG.1.2.1=b,kG.1.2.2=c,kG.2.1.1=f,kG.2.1.2=n,kG.2.2.1=T,kG.2.2.2=d;intros;refine ka λG=>jU g.A.E λk h v=>?_;have i:=g.A.G (q:=.A<|b.map ol);have H:La k<16777216:=aZ (aX v.B<|aX (bd ..)<|bd ..) g.D;have I:∃j,(kj k<|nh b f).getD .D=j/\(mv j (ni c b)=V ah\/(pW d.B (ni c b) _ j/\mv j (ni c b)=V aj/\y1 c _)):=jO _ U (by cases w:kj k _ with|none=>exact .inl U|some m=>have p:=(v.C w).A i.B;cases D:Li (jz.E b f)with|true=>exact .inl<|(y3 p).a<|jx D U|false=>exact .inr ⟨p,(y3 p).a<|jx D U,k,m,h,w⟩);have J:∃q,(kj k<|jG f).getD .D=q/\(mv q (ni c b)=V ah\/∃r,q=.A (nU r)/\d.D r=V _/\mv q (ni c b)=V aj):=(jO _ U (by cases w:kj k _ with|none=>exact .inl U|some m=>refine jU (v.D w) λr K x=>?_;subst K;exact jU (i.A.B x) λP L _=>(EC L).c (·.2) λM=>kT r U x M));refine jU I λj z l=>jU J λq E s=>G<|mZ jV.E U λn=>?_;have A:=λ{e}=>qM (o:=n) (c:=e) g.A.A g.E g.C g.G (by have:=g.B;exact gW this);rcases l with l|⟨p,l,N⟩;.
  rcases s with s|⟨r,rfl,x,s⟩;.obtain⟨Q,t⟩:=i.A.d_ h (v.A i.B) f;have B:=MS g (z:=j) ⟨i.C t.A,t.D,t.B,t.E,t.C⟩ (n:=n) (x:=e) y;exact jN λu=>u g.A.A.A h jV.A .A A .A (jX.B h (tz b f) z) .A l .A g.A.A.A h .A (jX.B h (kk f) E) .A s _ (λO=>(i.A.C _<|al _).1) g.A.A.A (lN h (kk f) H) .B<|jx (xb (S:=(lv [.A lH,.A _,jG f]).A 3 j) (z:=.A _)) B
  .have B:=MS g (z:=j) ⟨i,x,U,bd ..,λO=>U⟩ (n:=n) (x:=e) y;exact jN λu=>u g.A.A.A h jV.A .A A .A (jX.B h (tz b f) z) .A l .A g.A.A.A h .A (jX.B h (kk f) E) .A s .B B
 .exact jN λu=>u g.A.A.A h jV.A .A A .A (jX.B h (tz b f) z) .A l<|y _ _ _<|lY i p g.F (aX (bd ..)<|bd ..) (bm _) N
end
def tE(b:Lt<|Lt jH):Lt<|jA×jA:=b.zipIdx.map λa=>(pc a.1,.B (a.2:Nat))
def W4(a:pc b=pc s):b=s:=aco (λc c=>Ev)|>.mp (jA.E.inj a)
def tF(a:Lt jH):kP (pc a)=aj:=by show(a.map ol).all _=aj;exact jL adR.b<|bc.b λb b=>U
def W5(b:Lt<|Lt jH) e(a:Lt jH):kj ((b.zipIdx e).map λg=>(pc g.1,jA.B g.2)) (pc a)=if a∈b then V<|.B ((e+Lk a b:Nat):Int)else Y:=by
 induction b generalizing e with
 |nil=>rfl|cons h i j=>
  simp only[List.zipIdx_cons,bo];unfold kj;by_cases c:h=a;.subst c;rw[aC U,aC ae,gj,aea]
  .rw[aA λf=>c<|W4 f,j];by_cases d:a∈i;.exact jx (aC d)<|jx (aC<|af _ d)<|jx (List.idxOf_cons ..)<|jx (aM c)<|jx (dN ..) U
   .exact jx (aA d)<|kd (aA λk=>(ao.a k).a (λf=>c f.b) d) U
def uJ(a:Lt<|Lt jH)(b:Lt jH):kj (tE a) (pc b)=if b∈a then V<|.B (Lk b a:Nat)else Y:=(W5 a 0 b).a<|jx (ct ..) U
def rh(a:kj d l=Y):kF d l z=d++[(l,z)]:=by
 induction d with
 |nil=>rfl|cons c f e=>
  unfold kj at a;unfold kF;by_cases b:c.1=l;.rw[aC b]at a;cases a
  .rw[aA b]at a;exact jx (aA b)<|jx (e a) U
def W6(a:kj d l=V z):kF d l z=d:=by
 induction d with
 |nil=>exact kh a|cons c g e=>
  obtain⟨f,h⟩:=c;unfold kj at a;unfold kF;by_cases b:f=l;.rw[aC b]at a⊢;rw[b,aY a]
  .rw[aA b]at a;rw[aA b,e a]
def W7(a:b∉i):kF (tE i) (pc b) (.B (La i))=tE (i++[b]):=by rw[rh<|jx (uJ ..)<|jx (aA a) U];unfold tE;simp only[List.zipIdx_append,bK,ct];rfl
def rG(a:Lt jD):Lt<|jA×jA:=a.map λb=>(jG b,.D)
def MT(e:Lt jD)(b:jD):kj (rG e) (jG b)=if b∈e then V .D else Y:=lO (by rfl) (λf g h=>by
 show kj ((jG f,.D)::rG g) _=_;unfold kj;by_cases c:f=b;.rw[aC<|aB jG c,aC<|kg c ae]
 .rw[aA λa=>c<|m'.a a,h];by_cases d:b∈g;.rw[aC d,aC<|af _ d]
  .rw[aA d,aA λa=>(ao.a a).a (λa=>c a.b) d]) e
def MU(b:Lt jD)(c:jD):kF (rG b) (jG c) .D=rG (kN b c):=by
 unfold kN;by_cases a:c∈b;.rw[aC a,W6 (by rw[MT,aC a])]
 .rw[aA a,rh (by rw[MT,aA a])];unfold rG;simp only[bK];rfl
def jz.e_(a:Lt jH):Lt jD:=a.foldl (λb c=>lb b<|jz.K c.1) []
def EG(b:Lt jH)(a:Lt jD)(c:Le a):Le (b.foldl (λa d=>lb a<|jz.K d.1) a):=by induction b generalizing a with|nil=>exact c|cons d f e=>exact e _<|qN c
def MV(a:Le w):La (rG w)<16777216:=aZ (jL (ab _).b<|no a) jB
abbrev BA(a:Nat):jP:=((lv [.A lH]).A 1<|.A J8).A 2<|.B a
abbrev BB(a b:Nat):jP:=(((BA a).A 3<|.A<|ll b).A 2<|.B<|(a:Int)+1).A 4<|.A<|.A 45 [a]
def uK(a:jC)(b:Nat)(c:Lt jD):jC:=jE a (.A 45 [b])<|.B<|rG c
section
def W8(i:kv a o c)(q:c (ll m)=V (.A<|b.map kK))(r:∀s∈b,jz.I s):tx (m7 n (.A<|ll m)<|uK c x []) Jt [.C Jy (.B Jd 9) [.D Jh Jj .a_] []] n e (BB x m) (uK c x []) (BB x m)<|uK c x<|jz.e_ b:=by
 have d:=o7 (X:=ll m) (y:=.A 5) (e:=[.C Jy (.B Jd 9) [.D Jh Jj .a_] []]) (d:=uK c x []) (λj=>uK c x<|jz.e_ _) U (λt=>q) (.A _) λj g k=>by have p:=r g<|aa k;have d:=o7 (i:=n) (c:=e) (X:=.A 21 [g.1]) (y:=.A 6) (e:=[.D Jh Jj .a_]) (g:=(BB x m).A 5<|kK g) (λu=>uK c x<|lb (jz.e_<|Ll j b) _) U (λt=>i.K p.1) (.A _) λu v w=>jN λh=>h (lN (jS ..) (kk v)<|MV<|qN<|EG _ _ .nil) ⟨lE U,((o3 ..).a (by rw[MU];rfl)).a<|aB _ (n3 w).b⟩;simp only[bI]at d;exact jN λh=>h (i.C p) .A d ⟨lE U,aB _ (n3 (c:=λy _=>lb y _) k).b⟩
 simp only[bI]at d;exact d
end
def oC(b:Lt<|Lt jH):=La b<=100/\jz.t_/\(∀a∈b,∀d∈a,jz.I d)/\(∀a∈b,La a<=100)/\jz.B<=1000/\(∀a∈b,a≠[])/\∀a∈b,∀c∈jz.e_ a,jz.E a c≠[]->jz.F (jz.E a c)∈b
section
variable(a:oC i)
def oC.B:=a.1
def oC.E:=a.2.1
def oC.C:=a.2.2.1
def oC.A:=a.2.2.2.1
def oC.F:=a.2.2.2.2.1
def oC.D:=a.2.2.2.2.2.1
def oC.G:=a.2.2.2.2.2.2
end
abbrev nj:=Lt<|Lt jH×Nat
noncomputable def nj.A(a:nj):Lt<|Lt jH:=a.map (·.1)
def nj.B(a:nj):List jA:=a.map λb=>.A<|ll b.2
def nx(f:List<|List jH)(a:nj)(c:lc)(b:jC):=mc c b/\(∀d,c.B<=d->b (.A 44 [d])=Y)/\b J8=V (.A a.B)/\(∀e∈a,b (ll e.2)=V (.A<|e.1.map kK))/\b KG=V (.B<|tE a.A)/\Le a.A/\∀g∈a.A,g∈f
section
variable{a:nj}{b:lc}(d:nx i a b c)
def nx.A:=d.1
def nx.G:=d.2.1
def nx.D:=d.2.2.1
def nx.E:=d.2.2.2.1
def nx.F:=d.2.2.2.2.1
def nx.C:=d.2.2.2.2.2.1
def nx.B:=d.2.2.2.2.2.2
end
def vQ(a:Nat):Bool:=y2 a||a.beq 34||a.beq 42
def MW a(b:vQ a=ah):y2 a=ah:=(cf.a (cf.a b).1).1
def vR(a:Lt jH)(b:jD)(c:nj)(d:jC):=y1 d (nh a b)/\(jz.E a b≠[]->jz.F (jz.E a b)∈c.A)
def W9(b:a<=e+206*m)(c:m<12)(d:x<=100)(f:e+3000<O):a+2*x+6<O:=aZ (aX (bC (bv (aX b<|bS (bW 206<|cg c) e)<|bW 2 d) 6) (by rw[cS,cS];exact bS jB e)) f
def W'(b:a<=e+206*x)(c:O<=100)(d:m<=a+2*O+6):m<=e+206*(x+1):=aX d<|aX (bC (bv b<|bW 2 c) 6) (by rw[cS,cS];exact al _)
def MX(b:a<=100)(c:e<=1000):a+e<16777216:=aZ (bv b c) jB
section
variable{d:nj}{g j:lc}
def nx.H(a:nx i d g c)(e:se g c b f j t l):nx i d j t:=m3 e.A.A e.D ((e.A.D 42 [] U).a a.D) (λh k=>e.A.B.B<|a.E h k) ((e.A.D 34 [] U).a a.F) a.C a.B
def nx.I(a:nx i d g c):nx i d g<|ks c q:=m3 a.A.G.A a.G a.D a.E a.F a.C a.B
def nx.L(e:nx i d g c)(k:s∉d.A)(n:s∈i)(o:c (ll a)=V (.A<|s.map kK)):nx i (d++[(s,a)]) g (jE (jE c KG<|.B<|kF (tE d.A) (pc s)<|.B (La d.B)) J8<|.A<|d.B++[.A<|ll a])/\mP g c g (jE (jE c KG<|.B<|kF (tE d.A) (pc s)<|.B (La d.B)) J8<|.A<|d.B++[.A<|ll a]):=have h:=⟨id,al _,al _,al _,λu=>id,id,id⟩;have j:nj.A (d++[(s,a)])=d.A++[s]:=bK;⟨m3 (lY ((e.A.A.B U).B U) e.A.D (e.A.E.b λv l=>⟨l.1,l.2.A h⟩) (λf=>(e.A.B f).b λx m=>⟨m.1,m.2.A h⟩) e.A.C e.A.F) e.G ((jS ..).a<|aB (λw=>V _) (show nj.B (d++[(s,a)])=d.B++[.A<|ll a] from bK).b) (λp f=>(bR.a f).a (e.E p) λf=>ak.a f▸o) (by refine jx j<|jL (W7 k)<|jx (show La d.A=La d.B from(ab ..).a (ab ..).b) ?_;exact jS c KG _) (kd j<|cz.b ⟨e.C,cD ..,λy q z r t=>k<|kg (ak.a r)<|kg t q⟩)<|jx j λb f=>(bR.a f).a (e.B b) λf=>kd (ak.a f) n,h⟩
def MY:Lt kb:=[.A Jx<|.F Ja 60 [Jg,Jl],.B (.g_ [.e_ Jk,.D .In (.H J6 [Jk]) Kk]) [.K] [],.D Kk (.H J6 [Jk])<|.H J1 [Jb],.E<|.F Jb 42 [Jk]]
def ri(i:Lt<|Lt jH)(g:nj)(c:lc)(d:jC)(b:Lt jH)(e:Nat)(a:nj×lc×jC):=nx i a.1 a.2.1 a.2.2/\g<+:a.1/\(∀f∈Ll e (jz.e_ b),vR b f a.1 a.2.2)/\mP c d a.2.1 a.2.2/\nG vQ d a.2.2/\a.2.1.A<=c.A+206*e
section
variable{k:nj}{o:lc}{p:nj×lc×jC}(q:ri Q k o R X O p)
def ri.A:=q.1
def ri.B:=q.2.1
def ri.G:=q.2.2.1
def ri.D:=q.2.2.2.1
def ri.C:=q.2.2.2.2.1
def ri.E:=q.2.2.2.2.2
end
def EH(m x:Nat)(a:nj×lc×jC):jP×jC:=(BB m x,a.2.2)
def vR.A{a d:nj}(e:vR b f a c)(h:a<+:d)(i:mP g c j t):vR b f d t:=⟨i.C e.1,λk=>(h.map _).subset<|e.2 k⟩
def ri.F{k:nj}{j:lc}{g d:nj×lc×jC}(h:ri i k j c b a g)(n:(jz.e_ b)[a]?=V f)(o:nx i d.1 d.2.1 d.2.2)(l:g.1<+:d.1)(m:mP g.2.1 g.2.2 d.2.1 d.2.2)(p:nG vQ g.2.2 d.2.2)(q:vR b f d.1 d.2.2)(r:d.2.1.A<=j.A+206*(a+1)):ri i k j c b (a+1) d:=⟨o,h.B.trans l,λs e=>by rw[nN n]at e;exact(bR.a e).a (λe=>(h.G s e).A l m) λe=>jx (ak.a e) q,h.D.A m,h.C.A p,r⟩
theorem Xa{s:kl}(g:oC i){C:nj}{w:lc}(r:b∈i)(G:R (ll x)=V (.A<|b.map kK))(H:La (jz.e_ b)<=11)(I:w.A+3000<16777216){h:nj×lc×jC}(k:ri i C w R b O h)(v:(jz.e_ b)[O]?=V f):jY n (e+2) (lV (ri i C w R b<|O+1) (EH m x) s) (kt MY .A) [] ((EH m x h).1.A 7<|jG f) h.2.2:=by
 revert g r G H I;revert i b f n e m x s C w R O h;apply z4;generalize lB.1.1.1.1=e,lB.1.1.1.2=m,lB.1.1.2.1=x,lB.1.1.2.2=O,lB.1.2.1.1=b,lB.1.2.1.2=R,lB.1.2.2=f,lB.2.1.1.1=i,lB.2.1.1.2=n,lB.2.1.2=s,lB.2.2.1.1=C,lB.2.2.1.2=w,lB.2.2.2=h;intro k v g r G H I;exact ka λy=>by
  have S:=k.D.B G;refine y<|jN λq=>q k.A.A.A.A .B<|W3 (po k.A.A S (g.C b r) (g.D b r) k.A.G (W9 k.E (dA<|aX (bL<|(ag.a v).1) H) (g.A b r) I) (MX (g.A b r) g.F) g.E) λj t l p=>ka λy=>?_;have J:=W' k.E (g.A b r) p.E;have K:nG vQ h.2.2 t:=λP T q=>p.A.D P T<|MW P q;rcases p.C with⟨z,Z⟩|⟨z,a,rfl,u⟩;.have D:mv l t=V ah:=(y3 p.C).a<|jx z U;exact y<|jN λq=>q .A D<|lh (h.1,j,t) (k.F v (k.A.H p) (hd _) p.A.B K ⟨p.B,λs=>a' z s⟩ J) (mC U) U
  .have d:=k.A.H p;have D:=Bo u λs=>z (gT.a<|dV.a s).1;have E:=g.G b r f (aa v) z;have L:=λ{c W} (d:nx i h.1 j c) u=>qM (o:=n) (c:=W) d.A.A (l:=ll a) u (g.C _ E) (g.D _ E)<|aZ (g.A _ E) jB;have A:=d.A.G (q:=.A<|(jz.F<|jz.E b f).map ol);have B:=d.I (q:=.A<|(jz.F<|jz.E b f).map ol);by_cases F:jz.F (jz.E b f)∈h.1.A;.have M:Lh (kj (tE h.1.A)<|pc<|jz.F<|jz.E b f)=aj:=jx (uJ ..)<|jx (aC F) U;exact y<|jN λq=>q .A D jV.A .A (L d u) d.A.A.A .A ((jW.D B.F<|tF _).A M)<|lh (h.1,j,_) (k.F v B (hd _) (p.A.B.A A.B) (K.A .D) ⟨A.B.C p.B,λX=>F⟩ J) (mC U) U
   .have M:Lh (kj (tE h.1.A)<|pc<|jz.F<|jz.E b f)=ah:=jx (uJ ..)<|jx (aA F) U;have Q:=A.A.G (q:=.A<|(jz.F<|jz.E b f).map ol);have N:=B.I (q:=.A<|(jz.F<|jz.E b f).map ol)|>.L F E u;exact y<|jN λq=>q .A D jV.A .A (L d u) d.A.A.A .A ((jW.D B.F<|tF _).A M) .A jV.B .A (jX.D d.D) d.A.A.A jV.A .A (L B u) (lN d.F (tF _)<|aZ (kg (ab ..).b acp.b▸aX (d.C.a d.B) g.B) jB) d.D .A (jX.A d.D<|aZ ((ab ..).a (ab _).b▸aX (d.C.a d.B) g.B) jB)<|lh (h.1++[(_,a)],j,_) (k.F v N.1 (List.prefix_append ..) (p.A.B.A<|(A.B.A Q.B).A N.2) (K.A<|.A .D<|.A .D<|.A (.B U)<|.B U) ⟨N.2.C<|Q.B.C<|A.B.C p.B,λX=>am.b<|jO (_,a) (bP _ ae) U⟩ J) (mC U) U
end
def xc(a:Nat):Bool:=vQ a||a.beq 45
def MZ a(b:xc a=ah):vQ a=ah:=(cf.a b).1
def Xb(b:a<=e+206*m)(c:m<=11)(d:e<=3000*x):a<=3000*(x+1):=aX b<|bv d<|aX (bW 206 c) jB
def Xc(b:a<=3000*e)(c:e<=100)(d:400000<=m):a+3000<m:=aZ (bC (aX b<|bW 3000 c) 3000)<|au (jB:3000*100+3000<400000) d
section
variable{d:nj}{g j:lc}
def nx.J(a:nx i d g c):nx i d g (jE c (.A 45 [m]) q)/\mP g c g (jE c (.A 45 [m]) q):=have b:=⟨id,al _,al _,al _,λj=>id,id,id⟩;⟨m3 (lY (a.A.A.B U) a.A.D (a.A.E.b λk e=>⟨e.1,e.2.A b⟩) (λh=>(a.A.B h).b λx f=>⟨f.1,f.2.A b⟩) a.A.C a.A.F) a.G a.D a.E a.F a.C a.B,b⟩
abbrev BC:=Nat×nj×lc×jC
structure xd(i:List (List jH))(R:jC)(a:BC):Prop where
 A:nx i a.2.1 a.2.2.1 a.2.2.2
 D:a.2.1.A[0]?=V (jz.F [(0,0)])
 B:a.1<=a.2.1.length
 E:∀b∈a.2.1.take a.1,∀f∈jz.e_ b.1,vR b.1 f a.2.1 a.2.2.2
 F:nG xc R a.2.2.2
 G:∀c,a.1<=c->a.2.2.2 (.A 45 [c])=Y
 C:a.2.2.1.A<=3000*a.1
def BD(a:BC):jP×jC:=(BA a.1,a.2.2.2)
def nx.K(a:nx i d g c)(b:oC i):La d<=100:=jx (ab _).b<|aX (a.C.a a.B) b.B
def xd.H{a:BC}(q:oC i)(c:xd i R a){e:Lt jH×Nat}(l:a.2.1[a.1]?=V e){g:nj×lc×jC}(b:ri i a.2.1 a.2.2.1 (uK a.2.2.2 a.1<|jz.e_ e.1) e.1 (La (jz.e_ e.1)) g):xd i R (a.1+1,g)/\101-(a.1+1)<101-a.1:=have j:=(ag.a l).1;have h:Ll _ g.1=Ll a.1 a.2.1++[e]:=by refine b.B.a λk h=>?_;exact jL h<|jx (List.take_append_of_le_length j)<|jx (nN l) U
 ⟨⟨b.A,(by obtain⟨k,h⟩:=b.B.map _;rw[nj.A,<-h,dv<|kd (ab ..)<|Nat.zero_lt_of_lt j];exact c.D),aX j b.B.length_le,λr m f n=>by rw[show(a.1+1,g).2.1.take (a.1+1,g).1=_ from h]at m;exact(bR.a m).a (λd=>(c.E r d f n).A b.B<|(c.A.J).2.A b.D) λd=>jx (ak.a d)<|b.G f<|jx bI<|jL (ak.a d) n,c.F.A<|.A (.B U) λk s d=>b.C k s<|MZ k d,λo p=>(b.C 45 [o] U).a<|(jQ _ _<|sf<|bi p).a<|c.G o<|cI p,Xb b.E (no<|EG _ _ .nil) c.C⟩,eB (au j<|dB<|c.A.K q)<|bN _⟩
def Xd:Lt kb:=[.A Jo<|.C Jb Jc,.M 2 .Add JX,.A Jq JW,.C Jt Jg [.C Jy (.B Jd 9) [.D Jh Jj .a_] []] [],.C Jz Jh MY []]
def Xe{l:kl}(h:oC i){a:BC}(b:xd i R a)(r:a.1=La a.2.1->l .A (BA a.1) a.2.2.2):jY n (e+2) (sP (xd i R) BD (λs=>101-s.1<101-a.1) l) ((mD<|.D .Lt Jc<|.H J1 [Jb]).B (kt Xd .A) .C) [] (BD a).1 (BD a).2:=jN λg=>g jV.B .A (jX.D b.A.D) .C (jW.B jW.H<|cY.c (by rw[show La a.2.1.B=La a.2.1 from ab ..])) (λt g=>ka λc=>by obtain⟨d,j⟩:∃d,a.2.1[a.1]?=V d:=⟨_,aq t⟩;have k:=aa j;have m:=b.A.B d.1<|jv k;have p:=b.A.J (m:=a.1) (q:=.B<|rG<|jz.e_ d.1);exact c<|g (ql b.A.D<|(ax ..).a<|aB _ j) U (.A 45 [a.1]) (λu=>b.G _<|al _) .A (W8 b.A.A.A (b.A.E d k)<|h.C _ m) .B<|uG _ (λu=>EH a.1 d.2) (a.2.1,a.2.2.1,uK a.2.2.2 a.1 _) (lY p.1 (hd _) (λf g=>a' g ac) .I .C<|al _) (.A _) U (λv q c=>jO _ ((c.C 45 [a.1] U).a<|jS ..) (by unfold rG;rw[bY];rfl)) (λv q f c w=>Xa h m (p.1.E d k) (no<|EG d.1 _ .nil) (Xc b.C (aX b.B<|b.A.K h) jB) c w) λq c=>nQ _ ((b.H h j c).1) ((b.H h j c).2) (((mC U).B 2 _).C U) U) λx g=>g<|sc<|r<|cC b.B<|cv x
def uL(i:Lt<|Lt jH)(c:jC)(d:nj)(j:lc)(t:jC):=nx i d j t/\d.A[0]?=V (jz.F [(0,0)])/\(∀a∈d,∀f∈jz.e_ a.1,vR a.1 f d t)/\nG xc c t/\j.A<=3000*La d
section
variable{d:nj}{j:lc}{t:jC}(k:uL Q Z d j t)
def uL.A:=k.1
def uL.C:=k.2.1
def uL.D:=k.2.2.1
def uL.B:=k.2.2.2.1
def uL.E:=k.2.2.2.2
end
abbrev BE(g:lc):lc:={g with C:=g.C+1,F:=rg g.F (jz.a_ [(0,0)])<|g.C+1}
def EI(g:lc)(c:jC):jC:=pz (g.C+1) g.F (ks c<|.A [kK (0,0)]) g.C [(0,0)]<|jz.a_ [(0,0)]
def BF(g:lc)(c:jC):jC:=jE (EI g c) J8<|.A [.A<|ll g.C]
def EJ(g:lc)(c:jC):jC:=jE (ni (BF g c)<|jz.F [(0,0)]) KG<|.B<|kF [] (pc<|jz.F [(0,0)]) Qg
def Xf(g:lc)(c:jC)(m:Nat)(_:Unit):jP×jC:=(BA m,fj (BF g c) (λa a=>EJ g c) m)
theorem Xg(p:oC i)(q:mc g c)(K:g.A=0)(L:∀r,g.B<=r->c (.A 44 [r])=Y)(y:0<jz.B)(v:jz.F [(0,0)]∈i)(M:c KG=V (.B []))(N:c J8=Y)(O:∀r,c (.A 45 [r])=Y) (P:∀d j t,uL i c d j t->T (.A J8) t):lz (.ref 354) [.A lH] n (e+3) c T:=by
 revert i g c n e T;apply qv;generalize kE.1.1.1=e,kE.1.1.2=c,kE.1.2=i,kE.2.1.1=n,kE.2.1.2=T,kE.2.2=g;intros;have s:=q.G (q:=.A [kK (0,0)]);have k:=s.A.K (s:=[(0,0)]) (g:=jz.a_ [(0,0)]);have C:EI g c _=V (.A _):=yY;have D:mP _ _ (BE g)<|EJ g c:=m3 id (al _) (al _) (al _) (λh=>id) id id;have z:kv (BE g).C (BE g).F<|BF g c:=k.A.A.B U;have Q:xd i c (0,[(jz.F [(0,0)],g.C)],BE g,EJ g c):=⟨m3 (lY (z.H.B U) k.A.D (k.A.E.b λX E=>⟨E.1,E.2.A D⟩) (λa=>(k.A.B a).b λx F=>⟨F.1,F.2.A D⟩) k.A.C k.A.F) L U (λG a=>(ak.a a).b▸C) (jS (ni (BF g c)<|jz.F [(0,0)]) KG<|.B _) (cD ..) λb a=>kd (ak.a a) v,U,bT _,nofun,.A (λu R a=>(s.D.A k.D) u R<|MW u<|MZ u a)<|.A (.B U)<|.A .D<|.B U,λr h=>O r,aw K⟩;refine mZ jV.v_ U λn=>jN λa=>a q.A.A q.A.A q.A.G (ql q.A.I (l:=ln 0)<|jx (ax)<|jx (bp y) U) (q.A.D y) (.B _) (λu=>mb u) .A (MM s.A.A s.A.D p.E (b:=[(0,0)]) (jS ..) (λh=>U) (λf a=>kd (ak.a a) ⟨y,bT _⟩) (MX jB p.F)<|s.A.F _<|al _) J8 (λh=>N) .B<|nT (j:=[g.C]) (p:=λB=>.A<|ll B) (λh h=>True) (Xf g c) () aH (.A _) U (λm h h=>?_) (λm h B h H=>?_) λh h=>?_;.cases m<;>exact jS (EI g c) J8<|.A [.A _]
 .obtain rfl:m=0:=iQ.a (ag.a H).1;obtain rfl:g.C=B:=aY H;exact jN λa=>a z.A jV.A .A (qM z C (p.C _ v) (p.D _ v)<|aZ (p.A _ v) jB) (lN M (tF _) jB) (χ:=1) U<|lh () aH ((mC U).B 2 _) U
 .exact mE λa=>a .B<|sQ _ BD (λJ=>101-J.1) _ Q (kd (xb (S:=(lv [.A lH]).A 1<|.A J8))<|.A _) U λJ l=>Xe p l λS=>mE λa=>a<|P _ _ _<|mS l.A l.D (λG W=>l.E G<|jx S<|jx bI W) l.F<|aX l.C<|bW _ l.B
end
def M0:f∈jz.K a↔f∈jz.A a:=(qO).c ⟨λb=>b.a (λb=>a' b ac) id,.inr⟩
def Xh:∀(d:Lt jH)(b:Lt jD),f∈d.foldl (λb c=>lb b<|jz.K c.1) b↔f∈b\/∃c∈d,f∈jz.A c.1:=λd=>by induction d with|nil=>exact λb=>⟨.inl,λa=>a.a id λa=>jU a λn i o=>a' i ac⟩|cons c p j=>exact λb=>(j _).c (by rw[qO,M0,aL];exact aK ⟨λa=>a.a (λa=>jO c ae a) λa=>a.b λe g=>⟨af _ g.1,g.2⟩,λa=>jU a λe k h=>(ao.a k).a (λl=>.inl<|jL l h) λm=>.inr<|jO e m h⟩)
def Xi(a:j∈b)(c:jz.C j=V f):f∈jz.e_ b:=(Xh b []).b<|.inr<|jO j a<|aa c
def M1(a:j∈b)(c:jz.C j=V f):jz.E b f≠[]:=eo<|cV.b<|jO j a<|aC c
def EK(a:Lt<|jA×jA)(b:Lt jH)(c:jD):Nat:=cJ λd=>kj a (nh b c)=V (.A<|ll d)
def pY(a:nj)(b:Lt<|jA×jA):j':=⟨a.A,λc d=>jz.F<|jz.E c d,λe=>(a.getD e ([],0)).2,EK b⟩
section
variable{a:nj}{b d:lc}
def Xj(r:oC i)(f:uL i c a d t):∃g,nE (pY a g)/\mo (pY a g) t:=ka λv=>by
 refine jU f.A.A.E λg y F=>?_;have s:∀{b w h},b∈a.A->w∈b->jz.C w=V h->kj g (nh b h)=V (.A<|ll<|EK g b h)/\t (ll<|EK g b h)=V (.A<|(jz.F<|jz.E b h).map kK)/\jz.F (jz.E b h)∈a.A:=λ{b w h} o z A=>ka λv=>by
  refine jU (am.a o) λk u e=>?_;subst e;have B:=f.D k u h<|Xi z A;refine te B.1 λJ K G q=>?_;have q:=vO (G.b.a y)▸q;rcases F.C q with⟨e,_⟩|⟨H,C,e,I⟩;.exact M1 z A e
  .have D:=el (p:=λC=>kj g _=V (.A _)) ⟨C,e▸q⟩;exact v ⟨D,jL (jA.A.inj<|aY<|D.b.a<|e▸q).b I,B.2 H⟩
 have E:∀{j k},a[j]?=V k->(a.getD j ([],0)).2=k.2:=λx=>jx (bZ)<|jx x U;refine v ⟨g,⟨λ{b} o=>r.C b<|f.A.B b o,λb o=>aZ (r.A b<|f.A.B b o) jB,aX (f.A.C.a f.A.B)<|aX r.B jB,λl m n=>⟨(s l m n).2.2,r.D _<|f.A.B _ (s l m n).2.2⟩⟩,?_,λ{j b} x=>?_,λl m n=>(s l m n).2.1,jO g y λl m n=>(s l m n).1,f.A.F⟩;.refine f.A.D.a<|aB (λL=>V _)<|hR λj=>?_;simp only[nj.B,ax,ax];cases e:a[j]? with|none=>rw[cx];rfl;rw[bX];exact aX (aw<|ab ..)<|bz.a e|some k=>exact jx (show(be (La (pY a g).A))[j]?=V j from bp<|hM (ag.a e).1 (ab ..).b)<|aB (λM=>V<|jA.A _) (E e).b
 .exact oR x λk u e=>jL e (show t (ll (a.getD j _).2)=_ from jL (E u).b<|f.A.E k<|aa u)
end
def on:jF:=.A 47 []
noncomputable def oT:jF:=.A 48 []
section
def xe(c:jC):jC:=ks (jE c on<|.E [])<|.A<|((be jz.B).map ln).drop 1
def M2(a:0<La v):tq (V 1) Y v=V (Lm 1 v):=aC ⟨by decide,fC.b a⟩
def EL{a:Int}:jW .Eq (.B a) (.B a) c aj:=(jW.C U U).A<|aD U
def Xk(p:kv a o c)(q:0<jz.B)(r:∀f,f<jz.B->jz.A f≠[])(s:c on=Y):jX (.ref 361) [.A lH] n (e+1) c (.A on)<|xe c:=.E λy=>⟨λ{z} h=>by have g:kv a o<|jE c on<|.E []:=p.B U;have j:kv a o<|xe c:=g.H;refine mZ jV.w_ U λn=>jN λb=>b jV.F .A (jX.b_ s) .B<|sQ (λd=>True) (λd=>(((lv [.A lH]).A 1<|.A on).A 2 Qg,jE c on<|.E [])) (λd=>0) () aH (.A _) U λd d=>jN λb=>b .A U g.A g.G .A g.I (M2 (by simp only[ab,bX];exact q)) (.B _) (λt=>mb t) .A (Ms (λd=>xe c) U (λd d=>jS ..) (.A _) λA B k=>ka λu=>?_) jV.B .A (jX.L<|jS c on _) .A EL<|sc<|mE λb=>b h;rw[<-gy]at k;exact oR k λf v w=>by have i:=bj.a<|gi<|aa v;have m:=r f i;exact pK (List.exists_cons_of_ne_nil m) λC D x=>u<|jL w<|jN λb=>b (j.D i) .A (jW.C U U|>.A (aG λh=>m<|gK.a<|sd.a h)) .A .A (Wz (jN λb=>b (j.D i) ⟨jx x U,U⟩) U<|jN λb=>b .A ((jW.d_ (X:=on) (d:=xe c)<|jS c on _).J)<|lj U U U) ⟨mC U,U⟩⟩
end
abbrev jM:=Nat×jD
def tG{a b:jM}(c:kR a=kR b):a=b:=bt (sd.a (an<|jA.E.inj c).1)<|m'.a (an (an<|jA.E.inj c).2).1
def qn(a:jM) b:lK (b+1) (kR a)=aj:=by show([jA.B a.1,jG a.2].all _)=aj;simp only[dz,dz,vK];cases b<;>rfl
def Xl{b:jM}{c:Lt jM}:kR b∈c.map kR↔b∈c:=⟨λa=>(am.a a).a λd a=>kg (tG a.2) a.1,λa=>am.b<|jO b a U⟩
def y5(d:(uF v)[a]?=V l)(e:∀b,v[a]?=V b->r4 (.B a) b=l->W):W:=(bO.a<|(gk ..).b.a d).a λb c=>e b c.1 c.2
section
variable[DecidableEq k]{a:jD->k}
def Xm{b:Lt k}:La (om u a b j)<=La b+1:=by
 unfold om;cases jz.C j with
 |none=>exact bm _|some c=>
  show La (if u c=aj then kN b _ else b)<=_;split;.exact(by
                                                    unfold kN;split;.exact bm _
                                                    .exact jx bH<|al _)
  .exact bm _
def M3(b:Lt jH)(c:Lt k):La (b.foldl (om u a) c)<=La c+La b:=by induction b generalizing c with|nil=>exact al _|cons f d e=>exact aX (e _) (by rw[cN,ck (La d),<-cS];exact bC Xm _)
end
abbrev BG(b:Lt jM)(a:Lt jH×Nat):Lt jM:=a.1.foldl (om jD.F λc=>(a.2,c)) b
def EM(a:Lt<|Lt jH):Lt jM:=a.zipIdx.foldl BG []
def Xn(a:Lt<|Lt jH×Nat)(b:Lt jM)(d:∀c∈a,La c.1<=1000):La (a.foldl BG b)<=La b+1000*La a:=by induction a generalizing b with|nil=>exact al _|cons c h e=>apply aX<|e _ λf g=>d f<|af _ g;simp only[cN,ed,ck<|1000*_,<-cS];exact bC (aX (M3 ..)<|bS (d c ae) _) _
def uM:=∀a,Lh (kj (lS 11 jz.r_)<|jG a)=a.F
def tH(a:jC)(b:Lt jM):jC:=jE a oT<|.A<|b.map kR
section
def Xo:Lt kb:=[.B (.D .Lt (.B Jd 15)<|.J .Sub (.B Jd 8) JX) [.A Jy<|.M [Jg,.C K6<|.J .Add (.B Jd 15) JX],.B (.D .In (.C Jj JX)<|.B J4 23) [.B (.D .NotIn Jj Jc) [.E<|.F Jc 42 [Jj]] []] []] []]
abbrev M4(a:Nat)(b:jF):jP:=(((lv [.A lH,.A J8]).A 2<|.A oT).A 3<|.B a).A 4<|.A b
def Xp{i:List jM}(k:kv a o<|tH c i)(u:uM)(t:jz.I j)(v:La (i.map kR)<16777216):jY n e (uE (M4 m r)<|tH c<|om jD.F (λd=>(m,d)) i j) (kt Xo .A) [] ((M4 m r).A 5<|kK j)<|tH c i:=have l:=k.C t;have p:=λf=>aB _ (Br f).b;have q:=jS ..;jN λb=>b l l .A .E (jW.H.A Ew) (λf b=>Ex f λd g=>b l l .A (sS<|Bq t g) U k.A k.G .E ((jW.D k.L<|kk d).A<|u d) (λf b=>b .C (jW.E<|jW.B (jW.F q (bc.b λz w=>(am.a w).a λd b=>jL b.2<|qn d 3)<|qn (m,d) 4)<|Xl (b:=(m,d))) (λh b=>b q .A (jX.A q v) .A .A .A ⟨mC U,((o3 ..).a (by simp only[tH,bK];rfl)).a<|aB _ (MG g f h).b⟩) λh b=>b .A .A .A ⟨mC U,p λy s A=>jL (aY<|g.b.a s)<|cB.a h⟩) λh b=>b .A .A ⟨mC U,p λy s b=>a' (jx (aY<|g.b.a s) b)<|nt h⟩) λf b=>b .A ⟨lE U,p λd g=>kh<|(MF f).b.a g⟩
def Xq(y:kv a o c)(g:nE p)(r:mo p c)(z:uM)(A:c oT=Y):jX (.ref 368) [.A lH,.A J8] n (e+1) c (.A oT)<|tH c<|EM p.A:=by
 have j:p.A.zipIdx.take (La ((be (La p.A)).map λh=>jA.A<|ll<|p.D h))=p.A.zipIdx:=dE (by simp only[ab,bX,acp];exact al _);refine⟨λ{G} B=>mZ jV.x_ U λn=>jN λk=>k oT (λs=>A) jV.D .A (Mt (λb=>tH c<|(Ll b p.A.zipIdx).foldl _ []) U (λs=>r.F) (.A _) wJ λb H C=>y5 C λD t j=>ka λu=>?_)<|jx j B⟩;have l:=kg (bX)<|kg (ab _) (ag.a t).1;obtain⟨d,m⟩:∃d,p.A[b]?=V d:=⟨_,aq l⟩;have v:=aa m;have E:p.A.zipIdx[b]?=V (d,b):=by simp only[fV,m];exact aB (λI=>V _)<|ct b
 obtain rfl:jA.A _=D:=aY<|((ax ..).a<|aB _<|bp l).b.a t;generalize q:(Ll b p.A.zipIdx).foldl _ []=w at u;refine u<|jL j<|jN λk=>k .A (o7 (λh=>tH c<|(Ll h d).foldl _ w) (aB _ q) (λs=>r.A m) (.A _) λh x i=>(n3 (c:=om jD.F λF=>(b,F)) i).b▸Xp ((λw=>y.B U) _) z (g.A v x<|aa i) (aZ (aX (jL (ab ..).b<|M3 ..)<|bv (aX (q▸aX (Xn _ _ λx i=>bL<|g.B _ (cr i|>List.fst_mem_of_mem_zipIdx)) (by simp only[fX,ct];exact bW _<|fc ..))<|bW _<|aX (bL l) g.D)<|aX (bg ..)<|bL<|g.B d v) jB)) ⟨mC U,aB _ ?_⟩;simp only[bI,nN E,co,q];rfl
end
def y6(a:jM):jF:=.A 51 [a.1,a.2.ctorIdx]
section
variable{d:jM}
def BH(p:j')(c:jC)(d:jM)(b:Lt jH):jC:=ks (ni (jE c (y6 d)<|.A []) b)<|.A<|(p.C b d.2).map ol
def Xr(y:kv a o c)(h:nE p)(z:mo p c)(s:p.A[d.1]?=V b)(m:j∈b)(i:jz.C j=V d.2)(A:c (y6 d)=Y)(B:c on=V (.E [])):jX (.ref 382) [.A lH,.A J8,kR d,.A on] n (e+3) c (.A<|y6 d)<|BH p c d b:=have q:=aa s;have k:=h.C q m i;have l:=y.B U;have g:=z.E λC D f=>jQ c _ λt=>by replace f:=(jF.A.inj t).1▸f;exact lf f
 ⟨λ{E} t=>mZ jV.z_ U λn=>jN λf=>f _ (λu=>A) l.A (ql g.F (by simp only[ax,bp (ag.a s).1];rfl)) .A (w9 l h g (g.A s) q m i) l.A g.B jV.A .A (qM l.F (g.D q m i) (h.A k.1) k.2<|br (h.B _ k.1) jB) .A (jX.C g.B (tF _) U) .A (o7 (λu=>BH p c d b) U (λu=>g.D q m i) (.A _) λF v w=>have r:=(show kv a o<|BH p c d b from l.F.H).C<|h.A k.1 v<|aa w;jN λf=>f r r .A .E (jW.H.A Ew) (λx f=>Ex x λG i=>f r r .A (sS<|Bq (h.A k.1 v<|aa w) i) .A (jW.d_ B) .A .A ⟨mC U,U⟩) λx f=>f .A ⟨lE U,U⟩) t⟩
end
def uN(e:dX)(a:jF)(f:Lt jA)(g:Nat)(b:jC)(h:jA)(i:jC):=Lw b a/\∀{c:jT}{j:jP}{d:lk},c.A=e->d h i->lm ah AZ (.A a::f) ⟨c,g,j,b⟩ d
section
variable{b:dX}(d:uN b r v a c l t)
def uN.B:=d.1
def uN.C:=@d.2
end
end
section
variable{a d i X:Nat}{b:jH → Nat → List jD}{c m W:jC}{e:j'}{f:List jH}{g α:jM → List jD}{j γ:List Nat}{k:jT}{l:List (Nat × Nat × Nat)}{n:ku × jC}{o z κ:List jM}{p:List jM → List jM → jC → Prop}{q:ku}{r:jM}{s ρ:jM → List jM}{t:jD}{u:jA}{v w:List (jA × jA)}{x:jF → Prop}{y:kl}{N:jH}{O:Type}{Q ο π:List kb}{R:List jM × jC}{S:km}{T:jF}{Z:jP}{β:lk}{δ:jC → Prop}{ε:ku × jC → Prop}{ζ:Heap}{η:Nat × jC}{θ:List (List jH)}{ι:List jD}{μ:Int}{ν σ:Option km}{ξ:Option jA}
def mi.E{b:jA}(f:Z d=V (.A T))(g:Z i=V u)(e:uN k.A T [u] a c b m):mi (.H (.A d) [.A i]) k a Z c b m:=⟨λh=>⟨Vm f<|ry<|ps g<|sC ⟨e.B,e.C U h⟩⟩⟩
def mi.I{f:cj}(d:∃b,lu.A f=V (.int μ b)):mi (.G f) k a Z c (.B μ) c:=⟨λ{z} j=>⟨λl m n o p q r s t=>d.a λb d=>um (t:=λg e=>g=.G (.int μ b)/\e=c) d lp l m n o p q r s λg e u v w h x y i=>t (.B μ) e u v w (kd h.2 j) x y ⟨b,by rw[h.1]at i;exact i⟩⟩⟩
def Xs{d:jR}(f:∀{g:ky}{e:kl},e .C Z c->jY k a e ((mD d).B g .C) [] Z c):nw (.H d Q []) k a Z c Z c:=⟨λh=>sQ (λb=>True) (λb=>(Z,c)) (λb=>0) () aH (.A _) U λb b=>f h⟩
def kq(c:jF->Prop)(d e:jC):=∀a b,¬c (.A a b)->e (.A a b)=d (.A a b)
def kq.E:kq x c c:=λa a a=>U
def kq.A(e:kq x c m)(f:kq x m W):kq x c W:=λa b d=>(f a b d).a<|e a b d
def kq.D{a:jF->Prop}(d:kq x c m)(e:∀b,x b->a b):kq a c m:=λf g h=>d f g λi=>h<|e _ i
def kq.B(b:x<|.A a j):kq x c<|jE c (.A a j) S:=λf g d=>jQ _ _ λe=>d<|kd e b
def kq.F:kq x c<|ks c S:=λa a a=>U
def kq.C(b:kq x c m)(d:c (.A a j)=ν)(e:¬x (.A a j)):m (.A a j)=ν:=(b a j e).a d
def BI{c d:jA}(a:kj v u=V d):La (kF v u c)=La v:=by
 induction v with
 |nil=>exact kh a|cons e g f=>
  unfold kj at a;unfold kF;by_cases b:e.1=u;.rw[aC b];rfl
  .rw[aA b]at a;exact jx (aA b)<|aB ek<|f a
def uO(b:jM->Lt jM)(c d:jM->Lt jD)(a:jM):Lt jD:=(b a).foldl (λe f=>lb e<|d f)<|c a
noncomputable def EN:Int:=9223372036854775807
def tI(a:Lt jM)(b:jM):Int:=if b∈a then EN else 0
def qQ(a:Nat):Bool:=a.beq 56||a.beq 57||a.beq 58
structure BJ(i:dX)(j:Nat)(m n:jF)(o:Nat)(k:List jM)(p:jM->List jM)(q:jM->List jD)(f:List jM->List jM->jC->Prop):Prop where
 B:∀{c d e a},f d e c->a∈k->a∉d->∃b,uN i n [kR a] j c (.A (mU a)) b/\b (mU a)=V (.A ((q a).map jG))/\kq (· =mU a) c b/\f (d++[a]) e b
 C:∀{c d e a},f d e c->a∈k->a∉e->∃b g,uN i m [kR a] j c (.A (.A 51 g)) b/\b (.A 51 g)=V (.A ((p a).map kR))/\kq (λh=>∃g,h=.A 51 g) c b/\f d (e++[a]) b
 A:∀{c b d e},f d e c->kq (λh=>(∃l,qQ l=aj/\h=.A l [o])\/∃a∈d,h=mU a) c b->f d e b
def qo(e:Nat)(f:Lt jM)(g:jM->Lt jD)(h:Lt jM->Lt jM->jC->Prop)(b:Lt jM)(d:jC):=(∃c,d (.A 56 [e])=V (.B c)/\La c<16777216/\∀a∈f,kj c (kR a)=V (.B<|tI b a))/\d (.A 57 [e])=V (.A [])/\(∃c,d (.A 58 [e])=V (.B c)/\La c<=La b/\∀a∈b,kj c (kR a)=V (.A<|mU a))/\(∀a∈b,d (mU a)=V (.A<|(g a).map jG))/\h b b d/\Le b/\∀a∈b,a∈f
section
variable(b:qo a o g p z c)
def qo.E:=b.1
def qo.F:=b.2.1
def qo.B:=b.2.2.1
def qo.C:=b.2.2.2.1
def qo.A:=b.2.2.2.2.1
def qo.G:=b.2.2.2.2.2.1
def qo.D:=b.2.2.2.2.2.2
end
def sg{a:jM}(c:mU r=mU a):r=a:=have b:=(jF.A.inj c).2;bt (an b).1 (aY<|(w8 r.2).b.a<|(aB _ (an (an b).2).1).a<|w8 a.2)
def jJ(b:a≠d):jF.A a j≠.A d γ:=λc=>b (jF.A.inj c).1
def sh(f:Nat)(i:Lt jM)(g:jM->Lt jM)(j h:jM->Lt jD)(k:Lt jM->Lt jM->jC->Prop)(e:Lt jM)(b:jM)(l:jF)(m:Nat)(d:jC):=(∃c,d (.A 56 [f])=V (.B c)/\La c<16777216/\(∀a∈i,a≠b->kj c (kR a)=V (.B<|tI e a))/\kj c (kR b)=V Qh)/\d (.A 57 [f])=V (.A [kR b])/\(∃c,d (.A 58 [f])=V (.B c)/\La c<=La e+1/\∀a∈e++[b],kj c (kR a)=V (.A<|mU a))/\(∀a∈e,d (mU a)=V (.A<|(h a).map jG))/\d (mU b)=V (.A<|((Ll m<|g b).foldl (λn a=>lb n<|h a)<|j b).map jG)/\k (e++[b]) (e++[b]) d/\d l=V (.A<|(g b).map kR)
section
variable(b:sh a o s g α p z r T d c)
def sh.C:=b.1
def sh.A:=b.2.1
def sh.D:=b.2.2.1
def sh.B:=b.2.2.2.1
def sh.E:=b.2.2.2.2.1
def sh.F:=b.2.2.2.2.2.1
def sh.G:=b.2.2.2.2.2.2
end
section
variable{b:jF}
def Xt:Lt kb:=[.B (.D .Eq (.C Jb Jf) J3) [.E<|.H (.G "traverse") [Jf,Jb,Jc,Jg,Jh,Jd,Jj]] [],.D Jb Ja<|.H (.G "min") [.C Jb Ja,.C Jb Jf],.C JC (.F Jg 46 [Jf,.K []]) [.B (.D .NotIn Jn Qa) [.E<|.F Qa 42 [Jn]] []] []]
abbrev EO(d:Nat)(r:jM)(a:jA)(T b c:jF):jP:=((lv [kR r,.A<|.A 56 [d],.A<|.A 57 [d],.A<|.A 58 [d],a,.A T,.A b]).A 7 Qh).A 8<|.A c
def M5:jE (jE c T<|.A<|ι.map jG) T (.A<|ι.map jG++[jG t])=jE c T (.A<|(ι++[t]).map jG):=(o3 ..).a<|jx bK U
abbrev xf(s:jM->Lt jM)(g α:jM->Lt jD)(r:jM)(i:Nat):Lt jD:=(Ll i<|s r).foldl (λa b=>lb a<|α b)<|g r
def EP(c:jC)(d:Nat)(a:Lt<|jA×jA)(r:jM):jC:=ks (jE c (.A 56 [d])<|.B<|kF a (kR r)<|.B (if EN<1 then EN else 1))<|.A []
def Xu(γ:BJ ζ a T b d o s g p)(δ:∀f∈z,f∈o)(K:r∉z)(C:Le (g r)){f:jM}(ε:(s r)[i]?=V f)(n:f∈z)(m:sh d o s g α p z r (.A 51 j) i c):jY k a (lV (sh d o s g α p z r (.A 51 j)<|i+1) (λc=>(EO d r u T b<|.A 51 j,c)) y) (kt Xt .A) [] ((EO d r u T b<|.A 51 j).A 9<|kR f) c:=ka λη=>by
 have L:f≠r:=λq=>K<|kg q n;refine oe m.C λE v M N O=>li m.D λP t θ F=>?_;have Q:r∈z++[r]:=bP _ ae;have R:=(N f (δ f n) L).a (by rw[tI,aC n]);have G:=qn r 4;have H:=qn f 4;have S:∀{W:jC},W (.A 58 [d])=V (.B P)->mY (.A<|.A 58 [d]) _ W=V (.A _):=λh=>ne h G<|F r Q;refine η<|jN λh=>h (ne v H R) .A ((jW.C U U).A<|aG λy=>a' (jA.B.inj y) jB) .A jV.Q_ (ne v G O) (ne v H R) .A jX.j_ (lN v G M) t (.B _) (λw=>mb w) .A (jX.C t H (f:=jx (F f<|bM _ n) U)) .A (o7 (λx=>jE _ _<|.A<|(lb (xf s g α r i)<|Ll x<|α f).map jG) (xa (c:=EP c d E r) (r:=mU r) m.E).b (λx=>(jQ _ _ λy=>L<|sg y).a<|m.B f n) (.A _) λx X ι=>?_)<|lh _ ?_ (lE U) U;.have I:jE (EP c d E r) _ (.A _) (mU r)=V (.A<|(lb (xf s g α r i)<|Ll x<|α f).map jG):=jS ..;have Z:lb _ _=kN (lb (xf s g α r i) _) X:=n3 ι;exact jN λh=>h (S t) .C (jW.E<|jW.B (jW.F I (oA _)<|kk X) uH) (λq h=>h (S t) I .A (jX.A I<|Bs<|qN<|(by unfold xf;generalize Ll i (s r)=A;generalize g r=κ at C⊢;induction A generalizing κ with|nil=>exact C|cons f ο μ=>exact μ _<|qN C)) .A ⟨lE U,M5.a (by rw[Z,kN,aA q])⟩) λq h=>h .A ⟨lE U,by rw[Z,kN,aC<|cB.a q]⟩
 .have ν:kq (λA=>(∃w,qQ w=aj/\A=.A w [d])\/∃ξ∈z++[r],A=mU ξ) c<|jE (EP c d E r) _<|.A<|(lb (xf s g α r i)<|(α f).take (La (α f))).map jG:=.A (.B<|.inl<|jO 56 U U)<|.A .F<|.B<|.inr<|jO r Q U;exact m3 (nQ _ (jS c (.A 56 [d]) _) (jx (BI O) M) (λJ h B=>(λh B=>(nF ..).a<|(aA λy=>B<|tG y).a<|N _ h B) h B)<|(nF ..).a<|aC U) m.A (kT P t θ F) (λJ β=>(jQ _ _ λy=>K<|kg (sg y:J=r) β).a<|m.B J β) ((jS ..).a<|jx bI<|jL (show xf s g α r _=lb _ _ from n3 ε) U) (γ.A m.F ν) m.G
end
section
variable{b:jF}
def Xv{a:jM}(d:a≠r):tI (z++[r]) a=tI z a:=by
 unfold tI;by_cases b:a∈z;.rw[aC b,aC<|bM _ b]
 .rw[aA b,aA λc=>(bR.a c).a b λc=>d<|ak.a c]
def Xw(v:BJ ζ a T b d o s g p)(Z:La o<16000000)(γ:Le (g r))(F:r∈o)(w:r∉z)(δ:∀f∈s r,f∈z)(ε:α r=uO s g α r)(q:qo d o α p z c)(G:k.A=ζ)(h:∀x,qo d o α p (z++[r]) x->β .D x):lz (.ref 301) [kR r,.A<|.A 56 [d],.A<|.A 57 [d],.A<|.A 58 [d],u,.A T,.A b] k (a+1) c β:=ka λL=>by
 refine li q.E λO H y I=>li q.B λη J A B=>?_;have t:=qn r 4;have M:r∈z++[r]:=bP _ ae;have P:=aZ (q.G.a q.D) Z;obtain⟨φ,θ,ι,K,κ⟩:=v.B (v.A q.A<|.A (.B<|.inl ⟨57,U,U⟩)<|.B<|.inl ⟨56,U,U⟩) F w;have N:∀{C j},C≠50->¬jF.A C j=mU r:=λe=>jJ e;obtain⟨Q,j,μ,ν,D,ξ⟩:=v.C (v.A κ<|.B<|.inl ⟨58,U,U⟩) F w;have E:∀{C j},C≠51->¬∃ο,jF.A C j=.A 51 ο:=λe h=>h.a λπ h=>jJ e h;have ρ:sh d o s g α p z r (.A 51 j) 0 Q:=⟨nQ (kF O _ Qh) (D.C (K.C (jS ..)<|N jI)<|E jI) (jx (BI<|I r F) y) (λf e σ=>(nF ..).a<|(aA λh=>σ<|tG h).a<|I f e)<|(nF ..).a<|aC U,D.C (K.C (jS ..)<|N jI)<|E jI,⟨_,D.C (jS ..)<|E jI,aX (q9 ..)<|bb A,λf e=>(nF ..).a (by
  by_cases m:f=r;.rw[m,aC U]
  .rw[aA λh=>m<|tG h];exact B f<|(bR.a e).d λh=>m<|ak.a h)⟩,λf e=>D.C (K.C (q.C f e) λh=>w<|kg (sg h:f=r) e)<|E jI,D.C ι<|E jI,ξ,ν⟩;refine L<|Ep jV.s_ U λχ ψ=>jN λe=>e q.F .A (jX.A q.F jI) jV.B .A (jX.D<|jS ..) (lN H t y) .A (mi.E U U<|G▸θ) (lN (K.C J<|N jI) t<|aZ A<|br P jI) .A (mi.E U U<|G▸μ) .B<|nT _ (λπ c=>(EO d r u T b<|.A 51 j,c)) Q ρ (.A _) U (λi c n=>n.G) (λi c f n R=>Xu v q.D w γ R (δ f<|aa R) n) λc n=>ka λL=>?_;refine oe n.C λO H y I S=>li n.D λη J A B=>?_;have W:∀{x:jC},x (.A 57 [d])=V (.A [kR r])->mY (.A<|.A 57 [d]) (.B (-1)) x=V _:=λe=>Bh e;refine L<|mE λe=>e (ne H t S) .A EL .A (mi.I jV.a_6) (W n.A) (lN H t y) (ne J t<|B r M) (W n.A) (lN J t<|aZ A<|br (fR P) jI) n.A .A (jX.h_ (X:=.A 57 [d]) n.A U) .A (Xs λτ=>jN λe=>e .A ((jW.G t t).A<|aG λh=>h U) τ) .A<|h _<|m3 (kT _ (jS c (.A 56 [d]) _) (jx (BI S) y) λf e=>(nF ..).a ?_) (jS ..) (kT _ (jS (jE c (.A 56 [d]) _) (.A 58 [d]) _) ?_ λf e=>(nF ..).a ?_) (λf e=>?_) (v.A n.F<|.A (.B<|.inl ⟨56,U,U⟩)<|.A (.B<|.inl ⟨58,U,U⟩)<|.B<|.inl ⟨57,U,U⟩) ?_ ?_;.
  by_cases m:f=r;.rw[m,aC U,tI,aC M];rfl
  .exact jx (aA λh=>m<|tG h)<|jx (Xv m)<|I f e m
 .exact jx (BI<|B r M)<|kd bH A
 .by_cases m:f=r;.rw[m,aC U]
  .exact jx (aA λh=>m<|tG h)<|B f e
 .rcases bR.a e with e|e;.exact n.B f e
  .refine jx (ak.a e)<|jx ε ?_;have X:=n.E;rw[bI]at X;exact X
 .exact cz.b ⟨q.G,cD ..,λω υ Γ G m=>w<|ak.a G▸kg m υ⟩
 .exact λf e=>(bR.a e).a (q.D f) λe=>kd (ak.a e) F
end
def M6(a:Lt jM):Lt<|jA×jA:=a.foldl (λb c=>kF b (kR c) Qg) []
def M7(b:Lt jM)(a:Lt<|jA×jA):La (b.foldl (λa c=>kF a (kR c) Qg) a)<=La a+La b:=by induction b generalizing a with|nil=>exact al _|cons c d e=>exact aX (e _) (by simp only[cN,ck (La d),<-cS];exact bC (q9 ..) _)
def Xx(c:Lt jM)(a:Lt<|jA×jA)(b:r∈c\/kj a (kR r)=V Qg):kj (c.foldl (λa d=>kF a (kR d) Qg) a) (kR r)=V Qg:=by
 induction c generalizing a with
 |nil=>exact b.b ac|cons d h f=>
  apply f _;rw[nF];by_cases e:r=d;.exact jx e<|jx (aC U)<|.inr U
  .exact jx (aA λg=>e<|tG g)<|b.c (λb=>(ao.a b).b e) id
section
variable{b:jF}
def M8(x:BJ ζ a T b d o s g p)(t:La o<16000000)(B:Le o)(C:∀e,Le (g e))(D:∀i e,o[i]?=V e->∀y∈s e,y∈Ll i o)(E:∀e∈o,α e=uO s g α e)(F:p [] [] c)(G:c oT=V (.A<|o.map kR)) (H:c (.A 56 [d])=Y) (J:c (.A 57 [d])=Y) (K:c (.A 58 [d])=Y) (L:k.A=ζ) (M:∀{N O c},p N O c->c oT=V (.A<|o.map kR)) (u:∀q,qo d o α p o q->β (.A<|.A 58 [d]) q):lz (.ref 294) [.A oT,.A T,.A b] k (a+2) c β:=by
 have P:qo d o α p []<|jE _ (.A 58 [d])<|.B []:=m3 (kT (M6 o) (jS c (.A 56 [d]) _) (aZ (M7 o []) (by simp only[fX,ct];exact br t jB)) λy h=>(Xx o []<|.inl h).a (by rw[tI,aA ac])) (jS _ (.A 57 [d]) _) (kT [] (jS ..) (al _) λj h=>a' h ac) (λj h=>a' h ac) (x.A F<|.A (.B<|.inl<|jO 56 U U)<|.A (.B<|.inl<|jO 57 U U)<|.B<|.inl<|jO 58 U U) .nil λj h=>a' h ac;have z:Ll (La o) o=o:=bI;refine Ep jV.r_ U λX Z=>jN λh=>h (.A 56 [d]) (λj=>H) .A (o7 (λi=>jE c (.A 56 [d])<|.B<|M6<|Ll i o) U (λj=>G) (.A _) λi e m=>jN λh=>h (lN (jS ..) (qn e 4) ?_) ⟨lE U,(o3 ..).a ?_⟩) (.A 57 [d]) (λj=>J) (.A 58 [d]) (λj=>K) .B<|nT (j:=o) (λi c=>qo d o α p (Ll i o) c) (λj c=>(((((lv [.A oT,.A T,.A b]).A 3<|.A<|.A 56 [d]).A 5<|.A<|.A 57 [d]).A 6<|.A<|.A 58 [d]),c)) _ P (.A _) ?_ (λi c l=>M l.A) (λi c e l m=>?_) λc l=>mE λh=>h<|u c (by rw[z]at l;exact l);.exact aZ (M7 _ []) (by simp only[fX,ct];exact aZ (bg ..)<|br t jB)
 .exact aB (λv=>jE c (.A 56 [d])<|.B v) (n3 (c:=λv e=>kF v _ Qg) m).b
 .show jE _ (.A 58 [d]) (.B [])=_;exact jx z U
 .have w:=aa m;have A:e∉Ll i o:=λu=>by obtain⟨γ,r⟩:=jl u;have n:=(ag.a r).1;rw[dF]at n;have n:=au n<|iB ..;rw[ci n]at r;exact bF n<|(dT (ag.a r).1 B).a<|r.a m.b
  exact ka λQ=>li l.E λδ R ε S=>Q<|jN λh=>h (ne R (qn e 4)<|S e w) .A (show jW .Eq (.B _) Qg c aj from jx (show tI _ e=0 from aA A) EL) jV.U_ .B<|Xw x t (C e) w A (D i e m) (E e w) l L λq W=>jN λh=>h .A<|lh q (jx (nN m) W) (lE U) U
end
section
variable{b e f:bk}{g h j l m:Nat}{n o:Lt (Nat×Nat)}{p q:jR}{r:cj}{s:bB}{t:Lt jA}{v w:jF}
def EQ(c:jC)(T:jF)(f:bk)(v w:jF)(a b:Array bB)(d e:km):jC:=jE (jE (jE (jE c T<|.D f a) v d) T<|.D f b) w e
theorem M9(L:Bg b a (.A Jq (.i_ d n X h p)::.A Jt (.i_ i o g j q)::.A Jy (.H (.G r) [.A l,Jd,Jh])::[.G Jj]) e)(M:La t=a)(N:hO nl e f)(O:∃J,nl.Ns cu J/\nl.BuiltinsAt J f)(P:c T=V (.D f #[]))(Q:(X.beq g&&h.beq j)=ah) (R:∀x∈n,∃y,lv t x.2=V y) (S:∀x∈o,∃y,((lv t).A 4<|.A v) x.2=V y) (W:c v=Y) (Z:c w=Y) (α:w≠v) (γ:∀x∈n,x.2≠4/\x.2≠5) (δ:∀x∈o,x.2≠5) (K:mN r s) (ε:lv t l=V u) (ζ:l≠4/\l≠5) (G:∀(z:jT) H I A B C D E F,uy z.A A C E (oh n<|lv t) d p->uy z.A B D F (oh o<|(lv t).A 4<|.A v) i q->lz s [u,.A w,.A v] z m (EQ c T f v w H I (.F A C E)<|.F B D F) β):lz (.ref b) t k (m+1) c β:=L.A.a λη θ=>li θ λρ ι κ μ=>⟨DX (I5 ι (jx M κ) U λν=>by simp only[bQ];exact(Vr (m:=⟨k.C ν η.code,m,lv t,c⟩) μ N O P Q R S W Z α γ δ K.A K.B jB ε ζ λz H I A B C D E F ξ ο=>((G z H I A B C D E F ξ ο).go).A λy τ π=>sN<|sM [.G Jj] (d:=[]) (show jY _ _ _ _ _ ((((lv t).A 4<|.A v).A 5<|.A w).A 6 y) _ from jN λG=>G π)).C Mu)⟩
end
def uN.A{b:hP}{e:List bB}{f:List jA}{g:jR}{h:jA}(k:uy ζ b e f Z a g)(i:c T=V (.F b e f))(l:∀{n:jT}{j:lk},j h m->nB g n d (Z.A a u) c j):uN ζ T [u] (d+1) c h m:=⟨Gp b e f i,λo p=>k o U i λq r=>nC<|l p⟩
noncomputable def si(a:Nat):Bool:=a.beq 50||a.beq 51||a.beq 56||a.beq 57||a.beq 58
def uP(c d:jC):=∀a b,si a=ah->d (.A a b)=c (.A a b)
def rH(c:Lt jM)(e:jC)(f g:Lt jM)(a:jC):=uP e a/\(∀b∈c,b∉f->a (mU b)=Y)/\(∀b∈c,b∉g->a (y6 b)=Y)/\(∀h i j,a (.A 51 [h,i,j])=Y)/\∀d,qQ d=aj->a (.A d [1])=Y
section
variable(a:rH o c z κ m)
def rH.A:=a.1
def rH.C:=a.2.1
def rH.D:=a.2.2.1
def rH.B:=a.2.2.2.1
def rH.E:=a.2.2.2.2
end
section
variable{b:km}
def qR(c m:jC):=∀a b,a<=46->m (.A a b)=c (.A a b)
noncomputable def vS:Lt Nat:=[24,20,30,0,1,4,5,8,12,21,23,26]
def xg(e:d∈vS)(b:(bif a.beq d then ν else σ)=V S)(f:σ=V S->a∈vS):a∈vS:=by cases c:a.beq d with|true=>exact kd (bA c) e|false=>rw[c]at b;exact f b
def xh{e:Bool}(f:d∈vS)(b:(bif a.beq d&&e then ν else σ)=V S)(g:σ=V S->a∈vS):a∈vS:=by cases c:a.beq d with|true=>exact kd (bA c) f|false=>rw[c]at b;exact g b
theorem ER(b:o9 a q d j=V S):d∈vS:=by revert a q d j S;apply uc;generalize mf.1.1.1=a,mf.1.1.2=d,mf.1.2=j,mf.2.1=q,mf.2.2=S;intros;exact xg jB b λb=>xg jB b λb=>xh jB b λb=>xh jB b λb=>xh jB b λb=>xh jB b λb=>xh jB b λb=>xh jB b λb=>xg jB b λb=>xg jB b λb=>xg jB b λb=>xg jB b λb=>kh b
def kv.E(e:kv a q c)(f:qR c m):kv a q m:=λg i b=>by cases g with|B j=>exact kh b|A d h=>exact(f d h<|(by decide:∀j∈vS,j<=46) d<|ER b).a<|e _ _ b
def mo.C(b:mo e c)(d:qR c m):mo e m:=b.E λf g a=>d f g (by simp only[cT,az,az]at a;exact a.a (λa=>aX (bE a.1) (show 34<=46 by decide)) λa=>aX (bE a.1) (show 42<=46 by decide))
def uP.A(e:uP c m):qR c m:=λd f g=>e d f (by have a:∀b,46<b->d.beq b=ah:=λb h=>o2<|bF<|aZ g h;unfold si;simp only[a 50 jB,a 51 jB,a 56 jB,a 57 jB,a 58 jB];rfl)
def kq.G(d:kq x c m)(e:∀a b,x (.A a b)->46<a):qR c m:=λa b f=>d a b λg=>dd (e a b g) f
def uP.B(e:uP c W)(f:uP W m):uP c m:=λa b d=>(f a b d).a<|e a b d
def kq.H(d:kq x c m)(e:∀a b,x (.A a b)->si a=aj):uP c m:=λa b f=>d a b λg=>av<|f.b.a<|e a b g
def j'.B(e:j')(a:Nat):Lt jH:=e.A.getD a []
def j'.E(b:e.A[a]?=V f):e.B a=f:=by simp only[j'.B,bZ,b];rfl
def BK(e:j')(o:Lt jM):=∀a∈o,e.A[a.1]?=V (e.B a.1)/\∃b∈e.B a.1,jz.C b=V a.2
noncomputable def M'(e:∃b,qQ b=aj/\jF.A d j=.A b [a]):si d=aj:=e.a λb c=>by rw[(jF.A.inj c.2).1];have:=c.1;unfold qQ at this;unfold si;rw[adC,adC]at*;rw[this,adU]
def rH.F(q:1≠a)(g:rH o W z κ c)(h:kq (λp=>(∃e,qQ e=aj/\p=.A e [a])\/∃f∈z,p=mU f) c m):rH o W z κ m:=⟨g.A.B<|h.H λe w k=>k.a M' λk=>k.a λf d=>jx (jF.A.inj d.2).1 U,λf l i=>h.C (g.C f l i) λb=>b.a (λb=>b.a λe d=>by rw[<-(jF.A.inj d.2).1]at d;exact lf d.1) λb=>jU b λj r s=>i<|kd (sg s:f=j) r,λf l i=>h.C (g.D f l i) λb=>b.a (λb=>b.a λe d=>by rw[<-(jF.A.inj d.2).1]at d;exact lf d.1) λb=>b.a λj d=>jJ jB d.2,λt u v=>h.C (g.B t u v) λb=>b.a (λb=>b.a λe d=>by rw[<-(jF.A.inj d.2).1]at d;exact lf d.1) λb=>b.a λj d=>jJ jB d.2,λe n=>h.C (g.E e n) λb=>b.a (λb=>b.a λe d=>q (an (jF.A.inj d.2).2).1) λb=>b.a λj d=>by rw[(jF.A.inj d.2).1]at n;exact lf n⟩
def Xy(Q:1≠i){F G:hP}{H I:Lt bB}{J K:Lt jA}(n:kv a q m)(L:mo e m)(R:m on=V (.E []))(S:m Qz=V (.F F H J))(T:m (.A 55 [1])=V (.F G I K))(M:nE e)(N:BK e o)(j:0<jz.B)(W:jz.A 0≠[]) (X:uy ζ F H J (oh [(1,1),(2,3),(3,0)]<|lv [.A lH,.A J8,.A oT,.A on]) 0<|.F Jg 64 [Jb,Ja,Jc]) (Z:uy ζ G I K (oh [(1,1),(2,3),(3,0)]<|(lv [.A lH,.A J8,.A oT,.A on]).A 4<|.A Qz) 0<|.F Jg 65 [Jb,Ja,Jc]):BJ ζ (d+4) (.A 55 [1]) Qz i o (λO=>[]) (λf=>tB e f<|e.B f.1) (rH o m)where
 B:=λ{c z κ f} b s α=>by
  obtain⟨u,β,v,w⟩:=N f s
  have n:=n.E b.A.A
  have h:kq (· =mU f) c<|vN c f (e.B f.1)<|tB e f<|e.B f.1:=.A (.B U)<|.A .F<|.B U
  exact⟨_,.A X ((b.A 55 [0] U).a S) λg=>jN λk=>k n.A .A (WI n M (L.C b.A.A) u v w j W<|b.C f s α) g,jS ..,h,b.A.B<|h.H λt x k=>(jF.A.inj k).1▸U,λl p j=>h.C (b.C l p λg=>j<|bM _ g) λg=>j<|(sg g:l=f)▸bP _ ae,λl p j=>h.C (b.D l p j)<|jJ jB,λy D E=>h.C (b.B y D E)<|jJ jB,λt r=>h.C (b.E t r) λg=>by
   rw[(jF.A.inj g).1]at r
   exact lf r⟩
 C:=λ{c z κ f} b s γ=>by
  obtain⟨u,β,v,w⟩:=N f s
  have n:=n.E b.A.A
  have h:kq (· =y6 f) c<|BH e c f<|e.B f.1:=.A (.B U)<|.A .F .F
  exact⟨_,_,.A Z ((b.A 55 [1] U).a T) λg=>jN λk=>k n.A .A (Xr n M (L.C b.A.A) u v w (b.D f s γ)<|(b.A 47 [] U).a R) g,jS c ..,h.D λP k=>⟨_,k⟩,b.A.B<|h.H λt x k=>(jF.A.inj k).1▸U,λl p j=>h.C (b.C l p j)<|jJ jB,λl p j=>h.C (b.D l p λg=>j<|bM _ g) λg=>j<|((sg<|aB (λP=>jF.rec (motive:=λO=>jF) (λδ=>.B δ) (λO x=>.A 50 x) P) g):l=f)▸bP _ ae,λy D E=>h.C (b.B y D E) λg=>a' (an (an (jF.A.inj g).2).2).2<|acU _ _,λt r=>h.C (b.E t r) λg=>by
   rw[(jF.A.inj g).1]at r
   exact lf r⟩
 A:=rH.F Q
def Xz[DecidableEq O]{f:jD->Bool}{g:jD->O}{e:O->Prop}(i:∀b,f b=aj->e (g b))(h:Lt jH):∀(c:Lt O),(∀a∈c,e a)->∀a∈h.foldl (om f g) c,e a:=lO (λn d=>d) (λj o k=>by
 refine λc d=>k _ ?_;unfold om;cases jz.C j with
 |none=>exact d|some b=>
  show∀a∈(if f b=aj then kN c _ else c),e a;split;.exact λa l=>(rf.a l).a (d a) λm=>kd m<|i b ‹_›
  .exact d) h
def rI(e:j')(a:jM):Lt jD:=tB e a<|e.B a.1
def Na(c:jM):Le (rI e c):=by
 unfold rI tB;split;.refine cz.b ⟨Bp _,cD ..,λd f l h i=>?_⟩;have b:=Xz (g:=id) (e:=λj=>j.H=aj) (λk a=>a) _ [] (λk a=>a' a ac) d f;rw[i,ak.a h]at b;exact lf b
 .rw[bQ];exact Bp _
def BL{a:O->Prop}:∀b∈([]:Lt O),a b:=λd c=>a' c ac
def uQ{b:O->Prop}{c:O}{d:Lt O}(e:b c)(f:∀a∈d,b a):∀a∈c::d,b a:=λa g=>(ao.a g).a (λh=>kd h e)<|f a
def XA(t:kv a q c)(u:mo e c)(v:nE e)(w:c on=V (.E []))(x:BK e o)(y:Le o)(z:La o<16000000)(A:0<jz.B)(B:jz.A 0≠[])(p:c oT=V (.A<|o.map kR))(C:c Ky=V (.D 391 #[]))(r:∀D,c (.A 55 [D])=Y)(E:∀h l,si h=aj->c (.A h l)=Y) (i:∀s m,qo 0 o (rI e) (rH o s) o m->kq (λg=>g=.A 52 [0]\/g=.A 55 [0]\/g=.A 55 [1]) c s->β (.A<|.A 58 [0]) m):lz (.ref 396) [.A lH,.A J8,.A oT,.A on] k (d+7) c β:=M9 jV.K_ U jV.M_ jV.N_ C U (uQ ⟨_,U⟩<|uQ ⟨_,U⟩<|uQ ⟨_,U⟩ BL) (uQ ⟨_,U⟩<|uQ ⟨_,U⟩<|uQ ⟨_,U⟩ BL) (r 0) (r 1) (sf jB) jB jB jV.M U jB λk F G H I J K L M N O=>by
 have n:kq (λg=>g=.A 52 [0]\/g=.A 55 [0]\/g=.A 55 [1]) c<|EQ c Ky 391 Qz (.A 55 [1]) F G (.F H J L)<|.F I K M:=.A (.B kr)<|.A (.B<|.inr kr)<|.A (.B kr)<|.B<|kC U;have g:=n.G λh l f=>by rcases f with f|f|f<;>exact kd (jF.A.inj f).1 jB
 have j:=λ{h l} f=>n.C (E h l f) λi=>by rcases i with i|i|i<;>exact nomatch(jF.A.inj i).1▸f
 exact M8 (Xy jB (t.E g) (u.C g) w U U v x A B N O) z y Na (λb b b b f=>a' f ac) (λb b=>U) (mS (λb b b=>U) (λb b b=>j U) (λb b b=>j U) (λb b b=>j U) λh f=>j<|M' (a:=1)<|jO h f U) p (j U) (j U) (j U) U (λP=>(P.A 48 [] U).a p) λm Q=>i _ m Q n
end
def Nb{m n:jR}(h:O->Prop)(e:O->jP×jC)(i:O->Nat)(l:O)(t:h l)(u:kw (e l).1 Z)(v:c=(e l).2) (w:∀b,h b->jY k a (sP h e (λf=>i f<i b) y) ((mD m).B (kt Q .A)<|A9 (.E n) .C) [] (e b).1 (e b).2):qI (.H m Q [.E n]) k a Z c y:=⟨Iq (λp q=>∃b,h b/\p=i b/\kw (e b).1 q.E/\q.A=(e b).2) (λp R S x=>oe x λb z A o B=>by subst B;subst A;refine λC f D E F G H g I=>(((ok m).B<|w b z).A λj c d=>?_) C f D E F G H ⟨g.A,g.B.L o⟩ λj c K L d M r=>I j c K L d ⟨M.A,g.B.C r.B⟩ r;cases j with|false=>have s:=Bd<|d;exact mM.A (yv<|If (λT b j=>r1 s.1 j)<|((ok n).A s.2).A λW c d=>uq d) o|true=>exact(mM.A (sN<|sM Q d) o).B λN Z c d=>El (o:=λZ c=>∃f,h f/\i f<i b/\kw (e f).1 Z/\c=(e f).2) (λZ c d=>d.a λP g=>⟨_,g.2.1,P,g.1,U,g.2.2⟩) N Z c d) _<|nQ l t U u v⟩
def XB{d e:jR}(g:∀{f:kl},f .C Z m->jY k a f ((mD d).B (kt Q .A)<|A9 (.E e) .C) [] Z c):nw (.H d Q [.E e]) k a Z c Z m:=⟨λh=>Nb (λb=>True) (λb=>(Z,c)) (λb=>0) () aH (.A _) U λb b=>g h⟩
def pd(a:jM):jF:=.A 60 [a.1,a.2.ctorIdx]
noncomputable def oD(a:jM):jF:=.A 61 [a.1,a.2.ctorIdx]
noncomputable def qS(a:jM):jF:=.A 51 [a.1,a.2.ctorIdx,1]
def mF(a:j')(c d b:Nat):Nat:=fj (motive:=λf=>Nat) c (λb e=>Lk (a.C (a.B e)<|(jz.A d).getD b .E) a.A) b
def kL(a:j'):Lt jM:=EM a.A
def sU(c:j')(d a b:Nat):Lt jM:=if b+1=La (jz.A a)/\(mF c d a b,(jz.A a).getD b .E)∈kL c then[(mF c d a b,(jz.A a).getD b .E)]else[]
def pA(a:j')(b c d:Nat):Lt jM:=(be d).flatMap<|sU a b c
def y7:pA e a d (i+1)=pA e a d i++sU e a d i:=by unfold pA;simp only[dL,dj,dU]
def XC(b:Lt jM)(a:Lt<|jA×jA)(d:Lh (kj a<|kR r)=ba (r∈([]:Lt jM))):Lh (kj (b.foldl (λa c=>kF a (kR c) Qh) a)<|kR r)=ba (r∈b):=by
 have f:∀(b:Lt jM)(a:Lt _),Lh (kj (b.foldl (λa c=>kF a (kR c) Qh) a) _)=((Lh (kj a<|kR r))||decide (r∈b)):=λb=>by
  induction b with
  |nil=>exact λa=>jx (aG ac)<|kd (Bool.or_false ..) U|cons c g h=>
   refine λa=>(h _).a ?_;rw[nF];by_cases e:r=c;.rw[aC<|kd (aB kR e.b) U,aD (kd e ae:r∈c::g),adU];rfl
   .exact jx (aA λi=>e<|tG i)<|aB _<|aS.b ⟨λd=>af _ d,λd=>(ao.a d).b e⟩
 exact jx (f ..)<|jx (d ..)<|jx (aG ac)<|jx (Bool.false_or ..) U
def Nc(a:Lt jM):Lt<|jA×jA:=a.foldl (λb c=>kF b (kR c) Qh) []
section
def ES(a:f∈e.A):e.A[Lk f e.A]?=V f:=by exact jx (aq<|List.idxOf_lt_length_iff.b a)<|jx (List.getElem_idxOf ..) U
def ET(b:(jz.A a)[d]?=V t):(jz.A a).getD d .E=t:=jx (bZ)<|jx b U
def Nd(n:nE e)(o:∀{f c j},f∈e.A->c∈f->jz.C c=V j->(c.1,c.2+1)∈e.C f j)(h:e.A[a]?=V f)(p:(d,0)∈f) b(i:b<=La (jz.A d)):e.A[mF e a d b]?=V (e.B<|mF e a d b)/\(d,b)∈e.B (mF e a d b):=by induction b with|zero=>exact⟨h.a<|aB V (j'.E h).b,jL (j'.E h).b p⟩|succ b q=>have g:=q<|cI i;have k:=(aq i).a<|aB V (ET<|aq i).b;have l:=n.C (aa g.1) g.2 k;have m:=j'.E<|ES l.1;exact⟨(ES l.1).a<|aB V m.b,jx m<|o (aa g.1) g.2 k⟩
end
abbrev BM:jP:=(((lv [.A lH,.A J8,.A oT,.A on]).A 4<|.A Kn).A 5<|.A KH).A 6<|.A Qs
abbrev sV(a:jM):jP:=(((BM.A 8<|.B a.1).A 9<|jG a.2).A 10<|.A<|pd a).A 11<|.A<|oD a
abbrev BN(d:j')(b:jM)(c:Nat)(a:Nat×jC):jP×jC:=((((sV b).A 12<|kK (c,0)).A 13<|.B a.1).A 14<|.B<|mF d b.1 c a.1,a.2)
def tJ(d:j')(e:jC)(b:jM)(c:Nat)(f:Lt jM)(a:Nat×jC):=a.1<=La (jz.A c)/\kq (· =oD b) e a.2/\a.2 (oD b)=V (.A<|(f++pA d b.1 c a.1).map kR)
section
variable(b:tJ e c r a o η)
def tJ.C:=b.1
def tJ.A:=b.2.1
def tJ.B:=b.2.2
end
def pZ(b:j')(c:Nat)(d:ku)(a:jC):=kv c d a/\mo b a/\a on=V (.E [])/\a Qs=V (.B<|Nc<|kL b)
section
variable(b:pZ e a q c)
def pZ.A:=b.1
def pZ.B:=b.2.1
def pZ.D:=b.2.2.1
def pZ.E:=b.2.2.2
end
def XD:Lt kb:=[.A JP K0,.A JG<|.F Kk 46 [.H J6 [JR],.c_ JX]]
def Nf:Lt kb:=[.B (.D .In (.C KI Jm)<|.B J4 22) [.J] [],.B (.D .NotIn (.C KI Jm) Jg) [.J] [],.A JJ<|.J .Add Jm JX]
def Ng:Lt kb:=[.A JL<|.J .Add JA JX,.A Jz<|.C KI JA,.B (.D .In (.M [Ji,Jl]) Jj) [.A JJ<|.J .Add JA JX,.H (.D .Lt Jm KP) Nf [.E K4]] [],.A JP K0,.A JG<|.F Kk 46 [.H J6 [JR],.c_ JX]]
section
def pZ.C(h:pZ e a q c)(j:kq (λf=>f=oD r\/f=pd r) c m):pZ e a q m:=have f:=j.G λg i b=>by rcases b with b|b<;>exact kd (jF.A.inj b).1 jB
 have k:∀{g i},g≠60->g≠61->m (.A g i)=c (.A g i):=λb l=>j _ _ λd=>d.a (jJ l)<|jJ b;(mz (h.A.E f) (h.B.C f) ((k jB jB).a h.D)<|(k jB jB).a h.E)
def EU(e:j')(c:jC)(a:Nat)(t:jD):jC:=ks (ni c<|e.B a)<|.A<|(e.C (e.B a) t).map ol
def y8(Z:jP)(b:Nat)(c:Option jA):jP:=λa=>bif a.beq b then c else Z a
def XE(b:Z a=Y):Z=y8 Z a Y:=aJ λc=>by unfold y8;cases d:c.beq a with|true=>rw[bA d];exact b|false=>rfl
def kw.H{b:jP}(e:kw Z b)(f:Z a=Y):kw Z<|y8 b a ξ:=λc g d=>by unfold Internal.y8;cases h:c.beq a with|true=>rw[bA h,f]at d;exact kh d|false=>exact e c g d
abbrev EV(e:j')(r:jM)(d i:Nat):jP:=(((((sV r).A 12<|kK (d,0)).A 13<|.B i).A 14<|.B<|mF e r.1 d i).A 13<|.B (i+1:Nat)).A 7<|jG<|(jz.A d).getD i .E
def Nh{n:Nat×jC->Prop}{o:Nat×jC->Prop}(f:nE e)(b:pZ e a q c)(h:e.A[mF e r.1 d i]?=V (e.B<|mF e r.1 d i))(j:(d,i)∈e.B (mF e r.1 d i))(l:jz.C (d,i)=V ((jz.A d).getD i .E)) (p:n (i+1,EU e c (mF e r.1 d i)<|(jz.A d).getD i .E)) (s:o (i+1,EU e c (mF e r.1 d i)<|(jz.A d).getD i .E)):jY k (X+2) (sP n (BN e r d) o y) (kt XD .A) [] (y8 (EV e r d i) 15 ξ) c:=have m:=aa h;have g:=f.C m j l;jN λt=>t b.A.A (ql b.B.F<|(ax ..).a<|aB _<|bp (ag.a h).1) .A (w9 b.A f b.B (b.B.A h) m j l) b.A.A b.B.B jV.A .A (qM b.A.F (b.B.D m j l) (f.A g.1) g.2<|br (f.B _ g.1) jB) .A (jX.C b.B.B (tF _)<|aB (λu=>fH u _)<|(uJ ..).a<|aC g.1)<|nQ _ p s (((((mC U).B 13 _).C U).H U).C U|>.B 14 _) U
def BO(a:(jz.A d)[i]?=V t):qi ((jz.c_ (d,0)).map jG) ((i+1:Nat):Int)=V (jG t):=sS<|(ax ..).a<|aB _<|a
def Ni(a:¬(i+1=La (jz.A d)/\(mF e r.1 d i,(jz.A d).getD i .E)∈kL e))(b:c (oD r)=V (.A<|(o++pA e r.1 d i).map kR)):c=jE c (oD r) (.A<|(o++pA e r.1 d (i+1)).map kR):=by rw[y7,sU,aA a,bQ];exact(xa b).b
def XF(a:i+1=La (jz.A d)/\(mF e r.1 d i,(jz.A d).getD i .E)∈kL e):jE c (oD r) (.A<|(o++pA e r.1 d i).map kR++[kR (mF e r.1 d i,(jz.A d).getD i .E)])=jE c (oD r) (.A<|(o++pA e r.1 d (i+1)).map kR):=by rw[y7,sU,aC a,<-bw];exact(by simp only[bK];rfl)
def XG(f:pZ e a q c)(n:jz.I (d,0))(p:i<La (jz.A d))(s:(mF e r.1 d i,(jz.A d).getD i .E)∈kL e)(h:c (oD r)=V (.A<|(o++pA e r.1 d i).map kR))(t:La ((o++pA e r.1 d i).map kR)<16777216):nw (.H (.D .Lt Jm KP) Nf [.E K4]) k X ((EV e r d i).A 15<|.B (i+2:Nat)) c ((EV e r d i).A 15<|.B (i+2:Nat))<|jE c (oD r)<|.A<|(o++pA e r.1 d (i+1)).map kR:=have j:=f.A.C n;XB λl=>jN λb=>b j .C (jW.B jW.H<|⟨λb=>ja<|cY.a b,λb=>cY.b<|fR b⟩) (λg b=>have u:=(jW.d_ f.D).J;have m:=Ni (λv=>bF g v.1) h;b j (BO<|aq g) f.A.A f.A.G .E ((jW.D f.A.J<|kk _).A<|vM _) (λw b=>b<|m▸l) λw b=>b .A j (BO<|aq g) .A u<|m▸l) λg b=>b h .A (jX.A h t)<|kd (XF ⟨cC p<|cv g,s⟩) l
def tJ.D(b:tJ e c r d o η)(f:η.1<La (jz.A d))(g:kq (· =oD r) η.2 m)(h:m (oD r)=V (.A<|(o++pA e r.1 d (η.1+1)).map kR)):tJ e c r d o (η.1+1,EU e m a t):=lj f (b.A.A<|g.A<|.A .F .F) h
def Nj(a i:Nat):La (pA e a d i)<=i:=ue (al _) (λi b=>by
 simp only[y7,bH];apply bv b;unfold sU;split;.exact al _
 .exact bT _) i
def XH(j:nE e)(z:∀{f l t},f∈e.A->l∈f->jz.C l=V t->(l.1,l.2+1)∈e.C f t)(g:pZ e a q c)(u:e.A[r.1]?=V f)(v:(d,0)∈f)(h:tJ e c r d o η)(b:η.1<La (jz.A d))(A:La o+La (jz.A d)<16777216):jY k (X+2) (sP (tJ e c r d o) (BN e r d) (λB=>La (jz.A d)-B.1<La (jz.A d)-η.1) y) (kt Ng .A) [] (BN e r d η).1 η.2:=have g:=g.C<|h.A.D λC=>.inl;have w:=j.A (aa u) _ v;have m:=Nd j z u v η.1<|bL b;have n:=(aq b).a<|aB V (ET<|aq b).b;have x:=eB b<|bN η.1;have p:La ((o++pA e r.1 d η.1).map kR)<16777216:=by simp only[ab,bH];exact aZ (bS (aX (Nj ..)<|bL b) _) A
 jN λi=>i .A (g.A.C w) (BO n) .C ((jW.D g.E<|qn (mF e r.1 d η.1,(jz.A d).getD η.1 .E) 4).A<|XC _ [] (aG ac).b) (λs i=>i .A .A (XG g w b s h.B p) .B<|Nh j (g.C<|.B kr) m.1 m.2 n (h.D b (.B U)<|jS ..) x) λs i=>i .B<|Eq.subst (motive:=λZ=>jY _ _ _ _ _ Z _) (XE U).b<|Nh j g m.1 m.2 n (h.D b .E<|(aN (Ni (λp=>s p.2) h.B) _).a<|jS ..) x
end
def sW(a:Nat×jH):jA:=.E [.B a.1,kK a.2]
def BP(b:Nat)(a:jH):Bool:=ba<|jz.D a.1=jz.D b/\La (jz.A a.1)=La (jz.A b)/\Ll a.2 (jz.A a.1)=Ll a.2 (jz.A b)
def p0(a:Lt jH)(b:Nat):Lt jH:=a.filter<|BP b
def rj(a:jC)(b:jM)(c d:Nat)(e:Lt<|Nat×jH)(f:Lt jH)(g:Nat):jC:=jE a (pd b)<|.A<|(e++(p0 (Ll g f) d).map λh=>(c,h)).map sW
def Nk:Lt kb:=[.B (.D .NotEq (.B Ju 0) K7) [.K] [],.B (.D .NotEq (.B Ju 8) KP) [.K] [],.A JO J3,.H (.D .Lt Js<|.B Ju 15) [.B (.D .NotEq (.C (.B Ju 1) Js)<|.C KI<|.J .Add Js JX) [.J] [],.A JO<|.J .Add Js JX] [.E<|.F Jn 42 [.M [Ji,Ju]]]]
abbrev EW(a:jM)(b:Nat)(c:jA)(d:Nat):jP:=(((sV a).A 12<|kK (b,0)).A 13 c).A 14<|.B d
section
variable{b:Nat}{g:Lt (Nat×jH)}
def Nl(a:f[X]?=V N):p0 (Ll (X+1) f) d=p0 (Ll X f) d++if BP d N=aj then[N]else[]:=by unfold p0;simp only[nN a,eJ,cO,eK]
def EX(a:f[X]?=V N)(b:¬BP d N=aj):rj c r i d g f X=rj c r i d g f (X+1):=by simp only[rj,rj,Nl a,aA b,bQ]
def XI(a:f[X]?=V N)(b:BP d N=aj):jE (rj c r i d g f X) (pd r) (.A<|(g++(p0 (Ll X f) d).map λN=>(i,N)).map sW++[sW (i,N)])=rj c r i d g f (X+1):=by rw[rj,rj,Nl a,aC b,o3,bK (f:=λN=>(i,N)),<-bw];generalize g++(p0 _ d).map (λN=>_)=e;exact jx bK U
def XJ{b:Lt jD}{c:jD}(g:Ll d ι=Ll d b)(e:a<d)(h:ι[a]?=V t)(i:b[a]?=V c):t=c:=by have f:=aB (·[a]?) g;simp only[ci e,ci e,h,i]at f;exact aY f
theorem XK(A:kv a q c)(s:jz.I N)(B:d<jz.B)(n:f[X]?=V N)(C:La ((g++(p0 (Ll X f) d).map λN=>(i,N)).map sW)<16777216):jY k b (uE (EW r d u i)<|rj c r i d g f<|X+1) (kt Nk .A) [] ((EW r d u i).A 17<|kK N)<|rj c r i d g f X:=by revert a q c r d i X b g f k N u;apply z4;generalize lB.1.1.1.1=a,lB.1.1.1.2=d,lB.1.1.2.1=i,lB.1.1.2.2=X,lB.1.2.1.1=c,lB.1.2.1.2=f,lB.1.2.2=k,lB.2.1.1.1=q,lB.2.1.1.2=r,lB.2.1.2=u,lB.2.2.1.1=N,lB.2.2.1.2=b,lB.2.2.2=g;intros;exact have y:kv a q<|rj c r i d g f X:=A.B U;have o:=y.C s;have t:=y.C ⟨B,bT _⟩;jN λe=>e o t .C (jW.B (jW.G (kk _)<|kk _)<|aV m') (λj e=>e ⟨lE U,EX n λl=>j (aF l).1⟩) λD e=>e .A o t .C (jW.B (jW.G U U)<|aV ⟨λl=>eO<|sd.a l,λl=>aB (λh:Nat=>jA.B (h+1:Nat)) l⟩) (λj e=>e ⟨lE U,EX n λl=>j (aF l).2.1⟩) λp e=>e .A .B (Nb (λh=>h<=N.2/\Ll h (jz.A N.1)=Ll h (jz.A d)) (λh=>(((EW r d u i).A 17 _).A 18<|.B h,rj c r i d g f X)) (λh=>N.2-h) 0 ⟨bT _,U⟩ (.A _) U λh v=>have p:=cB.a p;jN λe=>e o .C (jW.B jW.H cY) (λm e=>have z:=au m s.2;have w:=aq z;have x:=aq<|kg p z;e o (sS<|(ax ..).a<|aB _<|(dv (by simp only[dF,dx s.2];exact m)).a<|(ci m).a w) t .A (BO x) .C (jW.B (jW.G (kk _)<|kk _)<|aV m') (λj e=>e<|sc ⟨mC U,EX n λl=>j<|XJ (aF l).2.2 m w x⟩) λj e=>e .A .A<|nQ (h+1) ⟨m,jx (nN w)<|kd (nN x)<|jx v.2<|jx (cB.a j) U⟩ (eB m<|bN h) (kw.B (lE U) 18 _) U) λj e=>e (jS ..) .A (jX.A (jS ..) C)<|sc ⟨mC U,XI n<|aD ⟨cB.a D,p,jL (cC v.1<|cv j) v.2⟩⟩)
end
def uR(c:j')(b:jM)(a:jH):Lt jM:=if jz.D a.1=b.2 then pA c b.1 a.1 (La (jz.A a.1))else[]
def Nm(b:j')(a c:Nat):Lt<|Nat×jH:=(p0 (b.B a) c).map λd=>(a,d)
def uS(b:j')(c:jM)(a:jH):Lt<|Nat×jH:=if jz.D a.1=c.2 then Nm b (mF b c.1 a.1 (La (jz.A a.1))) a.1 else[]
def uT{e:Type}{b:O->Lt e}{c:Lt O}{d:O}(f:c[a]?=V d):(Ll (a+1) c).flatMap b=(Ll a c).flatMap b++b d:=by simp only[nN f,dj,dU]
def y9{f:Type}{d:O->Lt f}{b:Lt O}(e:∀c∈b,La (d c)<=a):La (b.flatMap d)<=a*La b:=by induction b with|nil=>exact bT _|cons c j g=>exact jx (fx ..)<|jx (bH ..)<|jx (cN ..)<|kd (ed ..)<|jx (ck ..)<|bv (g λh i=>e h<|af _ i)<|e c ae
def sX(c:j')(g:jC)(a:jM)(d:Lt jH)(e:Nat)(b:jC):=kq (λf=>f=oD a\/f=pd a) g b/\b (oD a)=V (.A<|((Ll e d).flatMap<|uR c a).map kR)/\b (pd a)=V (.A<|((Ll e d).flatMap<|uS c a).map sW)
section
variable(b:sX e c r f a m)
def sX.A:=b.1
def sX.B:=b.2.1
def sX.C:=b.2.2
end
def Nn:Lt kb:=[.B (.D .NotEq K7 Jf) [.K] [],.A JL Qb,.A JG Jk,.H (.D .Lt JA<|.J .Sub KP JX) Ng [],.C (.A 17) (.C Jb Ji) Nk []]
section
def xi{a:jM}:oD r≠pd a:=jJ jB
def sX.D(a:sX e m r f d c)(b:f[d]?=V N)(g:¬jz.D N.1=r.2):sX e m r f (d+1) c:=lj a.A (by rw[uT b,uR,aA g,bQ];exact a.B) (by rw[uT b,uS,aA g,bQ];exact a.C)
def No:La (p0 f a)<=La f:=dt ..
def EY(c:nE e) b:La (e.B b)<=1000:=by cases a:e.A[b]? with|none=>rw[j'.B,bZ,a];exact bT _|some d=>rw[j'.E a];exact bL<|c.B _<|aa a
def Np(b:a<=1000*d)(c:d<=1000)(e:i<=1000):a+i<16777216:=aZ (bv (aX b<|bW _ c) e) jB
theorem XM(h:nE e)(F:∀{f s G},f∈e.A->s∈f->jz.C s=V G->(s.1,s.2+1)∈e.C f G)(O:pZ e a q m)(H:∀g,La (jz.A g)<=1000)(x:e.A[r.1]?=V f)(p:sX e m r f d c)(t:f[d]?=V N)(P:jz.D N.1=r.2->N.2=0):jY k (i+2) (lV (sX e m r f<|d+1) (λc=>(sV r,c)) y) (kt Nn .A) [] ((sV r).A 12<|kK N) c:=by
 revert e a q c m r d i f k N y;apply CN;generalize my.1.1.1.1=a,my.1.1.1.2=d,my.1.1.2=i,my.1.2.1.1=c,my.1.2.1.2=m,my.1.2.2=e,my.2.1.1.1=f,my.2.1.1.2=k,my.2.1.2=q,my.2.2.1.1=r,my.2.2.1.2=y,my.2.2.2=N;intros;exact have z:=O.C p.A;have I:=aa x;have A:=aa t;have B:=h.A I N A;have J:=z.A.C B;have K:=aX (bg d f)<|bL<|h.B f I;jN λb=>b J .D (jW.B (jW.G (kk _)<|kk _)<|aV m') (λj b=>sa b<|lh c (p.D t j) (lE U) U) λj b=>ka λC=>by
  have j:=cB.a j;obtain⟨g,Q⟩:=N;obtain rfl:Q=0:=P j;refine C (sa b .A J .B (sQ _ (BN e r g) (λn=>La (jz.A g)-n.1) (0,c) (lj (bT _) .E<|p.B.a (by rw[pA,List.range_zero,eY,bQ])) (.A _) U λn l=>have u:=z.C<|l.A.D λv=>.inl;jN λb=>b (u.A.C B) .A .D (jW.B jW.H<|jx (ew ..) cY) (λR b=>b (XH h F z x A l R (Np (y9 λN v=>(by
   unfold uR;split;.exact aX (Nj ..)<|H _
   .exact bT _)) K<|H g))) λS b=>ka λC=>?_));have L:=cC l.C<|cv S;have D:=Nd h F x A n.1 l.C;have T:∀o,La ((((Ll d f).flatMap<|uS e r)++(p0 (Ll o<|e.B<|mF e r.1 g n.1) g).map λE=>(mF e r.1 g n.1,E)).map sW)<16777216:=λo=>by
   simp only[ab,bH,ab];exact Np (y9 λN v=>(by
    unfold uS Nm;split;.exact jx (ab ..)<|aX No<|EY h _
    .exact bT _)) K<|aX No<|aX (bg ..)<|EY h _
  refine C<|sa b<|sc<|mE λb=>b (ql u.B.F<|(ax ..).a<|aB _<|bp (ag.a D.1).1) .A (o7 (λo=>rj n.2 r _ g _ _ o) ?_ (λv=>u.B.A D.1) (.A _) λo E M=>XK u.A (h.A (aa D.1) E<|aa M) B.1 M<|T o)<|lh _ (lj (p.A.A<|(l.A.D λv=>.inl).A<|.B<|.inr U) ?_ ?_) ?_ U;.exact(xa<|(l.A.C p.C λg=>xi g.b).a (by simp only[fn];exact aB (λw=>V<|km.A _) (bQ _).b)).b
  .refine(jQ _ _ xi).a<|l.B.a ?_;exact jx (uT t)<|jx L<|aB (λw:Lt jM=>V<|km.A<|(_++w).map kR) (aC j).b
  .apply(jS ..).a;exact jx (uT t)<|jx bI<|jx L<|aB (λw:Lt (Nat×jH)=>V<|km.A<|(_++w).map sW) (aC j).b
  .exact r9 U
end
noncomputable def tK(b:jM->Lt jM)(c d:jM):jM->Lt jM:=λa=>if a=c then b a++[d]else b a
def sj(a:jM->Lt jM)(b:Lt jM)(c:jM):jM->Lt jM:=b.foldl (λa d=>tK a d c) a
def y'{a:jM->jA}:kj (o.map λr=>(kR r,a r)) (kR r)=if r∈o then V<|a r else Y:=yW tG
def vT(b:Lt jM):Lt<|jA×jA:=b.map λa=>(kR a,.A<|qS a)
def BQ{a:jM}(b:qS r=qS a):r=a:=sg<|aB (λc=>jF.rec (motive:=λd=>jF) (λe=>.B e) (λd f=>.A 50<|Ll 2 f) c) b
def oE(e b:Lt jM)(d:jM->Lt jM)(c:jC):=c KH=V (.B<|vT b)/\Le b/\(∀a∈b,a∈e)/\(∀a∈b,c (qS a)=V (.A<|(d a).map kR))/\∀a,a∉b->c (qS a)=Y/\d a=[]
section
variable(a:oE o z s c)
def oE.B:=a.1
def oE.D:=a.2.1
def oE.E:=a.2.2.1
def oE.C:=a.2.2.2.1
def oE.A:=a.2.2.2.2
end
abbrev za(a:jF):=a=.A 63 []\/∃b,a=qS b
def Nq:Lt kb:=[.B (.D .NotIn Js Jd) [.D Jd Js JY] [],.E<|.F (.C Jd Js) 42 [.M [Jk,Jf]]]
section
variable{b:jM}
def oE.F(a:oE o z s c)(e:∀f,za f->m f=c f):oE o z s m:=mS ((e _ kr).a a.B) a.D a.E (λb d=>(e _<|.inr ⟨b,U⟩).a<|a.C b d) λb d=>⟨(e _<|.inr ⟨b,U⟩).a (a.A b d).1,(a.A b d).2⟩
def EZ:qS r≠.A 63 []:=jJ jB
def oE.G(d:oE o z s c)(h:b∈z):oE o z (tK s b r)<|jE c (qS b)<|.A<|(s b).map kR++[kR r]:=⟨(jQ _ _ EZ.a).a d.B,d.D,d.E,λe f=>by
 unfold tK;by_cases a:e=b;.exact jx (a ..)<|jx (jS ..)<|jx (aC U)<|jx (bK ..) U
 .refine jx (aA a)<|jx (jQ _ _ λg=>a<|BQ g) ?_;exact d.C e f,λe f=>by have a:e≠b:=λa=>f<|kd a h;unfold tK;refine jx (aA a)<|jx (jQ _ _ λg=>a<|BQ g) ?_;exact d.A e f⟩
def oE.H(f:oE o z s c)(h:b∉z)(j:b∈o):oE o (z++[b]) s<|jE (jE c (qS b)<|.A []) KH<|.B<|vT<|z++[b]:=have i:∀{a:jM},jE _ KH (.B _) _=jE c _ (.A []) (qS a):=jQ _ _ EZ;⟨jS ..,cz.b ⟨f.D,cD ..,λn k p l g=>h<|kg (ak.a l)<|kg g k⟩,λa e=>(bR.a e).a (f.E a) λm=>kd (ak.a m) j,λa e=>i.a (by
 by_cases g:a=b;.exact jx (g ..)<|jx (jS ..)<|jx ((f.A b h).2) U
 .exact jx (jQ _ _ λd=>g<|BQ d)<|f.C a<|(bR.a e).d λd=>g<|ak.a d),λa e=>⟨i.a<|(jQ _ _ λd=>e<|bP _<|ak.b<|BQ d).a (f.A a λd=>e<|bM _ d).1,(f.A a λd=>e<|bM _ d).2⟩⟩
def vU(o:Lt jM)(b:jC)(s:jM->Lt jM)(c:Lt jM)(r:jM)(d:Nat)(a:Lt jM×jC):=kq za b a.2/\oE o a.1 (sj s (Ll d c) r) a.2
section
variable{e:Lt jM}{r:jM}(f:vU κ W ρ e r d R)
def vU.B:=f.1
def vU.A:=f.2
end
abbrev Nr(r b:jM):jP:=(sV r).A 18<|kR b
def Ns{f:Lt jM×jC->Prop}(d:oE o z s c)(e:b∈z)(g:La ((s b).map kR)<16777216)(h:f (z,jE c (qS b)<|.A<|(s b).map kR++[kR r])):jY k a (lV f (λi=>(sV r,i.2)) y) (kt [.E<|.F (.C Jd Js) 42 [.M [Jk,Jf]]] .A) [] (Nr r b) c:=jN λj=>j (ne d.B (qn b 4)<|y'.a<|aC e) (d.C b e) .A (jX.A (d.C b e) g)<|lh _ h (lE U) U
def XN(e:vU o c s z r d R)(m:z[d]?=V b)(n:b∈o)(h:La ((sj s (Ll d z) r b).map kR)<16777216)(p:La o<16777216):jY k a (lV (vU o c s z r<|d+1) (λR=>(sV r,R.2)) y) (kt Nq .A) [] (Nr r b) R.2:=have i:sj s _ r=tK (sj s _ r) b r:=n3 m;have j:=qn b 4;jN λf=>f .C (jW.E ((jW.D e.A.B j).A (by
 simp only[vT,y'];by_cases f:b∈R.1;.rw[aC f,aD f];rfl
 .rw[aA f,aG f];rfl))) (λg f=>have l:=e.A.H g n;f _ (λt=>(e.A.A b g).1) ((lN ((jQ _ _ EZ.a).a e.A.B) j (by simp only[vT,ab];exact aZ (e.A.D.a e.A.E) p)).a<|aB (λq=>V<|jE _ KH<|.B q)<|(rh<|y'.a<|aA g).a (by simp only[vT,vT,bK];rfl)) .B (Ns l (bP _ ae) h ⟨e.B.A<|.A (.B<|.inr ⟨b,U⟩)<|.A (.B kr)<|.B<|.inr ⟨b,U⟩,jx i<|l.G<|bP _ ae⟩)) λg f=>f .B<|Ns e.A (cB.a g) h ⟨e.B.A<|.B<|.inr ⟨b,U⟩,jx i<|e.A.G<|cB.a g⟩
end
def rk(a:j')(b:jM):Lt jM:=(a.B b.1).flatMap<|uR a b
def rJ(a:j')(b:jM):Lt<|Nat×jH:=(a.B b.1).flatMap<|uS a b
def qT(b:j')(c:Lt jM):jM->Lt jM:=c.foldl (λd a=>sj d (rk b a) a) λe=>[]
def rK(b:Lt jM):Lt<|jA×jA:=b.map λa=>(kR a,.A<|pd a)
abbrev zb(a:jF):=za a\/a=.A 62 []\/∃b,a=oD b\/a=pd b
def rl(a:j')(e:jC)(d:Nat)(b:Lt jM×jC):=kq zb e b.2/\oE (kL a) b.1 (qT a<|Ll d<|kL a) b.2/\b.2 Kn=V (.B<|rK<|Ll d<|kL a)/\(∀c∈Ll d (kL a),b.2 (pd c)=V (.A<|(rJ a c).map sW))/\∀c,c∉Ll d (kL a)->b.2 (pd c)=Y/\b.2 (oD c)=Y
section
variable(b:rl e c a R)
def rl.A:=b.1
def rl.C:=b.2.1
def rl.D:=b.2.2.1
def rl.E:=b.2.2.2.1
def rl.B:=b.2.2.2.2
end
def XO:Lt kb:=[.A JC JY,.A JI JY,.C JM (.C Jb Jk) Nn [],.C JO Jp Nq [],.D Jh (.M [Jk,Jf]) Jn]
def XQ{d:Lt O}{e:O}(f:Le d)(g:d[a]?=V e):e∉Ll a d:=λh=>by obtain⟨i,c⟩:=jl h;have b:=(ag.a c).1;rw[dF]at b;have b:=au b<|iB ..;rw[ci b]at c;exact bF b<|(dT (ag.a c).1 f).a<|c.a g.b
section
def XR(b:i<La (jz.A d)):pA e a d i=[]:=by induction i with|zero=>rfl|succ i c=>rw[y7,c<|cP b,sU,aA λf=>bF b f.1];rfl
def Nt(a:nE e):La (rk e r)<=1000:=aX (aX (y9 λb f=>(by
 unfold uR;split;.cases c:La (jz.A b.1)with
                  |zero=>exact bT _|succ d=>
                   rw[y7,XR<|kg c.b<|bN d,sU];split;.exact al _
                   .exact bT _
 .exact bT _))<|aw<|Nat.one_mul _)<|EY a _
def XS{c:jM}(d:c∈rk e r):c∈kL e:=by
 refine jU (bV.a d) λg _ a=>?_;unfold uR at a;split at a;.
  refine jU (bV.a a) λh _ b=>?_;unfold sU at b;split at b;.apply kd<|ak.a b;rename_i f;exact f.2
  .exact a' b ac
 .exact a' a ac
def Nu{a:jM}:La (sj s o a r)<=La (s r)+La o:=by
 induction o generalizing s with
 |nil=>exact al _|cons b c d=>
  apply aX<|d (s:=tK s b a);rw[cN,ck (La c),<-cS];refine bC ?_ _;unfold tK;split;.exact jx bH<|al _
  .exact bm _
def XT(d:nE e)(a:Lt jM):La (qT e a r)<=1000*La a:=by
 have f:∀(a:Lt jM)(b:jM->Lt jM),La (a.foldl (λb c=>sj b (rk e c) c) b r)<=La (b r)+1000*La a:=λa=>by induction a with|nil=>exact λb=>al _|cons c h g=>refine λb=>aX (g _) ?_;simp only[cN,ed,ck<|1000*_,<-cS];exact bC (aX Nu<|bS (Nt d) _) _
 exact aX (f a _)<|aw<|ct _
def pZ.F(g:pZ e a q m)(l:kq zb m c):pZ e a q c:=have i:∀{d h},d≠51->d≠60->d≠61->d≠62->d≠63->c (.A d h)=m (.A d h):=λn o p r s=>l _ _ λb=>b.a (λb=>b.a (jJ s) λb=>b.a λt b=>jJ n b) λb=>b.a (jJ r) λb=>b.a λt b=>b.a (jJ p)<|jJ o;have k:qR m c:=λd h u=>have f:∀j,46<j->d≠j:=λj v=>bF<|aZ u v;i (f 51 jB) (f 60 jB) (f 61 jB) (f 62 jB) (f 63 jB);(mz (g.A.E k) (g.B.C k) ((i jB jB jB jB jB).a g.D)<|(i jB jB jB jB jB).a g.E)
def Nv:¬za (oD r):=λa=>a.a (jJ jB) λa=>a.a λb a=>jJ jB a
def Nw:¬za (pd r):=λa=>a.a (jJ jB) λa=>a.a λb a=>jJ jB a
def XU:pd r≠.A 62 []:=jJ jB
def XV:oD r≠.A 62 []:=jJ jB
def XW:rK o++[(kR r,.A<|pd r)]=rK (o++[r]):=by simp only[rK,rK,bK];rfl
def XX(b:a<=d+i)(c:d<=1000*11000)(e:i<=1000):a<16777216:=aZ (aX b<|bv c e) jB
abbrev Nx(r:jM)(a:jF):=a=oD r\/a=pd r
def rl.F{f:Lt jM×jC}(o:rl e m d R)(z:Le (kL e))(p:(kL e)[d]?=V r)(q:kq (Nx r) R.2 c)(v:c (pd r)=V (.A<|(rJ e r).map sW))(n:vU (kL e) c (qT e<|Ll d<|kL e) (rk e r) r (La (rk e r)) f):rl e m (d+1) (f.1,jE f.2 Kn<|.B<|rK<|Ll (d+1)<|kL e):=have h:∀{b:jM},b≠r->f.2 _=R.2 _:=λg=>(n.B _ _ Nw).a<|q _ _ λa=>a.a (λa=>xi a.b) λa=>g<|sg<|aB (λi=>jF.rec (motive:=λs=>jF) (λh=>.B h) (λs t=>.A 50 t) i) a;have u:∀{b:jM},jE f.2 Kn (.B<|rK<|Ll (d+1)<|kL e) _=f.2 _:=jQ _ _ XU;have w:∀{b:jM},jE f.2 Kn (.B<|rK<|Ll (d+1)<|kL e) _=f.2 _:=jQ _ _ XV;⟨o.A.A<|(q.D λi g=>kC ⟨r,g⟩).A<|(n.B.D λi g=>.inl g).A<|.B<|.inr kr,by have j:=n.A;replace j:=bI▸j;exact jx (show qT e _=sj _ _ r from n3 p)<|j.F λi g=>jQ _ _ λx=>(λa=>a.a (jJ jB) λa=>a.a λb a=>jJ jB a)<|kg x g,jS f.2 Kn _,λb k=>by
 apply(u (b:=b)).a;by_cases l:b=r;.exact jx l<|(n.B _ _ Nw).a v
 .rw[nN p]at k;exact(h l).a<|o.E b<|(bR.a k).d λa=>l<|ak.a a,λb k=>by rw[nN p]at k;have l:=λa=>k<|bP _<|ak.b a;have j:=o.B b λa=>k<|bM _ a;exact⟨(u).a<|(h l).a j.1,(w (b:=b)).a<|(n.B _ _ Nv).a<|(q _ _ λa=>a.a (λa=>l<|sg<|aB (λi=>jF.rec (motive:=λs=>jF) (λh=>.B h) (λs t=>.A 50 t) i) a) λa=>xi a).a j.2⟩⟩
def XY(t:nE e)(Q:∀{f b E},f∈e.A->b∈f->jz.C b=V E->(b.1,b.2+1)∈e.C f E)(S:pZ e a q m)(T:∀g,La (jz.A g)<=1000)(u:La (kL e)<=11000)(F:Le (kL e))(v:e.A[r.1]?=V (e.B r.1))(W:∀p∈e.B r.1,jz.D p.1=r.2->p.2=0) (h:rl e m d R) (w:(kL e)[d]?=V r):jY k (i+2) (lV (rl e m<|d+1) (λR=>(BM,R.2)) y) (kt XO .A) [] ((BM.A 8<|.B r.1).A 9<|jG r.2) R.2:=by
 have x:=XQ F w;have z:=S.F<|h.A.A<|.A (.B<|kC ⟨r,.inr U⟩)<|.B (S:=.A []) (c:=jE R.2 _<|.A [])<|kC ⟨r,.inl U⟩;refine jN λj=>j _ (λA=>(h.B r x).1) _ (λA=>(jQ _ _ xi).a (h.B r x).2) (ql z.B.F<|(ax ..).a<|aB _<|bp (ag.a v).1) .B<|nT (sX e (jE (jE R.2 _<|.A []) _<|.A []) r _) (λA c=>(sV r,c)) _ (lj .E (jS ..)<|(jQ _ _ λg=>xi g.b).a<|jS ..) (.A _) U (λl c h=>(z.C h.A).B.A v) (λl c p h G=>XM t Q z T v h G<|W p<|aa G) λc B=>ka λX=>?_;have J:kq (Nx r) R.2 c:=.A (.B<|.inr U)<|.A (.B kr) B.A;have K:=B.B;have L:=B.C;rw[bI]at K L;have C:∀{s M},s≠60->s≠61->c (.A s M)=R.2 (.A s M):=λZ α=>J _ _ λg=>g.a (jJ α)<|jJ Z;have β:∀l b,La ((sj (qT e<|Ll d<|kL e) (Ll l<|rk e r) r b).map kR)<16777216:=λl b=>by exact jx (ab ..)<|XX Nu (aX (XT t _)<|bW _<|aX (bg ..) u)<|aX (bg ..)<|Nt t
 exact X<|mE λj=>j .B<|nT (j:=rk e r) (vU _ c (qT e _) _ r) (λA R=>(sV r,R.2)) (R.1,c) ⟨.E,h.C.F λN j=>j.a (λD=>jx D<|C jI jI) λj=>j.a λb D=>jx D<|C jI jI⟩ (.A _) U (λl O n=>n.B.C K Nv) (λl O b n P=>XN n P (XS<|aa P) (β l b)<|aZ u jI) λO n=>mE λj=>j ((lN (n.B.C ((C jI jI).a h.D) λg=>g.a (jJ jI) λg=>g.a λb g=>jJ jI g) (qn r 4) (by simp only[rK,ab];exact aZ (aX (bg ..) u) jI)).a<|aB (λN=>V<|jE _ Kn<|.B N)<|(rh<|y'.a<|aA x).a<|XW.a<|aB rK (nN w).b)<|lh _ (h.F F w J L n) (wY U) U
end
def sk(a:j'):=nE a/\(∀{c b d},c∈a.A->b∈c->jz.C b=V d->(b.1,b.2+1)∈a.C c d)/\(∀g,La (jz.A g)<=1000)/\La (kL a)<=11000/\Le (kL a)/\BK a (kL a)/\∀e∈kL a,∀f∈a.B e.1,jz.D f.1=e.2->f.2=0
section
variable(a:sk e)
def sk.A:=a.1
def sk.E:=@a.2.1
def sk.F:=a.2.2.1
def sk.B:=a.2.2.2.1
def sk.C:=a.2.2.2.2.1
def sk.D:=a.2.2.2.2.2.1
def sk.G:=a.2.2.2.2.2.2
end
def zc(a:jC)(b:Lt jM):jC:=jE (jE (jE a Kn<|.B []) KH<|.B []) Qs<|.B<|Nc b
section
def XZ(b:Lt jM)(a:Lt<|jA×jA):La (b.foldl (λa c=>kF a (kR c) Qh) a)<=La a+La b:=by induction b generalizing a with|nil=>exact al _|cons c d e=>exact aX (e _) (by rw[cN,ck (La d),<-cS];exact bC (q9 ..) _)
abbrev E0(a:jF):=a=.A 62 []\/a=.A 63 []\/a=.A 64 []
def Ny:kq E0 c<|zc c o:=.A (.B kr)<|.A (.B<|.inr kr)<|.B<|kC U
def X0(i:sk e)(y:kv a q c)(z:mo e c)(A:c on=V (.E []))(v:c oT=V (.A<|(kL e).map kR))(n:∀s w,60<=s->s<=64->c (.A s w)=Y)(B:∀l,c (qS l)=Y) (g:∀j:Lt jM×jC,rl e (zc c<|kL e) (La (kL e)) j->β (.E [.A Kn,.A KH]) j.2):lz (.ref 389) [.A lH,.A J8,.A oT,.A on] k (d+3) c β:=by
 have x:qR c<|zc c<|kL e:=Ny.G λs w b=>by rcases b with b|b|b<;>exact kd (jF.A.inj b).1 jB
 exact mZ jV.A_ U λk=>jN λb=>b Kn (λh=>n 62 _ jB jB) KH (λh=>n 63 _ jB jB) Qs (λh=>n 64 _ jB jB) .A (o7 (λm=>zc c<|Ll m<|kL e) U (λh=>v) (.A _) λm o p=>jN λb=>b (lN (jS ..) (qn o 4)<|(λm=>aZ (aX (XZ _ []) (by simp only[fX,ct];exact aX (bg ..) i.B)) jB) m) ⟨lE U,(o3 ..).a<|aB (λu=>jE _ Qs<|.B u)<|(n3 (c:=λu o=>kF u _ Qh) p).b⟩) .B<|nT _ (λh j=>(BM,j.2)) _ (show rl e _ 0 ([],zc c<|kL e) from mS .E (mS U .nil (λh b=>a' b ac) (λh b=>a' b ac) λl h=>⟨B l,U⟩) U (λh b=>a' b ac) λl h=>⟨n 60 _ jB jB,n 61 _ jB jB⟩) (.A _) (jx bI U) (λm j r=>r.A.C (a:=48) v λg=>g.a (λg=>g.a (jJ jB) λg=>g.a λl g=>jJ jB g) λg=>g.a (jJ jB) λg=>g.a λl g=>g.a (jJ jB)<|jJ jB) (λm j o r p=>XY i.A i.E (mz (y.E x) (z.C x) A<|jS ..) i.F i.B i.C (i.D o<|aa p).1 (i.G o<|aa p) r p) λj r=>mE λb=>b<|g j r
end
noncomputable def xj(a:jM):jF:=.A 51 [a.1,a.2.ctorIdx,2]
def X1{a:jM}(b:xj r=xj a):r=a:=sg<|aB (λc=>jF.rec (motive:=λd=>jF) (λe=>.B e) (λd f=>.A 50<|Ll 2 f) c) b
abbrev E1(a:jF):=(∃c,qQ c=aj/\a=.A c [1])\/(∃b,a=mU b)\/∃b,a=xj b
def sl(c:Lt jM)(d:jM->Lt jD)(e:jC)(f g:Lt jM)(b:jC):=kq E1 e b/\(∀a∈c,a∉f->b (mU a)=V (.A<|(d a).map jG))/\∀a∈c,a∉g->b (xj a)=Y
section
variable(a:sl o g c z κ m)
def sl.A:=a.1
def sl.B:=a.2.1
def sl.C:=a.2.2
end
section
variable{b:Lt jM}
def E2(b:∃d,qQ d=aj/\T=.A d [i])(c:T=.A d j)(a:j≠[i]):False:=b.a λf e=>a (jF.A.inj<|c.b.a e.2).2
def E3:a::d::j≠[i]:=λb=>acU _ _ (an b).2
def vV(e:qQ a=aj->j≠[1])(f:a≠50)(g:a≠51):¬E1 (.A a j):=λb=>b.a (λb=>jU b λk h d=>e (jx (jF.A.inj d).1 h) (jF.A.inj d).2) λb=>b.a (λb=>b.a λi c=>jJ f c) λb=>b.a λi c=>jJ g c
noncomputable abbrev E4(z:Lt jM)(a:jM):Lt Nat:=[a.1,a.2.ctorIdx,if a∈z then 1 else 2]
def X2(b:oE o z s c)(d:m (qS r)=c (qS r)):jE m (xj r) (.A []) (.A 51<|E4 z r)=V (.A<|(s r).map kR):=by
 simp only[E4];by_cases a:r∈z;.exact jx (aC a)<|(jQ _ _ λe=>a' (an (an (an (jF.A.inj e).2).2).2).1 jB).a<|d.a<|b.C r a
 .exact jx (aA a)<|jx ((b.A r a).2)<|jS ..
def sl.D(f:sl o g W κ b c)(h:kq (λi=>(∃l,qQ l=aj/\i=.A l [1])\/∃d∈κ,i=mU d) c m):sl o g W κ b m:=⟨f.A.A<|h.D λi j=>j.c id λj=>.inl<|j.b λd p=>p.2,λd k e=>h.C (f.B d k e) λa=>a.a (λa=>E2 a U E3) λa=>jU a λn q r=>e<|kd (sg r:d=n) q,λd k e=>h.C (f.C d k e) λa=>a.a (λa=>E2 a U E3) λa=>jU a λn t s=>jJ jB s⟩
def X3(l:La o<16000000)(E:Le o)(F:∀d,Le (g d))(G:∀t d,o[t]?=V d->∀j∈s d,j∈Ll t o)(H:∀d∈o,α d=uO s g α d)(C:c oT=V (.A<|o.map kR)) (u:∃w,c (.A 58 [0])=V (.B w)/\∀j∈o,kj w (kR j)=V (.A<|mU j)) (I:∀j∈o,c (mU j)=V (.A<|(g j).map jG)) (x:oE o z s c) (J:c Kz=V (.D 398 #[])) (D:∀t,1<t->c (.A 55 [t])=Y) (y:∀p,qQ p=aj->c (.A p [1])=Y) (K:∀d,c (xj d)=Y) (e:∀W m,qo 1 o α (sl o g W) o m->kq (λA=>A=.A 52 [1]\/A=.A 55 [2]\/A=.A 55 [3]) c W->β (.A QA) m):lz (.ref 403) [.A lH,.A oT,.A<|.A 58 [0],.A KH] k (a+7) c β:=u.a λw u=>M9 jV.L_ U jV.O_ jV.P_ J U (uQ ⟨_,U⟩ BL) (uQ ⟨_,U⟩ BL) (D 2 jB) (D 3 jB) (sf jB) jB jB jV.M U jB λk L M N O P Q R S T X=>have n:∀{p B m}{κ b:Lt jM},sl o g _ κ b m->¬E1 (.A p B)->m (.A p B)=EQ c Kz 398 (.A 55 [2]) (.A 55 [3]) L M (.F N P R) (.F O Q S) (.A p B):=λh f=>h.A _ _ f;M8 (p:=sl o g _) ⟨λ{m κ b d} h q Z=>Q2 m (.A T ((n h<|vV (λf=>a' f jB) jB jB).a U) λe=>jN λf=>f (ne ((n h<|vV (λv=>by decide) jB jB).a u.1) (qn d 4)<|u.2 d q) e) (h.B d q Z) .E h.A (λi l r=>h.B i l λe=>r<|bM _ e) h.C,λ{m κ b d} h q γ=>(x8 (jE m _<|.A []) _ (.A X ((n h<|vV (λf=>a' f jB) jB jB).a U) λe=>jN λf=>f ((n h<|vV (λf=>a' f jB) jB jB).a x.B) _ (λv=>h.C d q γ) .A (jX.C ((jQ _ _<|jJ jB).a<|(n h<|vV (λf=>a' f jB) jB jB).a x.B) (qn d 4) (by
 simp only[vT,y',E4];by_cases f:d∈z;.rw[aC f,aC f];rfl
 .rw[aA f,aA f];rfl)) e) (X2 x<|n h λe=>e.a (λe=>E2 e U E3) λe=>e.a (λe=>e.a λd i=>jJ jB i) λe=>e.a λj i=>a' (an (an (an (jF.A.inj i).2).2).2).1 jB) (.B ⟨_,U⟩) (h.A.A<|.B<|kC ⟨d,U⟩) (λi l r=>(jQ _ _<|jJ jB).a<|h.B i l r) λi l r=>(jQ _ _ λe=>r<|kd (X1 e:i=d)<|bP _ ae).a<|h.C i l λe=>r<|bM _ e),sl.D⟩ l E F G H (lj .E (λd q v=>I d q) λd v v=>K d) C (y 56 U) (y 57 U) (y 58 U) U (λh=>(n h<|vV (λf=>a' f jB) jB jB).a C) λm δ=>e _ m δ<|.A (.B kr)<|.A (.B<|.inr kr)<|.A (.B kr)<|.B<|kC U
end
abbrev lF:=jH×Nat
abbrev pB:=Lt<|lF×Lt jD
noncomputable def pe(a:lF):jF:=.A 53 [a.1.1,a.1.2,a.2]
noncomputable def sm(a:jH):jF:=.A 25 [a.1,a.2]
def qU(a:pB):Lt lF:=a.foldl (λb c=>kN b c.1) []
def tL(c:pB)(d:lF):Lt jD:=c.foldl (λa b=>if b.1=d then lb a b.2 else a) []
def qp(b:Lt lF)(c:jH):Lt<|jA×jA:=(b.filter λa=>ba<|a.1=c).map λa=>(.B a.2,.A<|pe a)
def BR{a b:lF}(e:pe a=pe b):a=b:=have c:=an (jF.A.inj e).2;have d:=an c.2;bt (bt c.1 d.1) (an d.2).1
def X4{a:jH}(b:sm N=sm a):N=a:=MB<|aB (λc=>jA.A<|jF.rec (motive:=λd=>jF) (λN=>.B N) (λd e=>.A 24 e) c) b
def zd{f:Lt lF}:kj (qp f N) (.B a)=if(N,a)∈f then V<|.A<|pe (N,a)else Y:=by
 unfold qp;induction f with
 |nil=>rfl|cons g h i=>
  by_cases d:g.1=N;.
   rw[cO,aC<|aD d,bo,kj];by_cases e:g.2=a;.have j:g=(N,a):=bt d e;exact jx (aC<|jx e U)<|kd (aC<|kg j ae)<|jx j U
   .refine jx (aA λb=>e<|sd.a b)<|jx i ?_;by_cases c:(N,a)∈h;.rw[aC c,aC<|af _ c]
    .rw[aA c,aA λb=>(ao.a b).a (λb=>e (aB dO b).b) c]
  .rw[cO,aA<|nt<|aG d,i];by_cases c:(N,a)∈h;.rw[aC c,aC<|af _ c]
   .rw[aA c,aA λb=>(ao.a b).a (λb=>d (aB ca b).b) c]
def X5{d:Lt lF}{c:jH}:qp (d++[(N,a)]) c=if N=c then qp d N++[(.B a,.A<|pe (N,a))]else qp d c:=by
 unfold qp;by_cases b:N=c;.rw[aC b,eJ,cO,aC<|aD b,eK,bK,b];rfl
 .rw[aA b,eJ,cO,aA<|nt<|aG b,eK,bQ]
def uU(b:pB)(e:lF):Le (tL b e):=by
 have f:∀(b:pB)(a:Lt jD),Le a->Le (b.foldl (λa c=>if c.1=e then lb a c.2 else a) a):=λb=>by
  induction b with
  |nil=>exact λh d=>d|cons c i g=>
   refine λa d=>g _ ?_;show Le (if c.1=e then lb a c.2 else a);split;.exact qN d
   .exact d
 exact f b [] .nil
def Nz(a:pB):Le (qU a):=rF (λb b=>tA) a [] .nil
def X6{e:lF->Prop}(a:pB)(b:∀c∈a,e c.1):∀d∈qU a,e d:=by
 have h:∀(a:pB)(f:Lt lF),(∀c∈a,e c.1)->(∀d∈f,e d)->∀d∈a.foldl (λf c=>kN f c.1) f,e d:=λa=>by induction a with|nil=>exact λg g b=>b|cons c o i=>exact λf b j=>i _ (λk l=>b k<|af _ l) λd m=>(rf.a m).a (j d) λn=>kd n<|b c ae
 exact h a [] b λg b=>a' b ac
def X7{b:Lt lF}(e:Le b)(f:∀a∈b,a.2<1000):La (qp b N)<16777216:=by unfold qp;rw[ab];have c:=(show Le ((b.filter λa=>ba<|a.1=N).map dO) from cc.b<|dW (λg h i j=>i<|bt ((aF (ar.a g).2).a (aF (ar.a h).2).b) j)<|ev _ e).a λl k=>(am.a k).a λa d=>bj.b<|jL d.2<|f a (ar.a d.1).1;rw[ab,bX]at c;exact aZ c jB
def pf(g:jC)(d:Lt lF)(e:lF->Lt jD)(c:jC):=kq (λf=>(∃b,f=sm b)\/∃a,f=pe a) g c/\(∀b,jz.I b->c (sm b)=V (.B<|qp d b))/\(∀a∈d,c (pe a)=V (.A<|(e a).map jG))/\∀a,a∉d->c (pe a)=Y/\e a=[]
def pf.A{a:Lt lF}{b:lF->Lt jD}(d:pf c a b m):=d.1
def pf.B{a:Lt lF}{b:lF->Lt jD}(d:pf c a b m):=d.2.1
def pf.D{a:Lt lF}{b:lF->Lt jD}(d:pf c a b m):=d.2.2.1
def pf.C{a:Lt lF}{b:lF->Lt jD}(d:pf c a b m):=d.2.2.2
def ze(b:lF->Lt jD)(c:lF)(d:Lt jD):lF->Lt jD:=λa=>if c=a then lb (b a) d else b a
def X8{b:pB}{a:lF×Lt jD}:tL (b++[a])=ze (tL b) a.1 a.2:=aJ λc=>by simp only[tL,co];rfl
def X9{a:pB}{b:lF×Lt jD}:qU (a++[b])=kN (qU a) b.1:=by simp only[qU,co];rfl
section
variable{a:Lt lF}{b:lF->Lt jD}{d:lF}
def zf{a:lF}:sm N≠pe a:=jJ jB
def pf.E(h:pf m a b c)(l:d∉a):pf m (a++[d]) b<|jE (jE c (pe d)<|.A []) (sm d.1)<|.B<|qp a d.1++[(.B d.2,.A<|pe d)]:=have j:∀{g},jE _ _ (.B _) _=jE c _ (.A []) (pe g):=jQ _ _ λe=>zf e.b;⟨h.A.A<|.A (.B<|.inr ⟨d,U⟩)<|.B<|.inl ⟨d.1,U⟩,λk n=>by
 refine jx (show a++[d]=a++[(d.1,d.2)] from U)<|jx X5 ?_;by_cases f:d.1=k;.rw[aC f,<-f,jS]
 .refine jx (aA f)<|jx (jQ _ _ λe=>f (X4 e).b)<|jx (jQ _ _ zf) ?_;exact h.B k n,λg i=>j.a (by
 by_cases f:g=d;.exact jx (f ..)<|jx (jS ..)<|jx ((h.C d l).2) U
 .refine jx (jQ _ _ λe=>f<|BR e) ?_;exact h.D g<|(bR.a i).d λe=>f<|ak.a e),λg i=>⟨j.a<|(jQ _ _ λe=>i<|bP _<|ak.b<|BR e).a (h.C g λe=>i<|bM _ e).1,(h.C g λe=>i<|bM _ e).2⟩⟩
def pf.F(g:pf m a b c)(j:d∈a):pf m a (ze b d ι)<|jE (ks c S) (pe d)<|.A<|(lb (b d) ι).map jG:=⟨g.A.A<|.A .F<|.B<|.inr ⟨d,U⟩,λk l=>(jQ _ _ zf).a<|g.B k l,λf h=>by
 unfold ze;by_cases e:d=f;.exact jx (aC e)<|jL (e ..)<|jx (jS ..) U
 .refine jx (aA e)<|jx (jQ _ _ λi=>e (BR i).b) ?_;exact g.D f h,λf h=>by have e:d≠f:=λe=>h<|kg e j;unfold ze;refine jx (aA e)<|jx (jQ _ _ λi=>e (BR i).b) ?_;exact g.C f h⟩
end
def kv.M(h:kv a q c)(i:∀b d,b≠25->b≠53->m (.A b d)=c (.A b d)):kv a q m:=λj o e=>by cases j with|B f=>exact kh e|A b d=>have g:∀{f:Nat},(∀d,o9 a q f d=Y)->b≠f:=λk l=>mh (k d)<|jL l e;exact(i b d (g λn=>U)<|g λn=>U).a<|h _ _ e
def rL(e:j')(f:Nat)(g:ku)(c:Lt jM)(h:jM->Lt jD)(b:jC):=kv f g b/\(∃d,b QA=V (.B d)/\∀a∈c,kj d (kR a)=V (.A<|mU a))/\(∀a∈c,b (mU a)=V (.A<|(h a).map jG))/\b Kn=V (.B<|rK c)/\∀a∈c,b (pd a)=V (.A<|(rJ e a).map sW)
section
variable(b:rL e a q o g c)
def rL.A:=b.1
def rL.C:=b.2.1
def rL.D:=b.2.2.1
def rL.E:=b.2.2.2.1
def rL.F:=b.2.2.2.2
end
abbrev NA:jP:=lv [.A lH,.A Kn,.A QA]
abbrev BS(a:jM):jP:=(NA.A 3<|kR a).A 4<|.A<|pd a
abbrev NB(b:jM)(a:lF):jP:=((BS b).A 5<|.B a.2).A 6<|kK a.1
def NC:Lt kb:=[.A Jz<|.F Jc 46 [Jg,.K []],.C Jx Jl [.B (.D .NotIn Jk<|.C KQ Jd) [.E<|.F (.C KQ Jd) 42 [Jk]] []] []]
def X':Lt kb:=.B (.D .NotIn Jd KQ) [.D KQ Jd JY] []::NC
section
variable{b:Lt lF}{f:lF->Lt jD}{h:lF}
def rL.B(f:rL e a q o g m)(n:kq (λl=>(∃j,l=sm j)\/∃h,l=pe h) m c):rL e a q o g c:=have i:=λp r s t=>n p r λb=>b.a (λb=>b.a λj b=>jJ s b) λb=>b.a λj b=>jJ t b;(mS (f.A.M i) (f.C.b λu d=>⟨(i _ _ jB jB).a d.1,d.2⟩) (λd k=>(i _ _ jB jB).a<|f.D d k) ((i _ _ jB jB).a f.E) λd k=>(i _ _ jB jB).a<|f.F d k)
def E5(c:jC)(h:lF)(a:Lt jD):jC:=jE (ks c<|.A []) (pe h)<|.A<|a.map jG
def ND(u:rL e a q o g m)(n:pf m b f c)(v:r∈o)(w:h∈b)(x:jz.I h.1)(H:Le (f h))(I:δ<|E5 c h<|lb (f h)<|g r):jY k d (lV δ (λc=>(BS r,c)) y) (kt NC .A) [] (NB r h) c:=u.C.a λN z=>have A:=u.B n.A;have B:=n.A.C z.1 λi=>i.a (λi=>i.a λJ i=>jJ jB i) λi=>i.a λJ i=>jJ jB i;have C:∀{K:Lt jD},mY (.A _) (.B h.2) (E5 c h K)=V (.A _):=ne ((jQ _ _ zf).a<|n.B _ x) U<|zd.a<|aC w;jN λj=>j B (.B _) (λL=>mb L) .A (jX.C B (qn r 4)<|jx (z.2 r v) U) .A (o7 (X:=mU r) (λp=>E5 c h<|lb _<|Ll p<|g r) ((xa (c:=ks c<|.A []) (r:=pe h)<|n.D h w).b) (λp=>A.D r v) (.A _) λp E M=>have F:=A.A.C x;have s:=jS ..;have G:lb _ _=kN _ E:=n3 M;jN λj=>j F C .C (jW.E<|jW.B (jW.F s (oA _)<|kk E) uH) (λt j=>j F C s .A (jX.A s<|Bs<|qN H) .A ⟨lE U,M5.a (by rw[G,kN,aA t];rfl)⟩) λt j=>j .A ⟨lE U,by rw[G,kN,aC<|cB.a t]⟩)<|lh _ (bI▸I) (r9 U) U
def Ya(p:rL e a q o g m)(l:pf m b f c)(s:r∈o)(n:jz.I h.1)(t:Le (f h))(x:La (qp b h.1)<16777216)(u:∀v,pf m (kN b h) (ze f h<|g r) v->δ v):jY k d (lV δ (λc=>(BS r,c)) y) (kt X' .A) [] (NB r h) c:=have w:=p.B l.A;jN λi=>i (w.A.C n) .C (jW.E ((jW.D (l.B _ n) U).A (by
 rw[zd];by_cases i:h∈b;.rw[aC i,aD i];rfl
 .rw[aA i,aG i];rfl))) (λj i=>i _ (λA=>(l.C h j).1) (w.A.C n) ((lN ((jQ _ _ zf).a<|l.B _ n) U x).a<|aB (λz=>V<|jE _ _<|.B z)<|rh<|zd.a<|aA j) .B<|ND p (l.E j) s (bP _ ae) n t<|u _ (by rw[kN,aA j];exact(l.E j).F<|bP _ ae)) λj i=>i .B<|ND p l s (cB.a j) n t<|u _ (by rw[kN,aC<|cB.a j];exact l.F<|cB.a j)
end
def Yb{j:kM}(f:Nat->O->Prop)(e:Nat->O->jP×jC)(i:O)(o:f 0 i)(s:kw (e 0 i).1 Z)(p:c=(e 0 i).2)(q:∀b d,f b d->(e b d).2 T=V (.B v))(t:∀r u,nb j u r->qH r) (w:∀b d g,f b d->v[b]?=V g->kA False (λx=>jY k a (lV (f<|b+1) (e<|b+1) y) (kt Q .A) [] x (e b d).2) (mu j (r4 g.1 g.2) (e b d).1)) (z:∀d,f (La v) d->y .A (e (La v) d).1 (e (La v) d).2):oi (yL (.A T) c) j Q k a Z c y:=⟨_,_,⟨T,v,U,jx p<|q 0 i o,U,U⟩,wZ f e (λb A=>_[b]?) (La v) i o s p t (λb d h=>Ww (q b d h) b) (λb d B h l=>oR l λg m A=>(ag.a m).1) (λb d B h l=>oR l λg m n=>jL n<|w b d g h m) λb d h C n=>by obtain rfl:b=La v:=cC h<|w0 n;exact z d C⟩
def zg(c:j')(d:jM->Lt jD)(a:jM):pB:=(rJ c a).map λb=>((b.2,b.1),d a)
def qq(a:j')(b:jM->Lt jD)(c:Lt jM):pB:=c.flatMap<|zg a b
abbrev BU(b:jC)(a:pB)(c:jC):Prop:=pf b (qU a) (tL a) c
section
def Yc{a:pB}(b:∀c∈a,c.1.2<1000)(d:lF):La (qp (qU a) d.1)<16777216:=X7 (Nz a)<|X6 a b
def Yd(u:rL e a q o g c)(z:∀r∈o,∀i∈rJ e r,jz.I i.2/\i.1<1000)(E:∀n,jz.I n->c (sm n)=V (.B []))(F:∀v,c (pe v)=Y)(G:∀b,BU c (qq e g o) b->β .D b):lz (.ref 410) [.A lH,.A Kn,.A QA] k (d+1) c β:=by have A:∀w:Lt jM,(∀r∈w,r∈o)->∀j∈qq e g w,j.1.2<1000:=λw f j l=>(bV.a l).a λx B=>(am.a B.2).a λi C=>jL C.2 (z x (f x B.1) i C.1).2;refine mZ jV.B_ U λk=>jN λf=>f .B<|Yb (λp b=>BU c (qq e g<|Ll p o) b) (λy b=>(NA,b)) c (mz .E (λn f=>E n f) (λy f=>a' f ac) λv y=>⟨F v,U⟩) (.A _) U (λp b h=>(u.B h.A).E) wJ (λp b i h s=>oR s λr D H=>?_) λb h=>mE λf=>f<|G b (by simp only[rK,ab,bI]at h;exact h);subst H;have t:=aa D;exact jN λf=>f .B<|nT (λm b=>BU c (qq e g _++Ll m (zg e g r)) b) (λy b=>(BS r,b)) b (by simp only[fn,bQ];exact h) (.A _) U (λm b h=>(u.B h.A).F r t) (λm b i h s=>Ya (h:=(i.2,i.1)) u h t (z r t i<|aa s).1 (uU ..) (Yc (λj l=>(bR.a l).a ((A (Ll p o) λr f=>cr f) j) λl=>A [r] (λx I=>kd (ak.a I) t) j<|bV.b<|jO r ae<|cr l) _) λb J=>by simp only[(show Ll (m+1) (zg e g r)=Ll m (zg e g r)++[((i.2,i.1),g r)] from nN<|(ax ..).a<|aB (ji _) s),<-bw,BU,X9,X8];exact J) λb h=>mE λf=>f<|lh b (by rw[show La (rJ e r)=La (zg e g r) from(ab _).b,bI]at h;simp only[qq,uT D];exact h) (mC U) U
end
def xk(e:j')(a:jC):=(∀b d,46<b->b<65->b≠52->a (.A b d)=Y)/\a Ky=V (.D 391 #[])/\a Kz=V (.D 398 #[])/\∀c,jz.I c->a (sm c)=V (.B [])
section
variable(a:xk e c)
def xk.A:=a.1
def xk.B:=a.2.1
def xk.C:=a.2.2.1
def xk.D:=a.2.2.2
end
def qr(a:j')(b:jM->Lt jD)(d:jC):=(∀c,jz.I c->d (sm c)=V (.B<|qp (qU<|qq a b<|kL a) c))/\∀e∈qU (qq a b<|kL a),d (pe e)=V (.A<|(tL (qq a b<|kL a) e).map jG)
section
variable(a:qr e g c)
def qr.A:=a.1
def qr.B:=a.2
end
section
def qR.A(e:qR c W)(f:qR W m):qR c m:=λa b d=>(f a b d).a<|e a b d
def Ye{f:Lt Nat}(h:46<a)(k:46<d)(l:46<i)(g:kq (λe=>e=.A a j\/e=.A d γ\/e=.A i f) c m):qR c m:=g.G λn j b=>by rcases b with b|b|b<;>exact kd (jF.A.inj b).1<|‹_›
def NE(c:d≠51)(e:d≠60)(a:d≠61)(f:d≠62)(g:d≠63):¬zb (.A d j):=λb=>b.a (λb=>b.a (jJ g) λb=>b.a λh b=>jJ c b) λb=>b.a (jJ f) λb=>b.a λh b=>b.a (jJ a)<|jJ e
theorem Yf(b:si a=aj):46<a/\a<65/\a≠52/\a≠47/\a≠48:=by revert a;apply pJ;generalize pn=a;intros;simp only[si,cT,cT,cT,cT]at b;rcases b with(((b|b)|b)|b)|b<;>exact jx (bA b) jB
def E6(b:qQ a=aj):a<60/\a≠51:=by simp only[qQ,cT,cT]at b;rcases b with(b|b)|b<;>exact jx (bA b) jB
def NF(d:60<=a):si a=ah:=by have b:∀c,c<60->a.beq c=ah:=λc e=>o2<|bi<|au e d;simp only[si,b 50 jB,b 51 jB,b 56 jB,b 57 jB,b 58 jB];rfl
def mo.I(g:mo e c)(h:∀a b,a≠25->a≠53->m (.A a b)=c (.A a b)):mo e m:=g.E λa b d=>by exact h a b (λf=>by rw[f]at d;revert d;decide) λf=>by rw[f]at d;revert d;decide
def Yg(e:a<60)(f:a≠51):¬zb (.A a j)/\¬E0 (.A a j):=have b:∀c,60<=c->a≠c:=λc g=>bF<|au e g;⟨NE f (b 60 jB) (b 61 jB) (b 62 jB)<|b 63 jB,λd=>d.a (jJ<|b 62 jB) λd=>d.a (jJ<|b 63 jB)<|jJ<|b 64 jB⟩
def Yh(A:sk e)(u:kv a q c)(G:mo e c)(s:xk e c)(Q:0<jz.B)(γ:∀δ,δ<jz.B->jz.A δ≠[])(ξ:uM)(ο:∀H w,(kL e)[H]?=V w->∀x∈qT e (kL e) w,x∈Ll H (kL e))(π:∀w∈kL e,g w=uO (qT e<|kL e) (rI e) g w) (ρ:∀w∈kL e,∀p∈rJ e w,jz.I p.2/\p.1<1000) (b:∀m,kv a q m->mo e m->qr e g m->(∀h j,h≠25->h<=46\/65<=h->m (.A h j)=c (.A h j))->β .D m):lz (.ref 417) [.A lH,.A J8] k (d+8) c β:=by
 have I:kq (λy=>y=on\/y=oT) c<|tH (xe c)<|kL e:=.A (.B kr)<|.A .F<|.B<|.inr U;have R:qR c<|xe c:=kq.G (.A (.B U) .F) λh j f=>kg (jF.A.inj f).1 jI;have J:=I.G λh j f=>by rcases f with f|f<;>exact kd (jF.A.inj f).1 jI
 have ε:La (kL e)<16000000:=aZ A.B jI;refine mZ jV.C_ U λk=>jN λf=>f u.A .A (Xk u Q γ<|s.A 47 _ jI jI jI) (u.E R).A .A (Xq (u.E R) A.A (G.C R) ξ<|s.A 48 _ jI jI jI) (u.E J).A .B<|XA (u.E J) (G.C J) A.A U A.D A.C ε Q (γ 0 Q) (jS ..) s.B (λH=>s.A 55 _ jI jI jI) (λh j f=>?_) λχ K v L=>ka λD=>?_;.have i:=Yf f;exact I.C (s.A h j i.1 i.2.1 i.2.2.1) λb=>b.a (jJ i.2.2.2.1)<|jJ i.2.2.2.2
 have B:=J.A<|(Ye jI jI jI L).A v.A.A.A;have C:∀{h j},si h=ah->h≠52->h≠55->K (.A h j)=tH _ (kL e) (.A h j):=λl p a=>(v.A.A _ _ l).a<|L _ _ λb=>b.a (jJ p) λb=>b.a (jJ a)<|jJ a;refine D<|jN λf=>f (u.E B).A .B<|X0 A (u.E B) (G.C B) (C U jI jI) ((C U jI jI).a<|jS ..) (λh j l p=>?_) (λx=>v.A.B ..) λl M=>ka λD=>?_;.have i:∀r,r<60->h≠r:=λr E=>bi<|au E l;exact(C (NF l) (i 52 jI)<|i 55 jI).a<|I.C (s.A h j (au jI l) (dA p)<|i 52 jI) λb=>b.a (jJ<|i 47 jI)<|jJ<|i 48 jI
 have S:∀{y:jF}{h j},y=.A h j->¬zb y/\¬E0 y->l.2 y=K y:=λN f=>by subst N;exact(M.A _ _ f.1).a<|Ny _ _ f.2
 have z:∀{h j},h<60->h≠51->l.2 (.A h j)=K (.A h j):=λl p=>S U<|Yg l p;have O:qR K l.2:=λh j f=>z (aZ f jI)<|bF<|aZ f jI;have ζ:=(u.E B).E O;have η:=M.C;have θ:=M.D;have ι:=M.E;rw[bI]at η θ ι;refine D<|jN λf=>f ζ.A .B<|X3 ε A.C Na ο π ((z jI jI).a<|(C U jI jI).a<|jS ..) (v.B.b λσ i=>⟨(z jI jI).a i.1,i.2.2⟩) (λx T=>(z jI jI).a<|v.C x T) η ((z jI jI).a<|(v.A.A _ _ U).a<|L.C s.C λb=>b.a (sf jI) λb=>b.a (jJ jI)<|jJ jI) (λH κ=>(z jI jI).a<|(v.A.A _ _ U).a<|L.C (s.A 55 _ jI jI jI) λb=>b.a (jJ jI) λb=>b.a (sf<|bi<|au jI κ)<|sf<|bi κ) (λh f=>(z (E6 f).1 (E6 f).2).a<|v.A.E h f) (λw=>(S U<|⟨λb=>b.a (λb=>b.a (jJ jB) λb=>b.a λx i=>a' (an (an (an (jF.A.inj i).2).2).2).1 jB) λb=>b.a (jJ jB) λb=>b.a λx b=>b.a (jJ jB)<|jJ jB,λb=>b.a (jJ jB) λb=>b.a (jJ jB)<|jJ jB⟩).a<|v.A.B ..) λψ μ W τ=>ka λD=>?_;have F:∀{h j},_->h≠50->h≠51->h≠52->h≠55->μ (.A h j)=l.2 (.A h j):=λl p a t N=>(W.A.A _ _<|vV l p a).a<|τ _ _ λb=>b.a (jJ t) λb=>b.a (jJ N)<|jJ N;have P:qR l.2 μ:=λh j f=>have i:∀r,46<r->h≠r:=λr E=>bF<|aZ f E;F (λt=>by simp only[qQ,cT,cT]at t;rcases t with(t|t)|t<;>exact a' (bA t)<|i _ jI) (i 50 jI) (i 51 jI) (i 52 jI) (i 55 jI);have X:=ζ.E P;refine D<|jN λf=>f X.A .B<|Yd (d:=d+6) (o:=kL e) (g:=g) (mS X (W.B.b λσ i=>⟨i.1,i.2.2⟩) W.C ((F (λf=>a' f jI) jI jI jI jI).a θ) λx T=>(F (λf=>a' f jI) jI jI jI jI).a<|ι x T) ρ (λZ υ=>(P 25 _ jI).a<|(O 25 _ jI).a<|(B 25 _ jI).a<|s.D Z υ) (λr=>(F (λf=>a' f jI) jI jI jI jI).a<|(z jI jI).a<|(C U jI jI).a<|s.A 53 _ jI jI jI) λφ α=>jN λf=>f<|b φ ?_ ?_ ⟨α.B,α.D⟩ ?_;all_goals have i:=λh j l p=>α.A h j λb=>b.a (λb=>b.a λZ b=>jJ l b) λb=>b.a λZ b=>jJ p b
 .exact X.M i
 .exact(((G.C B).C O).C P).I i
 .refine λh j ν f=>?_;rcases f with f|f;.exact(i h j ν<|bF<|aZ f jI).a<|(P h j f).a<|(O h j f).a<|B h j f
  .have o:∀r,r<65->h≠r:=λr E=>bi<|au E f;exact(i h j ν<|o 53 jI).a<|(F (λt=>a' (E6 t).1<|cn<|aX jI f) (o 50 jI) (o 51 jI) (o 52 jI)<|o 55 jI).a<|(S U ⟨NE (o 51 jI) (o 60 jI) (o 61 jI) (o 62 jI)<|o 63 jI,λb=>b.a (jJ<|o 62 jI) λb=>b.a (jJ<|o 63 jI)<|jJ<|o 64 jI⟩).a<|(C (NF<|aX jI f) (o 52 jI)<|o 55 jI).a<|I _ _ λb=>b.a (jJ<|o 47 jI)<|jJ<|o 48 jI
end
def md(d:List<|jD×O)(a:jD)(b:O):List<|jD×O:=eT (motive:=λg=>List<|jD×O) [(a,b)] (λc e f=>if c.1=a then(a,b)::e else c::f) d
def lq(b:O->jA)(c:Lt<|jD×O):Lt<|jA×jA:=c.map λa=>(jG a.1,b a.2)
section
variable{a:O->jA}{b:List (jD×O)}{c:jD}{d:O}
def p3:kj (lq a b) (jG t)=(Lj t b).map a:=lO (by rfl) (λe g f=>by
 rw[lq,bo,bx,kj];by_cases c:e.1=t;.exact jx (aC<|jx c U)<|jx (c ..)<|jx (aI ..) U
 .exact jx (aA λd=>c<|m'.a d)<|jx (aM λd=>c d.b) f) b
def sY:kF (lq a b) (jG t) (a d)=lq a (md b t d):=lO (by rfl) (λe f g=>by
 simp only[lq,bo,kF];show _=lq a (if e.1=t then _::f else e::md f t d);by_cases c:e.1=t;.rw[aC<|jx c U,aC c];rw[c];rfl
 .exact jx (aA λh=>c<|m'.a h)<|jx (aA c)<|aB _ g) b
def oU:Lj c (md b t d)=if c=t then V d else Lj c b:=lO (by
 show eI c [(t,d)]=_;refine jx bx ?_;by_cases a:c=t;.rw[a,aI,aC U]
 .rw[aM a,aA a]) (λf g h=>by
 show eI c (if f.1=t then _::g else f::md g t d)=_;by_cases a:f.1=t;.
  rw[aC a,bx,bx,a];by_cases e:c=t;.rw[e,aI,aC U]
  .rw[aM e,aA e]
 .rw[aA a,bx,bx];by_cases e:c=f.1;.rw[e,aI,aA a]
  .exact jx (aM e) h) b
def Yi{c:jD}(a:c∈(md b t d).map (·.1)):c∈b.map (·.1)\/c=t:=by
 induction b with
 |nil=>exact .inr<|ak.a a|cons e f h=>
  revert a;show c∈(if e.1=t then _::f else e::md f t d).map _->_;by_cases g:e.1=t;.exact jx (aC g)<|jx bo λa=>(ao.a a).a .inr λa=>.inl<|af _ a
  .exact jx (aA g)<|jx bo λa=>(ao.a a).a (λa=>.inl<|kd a ae) λa=>(h a).c (af _) id
def sZ(a:Le (b.map (·.1))):Le ((md b t d).map (·.1)):=by
 induction b with
 |nil=>exact cD ..|cons e f g=>
  rw[bo,cQ]at a;show Le ((if e.1=t then _::f else e::md f t d).map _);by_cases c:e.1=t;.rw[aC c,bo,cQ];exact⟨jL c a.1,a.2⟩
  .rw[aA c,bo,cQ];exact⟨λh=>(Yi h).a a.1 c,g a.2⟩
def tM(c:Le (b.map (·.1))):La (lq a b)<16777216:=by have:=no c;rw[ab]at this;simp only[lq,ab];exact aZ this jB
end
abbrev ma:=Lt (jD×Int)×Lt (Nat×Nat)
def Yj(b:jH)(a:ma)(d:jD)(e:Op Int):ma:=dC (motive:=λf=>ma) (md a.1 d (-(b.1:Int)),a.2) (λc=>if jz.G b.1<jz.G (Lg (-c))then(md a.1 d (-(b.1:Int)),a.2++[(b.1,Lg (-c))])else(a.1,a.2++[(Lg (-c),b.1)])) e
def mI(c:jH)(a:ma)(b:jD):ma:=Yj c a b<|Lj b a.1
def Yk(b:j')(d:Lt jH)(a:ma)(c:jD)(e:Op Int):ma:=dC (motive:=λf=>ma) (md a.1 c (Lk (b.C d c) b.A:Nat),a.2) (λf=>a) e
def oF(c:j')(d:Lt jH)(a:ma)(b:jD):ma:=Yk c d a b<|Lj b a.1
def Yl(d:j')(e:Lt jH)(f:jH->Lt jD)(a:ma)(b:jH)(g:Op jD):ma:=dC (motive:=λh=>ma) (if jz.D b.1=.E then(md a.1 .C 0,a.2)else(f b).foldl (mI b) a) (λc=>if c.H=aj then oF d e a c else a) g
def np(b:j')(c:Lt jH)(d:jH->Lt jD)(e:ma)(a:jH):ma:=Yl b c d e a<|jz.C a
def rM(b:j')(a:Lt jH)(c:jH->Lt jD):ma:=a.foldl (np b a c) ([],[])
def vW(a:Nat×Nat×Nat):jA:=.E [.B (a.1:Nat),ln a.2.1,ln a.2.2]
def uV(a:ku):=∀b,a b=[]\/(∃c:Int,a b=[(13,.B c)])\/(∃d:Int,a b=[(14,.B d)])\/∃d c:Int,a b=[(14,.B d),(13,.B c)]
def vX(a:ku)(b:Nat)(d:Int):ku:=λc=>if c=b then n8 (a b) 13<|.B d else a c
section
theorem uV.A(c:uV q)(a:Int):uV<|vX q d a:=by
 revert c;revert q d a;apply q3;generalize mj.1.1=d,mj.1.2=q,mj.2=a;intros;exact λf=>by
  unfold vX;by_cases g:f=d;.
   refine jx (aC g) ?_;rcases c d with b|⟨_,b⟩|⟨e,b⟩|⟨e,_,b⟩;.exact n6 ⟨a,jx b U⟩
   .exact n6 ⟨a,jx b U⟩
   .exact kC<|.inr ⟨e,a,jx b U⟩
   .exact kC<|.inr ⟨e,a,jx b U⟩
  .exact jx (aA g)<|c f
def xl(q:ku)(c:jC)(d:Nat)(a:Int):jC:=jE c (lZ d)<|.C 100<|jz.f_ d++vX q d a d
def kv.d_(l:kv a q c)(m:d<jz.B)(e:Int):kv a (vX q d e)<|xl q c d e:=λf n b=>by
 by_cases g:f=Internal.lZ d;.rw[g]at b⊢;simp only[xl,jS];exact(w7<|cG m).b.a b
 .simp only[xl,jQ _ _ g];apply l f n;cases f with
  |B s=>exact kh b|A h i=>
   by_cases k:h=20;.subst k;cases i with|nil=>exact kh b|cons j p=>cases p with|cons _ _=>exact kh b|nil=>exact(by rw[<-(show vX q d e j=q j from aA λr:j=d=>g<|jx r U)];exact b:(bif Nat.ble _ jz.B then some<|km.C 100<|jz.f_ j++q j else none)=some n)
   .refine Eq.trans ?_ b;show o9 a q h i=o9 a _ h i;unfold o9;exact jx (o2 k) U
theorem NG(i:kv a q c)(j:uV q)(k:d<jz.B):∃e:Int,pw 13 (ln d) c=V (.B e)/\∀f,oP 13 (ln d) (.B f) c=V (xl q c d f):=by
 revert a q c d;apply qu;generalize lr.1.1=a,lr.1.2=d,lr.2.1=c,lr.2.2=q;intros;have g:∀{l},q d=l->(∃e:Int,wV 13 100 _=V (.B e))->∃e:Int,pw 13 (ln d) c=V (.B e):=λm b=>b.b λe b=>(Er<|i.D k).a<|jx m b;have n:∃e:Int,pw 13 (ln d) c=V (.B e):=by
  rcases j d with b|⟨e,b⟩|⟨h,b⟩|⟨h,e,b⟩;.exact g b ⟨0,U⟩
  .exact g b ⟨e,U⟩
  .exact g b ⟨0,U⟩
  .exact g b ⟨e,U⟩
 refine n.b λe b=>⟨b,λf=>(yT<|i.D k).a ?_⟩;have o:cK (La (jz.f_ d++q d)) 199=aj:=by rcases j d with b|⟨e,b⟩|⟨h,b⟩|⟨h,e,b⟩<;>rw[b]<;>rfl
 simp only[xl,(show vX q d f d=n8 _ 13 (.B f) from aC U),o];rfl
end
abbrev zh(a:Nat):jP:=(((((((lv [.A lH]).A 1<|nD 1).A 2<|nD 8).A 3<|nD 32).A 4<|nD 31).A 5<|nD 69).A 6<|nD 42).A 7<|.B (a:Nat)
abbrev uW(a:Nat)(b:jF):jP:=((((zh a).A 8<|.A b).A 9<|.A<|.A 65 [a]).A 10<|.A<|.A 67 [a]).A 11<|.A<|.A 66 [a]
def mJ(g:Nat)(h:jC)(b:Nat)(i:Lt<|Nat×Nat×Nat)(d:ma)(a:ku×jC):=kv g a.1 a.2/\uV a.1/\kq (λc=>(∃j,c=lZ j)\/c=.A 37 []\/c=.A 65 [b]\/c=.A 67 [b]) h a.2/\a.2 (.A 65 [b])=V (.B<|lq jA.B d.1)/\(∃e:Lt<|jD×jH,a.2 (.A 67 [b])=V (.B<|lq kK e)/\Le (e.map (·.1)))/\Le (d.1.map (·.1))/\a.2 KU=V (.A<|(i++d.2.map λf=>(b,f.1,f.2)).map vW)
section
variable{b:ma}(e:mJ a c d l b n)
def mJ.A:=e.1
def mJ.D:=e.2.1
def mJ.E:=e.2.2.1
def mJ.B:=e.2.2.2.1
def mJ.G:=e.2.2.2.2.1
def mJ.F:=e.2.2.2.2.2.1
def mJ.C:=e.2.2.2.2.2.2
end
def NH(a:Lt kb):Lt kb:=[.A JJ Qi,.B KX [.B (.D .Gt Jm J3) a [.B (.D .Lt Jm J3) [.A (.A 20)<|.C Jb<|.c_ Jm,.A (.A 21) Ki,.B (.D .Gt (.B Jw 6)<|.B JE 6) [.D Jf Ji<|.c_ Kw,.D Jn Ji Je,.A (.B [.A 22,.A 23])<|.M [JE,Jw],.a_ Ki 13 .Add JX,.a_ (.C Jb<|.B Jw 2) 13 .Sub JX] [.A (.B [.A 22,.A 23])<|.M [Jw,JE]],.E<|.F (.B Ja 41) 42 [.M [Jl,JK,JQ]]] [.I]]] [.D Jf Ji<|.c_ Kw,.D Jn Ji Je,.a_ Ki 13 .Add JX]]
section
variable{b:ma}
def NI(c:jC)(d:Nat)(a:Lt<|jD×Int)(b:Lt<|jD×jH):jC:=jE (jE c (.A 65 [d])<|.B<|lq jA.B a) (.A 67 [d])<|.B<|lq kK b
def mJ.J(c:mJ a m d l b n){e:List<|jD×jH}(f:Le (e.map (·.1))):mJ a m d l (md b.1 t μ,b.2) (n.1,NI n.2 d (md b.1 t μ)<|md e t N):=m3 ((c.A.B U).B U) c.D (c.E.A<|.A (.B<|kC kr)<|.B<|kC<|.inr U) (jS ..) (jO _ (jS ..)<|sZ f) (sZ c.F) c.C
def mJ.H(c:mJ a m d l b n)(f:i<jz.B)(e:Int):mJ a m d l b (vX n.1 i e,xl n.1 n.2 i e):=m3 (c.A.d_ f e) (c.D.A e) (c.E.A<|.B<|.inl ⟨i,U⟩) c.B c.G c.F c.C
def mJ.K(c:mJ a m d l b n):mJ a m d l (b.1,b.2++[(i,X)]) (n.1,jE n.2 KU<|.A<|(l++b.2.map λN=>(d,N.1,N.2)).map vW++[vW (d,i,X)]):=m3 (c.A.B U) c.D (c.E.A<|.B<|.inr kr) c.B c.G c.F<|(jS n.2 KU _).a (by refine jx (bK (f:=λN:Nat×Nat=>_))<|jL (bw ..) ?_;generalize l++b.2.map (λN:Nat×Nat=>_)=e;refine jx bK ?_;rfl)
def nw.C{b:Nat}{e:jA}(f:d≠i)(g:Z X=V u)(h:Z b=V e):nw (.A (.B [.A d,.A i])<|.M [.A X,.A b]) k a Z c ((Z.A d u).A i e) c:=⟨λj=>⟨Tt f g h j⟩⟩
def NJ:jW .IsNot .D .D c ah:=(jW.f_ U).A<|aG λa=>a U
def NK:jW .IsNot (.B μ) .D c aj:=(jW.f_ U).A (aD λa=>by cases a)
def zi(b:kv a q c)(e:d<jz.B):mY (.A Kf) (.B d) c=V (ln d):=ql b.I<|(ax ..).a<|aB _<|bp e
def Ym(c:mJ a m d l b n)(q:jz.I N)(C:La ((l++b.2.map λN=>(d,N.1,N.2)).map vW)<16777216)(h:Lj t b.1=Y\/∃e:Nat,e≠0/\e<jz.B/\Lj t b.1=V (-(e:Int)))(s:∀D,mJ a m d l (mI N b t) D->ε D):jY k i (lV ε (λn=>(((uW d T).A 12<|kK N).A 13 u,n.2)) y) (kt (NH Q) .A) [] ((((uW d T).A 12<|kK N).A 13 u).A 14<|jG t) n.2:=ka λE=>by
 have p:=q.1;have w:=c.A.C q;refine jU c.G λL M F=>?_;have j:=c.J (t:=t) (μ:=-(N.1:Int)) (N:=N) F;refine jU (NG j.A j.D p) λO G I=>?_;have f:=j.H p<|O+1;have J:qK (.A<|.A 65 [d]) _ (.B _) n.2=V (jE n.2 (.A 65 [d])<|.B<|lq jA.B<|md b.1 t (-(N.1:Int))):=(lN c.B (kk t)<|tM c.F).a<|aB (λz=>V<|jE n.2 (.A 65 [d])<|.B z) sY;have K:qK (.A<|.A 67 [d]) _ _ _=V (NI n.2 d _<|md L t N):=(lN (d:=jE n.2 (.A 65 [d])<|.B _) (X:=.A 67 [d]) M (kk t)<|tM F).a<|aB (λz=>V<|jE (jE n.2 (.A 65 [d])<|.B<|lq jA.B<|md b.1 t (-(N.1:Int))) (.A 67 [d])<|.B z) sY;rcases h with h|⟨e,P,g,h⟩;.
  have r:mI N b t=(md b.1 t (-(N.1:Int)),b.2):=by simp only[mI,h];rfl
  exact E<|jN λo=>o c.B .A (jX.B c.B (kk t)<|jx p3<|jx h U) .A NJ w J K (j.A.C q) (zi j.A p) G (I _) .A<|lh _ (s _<|jx r f) (mC U) U
 .have R:Lg (-(-(e:Int)))=e:=jx (hu ..) U;have S:=(hu (e:Int)).b▸zi c.A g;refine jU (NG f.A f.D g) λA W X=>?_;have r:mI N b t=if jz.G N.1<jz.G e then(md b.1 t (-(N.1:Int)),b.2++[(N.1,e)])else(b.1,b.2++[(e,N.1)]):=by simp only[mI,h];show(if jz.G N.1<jz.G (Lg (-(-(e:Int))))then _ else _)=_;exact jx R U
  refine E<|jN λo=>o c.B .A (jX.B c.B (kk t)<|jx p3<|jx h U) .A NK .A (jW.K.A<|aG<|fS.b<|Int.neg_nonpos_of_nonneg<|cA _) .A (jW.H.A<|aD<|Int.neg_neg_of_pos<|adj.b<|acG P) S w (zi c.A p) (c.A.D g) (c.A.D p) .C jW.K (λB o=>o w J K .A (nw.C jB U U) (j.A.C q) (zi j.A p) G (I _) (f.A.D g) (zi f.A g) W (X _) .A (f.H g<|A-1).A.A (f.H g<|A-1).C .A (jX.A (f.H g<|A-1).C C) .A .A .A<|lh _ (s _<|(aB (λb=>mJ a m d l b _)<|r.a<|aC B).mpr<|(f.H g _).K) ?_ U) λB o=>o .A (nw.C jB U U) .A c.A.A c.C .A (jX.A c.C C) .A .A .A<|lh _ (s _<|(aB (λb=>mJ a m d l b _)<|r.a<|aA B).mpr<|c.K) ?_ U;all_goals exact A7 U
end
def sn(f:j')(h:Lt lF)(g:jH->Nat->Lt jD)(e:Nat)(b:Lt jH):=(∀a∈b,jz.C a=Y->jz.D a.1≠.E->(a,e)∈h)/\(∀a∈b,jz.D a.1≠.E->a.1≠0)/\(∀a∈b,jz.C a=Y->jz.D a.1≠.E->∀c∈g a e,∀d∈b,jz.C d≠V c)/\(∀a∈b,jz.C a=Y->jz.D a.1≠.E->jD.C∈g a e->∀d∈b,jz.C d=Y->jz.D d.1≠.E)/\∀a∈b,∀c,jz.C a=V c->0<Lk (f.C b c) f.A
section
variable{c:Lt lF}(d:sn e c b a f)
def sn.B:=d.1
def sn.C:=d.2.1
def sn.A:=d.2.2.1
def sn.D:=d.2.2.2.1
def sn.E:=d.2.2.2.2
end
def zj(e:j')(f:jH->Nat->Lt jD)(g:Nat)(c:Lt jH)(b:jD)(d:Int):=(∃a∈c,jz.C a=Y/\jz.D a.1≠.E/\b∈f a g/\d=-((a.1:Nat):Int))\/(∃a∈c,jz.C a=V b/\b.H=aj/\d=(Lk (e.C c b) e.A:Nat))\/(b=.C/\d=0/\∃a∈c,jz.C a=Y/\jz.D a.1=.E)
def nq(c:j')(d:jH->Nat->Lt jD)(e:Nat)(f:Lt jH)(g:Lt<|jD×Int):=∀a b,Lj a g=V b->zj c d e f a b
section
variable{c:Lt lF}{g:ma}{h:Lt (jD×Int)}
def nq.A(i:nq e b a f h)(j:zj e b a f t μ):nq e b a f<|md h t μ:=λg k c=>by
 rw[oU]at c;by_cases d:g=t;.rw[aC d]at c;exact jx d<|kg (aY c) j
 .rw[aA d]at c;exact i g k c
def nq.D(c:nq e b a f g.1)(d:N∈f)(h:jz.C N=Y)(i:jz.D N.1≠.E)(j:t∈b N a):nq e b a f (mI N g t).1:=by
 simp only[mI];cases Lj t g.1 with
 |none=>exact c.A<|.inl<|rV N d h i j U|some k=>
  show nq e b a f (if jz.G N.1<jz.G (Lg (-k))then _ else(g.1,g.2++[(Lg (-k),N.1)])).1;split;.exact c.A<|.inl<|rV N d h i j U
  .exact c
def nq.B(j:N∈f)(k:jz.C N=Y)(l:jz.D N.1≠.E)(c:Lt jD):∀g:ma,(∀d∈c,d∈b N a)->nq e b a f g.1->nq e b a f (c.foldl (mI N) g).1:=lO (λg p h=>h) (λd q m=>λg i h=>m _ (λn o=>i n<|af _ o)<|h.D j k l<|i d ae) c
def nq.C(c:nq e b a f g.1)(d:N∈f):nq e b a f (np e f (λN=>b N a) g N).1:=by
 dsimp only[np];cases h:jz.C N with
 |none=>
  show nq e b a f (if jz.D N.1=.E then _ else(b N a).foldl _ g).1;split;.exact c.A<|kC ⟨U,U,N,d,h,‹_›⟩
  .exact nq.B d h ‹_› _ g (λj c=>c) c|some i=>
  show nq e b a f (if i.H=aj then oF e f g i else g).1;split;.dsimp only[oF];cases Lj i g.1 with|none=>exact c.A<|n6<|nQ N d h (‹_›) U|some k=>exact c
  .exact c
def Yn:La (mI N g t).2<=La g.2+1:=by simp only[mI];cases Lj t g.1 with|none=>exact bm _|some a=>show La (if jz.G N.1<jz.G (Lg (-a))then _ else(g.1,g.2++[(Lg (-a),N.1)])).2<=_;split<;>exact aw bH
def NL(a:Lt jD):∀g:ma,La (a.foldl (mI N) g).2<=La g.2+La a:=lO (λg=>al _) (λd b c=>λg=>aX (c _) (by rw[cN,ck (La b),<-cS];exact bC Yn _)) a
def nq.E(q:nq e b a f h)(i:sn e c b a f)(r:∀N∈f,jz.I N)(m:N∈f)(n:jz.C N=Y)(o:jz.D N.1≠.E)(p:t∈b N a):Lj t h=Y\/∃j:Nat,j≠0/\j<jz.B/\Lj t h=V (-(j:Int)):=by
 cases s:Lj t h with
 |none=>exact .inl U|some u=>
  refine ka λv=>?_;rcases q t u s with⟨d,g,_,k,_,w⟩|⟨d,g,l,_⟩|⟨x,_,d,g,l,k⟩;apply v;.exact .inr<|kT d.1 (i.C d g k) ((r d g).1)<|aB V w
  .exact a' l<|i.A N m n o t p d g
  .exact a' k<|i.D N m n o (kg x p) d g l
def nq.F(j:nq e b a f h)(k:sn e c b a f)(l:N∈f)(m:jz.C N=V t)(d:t.H=aj):Lj t h=Y\/Lj t h=V ((Lk (e.C f t) e.A:Nat):Int):=by
 cases n:Lj t h with
 |none=>exact .inl U|some o=>
  rcases j t o n with⟨g,i,p,q,r,_⟩|⟨g,i,_,_,s⟩|⟨u,_⟩;.exact a' m<|k.A g i p q t r N l
  .exact .inr<|aB V s
  .rw[u]at d;exact lf d
end
def Yo(a:Lt kb):Lt kb:=[.A (.A 24) Qb,.A JG<|.C KI<|.J .Add (.A 24) JX,.B (.D .In Ji<|.B J4 22) [.A JS<|.F Ja 60 [Jk,Ji],.A JU<|.F Kk 46 [.H J6 [.A 25],.c_ JX],.B (.D .GtE JD J3) [.A JJ Qi,.B KX [.B (.D .Gt Jm J3) [.B (.D .NotEq Jm JD) [.I] []] a] [.D Jf Ji JD,.D Jn Ji Je]] []] []]
section
variable{g:ma}{h:Lt lF}
def mJ.L(b:mJ a m d l g n):mJ a m d l g (n.1,ks n.2 S):=m3 b.A.H b.D (b.E.A .F) b.B b.G b.F b.C
def mJ.I(f:mJ a m d l g n)(h:mo e m):mo e n.2:=h.E λi j c=>by refine f.E i j λb=>?_;rcases b with⟨k,b⟩|b|b|b<;>rw[(jF.A.inj b).1]at c<;>revert c<;>decide
end
def NM(a b c:Lt kb):Lt kb:=[.B (.D .Eq KP<|.J .Add Qb JX) [.B (.D .Eq K7<|.I "S'") [.D Jf J7 J3,.D Jn J7 Je] [.B KN [.A JL<|.C (.B Je 16) Jl] c,.C JG JA (NH a) []]]<|Yo b]
def lA(a:j')(b:jM->Lt jD)(c:jH)(d:Nat):Lt jD:=tL (qq a b<|kL a) (c,d)
section
variable{b:ma}
def E7:kP QB=aj:=by decide+kernel
def NN:jW .Eq QB QB c aj:=(jW.C E7 E7).A<|aD U
def zk(f:mJ a m d l b n)(e:i≠20/\i≠37/\i≠65/\i≠67):n.2 (.A i j)=m (.A i j):=f.E i j λc=>c.a (λc=>c.a λg c=>jJ e.1 c) λc=>c.a (jJ e.2.1) λc=>c.a (jJ e.2.2.1)<|jJ e.2.2.2
def Yp(j:mJ a m d l b n)(t:nE e)(p:mo e m)(Z:qr e g m)(P:sn e (qU<|qq e g<|kL e) (lA e g) d f)(α:nq e (lA e g) d f b.1)(E:e.A[d]?=V f)(r:N∈f)(δ:La l+La b.2+11<16777216) (u:∀F,mJ a m d l (np e f (λN=>lA e g N d) b N) F->ε F):jY k (i+2) (lV ε (λn=>(uW d<|ll<|e.D d,n.2)) y) (kt (NM Q ο π) .A) [] ((uW d<|ll<|e.D d).A 12<|kK N) n.2:=by
 have G:=t.A (aa E) N r;have B:=j.A.C G;refine jN λh=>h B B .A .D (jW.B (jW.C U U)<|⟨λh=>eO<|sd.a h,λh=>jx h U⟩) (λs h=>sa h B .D (jW.B (jW.C (m:=jG .E) (kk _)<|kk .E) m') (λC h=>ka λw=>?_) λC h=>?_) λs h=>ka λw=>?_;.
  have D:jz.C N=Y:=cx<|aw s;have J:np e f (λN=>lA e g N d) b N=(md b.1 .C 0,b.2):=by simp only[np,D];exact aC C
  exact jU j.G λζ R K=>w<|sa h ((lN j.B (kk .C)<|tM j.F).a<|aB (λA=>V<|jE _ (.A 65 [d])<|.B A) sY) ((lN (d:=jE n.2 (.A 65 [d])<|.B _) (X:=.A 67 [d]) R (kk .C)<|tM K).a<|aB (λA=>V<|jE _ (.A 67 [d])<|.B A) sY) .A .A<|lh _ (u _<|jx J<|j.J (N:=N) K) (lE U) U
 .have D:jz.C N=Y:=cx<|aw s;have J:np e f (λN=>lA e g N d) b N=(lA e g N d).foldl (mI N) b:=by simp only[np,D];exact aA C
  have β:=P.B N r D C;exact sa h j.A.A .A NN B (ne ((zk j jI).a<|Z.A N G) U<|zd.a<|aC β) .A .B<|nT (j:=lA e g N d) (λL n=>mJ a m d l ((Ll L<|lA e g N d).foldl _ b) n) (λθ n=>(((uW d _).A 12 _).A 13<|.A _,n.2)) n j (.A _) U (λL n ε=>(zk ε jI).a<|Z.B _ β) (λL n o ε q=>Ym ε G (by simp only[ab,bH,ab];have S:=NL (N:=N) (Ll L<|lA e g N d) b;have η:=aX (bg L<|lA e g N d)<|no<|uU ..;exact aZ (bS (aX S<|bS η _) _)<|aZ (aw (cS ..).b) δ) (nq.E (nq.B r D C _ b (λn h=>cr h) α) P (t.A<|aa E) r D C<|aa q) λF T=>by simp only[nN q,co];exact T) λn ε=>mE λh=>h .A .A<|lh n (u n (by rw[J];rw[bI]at ε;exact ε)) (mC U) U
 .obtain⟨o,q⟩:∃o,jz.C N=V o:=⟨_,aq<|acH G.2 λS=>s S.b⟩;have J:np e f (λN=>lA e g N d) b N=if o.H=aj then oF e f b o else b:=by simp only[np,q];rfl
  exact w (h ((have u:=λF T=>u F<|jx J T;ka λw=>by
   have M:=aa E;have p:=j.I p;have z:=t.C M r q;have v:mJ a m d l b (n.1,ks (ni n.2 f)<|.A<|(e.C f o).map ol):=j.L.L;have γ:∀{c:jC},jW .GtE (.B (Lk (e.C f o) e.A:Nat)) Qg c aj:=jW.M.A<|aD<|cA _;refine jU v.G λζ R K=>w<|jN λh=>h B B .A (sS<|Bq G q) j.A.A j.A.G .B ((jW.D j.A.J<|kk o).A<|vM o) (λs h=>ka λw=>?_) λs h=>sa h .A .A<|lh n (u n<|jx (aA<|nt s) j) ?_ U;.
    rcases α.F P r q s with O|O;.
     have W:oF e f b o=(md b.1 o ((Lk (e.C f o) e.A:Nat):Int),b.2):=by rw[oF,O];rfl
     refine w<|sa h j.A.A .A (w9 j.A t p (p.A E) M r q) j.A.A p.B jV.A .A (qM j.A.F (p.D M r q) (t.A z.1) z.2<|br (t.B _ z.1) jB) .A (jX.C p.B (tF _)<|aB (λX=>fH X _)<|(uJ ..).a<|aC z.1) .A γ v.B .A (jX.B v.B (kk o)<|jx p3<|jx O U) .A NJ ((lN v.B (kk o)<|tM v.F).a<|aB (λA=>V<|jE _ (.A 65 [d])<|.B A) sY) ((lN (d:=jE _ (.A 65 [d])<|.B _) (X:=.A 67 [d]) R (kk o)<|tM K).a<|aB (λA=>V<|jE _ (.A 67 [d])<|.B A) sY) .A .A .A .A<|lh _ (u _<|jx (aC s)<|jx W<|v.J (N:=N) K) ?_ U;exact A7 U
    .have W:oF e f b o=b:=by rw[oF,O];rfl
     refine w<|sa h j.A.A .A (w9 j.A t p (p.A E) M r q) j.A.A p.B jV.A .A (qM j.A.F (p.D M r q) (t.A z.1) z.2<|br (t.B _ z.1) jB) .A (jX.C p.B (tF _)<|aB (λX=>fH X _)<|(uJ ..).a<|aC z.1) .A γ v.B .A (jX.B v.B (kk o)<|jx p3<|jx O U) .A NK .A (jW.K.A<|aD<|adj.b<|P.E N r o q) .A ((jW.G U U).A<|aG λu=>u U) .A .A .A .A .A .A<|lh _ (u _<|jx (aC s)<|jx W v) ?_ U;exact A7 U
   .exact r9 U)))
end
def m1(b:jA)(d:jC):=b=.D\/∃a c,(a=44\/a=70)/\b=.A (.A a c)/\d (.A a c)=V (.A [])
section
variable{b:jF}
def m1.C(a:m1 u c):mv u c=V ah:=a.a (λb=>jx b U) λa=>mr a λf j g d e=>jx d<|o8 e
def m1.A(a:m1 u c)(d:c b≠V (.A [])):m1 u<|jE c b S:=a.c id λa=>a.b λf a=>a.b λj e=>lj e.1 e.2.1<|(jQ _ _ λg:jF.A f j=b=>d<|jL g e.2.2).a e.2.2
def m1.B(a:lD c)(b:m1 u c):m1 u<|ks c S:=b.A λd=>kh<|(mb a).b.a d
def xm(c:jC)(f:Lt jH)(t:jD)(T:jF)(j:Lt Nat)(v w:Lt<|jA×jA):jC:=jE (ni (jE (jE (ni c f) (.A 70 j)<|.A []) T<|.B<|kF w (jG .C)<|.A<|.A 70 j) f) J0<|.B<|kF v (nh f t)<|(kj w<|jG .C).getD .D
def Yq(u:lD c)(n:kv a q c)(y:c b=V (.A<|f.map kK))(z:∀{c:jC}{S},jE c (.A 70 j) S b=c b/\jE c T S b=c b)(M:∀{c:jC}{S},Internal.ks c S b=c b)(o:∀N∈f,jz.I N)(A:f≠[])(B:La f<16777216)(O:jz.E f t=[])(h:c J0=V (.B v))(P:La v<16777216)(Q:m1 ((kj v<|nh f t).getD .D) c)(R:kj v (jG t)=V (.A T))(C:c T=V (.B w))(W:w≠[])(X:La w<16777216)(Z:m1 ((kj w<|jG .C).getD .D) c)(D:c (.A 70 j)=Y)(α:w6 a q T=Y)(β:T≠.A 33 [])(γ:T≠.A 70 j)(E:∀{c:jC}{S},Internal.ks c S T=c T):jX (.ref 347) [.A lH,.A b,jG t] k (d+2) c ((kj w<|jG .C).getD .D)<|xm c f t T j v w:=⟨λ{η} i=>by
 have F:=n.F (b:=f);have m:kv a q<|jE _ (.A 70 j)<|.A []:=F.B U;have G:kv a q<|jE _ T<|.B<|kF w (jG .C)<|.A<|.A 70 j:=m.B α;have H:jE (ni c f) (.A 70 j) (.A []) b=V (.A _):=z.1.a<|M.a y;have p:jE (ni c f) (.A 70 j) (.A []) T=V (.B w):=(jQ _ _ γ).a<|E.a C;refine mZ jV.E U λk=>jN λl=>l n.A h jV.A .A (qM n y o A B) .A (jX.B h (tz f t) U) .A ((Q.B u).C) .A F.A h .A (jX.B h (kk t)<|aB (λS=>fH S _) R) .A ((EC<|E.a C).b λδ=>W δ.1) .A (.A 70 j) (λJ=>D) .A (o7 (λJ=>jE (ni c f) (.A 70 j)<|.A []) U (λJ=>H) (.A _) λθ e K=>ka λr=>?_) p .A (jX.B p (kk .C) U) .A (show m1 _<|jE _ (.A 70 j)<|.A [] from(Z.B u).A λi=>kh<|D.b.a i).C .A (o8<|jS ..) (lN p (kk .C) X) .A .A G.A jV.A .A (qM G (z.2.a H) o A B) (lN ((jQ _ _ β.a).a h) (tz f t) P) i;have s:=o e<|aa K;rcases EE e t with g|g|⟨ι,g,ε⟩;.have ζ:jE (ni c f) (.A 70 j) (.A []) (ng e)=V (.C 135<|jz.l_ e .D):=ED g▸m.C s;exact r<|jN λl=>l ζ .A U .A ⟨mC U,U⟩
 .exact r<|a' (cV.b<|jO e (aa K)<|aC g)<|O▸ac
 .have L:=m.C (j:=(e.1,e.2+1)) ⟨s.1,(ag.a g).1⟩;exact r<|jN λl=>l (show jE _ (.A 70 j) (.A []) (ng e)=V (.C 135<|jz.l_ e<|kK _) from y4 g▸m.C s) .A (w2 L) L .A (jW.L.A<|aG λi=>ε<|(Bx g).b.a i) .A ⟨mC U,U⟩⟩
end
section
def uX(c:jC)(f:Lt jH)(t:jD)(j:Lt Nat)(v:Lt<|jA×jA):jC:=jE (jE (jE (ni c f) (.A 71 j)<|.B []) J0<|.B<|kF v (jG t)<|.A<|.A 71 j) (.A 70 j)<|.A []
def zl(c:jC)(f:Lt jH)(t:jD)(j:Lt Nat)(v:Lt<|jA×jA):jC:=jE (ni (jE (uX c f t j v) (.A 71 j)<|.B<|kF [] (jG .C)<|.A<|.A 70 j) f) J0<|.B<|kF (kF v (jG t)<|.A<|.A 71 j) (nh f t) .D
def lD.B(b:lD c):lD<|jE c (.A a j) S:=b
theorem Yr(J:lD c)(n:kv a q c)(A:c T=V (.A<|f.map kK))(i:∀{c:jC}{S},jE c (.A 70 j) S T=c T/\jE c (.A 71 j) S T=c T/\jE c J0 S T=c T)(K:∀{c:jC}{S},Internal.ks c S T=c T)(p:∀L∈f,jz.I L)(B:f≠[])(C:La f<16777216)(M:jz.E f t=[])(g:c J0=V (.B v))(D:La v+1<16777216)(N:m1 ((kj v<|nh f t).getD .D) c)(O:mv ((kj v<|jG t).getD .D) (ni c f)=V ah)(P:c (.A 70 j)=Y)(Q:c (.A 71 j)=Y):jX (.ref 347) [.A lH,.A T,jG t] k (d+2) c .D<|zl c f t j v:=by
 revert a d q c k T f t v j;apply z3;generalize mg.1.1.1.1=a,mg.1.1.1.2=d,mg.1.1.2=c,mg.1.2.1=f,mg.1.2.2=j,mg.2.1.1.1=k,mg.2.1.1.2=q,mg.2.1.2=t,mg.2.2.1=v,mg.2.2.2=T;intros;exact⟨λ{X} r=>by
  have s:=n.F (b:=f);have m:kv a q<|uX c f t j v:=((s.B U).B U).B U;have E:kv a q<|jE _ (.A 71 j)<|.B<|kF [] (jG .C)<|.A<|.A 70 j:=m.B U;have F:uX c f t j v T=V (.A _):=i.1.a<|i.2.2.a<|i.2.1.a<|K.a A;have u:=jS (ni c f) (.A 71 j)<|.B [];refine mZ jV.E U λk=>jN λh=>h n.A g jV.A .A (qM n A p B C) .A (jX.B g (tz f t) U) .A ((N.B J).C) .A s.A g .A (jX.B g (kk t) U) .A O (.A 71 j) (λw=>Q) (s.B (l:=.A 71 j) (r:=.B []) U).A (lN g (kk t)<|cP D) .A (.A 70 j) (λw=>P) .A (o7 (λw=>uX c f t j v) U (λw=>F) (.A _) λZ b G=>ka λy=>?_) u .A (jX.B u (kk .C) U) .A U .A (o8<|jS ..) (lN u (kk .C) jB) .A .A E.A jV.A .A (qM E (i.2.1.a F) p B C) (lN (jS (jE (ni c f) (.A 71 j)<|.B []) J0 _) (tz f t)<|aZ (q9 ..) D) r;have z:=p b<|aa G;rcases EE b t with e|e|⟨α,e,R⟩;.have W:uX c f t j v (ng b)=V (.C 135<|jz.l_ b .D):=ED e▸m.C z;exact y<|jN λh=>h W .A U .A ⟨mC U,U⟩
  .exact y<|a' (cV.b<|jO b (aa G)<|aC e)<|M▸ac
  .have H:=m.C (j:=(b.1,b.2+1)) ⟨z.1,(ag.a e).1⟩;exact y<|jN λh=>h (show uX c f t j v (ng b)=V (.C 135<|jz.l_ b<|kK _) from y4 e▸m.C z) .A (w2 H) H .A (jW.L.A<|aG λr=>R<|(Bx e).b.a r) .A ⟨mC U,U⟩⟩
end
def jz.M(a:Lt jH):Lt jD:=a.foldl (λb c=>(jz.K c.1).foldl py b) []
def E8(a:Le ι):Le (py ι t):=by
 unfold py;split;.exact tA a
 .exact a
def E9(a:Lt jH):Le (jz.M a):=rF (λb e c=>rF (λd d=>E8) _ b c) a [] .nil
def vY(a:jC)(b:Nat)(c:Lt jD):jC:=jE a (.A 68 [b])<|.B<|rG c
section
abbrev uY(a:Nat)(b:jF):jP:=(uW a b).A 27<|.A<|.A 68 [a]
def Ys(t:kv a q c)(y:uM)(z:c (ll i)=V (.A<|f.map kK))(A:∀B∈f,jz.I B):tx (m7 k (.A<|ll i)<|vY c X []) (.A 28) [.C JT Qy [.B (.D .In JH<|.B J4 23) [.D JN JH .a_] []] []] k d (uY X<|ll i) (vY c X []) (uY X<|ll i)<|vY c X<|jz.M f:=by
 have u:∀h,kv a q<|vY c X h:=λh=>t.B U;have g:=o7 (X:=ll i) (y:=.A 28) (e:=[.C JT Qy [.B (.D .In JH<|.B J4 23) [.D JN JH .a_] []] []]) (λj=>vY c X _) U (λm=>z) (.A _) λj b v=>by
  have w:=A b<|aa v;have g:=o7 (i:=k) (c:=d) (X:=.A 21 [b.1]) (y:=.A 29) (e:=[.B (.D .In JH<|.B J4 23) [.D JN JH .a_] []]) (g:=(uY X<|ll i).A 28<|kK b) (λo=>vY c X<|(Ll o<|jz.K b.1).foldl py<|jz.M<|Ll j f) U (λm=>t.K w.1) (.A _) λo p C=>by have r:=u<|(Ll o<|jz.K b.1).foldl py<|jz.M<|Ll j f;exact(n3 C)▸jN λe=>e r.A r.G .E ((jW.D r.L<|kk p).A<|y p) (λs e=>e (lN (jS ..) (kk p)<|MV<|rF (λm m=>E8) _ _<|E9 _) .A ⟨lE U,(o3 ..).a (by rw[MU,py,aC s];rfl)⟩) λs e=>e .A ⟨lE U,by rw[py,aA<|nt s]⟩
  simp only[bI]at g;exact jN λe=>e ((u<|jz.M<|Ll j f).C w) .A g ⟨lE U,aB _ (n3 (c:=λh (b:jH)=>(jz.K b.1).foldl py h) v).b⟩
 simp only[bI]at g;exact g
end
def Yt(e:Nat)(f:jA)(c:jC):=∃a d b,(a=40\/a=71)/\f=.A (.A a d)/\c (.A a d)=V (.B b)/\La b<=e/\m1 ((kj b<|jG .C).getD .D) c
structure pC(d:Nat)(c:jC):Prop where
 A:∃a,c (.A 33 [])=V (.B a)/\a.length<=d/\(∀{e b},jz.E e b=[]->m1 ((kj a (nh e b)).getD .D) c)/\∀{b f},kj a (jG b)=V f->Yt d f c
section
def lD.A(b:lD c):lD<|ks c S:=b.a λd e=>⟨d+_,λf a=>(jQ _ _ λg=>by simp only[jF.B.inj g]at a;exact a' a<|dd<|au (bN _)<|cM ..).a<|e f<|aX (bd ..) a⟩
def zm(b:d=40\/d=71):jF.A d γ≠.A 33 []/\jF.A d γ≠.A 70 j:=b.a (λa=>a▸⟨jJ jB,jJ jB⟩) λa=>a▸⟨jJ jB,jJ jB⟩
def NO(g:m1 u c)(b:lD c)(h:c J0=V (.B v))(i:d=40\/d=71)(k:c (.A d γ)=V (.B w))(l:c (.A 70 j)=Y):m1 u<|xm c f t (.A d γ) j v w:=by have e:=zm (j:=j) (γ:=γ) i;exact(((show m1 u<|jE _ (.A 70 j)<|.A [] from(g.B b).A λa=>kh<|l.b.a a).A λa=>nomatch(((jQ _ _ e.2).a k).b.a a:V (km.B w)=V (.A []))).B (show lD<|jE (jE (ni c f) (.A 70 j)<|.A []) (.A d γ)<|.B _ from b.A)).A λa=>nomatch(((jQ _ _ e.1.a).a h).b.a a:V (km.B v)=V (.A []))
def BV{a:jD}:jG a≠nh f t:=λb=>by cases b
def pC.D(s:pC a c)(x:lD c)(l:c J0=V (.B v))(g:d=40\/d=71)(y:c (.A d γ)=V (.B w))(z:La w<=a)(A:m1 ((kj w<|jG .C).getD .D) c)(B:c (.A 70 j)=Y):pC (a+1)<|xm c f t (.A d γ) j v w:=by
 have m:=zm (j:=j) (γ:=γ) g;refine oe s.A λh C D E F=>?_;obtain rfl:h=v:=vO<|C.b.a l;have i:∀{u},m1 u c->m1 u (xm c f t (.A d γ) j h w):=λb=>NO b x l g y B;refine⟨_,jS ..,aX (q9 ..)<|bb D,λ{G n} b=>?_,λ{n u} b=>?_⟩;.
  rw[nF];by_cases e:nh G n=nh f t;.exact jx (aC e)<|i A
  .exact jx (aA e)<|i<|E b
 .rw[nF,aA BV]at b;refine ka λH=>wk (F b) λo k I p q J K L=>H ?_;by_cases e:jF.A o k=.A d γ;.have M:xm c f t (.A d γ) j h w (.A d γ)=V (.B _):=(jQ _ _ m.1).a<|jS _ (.A d γ) _;refine qx d γ _ g (q.a<|aB jA.A e) M (aX (q9 ..)<|bb z)<|.inr<|lP 70 j (.inr U) ?_<|(jQ _ _ m.2.a).a<|jS _ (.A 70 j) _;exact jx (nF ..)<|jx (aC U) U
  .have r:=zm (j:=j) (γ:=k) p;exact qx o k I p q ((jQ _ _ r.1).a<|(jQ _ _ e).a<|(jQ _ _ r.2).a J) (dB K)<|i L
end
section
variable{b:lc}
def Yu(d:m1 u c)(b:lD c)(e:c J0=V (.B v))(g:c (.A 70 j)=Y)(h:c (.A 71 j)=Y):m1 u<|zl c f t j v:=((show m1 u<|jE _ (.A 71 j)<|.B _ from(show m1 u<|uX c f t j v from(show m1 u<|jE _ J0<|.B _ from(show m1 u<|jE _ (.A 71 j)<|.B [] from(d.B b).A λa=>nomatch h.b.a a).A λa=>by cases(e.b.a a:V (km.B v)=V (.A []))).A λa=>nomatch g.b.a a).A λa=>nomatch((jS _ (.A 71 j)<|.B []).b.a a:V (km.B [])=V (.A []))).B (show lD<|jE (uX c f t j v) (.A 71 j)<|.B _ from b.A)).A λa=>by cases((jS (jE (ni c f) (.A 71 j)<|.B []) J0<|.B _).b.a a:V (km.B _)=V (.A []))
def pC.E(s:pC a c)(w:lD c)(l:c J0=V (.B v))(x:c (.A 70 j)=Y)(m:c (.A 71 j)=Y):pC (a+2)<|zl c f t j v:=by
 refine oe s.A λn y z A B=>?_;obtain rfl:n=v:=vO<|y.b.a l;have o:∀{u},m1 u c->m1 u (zl c f t j n):=λb=>Yu b w l x m;refine⟨_,jS ..,aX (q9 ..)<|bb<|aX (q9 ..)<|bb z,λ{C e} b=>?_,λ{e u} b=>?_⟩;.
  rw[nF];by_cases d:nh C e=nh f t;.exact jx (aC d) kr
  .exact jx (aA d)<|jx (nF ..)<|jx (aA λg=>BV g.b)<|o<|A b
 .rw[nF,aA BV,nF]at b;by_cases d:jG e=jG t;.rw[aC d]at b;refine qx 71 j _ (.inr U) ((aY b).b) (jS _ (.A 71 j) _) (cM 1 _|>dB)<|.inr<|lP 70 j (.inr U) ?_<|jS _ (.A 70 j) _;exact jx (nF ..)<|jx (aC U) U
  .rw[aA d]at b;refine wk (B b) λp h D q E i F G=>?_;have k:=zm (j:=j) (γ:=h) q;have r:jF.A p h≠.A 71 j:=λg=>by rw[g,m]at i;exact kh i
   exact qx p h D q E ((jQ _ _ k.1).a<|(jQ _ _ r).a<|(jQ _ _ k.2).a<|(jQ _ _ k.1).a<|(jQ _ _ r).a i) (dB<|dB F)<|o G
def NP(e:pW a c [] u):m1 u c:=e.a (λb=>b.2.c id λd=>d.a λf d=>ms 44 [f] kr d.2) λb=>a' U b.1
def mc.e_(h:mc b c):pC b.A c:=jU h.E λv k a=>⟨⟨v,k,a.B,λ{f t} d=>by cases e:kj v _ with|none=>exact .inl U|some u=>exact NP<|jL d<|a.C e,λ{t u} d=>(a.D d).a λl i=>(h.B i.2).a λj g=>qx 40 [l] j kr i.1 g.1 g.2.C (by cases e:kj j _ with|none=>exact .inl U|some u=>exact NP<|g.2.B e)⟩⟩
def pC.B(l:pC a c)(g:∀d j,d=33\/d=40\/d=44\/d=70\/d=71->m (.A d j)=c (.A d j)):pC a m:=have i:∀{u},m1 u c->m1 u m:=λe=>e.c id λe=>e.b λd e=>e.b λj f=>lj f.1 f.2.1<|(g _ _<|f.1.a (λb=>kC<|.inl b) λb=>kC<|n6 b).a f.2.2;⟨oe l.A λv n o p q=>nQ v ((g _ _ kr).a n) o (λb=>i<|p b) λb=>(q b).a λd h=>h.a λj h=>vm h λr k s t w x=>qx d j r k s ((g _ _<|k.a (λb=>n6 b) λb=>kC<|kC b).a t) w<|i x⟩
end
def NQ[DecidableEq O]{g:jD->Bool}{j:jD->O}{e:O}(k:Lt jH):∀c:Lt O,e∈k.foldl (om g j) c↔e∈c\/∃d∈k,∃b,jz.C d=V b/\g b=aj/\j b=e:=by
 have m:∀(c:Lt O)(d:jH),e∈om g j c d↔e∈c\/∃b,jz.C d=V b/\g b=aj/\j b=e:=λc d=>by
  unfold om;cases l:jz.C d with
  |none=>exact⟨.inl,λa=>a.a id λa=>a.a λb h=>kh h.1⟩|some b=>
   show e∈(if g b=aj then kN c _ else c)↔_;by_cases a:g b=aj;.rw[aC a,rf];exact aK ⟨λf=>kT b U a f.b,λf=>li f λn o u p=>jx (aY o) p.b⟩
   .exact jx (aA a) ⟨.inl,λf=>f.a id λf=>li f λn q r v=>a' (jx (aY q) r) a⟩
 induction k with|nil=>exact λc=>⟨.inl,λa=>a.a id λa=>a.a λd h=>a' h.1 ac⟩|cons d w s=>refine λc=>(s _).c ?_;rw[m,aL];exact aK ⟨λa=>a.a (λa=>jO d ae a) λa=>a.b λh i=>⟨af _ i.1,i.2⟩,λa=>a.a λh i=>(ao.a i.1).a (λl=>.inl<|jL l i.2) λt=>.inr<|jO h t i.2⟩
theorem E'(e:Lt<|Lt jH×Nat):∀g:Lt jM,r∈e.foldl BG g↔r∈g\/∃f∈e,f.2=r.1/\r.2.F=aj/\∃d∈f.1,jz.C d=V r.2:=by
 revert r e;apply od;generalize lX.1=r,lX.2=e;induction e with
 |nil=>exact λg=>⟨.inl,λb=>b.a id λb=>b.a λd a=>a' a.1 ac⟩|cons f l j=>
  refine λg=>(j _).c ?_;rw[BG,NQ,aL];refine aK ⟨λb=>b.a (λb=>b.a λd a=>a.2.a λm c=>?_) λb=>b.b λh a=>⟨af _ a.1,a.2⟩,λb=>b.a λh a=>(ao.a a.1).a (λi=>.inl ?_) λk=>.inr ⟨h,k,a.2⟩⟩;.exact⟨f,ae,aB ca c.2.2,c.2.2▸c.2.1,d,a.1,c.2.2▸c.1⟩
  .exact a.2.2.2.a λd c=>⟨d,(i▸c.1:d∈f.1),r.2,c.2,a.2.2.1,bt (i▸a.2.1) U⟩
def NR:BK e<|kL e:=λj f=>((E' ..).a f).a (λa=>a' a ac) λa=>oe a λk g h l i=>by have c:=List.mem_zipIdx' g;have b:=h▸(aq c.1).a (aB V c.2.b);exact⟨b.a<|aB V (j'.E b).b,i.b λm d=>⟨jx (j'.E b) d.1,d.2⟩⟩
def NS:Le (kL e):=rF (λa b c=>rF (λd d=>MD) b.1 a c) e.A.zipIdx [] .nil
def zn(a:Nat):jA:=.B (a:Nat)
def vZ(b:j')(c:Lt jH)(d:Lt<|jD×Nat)(a:jD):Lt<|jD×Nat:=if jz.E c a=[]then d else md d a<|Lk (b.C c a) b.A
def tN(a:j')(b:Lt jH)(c:Lt jD):Lt<|jD×Nat:=c.foldl (vZ a b) []
abbrev Yv(c:Nat)(a:jF):=a=.A 33 []\/(∃b,a=.A 40 b)\/(∃b,a=.A 70 b)\/(∃b,a=.A 71 b)\/a=.A 66 [c]
def p4(g:j')(h:Nat)(i:ku)(j:jC)(b:Nat)(d:Lt jH)(k e:Nat)(a:jC):=kv h i a/\mo g a/\pC (k+2*e) a/\kq (Yv b) j a/\a (.A 66 [b])=V (.B<|lq zn<|tN g d<|Ll e<|jz.M d)/\∀c f,b<=c->(c=b->f∉Ll e (jz.M d))->a (.A 70 [c,f.ctorIdx])=Y/\a (.A 71 [c,f.ctorIdx])=Y
section
variable(b:p4 e a q c d f i X m)
def p4.A:=b.1
def p4.B:=b.2.1
def p4.D:=b.2.2.1
def p4.C:=b.2.2.2.1
def p4.F:=b.2.2.2.2.1
def p4.E:=b.2.2.2.2.2
end
section
variable{b:Nat}
def NT(c:Lt jD):∀b:Lt<|jD×Nat,Le (b.map (·.1))->Le ((c.foldl (vZ e f) b).map (·.1)):=lO (λg a=>a) (λt h d=>by
 refine λb a=>d _ ?_;unfold vZ;split;.exact a
 .exact sZ a) c
end
def Fa:Lt kb:=[.A JS<|.F Ja 60 [Jk,.A 30],.A JU<|.F Kk 46 [.H J6 [.A 25],.c_ JX],.B (.D .GtE JD J3) [.D Jp (.A 30) JD] []]
section
variable{b:Nat}
def NU(a:(jz.M f)[X]?=V t):tN e f (Ll (X+1)<|jz.M f)=vZ e f (tN e f<|Ll X<|jz.M f) t:=n3 a
end
section
variable{b g:Nat}
def mo.J(b:mo e c)(p:jz.E f t=[])(q:c J0=V (.B v))(r:m J0=V (.B w))(s:∀{d h},nh d h≠nh f t->kj w (nh d h)=kj v (nh d h))(i:∀g j,g=34\/g=41\/g=42->m (.A g j)=c (.A g j)):mo e m:=⟨(i _ _<|kC U).a b.F,λk=>(i _ _<|.inr kr).a<|b.A k,λn l a=>(i _ _<|.inr kr).a<|b.D n l a,jU b.G λz u x=>⟨w,r,λ{d A h} n l o=>(s λy=>by have k:=Ez y;exact M1 l o<|jx k.1<|jx k.2 p).a<|jL (vO<|u.b.a q)<|x n l o⟩,(i _ _ kr).a b.B⟩
def NV(g:kv a q m)(f:mo e m)(h:m1 u m)(j:[]∉e.A)(b:δ m):jY k (i+1) (lV δ (λc=>(uY d<|ll<|e.D d,c)) y) (.B 25<|kt [.A JU<|.F Kk 46 [.H J6 [.A 25],.c_ JX],.B (.D .GtE JD J3) [.D Jp (.A 30) JD] []] .A) [u] ((uY d<|ll<|e.D d).A 30<|jG t) m:=jN λl=>l g.A f.B jV.A .A (⟨λ{y} b=>mZ jV.J U λk=>jN λn=>n .A h.C b⟩) .A (jX.C f.B U<|aB (λo=>fH o _)<|(uJ e.A []).a<|aA j) .A (jW.M.A<|aG jB) .A<|lh m b (r9 U) U
end
section
variable{b g:Nat}
def pC.C(f:pC b c)(e:b<=a):pC a c:=⟨oe f.A λv h i k l=>nQ v h (aX i e) k λm=>(l m).a λg d=>d.a λj d=>vm d λn o p q r s=>qx g j n o p q (aX r e) s⟩
def BW{a:jD}(b:t.ctorIdx=a.ctorIdx):t=a:=aY<|(w8 t).b.a<|(aB _ b).a<|w8 a
abbrev oV(d:Nat)(t:jD):Lt Nat:=[d,t.ctorIdx]
def Fb{b:jD}(c:oV i b≠oV d t):jF.A a (oV i b)≠.A a (oV d t):=λe=>c (jF.A.inj e).2
def p4.G(o:p4 e a q W d f b X c)(y:(jz.M f)[X]?=V t)(p:jz.E f t=[])(r:kq (λn=>n=.A 33 []\/(∃j,n=.A 40 j)\/(∃j,n=.A 71 j)\/n=.A 70 (oV d t)) c m)(B:∀l k,oV l k≠oV d t->c (.A 71<|oV l k)=Y->m (.A 71<|oV l k)=Y)(C:c J0=V (.B v))(D:m J0=V (.B w))(E:∀{x k},nh x k≠nh f t->kj w (nh x k)=kj v (nh x k)) (F:kv a q m) (G:pC (b+2*X+2) m):p4 e a q W d f b (X+1) m:=⟨F,o.B.J p C D E λg j i=>r g j λh=>by rcases h with h|⟨_,h⟩|⟨_,h⟩|h<;>(rw[(jF.A.inj h).1]at i;revert i;decide),G.C<|aw (by simp only[ed];rfl),o.C.A<|r.D λn i=>i.a .inl λi=>.inr<|i.a .inl λi=>.inr<|i.a (λi=>n6 i) λi=>.inl ⟨_,i⟩,(r.C o.F λh=>by rcases h with h|⟨_,h⟩|⟨_,h⟩|h<;>exact jJ jB h).a<|jx (show tN e f _=tN e f _ from(NU y).a<|aC p) U,λl k p s=>by
 replace s:=nN y▸s;have z:oV l k≠oV d t:=λu=>s (an u).1<|bP _<|ak.b<|BW (an (an u).2).1;have A:=o.E l k p λu h=>s u<|bM _ h;exact⟨r.C A.1 λh=>by
  rcases h with h|⟨_,h⟩|⟨_,h⟩|h;.exact jJ jB h
  .exact jJ jB h
  .exact jJ jB h
  .exact Fb z h,B l k z A.2⟩⟩
end
section
variable{b g:Nat}
def BX{c:Lt O}{d:O}(f:Le c)(e:c[a]?=V d):d∉Ll a c:=λg=>(ag.a e).a λh i=>(cF.a g).a λj b=>by
 rw[List.getElem?_take]at b;split at b;.exact a' ((dT h f).a<|e.a b.b)<|bi ‹_›
 .exact kh b
def NW(a:(jz.M f)[X]?=V t):f≠[]:=λb=>by rw[b]at a;exact kh a
end
noncomputable def oG(b c:Nat):Lt<|jA×jA:=(be c).map λa:Nat=>(jA.B a,jA.A<|.A b [a])
def BY:kj (oG a d) (.B i)=if i∈be d then V<|.A<|.A a [i]else Y:=yW λb=>dH<|jA.B.inj b
def Fc:kF (oG a d) (.B d) (.A<|.A a [d])=oG a (d+1):=by rw[rh<|BY.a<|aA λb=>dR _<|bj.a b,oG,oG,dL,bK];rfl
def nO(c:j')(d:jH->Nat->Lt jD)(e:Nat):Lt<|Nat×Nat×Nat:=(be e).flatMap λb=>(rM c (c.B b) λa=>d a b).2.map λa=>(b,a.1,a.2)
noncomputable def Fd(a:Nat):Bool:=[20,31,32,33,37,40].any (hW a)||Nat.ble 65 a
def mw(d:j')(i:Nat)(j:jC)(k:Nat)(g:jH->Nat->Lt jD)(c:Nat)(a:ku×jC):=kv i a.1 a.2/\uV a.1/\mo d a.2/\nG Fd j a.2/\pC (k+22*c) a.2/\a.2 Ku=V (.B<|oG 65 c)/\a.2 Kv=V (.B<|oG 67 c)/\a.2 KZ=V (.B<|oG 66 c)/\(∀b,b<c->a.2 (.A 65 [b])=V (.B<|lq jA.B (rM d (d.B b) λl=>g l b).1)/\a.2 (.A 66 [b])=V (.B<|lq zn<|tN d (d.B b)<|jz.M<|d.B b))/\(∀e b,65<=e->e<=68->c<=b->a.2 (.A e [b])=Y)/\(∀f h,c<=f->a.2 (.A 70<|oV f h)=Y/\a.2 (.A 71<|oV f h)=Y)/\a.2 KU=V (.A<|(nO d g c).map vW)
def mw.C(f:mw e a c d b i n):=f.1
def mw.J(f:mw e a c d b i n):=f.2.1
def mw.E(f:mw e a c d b i n):=f.2.2.1
def mw.A(f:mw e a c d b i n):=f.2.2.2.1
def mw.K(f:mw e a c d b i n):=f.2.2.2.2.1
def mw.F(f:mw e a c d b i n):=f.2.2.2.2.2.1
def mw.L(f:mw e a c d b i n):=f.2.2.2.2.2.2.1
def mw.G(f:mw e a c d b i n):=f.2.2.2.2.2.2.2.1
def mw.D(f:mw e a c d b i n):=f.2.2.2.2.2.2.2.2.1
def mw.B(f:mw e a c d b i n):=f.2.2.2.2.2.2.2.2.2.1
def mw.H(f:mw e a c d b i n):=f.2.2.2.2.2.2.2.2.2.2.1
def mw.I(f:mw e a c d b i n):=f.2.2.2.2.2.2.2.2.2.2.2
section
variable{h j:Nat}{n:List lF}
def Yw{a:ma}(g:Le (b N d)):La (np e f (λN=>b N d) a N).2<=La a.2+11:=by
 simp only[np];cases jz.C N with
 |none=>
  show La (if jz.D N.1=.E then _ else(b N d).foldl _ a).2<=_;split;.exact bd ..
  .exact aX (NL _ a)<|bS (no g) _|some c=>
  show La (if c.H=aj then oF e f a c else a).2<=_;split;.simp only[oF];cases Lj c a.1 with|none=>exact bd ..|some h=>exact bd ..
  .exact bd ..
def NX(c:∀N,Le (b N d))(a:Lt jH):∀t:ma,La (a.foldl (np e f λN=>b N d) t).2<=La t.2+11*La a:=lO (λt=>al _) (λg h i=>λt=>aX (i _) (by simp only[cN,ed,ck<|11*La h,<-cS];exact bC (Yw<|c g) _)) a
def Yx(a:Lt jH):∀t:ma,(∀N∈a,N∈f)->nq e b d f t.1->nq e b d f (a.foldl (np e f λN=>b N d) t).1:=lO (λt l c=>c) (λh m i=>λt g c=>i _ (λj k=>g j<|af _ k)<|c.C<|g h ae) a
def NY:nO e b (X+1)=nO e b X++(rM e (e.B X) λN=>b N X).2.map λN=>(X,N.1,N.2):=by rw[nO,dL,dj,fx,eY,bQ];rfl
def Yy(a:∀N d,Le (b N d))(c:∀d,La (e.B d)<=1000):∀X,La (nO e b X)<=11000*X:=fj (al _) λX f=>by simp only[NY,bH,ab,ed];exact bv f<|aX (NX (λN=>a N X) ..)<|aX (aw<|ct _)<|bW 11<|c X
def uZ(c:jC)(d:Nat):jC:=jE (jE (jE c (.A 65 [d])<|.B []) (.A 67 [d])<|.B []) (.A 66 [d])<|.B []
def Fe(c:jC)(X:Nat):jC:=jE (jE (jE c Ku<|.B<|oG 65<|X+1) Kv<|.B<|oG 67<|X+1) KZ<|.B<|oG 66<|X+1
end
section
variable{h o:Nat}{p:List lF}
def Yz(a b c:Lt kb):Lt kb:=[.A JB JW,.A JC JW,.A JI JW,.C JM Jk (NM a b c) [],.A (.A 27) JW,.C (.A 28) Jk [.C JT Qy [.B (.D .In JH<|.B J4 23) [.D JN JH .a_] []] []] [],.C (.A 30) JN Fa [],.D Jh Jl Jf,.D Jd Jl Jn,.D Jg Jl Jp,.M 7 .Add JX]
def qr.C(a:qr e g c)(b:∀o d,o=25\/o=53->m (.A o d)=c (.A o d)):qr e g m:=⟨λf h=>(b _ _ kr).a<|a.A f h,λi j=>(b _ _<|.inr U).a<|a.B i j⟩
def xn(d:Nat)(a:jF):=(∃c,a=lZ c)\/a=.A 37 []\/a=.A 33 []\/(∃b,a=.A 40 b)\/(∃b,a=.A 70 b)\/(∃b,a=.A 71 b)\/∃o,65<=o/\o<=68/\a=.A o [d]
theorem zo(c:a≠20/\a≠37/\a≠33/\a≠40/\a≠70/\a≠71)(e:65<=a->a<=68->j≠[d]):¬xn d (.A a j):=by
 revert d a j;apply q3;generalize mj.1.1=a,mj.1.2=d,mj.2=j;intros;exact λb=>by
  rcases b with⟨_,b⟩|b|b|⟨_,b⟩|⟨_,b⟩|⟨_,b⟩|⟨g,n,f,b⟩;.exact jJ c.1 b
  .exact jJ c.2.1 b
  .exact jJ c.2.2.1 b
  .exact jJ c.2.2.2.1 b
  .exact jJ c.2.2.2.2.1 b
  .exact jJ c.2.2.2.2.2 b
  .exact e (kd (jF.A.inj b).1 n) ((jF.A.inj b).1▸f) (jF.A.inj b).2
def NZ(e:Fd a=ah):a≠20/\a≠31/\a≠32/\a≠33/\a≠37/\a≠40/\a<65:=by have d:=cf.a e;have b:∀c,[20,31,32,33,37,40].any (hW c)=aj->a≠c:=λc f g=>av<|d.1.b.a<|jx g f;exact m3 (b _ U) (b _ U) (b _ U) (b _ U) (b _ U) (b _ U)<|gQ λh=>av<|d.2.b.a<|cG h
def N0(n:65<=a)(f:a<=68):(a≠20/\a≠37/\a≠33/\a≠40/\a≠70/\a≠71)/\a≠31/\a≠69/\a≠32:=have c:∀b,b<65->a≠b:=λb d=>bi<|au d n;have e:∀b,68<b->a≠b:=λb d=>bF<|aZ f d;(mz ⟨c _ jB,c _ jB,c _ jB,c _ jB,e _ jB,e _ jB⟩ (c _ jB) (e _ jB)<|c _ jB)
def mw.M(s:mw e a W h b d n)(z:e.A[d]?=V f)(A:kv a q c)(B:uV q)(C:mo e c)(w:kq (xn d) n.2 c)(D:pC (h+22*d+22) c)(E:c (.A 65 [d])=V (.B<|lq jA.B (rM e f λN=>b N d).1))(u:c (.A 66 [d])=V (.B<|lq zn<|tN e f<|jz.M f)) (x:∀i t,d+1<=i->c (.A 70<|oV i t)=Y/\c (.A 71<|oV i t)=Y) (F:c KU=V (.A<|(nO e b d++(rM e f λN=>b N d).2.map λN=>(d,N.1,N.2)).map vW)):mw e a W h b (d+1) (q,Fe c d):=by
 have y:=j'.E z;have k:∀{o p},o≠31/\o≠69/\o≠32->Fe c d (.A o p)=c (.A o p):=λg=>(jQ _ _<|jJ g.2.2).a<|(jQ _ _<|jJ g.2.1).a<|jQ _ _<|jJ g.1;have v:∀{o i},65<=o->o<=68->i≠d->Fe c d (.A o [i])=n.2 (.A o [i]):=λ{o i} n r g=>(k (N0 n r).2).a<|w _ _<|zo (N0 n r).1 λG G l=>g (an l).1;refine⟨((A.B U).B U).B U,B,C.E λo p g=>k ?_,λo p g=>?_,D.B λo p g=>k ?_,jS c Ku _,jS (jE c Ku<|.B<|oG 65<|d+1) Kv _,jS (jE (jE c Ku<|.B<|oG 65<|d+1) Kv<|.B<|oG 67<|d+1) KZ _,λi m=>?_,λo i n r m=>(v n r<|bi m).a<|s.B o i n r<|cI m,λi t m=>⟨(k jB).a (x i t m).1,(k jB).a (x i t m).2⟩,(k jB).a<|F.a (by rw[NY,y])⟩;.simp only[cT,az,az]at g;exact⟨λl=>by rw[l]at g;revert g;decide,λl=>by rw[l]at g;revert g;decide,λl=>by rw[l]at g;revert g;decide⟩
 .have j:=NZ g;exact(k ⟨j.2.1,bF<|au j.2.2.2.2.2.2 jB,j.2.2.1⟩).a<|(w o p<|(have j:=NZ g;have u:∀{i},65<=i->o≠i:=λm=>bF<|au j.2.2.2.2.2.2 m;zo (lY j.1 j.2.2.2.2.1 j.2.2.2.1 j.2.2.2.2.2.1 (u jB)<|u jB) λl=>a' j.2.2.2.2.2.2<|cn l)).a<|s.A o p g
 .rcases g with g|g|g|g|g<;>rw[g]<;>decide
 .rcases de<|cg m with g|g;.exact⟨(v jB jB<|bF g).a (s.D i g).1,(v jB jB<|bF g).a (s.D i g).2⟩
  .subst g;exact jx y ⟨(k jB).a E,(k jB).a u⟩
end
section
variable{h j:Nat}{o:List lF}{p:ku×jC}
def Ff(j:Nat):=65<=j/\j<=68
def mJ.M{e:ma}(f:mJ a m d l e p)(g:kq (xn d) c m):kq (xn d) c p.2:=g.A<|f.E.D λh b=>b.a .inl λb=>.inr<|b.a .inl λb=>kC<|kC<|.inr<|b.a (λb=>⟨65,by decide,by decide,b⟩) λb=>⟨67,by decide,by decide,b⟩
def p4.H(g:p4 e a q W d f h X m)(i:kq (xn d) c W):kq (xn d) c m:=i.A<|g.C.D λj b=>kC<|b.c id λb=>b.c id λb=>b.c id λb=>b.c id λb=>kT 66 jI jI b
theorem YA(s:nE e)(Q:[]∉e.A)(g:p4 e a q W d f h X c)(J:e.A[d]?=V f)(u:(jz.M f)[X]?=V t)(L:h+2*X+1<16777216):jY k (i+2) (lV (p4 e a q W d f h<|X+1) (λc=>(uY d<|ll<|e.D d,c)) y) (kt Fa .A) [] ((uY d<|ll<|e.D d).A 30<|jG t) c:=by
 revert e a d i X h q c W f t k y;apply z4;generalize lB.1.1.1.1=a,lB.1.1.1.2=d,lB.1.1.2.1=i,lB.1.1.2.2=X,lB.1.2.1.1=c,lB.1.2.1.2=W,lB.1.2.2=e,lB.2.1.1.1=f,lB.2.1.1.2=k,lB.2.1.2=q,lB.2.2.1.1=t,lB.2.2.1.2=y,lB.2.2.2=h;intros;exact(iC _).a (λp=>(ka λo=>by
  refine oe g.D.A λB v R S κ=>?_;obtain⟨C,T⟩:=g.E d t (al _) λχ=>BX (E9 f) u;have w:=aa J;have Z:=g.B.A J;have α:La f<16777216:=br (s.B _ w) jB;have β:=λμ=>by have D:kv a q<|zl c f t (oV d t) B:=(((((g.A.F).B U).B U).B U).B U).F.B U;have E:=λl=>g.G u p (.A .F<|.A (.B<|kC<|.inl ⟨_,U⟩)<|.A (.B kr)<|.A (.B<|kC<|.inr U)<|.A (.B<|kC<|.inl ⟨_,U⟩)<|.A .F<|.B kr) (λx N F b=>(jQ _ _<|Fb F).a<|(jQ _ _<|Fb F).a b) v (jS ..) (λ{ν N} b=>jx (nF ..)<|jx (aA b)<|jx (nF ..)<|jx (aA λn=>BV n.b) U) D<|g.D.E l v C T;exact o<|jN λm=>m g.A.A .B<|lz.A λl=>((λl=>Yr (j:=oV d t) l g.A Z (lj U U U) U (s.A w) (NW u) α p v (aZ (bb R) L) (S p) μ C T) l).G<|NV D (E l).B kr Q<|E l
  cases b:kj B _ with
  |none=>exact β<|jx b U|some ξ=>
   refine wk (κ b) λj M γ z δ G ε O=>?_;by_cases ζ:γ=[];.exact β (by rw[b];show mv ξ _=_;rw[δ];exact w1<|ζ▸G)
   have η:w6 a q (.A j M)=Y:=z.a (λb=>b▸U) λb=>b▸U;have θ:=zm (j:=oV d t) (γ:=M) z;have D:kv a q<|xm c f t (.A j M) (oV d t) B γ:=(((g.A.F).B U).B η).F.B U;have E:=λl=>g.G u p (.A .F<|.A (.B<|kC<|.inr U)<|.A (.B<|z.a (λb=>b▸n6 ⟨_,U⟩) λb=>b▸kC (.inl ⟨_,U⟩))<|.A .F<|.B kr) (λx N F b=>(jQ _ _<|jJ jB).a<|(jQ _ _ λn=>(a' (G.b.a<|(aB c n).b.a b) jB:False)).a<|(jQ _ _<|jJ jB).a b) v (jS ..) (λ{ν N} b=>jx (nF ..)<|jx (aA b) U) D<|(g.D.D l v z G ε O C).C<|bm _;exact o<|jN λm=>m g.A.A .B<|lz.A λl=>((λl=>Yq l g.A Z ⟨U,jQ _ _<|z.a (λb=>b▸jJ jB) λb=>b▸jJ jB⟩ U (s.A w) (NW u) α p v (aZ R<|cP L) (S p) (b.a<|aB V δ) G ζ (aZ ε<|cP L) O C η θ.1 θ.2 U) l).G<|NV D (E l).B (NO O l v z G C) Q<|E l)) λp=>(ka λo=>by
  have w:=aa J;obtain⟨H,I,P⟩:∃H∈f,jz.C H=V t:=by
   refine(fu _ p).a λr ο=>jU (cV.a ο) λH I b=>?_;by_cases n:jz.C H=V t;.exact jO H I n
   .rw[aA n]at b;exact kh b
  have K:=s.C w I P;have b:=(NU (e:=e) u).a<|aA p;have π:p4 e a q W d f h (X+1)<|jE (ks (ni c f)<|.A<|(e.C f t).map ol) (.A 66 [d])<|.B<|lq zn<|md (tN e f<|Ll X<|jz.M f) t<|Lk (e.C f t) e.A:=by
   refine lY (g.A.H.H.B U) (g.B.H.H.E λj ι m=>jQ _ _ λn=>?_) ?_ (g.C.A<|.A .F<|.A .F<|.B<|kC<|kC U) ?_ λx N p F=>g.E x N p λb n=>F b ?_;.replace m:=(jF.A.inj n).1▸m;exact lf m
   .obtain⟨B,ρ,σ,τ,υ⟩:=(g.D.B (m:=jE _ (.A 66 [d])<|.B _) λj ι m=>jQ _ _ λn=>by replace m:=(jF.A.inj n).1▸m;revert m;decide).A;exact⟨B,ρ,aX σ<|bS (bW _<|bm X) _,τ,λb=>(υ b).b λj r=>r.b λι r=>r.b λx r=>mS r.1 r.2.1 r.2.2.1 (aX r.2.2.2.1<|bS (bW _<|bm X) _) r.2.2.2.2⟩
   .exact jx b<|jS ..
   .exact jx (nN u)<|bM _ n
  exact o<|jN λm=>m g.A.A .A (w9 g.A s g.B (g.B.A J) w I P) g.A.A g.B.B jV.A .A (qM g.A.F (g.B.D w I P) (s.A K.1) K.2<|br (s.B _ K.1) jB) .A (jX.C g.B.B (tF _)<|aB (λφ=>fH φ _)<|(uJ ..).a<|aC K.1) .A (jW.M.A<|aD<|cA _) ((lN (show ks (ni c f) (.A _) (.A 66 [d])=V (.B _) from g.F) (kk t)<|tM<|NT _ [] .nil).a<|aB (λx=>V<|jE _ (.A 66 [d])<|.B x)<|sY) .A<|lh _ π (r9 U) U)
def YB:Lt kb:=[.A (.A 27) JW,.C (.A 28) Jk [.C JT Qy [.B (.D .In JH<|.B J4 23) [.D JN JH .a_] []] []] [],.C (.A 30) JN Fa [],.D Jh Jl Jf,.D Jd Jl Jn,.D Jg Jl Jp,.M 7 .Add JX]
def YC(I:nE e)(O:uM)(P:[]∉e.A)(u:mw e a W h b d n)(r:mJ a (uZ n.2 d) d (nO e b d) (rM e f λN=>b N d) p)(J:mo e<|uZ n.2 d)(z:e.A[d]?=V f)(K:h+22*d+23<16777216):jY k (i+2) (lV (mw e a W h b<|d+1) (λn=>(zh<|d+1,n.2)) y) (kt YB .A) [] (uW d<|ll<|e.D d) p.2:=ka λC=>by
 have D:∀L,La (oG L d)<16777216:=λL=>(by simp only[oG,ab,bX];exact aZ (aX (aX (Nat.le_mul_of_pos_left d (by decide:0<22))<|cM ..)<|bd _ 23) K);have M:=no<|E9 f;have E:∀{j w},j≠20/\j≠37/\¬Ff j->vY p.2 d (jz.M f) (.A j w)=n.2 (.A j w):=λ{j w} m=>have s:∀o,Ff o->j≠o:=λo v x=>m.2.2<|kd x v;(jQ _ _<|jJ<|s 68 ⟨by decide,by decide⟩).a ((zk r<|mz m.1 m.2.1 (s 65 ⟨by decide,by decide⟩)<|s 67 ⟨by decide,by decide⟩).a<|(jQ _ _<|jJ<|s 66 ⟨by decide,by decide⟩).a<|(jQ _ _<|jJ<|s 67 ⟨by decide,by decide⟩).a<|jQ _ _<|jJ<|s 65 ⟨by decide,by decide⟩);have F:∀{j},j<65\/68<j->¬Ff j:=λm g=>m.a (λm=>cn g.1 m) λm=>cn g.2 m;refine C<|jN λm=>m (.A 68 [d]) (λG=>(zk r jB).a<|u.B 68 d jB jB<|al _) .A (Ys r.A O ((r.I J).A z)<|I.A<|aa z) .B<|uG (λo c=>p4 e a p.1 _ d f (h+22*d) o c) (λG c=>(uY d _,c)) _ (lY (r.A.B U) ((r.I J).E λj w m=>jQ _ _ (jJ λx=>by rw[x]at m;exact lf m)) (u.K.B λj w m=>E (by rcases m with m|m|m|m|m<;>exact jx m ⟨by decide,by decide,F jB⟩)) .E ((zk r jB).a<|jS _ (.A 66 [d]) _) λo t v G=>⟨(E ⟨by decide,by decide,F jB⟩).a (u.H o t v).1,(E ⟨by decide,by decide,F jB⟩).a (u.H o t v).2⟩) (.A _) U (λo c q=>jO (rG _) (q.C.C (jS ..) ?_) (by unfold rG;rw[bY];rfl)) (λo c t q A=>(YA I P q z A<|(λA=>aZ (bS (bb<|aX (bW 2<|aX (bL (ag.a A).1) M) jB) _) K) A:)) λc q=>ka λC=>?_;.exact λg=>by rcases g with g|⟨_,g⟩|⟨_,g⟩|⟨_,g⟩|g<;>exact jJ jB g
 have B:=q.H<|(r.M<|.A (.B<|kC<|kC<|kC<|kT 65 jI jI U)<|.A (.B<|kC<|kC<|kC<|kT 67 jI jI U)<|.B<|kC<|kC<|kC<|kT 66 jI jI U).A<|.B<|kC<|kC<|kC<|kT 68 jI jI U;refine C<|mE λm=>m ((lN (B.C u.F<|zo jB λg=>a' g jB) U<|D _).a<|aB (λo=>V<|jE c Ku<|.B o) Fc) ((lN (d:=jE c Ku<|.B _) (X:=.A 69 []) (B.C u.L<|zo jB λG g=>a' g jB) U<|D _).a<|aB (λo=>V<|jE _ Kv<|.B o) Fc) ((lN (d:=jE (jE c Ku<|.B _) Kv<|.B _) (X:=.A 32 []) (B.C u.G<|zo jB λg=>a' g jB) U<|D _).a<|aB (λo=>V<|jE _ KZ<|.B o) Fc) U<|lh _ (u.M z q.A r.D q.B B (q.D.C<|bS (bW 2 M) _) (q.C.C r.B (λg=>by rcases g with g|⟨_,g⟩|⟨_,g⟩|⟨_,g⟩|g<;>exact jJ jB g)) (by have s:=q.F;rw[bI]at s;exact s) (λo t v=>q.E o t (cI v) λx=>a' v<|x▸dR _)<|q.C.C r.C (λg=>by rcases g with g|⟨_,g⟩|⟨_,g⟩|⟨_,g⟩|g<;>exact jJ jB g)) (A7 U|>.B 7 _) U
end
section
variable{h j:Nat}{o:List lF}{p:ku×jC}
def YD(s:nE e)(A:uM)(B:[]∉e.A)(C:qr e g W)(m:mw e a W h (lA e g) d n)(D:sn e (qU<|qq e g<|kL e) (lA e g) d f)(q:e.A[d]?=V f)(E:h+22*d+23<16777216)(F:La (nO e (lA e g) d)+11000+11<16777216):jY k (i+2) (lV (mw e a W h (lA e g)<|d+1) (λn=>(zh<|d+1,n.2)) y) (kt (Yz Q ο π) .A) [] ((zh d).A 8<|.A<|ll<|e.D d) n.2:=by have t:∀{j r},j≠65/\j≠66/\j≠67->uZ n.2 d (.A j r)=n.2 (.A j r):=λc=>(jQ _ _<|jJ c.2.1).a<|(jQ _ _<|jJ c.2.2).a<|jQ _ _<|jJ c.1;have u:=m.E.E λj r c=>t ⟨λo=>(by rw[o]at c;exact lf c),λo=>(by rw[o]at c;exact lf c),λo=>(by rw[o]at c;exact lf c)⟩;have G:qr e g<|uZ n.2 d:=C.C λj r c=>c.a (λo=>o▸(t jI).a (m.A _ _ U)) λo=>o▸(t jI).a (m.A _ _ U);exact jN λc=>c (.A 65 [d]) (λv=>m.B _ _ jI jI<|al _) (.A 67 [d]) (λv=>m.B 67 _ jI jI<|al _) (.A 66 [d]) (λv=>m.B 66 _ jI jI<|al _) .B<|nT (X:=ll<|e.D d) (j:=f) (p:=kK) (λw p=>mJ a (uZ n.2 d) d (nO e (lA e g) d) ((Ll w f).foldl (np e f λN=>lA e g N d) ([],[])) p) (λv p=>(uW d<|ll<|e.D d,p.2)) (n.1,uZ n.2 d) (show mJ a (uZ n.2 d) d (nO e (lA e g) d) ([],[]) (n.1,uZ n.2 d) from m3 (((m.C.B U).B U).B U) m.J .E (jS n.2 (.A 65 [d]) _) (jO [] (jS (jE n.2 (.A 65 [d])<|.B []) (.A 67 [d]) _) .nil) .nil<|jx (im ..)<|jx (bQ ..) m.I) (.A _) U (λw p m=>(m.I u).A q) (λw p N m x=>Yp m s u G D (Yx _ ([],[]) (λN c=>cr c) λn J c=>kh c) q (aa x) (aZ (bC (bS (aX (NX (λN=>uU ..) ..)<|aX (aw<|ct _)<|bW 11<|aX (bg ..)<|bL<|s.B f<|aa q) _) 11) F) λK H=>jx (n3 (c:=np e f λN=>lA e g N d) (e:=([],[])) x) H) λp z=>(YC s A B m (by rw[bI]at z;exact z) u q E:)
structure YE(c:jC):Prop where
 B:c (.A 31 [])=V (.B [])
 C:c (.A 32 [])=V (.B [])
 D:c (.A 33 [])=V (.B [])
 E:c (.A 34 [])=V (.B [])
 F:c (.A 37 [])=V (.A [])
 G:∀a,jz.I a->c (sm a)=V (.B [])
 A:∀j b,40<=j->j≠52->c (.A j b)=Y
 H:c (.A 52 [0])=V (.D 391 #[])
 I:c (.A 52 [1])=V (.D 398 #[])
end
def kz(d:Lt<|Lt jH)(a:j'):=(∀b c,a.C b c=jz.F (jz.E b c))/\a.A[0]?=V (jz.F [(0,0)])/\Le a.A/\(∀b∈a.A,b∈d)/\nE a
section
variable(a:kz θ e)
def kz.A:=a.1
def kz.B:=a.2.1
def kz.E:=a.2.2.1
def kz.D:=a.2.2.2.1
def kz.C:=a.2.2.2.2
end
def tO(a:j')(c:jM->Lt jD):=(∀b∈kL a,∀d∈a.B b.1,jz.D d.1=b.2->d.2=0)/\(∀e b,(kL a)[e]?=V b->∀h∈qT a (kL a) b,h∈Ll e (kL a))/\(∀b∈kL a,c b=uO (qT a<|kL a) (rI a) c b)/\∀f g,a.A[f]?=V g->sn a (qU<|qq a c<|kL a) (lA a c) f g
section
variable(a:tO e g)
def tO.A:=a.1
def tO.B:=a.2.1
def tO.C:=a.2.2.1
def tO.D:=a.2.2.2
end
section
def j'.G(b:N∈e.B a):e.A[a]?=V (e.B a):=by cases c:e.A[a]? with|some d=>rw[j'.E c]|none=>rw[j'.B,bZ,c]at b;exact a' b ac
def j'.H(b:N∈e.B a):a<La e.A:=(ag.a<|j'.G b).1
def YF:La (kL e)<=11*La e.A:=by exact aX (show La (kL e)<=La ((be (La e.A)).flatMap λa=>re.map λb=>(a,b)) from NS.a λr c=>bV.b<|jO r.1 (bj.b<|(NR r c).2.a λf d=>j'.H d.1)<|am.b<|jO r.2 (pU _) U) (aX (y9 λa g=>aw<|ab ..) (aw (aB (11*·) bX)))
def kz.F(a:kz θ e)(l:oC θ)(c:∀d,La (jz.A d)<=1000)(f:∀r∈kL e,∀b∈e.B r.1,jz.D b.1=r.2->b.2=0):sk e:=m3 a.C (λ{g h i} _ j k=>jx (a.A g i)<|bM _<|cV.b<|jO h j<|aC k) c (aX YF<|bW 11 a.C.D) NS NR f
def kz.G(a:kz θ e)(b:oC θ):[]∉e.A:=λc=>b.D _ (a.D _ c) U
def Fg{b:Nat×jH}(d:b∈rJ e r):b.2∈e.B b.1:=(bV.a d).a λg f=>by
 have a:=f.2;unfold uS at a;split at a;.exact(am.a a).a λh c=>jL c.2 (ar.a c.1).1
 .exact a' a ac
def kz.H(c:kz θ e){a:Nat×jH}(b:a∈rJ e r):jz.I a.2/\a.1<1000:=⟨c.C.A (aa<|j'.G<|Fg b) _<|Fg b,au (j'.H<|Fg b) c.C.D⟩
def tD.B(c:tD a q):uV q:=λd=>(c d).a .inl λb=>b.a λe b=>kC<|.inl ⟨e,b.2⟩
def YG:lc:=⟨0,0,0,0,λa=>[],λa=>Y⟩
def mc.f_(h:kv 0 (λb=>[]) c)(i:c J0=V (.B []))(f:∀d j,d=40\/d=41->c (.A d j)=Y):mc YG c:=lY h (λb=>.inl U) ⟨[],i,al _,λ{r e} (a:Y=V e)=>kh a,λ{l r e} (a:Y=V e)=>kh a⟩ (λ{g r k} (a:Y=V (r,k))=>kh a) (λg b=>⟨f _ _ kr,U⟩) λg b=>f _ _<|.inr U
end
end
section
variable{a e r u:Nat}{b l γ:List jD}{c:List Nat}{d k R:jC}{f s:jD}{g:jT}{i N:Type}{j:List (jA × jA)}{m S:jA}{n:lk}{o:List jA}{p:kl}{q:jF}{t:jH}{v Z:Nat × kJ}{w:Bool}{x δ:List jH}{y:jP}{z:j' → jM → List jD}{O:km}{Q:List (Nat × jA)}{T:j'}{W:List (List jH)}{X:jM}{α:Nat → Bool}{β:Prop}
section
def N1(b:a≠20/\a≠30/\a≠33/\a≠34/\a≠40/\a≠41/\a≠42/\a≠44/\a≠45):xc a=ah:=by simp only[xc,vQ,y2,o2 b.1,o2 b.2.1,o2 b.2.2.1,o2 b.2.2.2.1,o2 b.2.2.2.2.1,o2 b.2.2.2.2.2.1,o2 b.2.2.2.2.2.2.1,o2 b.2.2.2.2.2.2.2.1,o2 b.2.2.2.2.2.2.2.2];rfl
def YH(c:a<20\/45<a):xc a=ah:=have b:∀d,20<=d->d<=45->a≠d:=λd f g e=>c.a (λc=>cn f<|jL e c) λc=>cn g<|kg e c;N1 (z8 (b _ jI jI) (b _ jI jI) (b _ jI jI) (b _ jI jI) (b _ jI jI) (b _ jI jI) (b _ jI jI) (b _ jI jI)<|b _ jI jI)
def YI(C:oC W)(y:kv 0 (λv=>[]) d)(j:YE d)(Z:0<jz.B)(η:∀α,α<jz.B->jz.A α≠[])(θ:∀M,La (jz.A M)<=1000)(ι:jz.F [(0,0)]∈W)(β:uM)(κ:∀q,kz W q->tO q (z q)) (M:∀q N μ ν h,kz W q->mw q N ν μ (lA q<|z q) (La q.A) h->qr q (z q) h.2->(∀b e,b<20\/b=36->h.2 (.A b e)=d (.A b e))->n .D h.2):lz (.ref 424) [.A lH] g (a+9) d n:=by
 have γ:kv 0 (λv=>[])<|jE d Kv<|.B []:=y.B U;have A:∀{b e},40<=b/\b<65->b≠52->jE d Kv (.B []) (.A b e)=Y:=λc O=>(jQ _ _<|jJ<|bF<|br c.2 jI).a<|j.A _ _ c.1 O;refine mZ jV.D_ U λg=>jN λc=>c y.A y.G y.A y.G y.A y.A Kv (λv=>j.A _ _ jI jI) γ.A .B<|Xg (e:=a+5) C (.f_ γ j.D λb e c=>c.a (λc=>c▸A jI jI) λc=>c▸A jI jI) U (λo v=>A jI jI) Z ι j.E (A jI jI) (λo=>A jI jI) λi w ξ k=>ka λD=>jU (Xj C k) λm P ο=>?_;have Q:=aX (k.A.C.a k.A.B) C.B;have E:kz W<|pY i m:=mS (λv v=>U) k.C k.A.C k.A.B P;have G:=κ _ E;have R:=k.A.A.A;have H:∀{b e},b<20\/45<b->ξ (.A b e)=jE d Kv (.B []) (.A b e):=λc=>k.B _ _<|YH c;refine D<|jN λc=>c R.A .A NN R.A .B<|Yh (d:=a) (E.F C θ G.A) R ο ⟨λb e h J N=>(H<|.inr<|cP h).a<|A ⟨aX jI h,J⟩ N,(H<|.inr jI).a j.H,(H<|.inr jI).a j.I,λπ ρ=>(k.B 25 _ U).a<|j.G π ρ⟩ Z η β G.B G.C (λσ v J S=>E.H S) λx τ υ δ T=>ka λD=>?_;have F:∀{b e},b≠25/\(b<=46\/65<=b)->b≠20/\b≠30/\b≠33/\b≠34/\b≠40/\b≠41/\b≠42/\b≠44/\b≠45->x (.A b e)=jE d Kv (.B []) (.A b e):=λc O=>(T _ _ c.1 c.2).a<|k.B _ _<|N1 O;have K:∀{b e},65<=b->x (.A b e)=jE d Kv (.B []) (.A b e):=λ{b e} c=>have p:∀L,L<65->b≠L:=λL φ=>bi<|au φ c;F ⟨p _ jI,.inr c⟩ (z8 (p _ jI) (p _ jI) (p _ jI) (p _ jI) (p _ jI) (p _ jI) (p _ jI) (p _ jI)<|p _ jI);have χ:mw (pY i m) w.C x w.A (lA (pY i m)<|z<|pY i m) 0 (w.F,x):=⟨τ,k.A.A.D.B,υ,.C,k.A.A.e_.B λb e c=>T b e (by rcases c with c|c|c|c|c<;>rw[c]<;>decide) (by rcases c with c|c|c|c|c<;>rw[c]<;>decide),(F jI jI).a j.B,(K jI).a U,(F jI jI).a j.C,λo c=>a' c<|en _,λb o h J v=>(K h).a<|(jQ _ _<|jJ<|bF<|aZ J jI).a<|j.A b _ (aX jI h)<|bi<|au jI h,λL Δ v=>⟨(K jI).a<|j.A 70 _ jI jI,(K jI).a<|j.A 71 _ jI jI⟩,(F jI jI).a j.F⟩;have S:=aX k.E<|bW 3000<|aX (aw (ab (as:=i) _).b) Q;have ψ:∀o,La ((pY i m).B o)<=1000:=λo=>by cases X:((pY i m).A[o]?:Option<|List jH)with|some ω=>rw[j'.E X];exact bL<|P.B ω<|aa X|none=>simp only[j'.B,bZ,X];exact bT _
 have Γ:∀{s h},mw (pY i m) w.C x w.A (lA (pY i m)<|z<|pY i m) s h->∀b e,b<20\/b=36->h.2 (.A b e)=d (.A b e):=λ{s h} r b e u=>u.a (λu=>(r.A b e<|(by
  have p:∀b,b<20->Fd b=ah:=by decide+kernel
  exact p b u)).a<|(T b e (bF<|br u jI)<|.inl<|aX (bL u) jI).a<|(H<|.inl u).a<|jQ _ _<|jJ<|bF<|br u jI) λu=>u▸(r.A 36 e U).a ((F (b:=36) jI jI).a U);refine D<|jN λc=>c .A .B<|nT (X:=.A 42 []) (j:=be (La i.A)) (p:=λo=>.A<|ll<|(pY i m).D o) (mw (pY i m) w.C x w.A<|lA (pY i m)<|z<|pY i m) (λs h=>(zh s,h.2)) (w.F,x) χ (.A _) U (λs h r=>r.E.F) (λs h o r ε=>ka λD=>?_) λh r=>mE λc=>c<|M _ _ _ x h E (by rw[bX]at r;exact r) (δ.C λb e c=>r.A b e (by rcases c with c|c<;>rw[c]<;>rfl))<|Γ r;have B:=(ag.a ε).1;replace B:=kg bX B;obtain rfl:s=o:=aY<|(bp B).b.a ε;have ζ:=aq B;exact D (YD P β (E.G C) δ r (G.D s _ ζ) ζ (aZ (bC (bv S<|bW 22<|aX (bL B) Q) 23) jB)<|aZ (bC (bC (aX (Yy (λσ o=>uU ..) ψ s)<|bW 11000<|aX (bL B) Q) _) _) jI:)
end
noncomputable def so:Lt jD:=[.D,.A,.B,.I,.J,.K]
def p5:Lt<|Lt jD:=(m0.flatMap λa=>[jD.A,.B].flatMap λb=>[[a,b],[a,b,.I],[a,b,.J],[a,b,.K]])++m0.flatMap λa=>[[a],[a,.I],[a,.J],[a,.K]]
def qs(a:jD)(b:Lt jD):cj:=uz gO [a.G," -> ",(hU<|(b.map jD.G).map .str).shown]
noncomputable def BZ(a:Nat):jD:=bif a.beq 83 then .D else bif a.beq 65 then .A else bif a.beq 66 then .B else bif a.beq 97 then .I else bif a.beq 98 then .J else .K
def Fh(a:cj):jD×Lt jD:=(BZ<|a.cps.getD 0 0,BZ (a.cps.getD 7 0)::bif cK (Lb a.cps) 10 then[]else BZ (a.cps.getD 12 0)::bif cK (Lb a.cps) 15 then[]else[BZ<|a.cps.getD 17 0])
def YJ(a:Lt jD):Bool:=!adG ((Lc (a.map jD.G)).foldl (· +·.length+Ld (" ":cj)) 0)&&cK (Ld (tp " "<|a.map jD.G)) 1000&&cK (Ld (hU<|(a.map jD.G).map .str).shown) 1000&&cK (La a) 3&&!a.isEmpty&&a.all (so.contains ·)
def YK(a:Lt jD):Bool:=[jD.D,.A,.B].all λb=>ba (Fh (qs b a)=(b,a))&&kP (.C<|qs b a)
def YL(a:jD):Bool:=!(dJ "abcdefghijklmnopqrstuvwxyzABCDEFGHIJKLMNOPQRSTUVWXYZ0123456789_-" a.G 0 (Ld ("abcdefghijklmnopqrstuvwxyzABCDEFGHIJKLMNOPQRSTUVWXYZ0123456789_-":cj)) 1).isEmpty&&Li (dJ "'\"" a.G 0 (Ld ("'\"":cj)) 1)
def YM:so.all YL=aj:=by decide+kernel
def YN:([.D]::p5).all YJ=aj:=by decide+kernel
def YO:(p5.all λa=>a.any (·.H))=aj:=by decide+kernel
def YP:p5.all YK=aj:=by decide+kernel
structure xo(a:List jD):Prop where
 E:adG ((a.map jD.G).toArray.foldl (· +·.length+(" ":cj).length) 0)=ah
 D:(tp " " (a.map jD.G)).length<=1000
 F:(hU ((a.map jD.G).map .str)).shown.length<=1000
 A:a.length<=3
 B:a≠[]
 C:∀F∈a,F∈so
theorem zp(g:b∈[.D]::p5):xo b:=by revert b;apply pJ;generalize pn=b;intros;exact have c:=kB<|bc.a YN b g;have a:=kB c.1;have d:=kB a.1;have e:=kB d.1;have f:=kB e.1;⟨pp f.1,bE f.2,bE e.2,bE d.2,λh=>by rw[h]at a;exact a' a.2 jI,λi j=>List.contains_iff_mem.a<|bc.a c.2 i j⟩
def YQ(a:f.F=aj):f∈[jD.D,.A,.B]:=by cases f<;>first|decide|exact lf a
def B0(c:f.F=aj)(d:b∈p5):Fh (qs f b)=(f,b)/\kP (.C<|qs f b)=aj:=have a:=kB<|bc.a (bc.a YP b d) f<|YQ c;⟨aF a.1,a.2⟩
def YR(c:f.F=aj)(d:s.F=aj)(e:b∈p5)(g:l∈p5)(h:qs f b=qs s l):f=s/\b=l:=have a:=(B0 c e).1.b.a<|(aB Fh h).a (B0 d g).1;⟨aB ca a,aB dO a⟩
def N2(a:f∈so):(!(dJ "abcdefghijklmnopqrstuvwxyzABCDEFGHIJKLMNOPQRSTUVWXYZ0123456789_-" f.G 0 (Ld ("abcdefghijklmnopqrstuvwxyzABCDEFGHIJKLMNOPQRSTUVWXYZ0123456789_-":cj)) 1).isEmpty)=aj/\Li (dJ "'\"" f.G 0 (Ld ("'\"":cj)) 1)=aj:=kB<|bc.a YM f a
def N3(a:f∈so):∃b,f.G=⟨#[b]⟩:=by cases f<;>first|exact⟨_,U⟩|exact a' a jI
def N4(a:jD):Ld a.G<=10:=by cases a<;>decide+kernel
def mi.J{i:cj}{c:cj}(f:∃e,lu.A i=V (.str c e)):mi (.G i) g a y d (.C c) d:=⟨λ{C} m=>⟨λn o p q r s t u v=>f.a λe f=>um (S:=ah) (t:=λj h=>j=.G (.str c e)/\h=d) f lp n o p q r s t u λj h w x z k A B l=>v (.C c) h w x z (kd k.2 m) A B ⟨e,by rw[k.1]at l;exact l⟩⟩⟩
section
def N5(h:f∈so):jX (.ref 39) [jG f] g (a+1) d (.F aj)<|ks d<|.A [.F aj]:=.E λk=>⟨λ{n} l=>(N3 h).a λq i=>by
 have m:sH f.G=[jG f]:=by rw[jG,i];rfl
 have j:Ld f.G=1:=jx i U;exact mZ jV.f_ U λg=>jN λc=>c jV.B .A (jX.f_<|jx j jI) (jW.K.A<|aD (by rw[j];decide)) .A (ξ:=aj) U jV.R_ .A (mi.C (s:=jG f) (n:=[f]) (p:=jG) It (pR _) (λo r=>by simp only[sG,m];rfl) (λe e=>U) (λe=>.F aj) (λe e=>m'.a) (mb k) (show 1<16777216 by decide) (λo s p=>jN λc=>c .A (mi.J jV.a_7) (jW.c_.A<|jx (ak.a p) (N2 h).1) lp)<|jN λc=>c lp) .A (jX.l_ (v:=[aj])<|jS ..) l⟩
end
section
variable{c:bk}
def mi.F{b:Lt jR}{c:Lt cj}(e:cK 2 (La b)=aj)(f:cK (La b) 50=aj)(h:∀{n:Lt cj->jC->Prop},n c d->yI b ⟨g,a,y,d⟩ n):mi (.l_ b) g a y d (.C<|uz gO c) d:=⟨λ{n} i=>⟨VA (bE e) (bE f)<|h i⟩⟩
def p6(a:(o6.A c r&&cK (La Q) 199)=aj):oP r (.A q) m (jE d q<|.C c Q)=V (jE d q<|.C c<|n8 Q r m):=(yT<|jS ..).a (by simp only[a,o3];rfl)
def rm(a:d q=V (.C c Q))(b:(o6.A c r&&cK (La Q) 199)=aj):oP r (.A q) m d=V (jE d q<|.C c<|n8 Q r m):=(yT a).a<|jx b U
def kw.G:kw (y.A a S)<|(y.A a m).A a S:=kg (xb (S:=y) (a:=a) (l:=m) (z:=S)).b<|kw.A _
def B1{f:jR}{b:cj}{h:cj->jC->Prop}(i:A3 d m b)(e:h b d)(j:∀{c:lk},c m d->nB f g a y d c):kn ah f ⟨g,a,y,d⟩ λm d=>∃b,A3 d m b/\h b d:=nC<|j<|jO b i e
theorem YS(t:d q=V (.A<|b.map jG))(z:d Ko=V (.B j))(G:La b<=1000)(A:∃i f,i<La b/\b[i]?=V f/\Lh (kj j<|jG f)=aj)(B:∀u,kP u=aj->n u d):lz (.ref 146) [.A q,.A Ko] g (a+1) d n:=by revert g a d b q j n;apply ud;generalize lt.1.1.1=a,lt.1.1.2=b,lt.1.2.1=d,lt.1.2.2=g,lt.2.1.1=j,lt.2.1.2=n,lt.2.2=q;intros;refine mZ jV.k_ U λg=>jN λh=>h jV.B .A (jX.D t) .A .B<|sQ (a:=Nat) (λe=>e<=La b/\∃i f,i<e/\b[i]?=V f/\Lh (kj j<|jG f)=aj) (λe=>((lv [.A q,.A Ko]).A 2<|.B<|(e:Int)-1,d)) id (La b) ⟨al _,A⟩ (jx (ab ..)<|.A _) U λe o=>?_;have C:(0:Int)<=(e:Int)-1↔0<e:=Int.sub_nonneg.c<|fC (m:=1);refine jN λh=>h .C (jW.B jW.M C) (λl h=>ka λD=>?_) λl h=>o.2.a λi p=>jU p λf E H=>a' (aZ (bT _) E) l;obtain⟨k,rfl⟩:∃k,e=k+1:=⟨e-1,(gP l).b⟩;obtain⟨f,v⟩:∃f,b[k]?=V f:=⟨_,aq o.1⟩;have w:((k+1:Nat):Int)-1=k:=ew (k:Int) 1;have x:=w▸ql t ((ax ..).a<|aB _ v);refine D<|h x .E (jW.D z<|kk f) (λr h=>h x<|B _<|kk f) λr h=>h .A (χ:=(k:Int)-1) (aB V<|(hs 1).b w)<|nQ k ⟨cI o.1,mr o.2 λi p F s y=>lP i p (acH (cg F) λl=>?_) s y⟩ (bN _) kw.G U;rw[l,v]at s;rw[aY s,y]at r;exact ot r
def jz.i_(a:Nat):Lt<|Nat×jA:=[(0,jG<|jz.D a),(1,.E<|(jz.A a).map jG),(2,.B a),(3,.D),(4,.D),(5,.C ""),(6,.B<|jz.G a),(7,.E [.C "right",.B 0]),(8,.B (La (jz.A a))),(9,.A<|.A 21 [a]),(10,.A<|.A 22 [a]),(11,.D),(12,.C<|Bi (jz.D a)<|jz.A a)]
def jz.w_(a:Nat):Lt<|Nat×jA:=Ll 10<|jz.i_ a
def jX.J{b:Lt i}{c:i->jA}:jX (.builtin "len") [.E<|b.map c] g a d (.B (La b)) d:=jL (ab (as:=b) c) jX.K
def N6:(b.map jD.G).map jA.C=b.map jG:=bY ..
def jX.o_(c:xo b):jX (.builtin "str.join") [.C " ",.E<|b.map jG] g a d (.C<|tp " "<|b.map jD.G) d:=jL N6<|jX.n_ c.E<|aX c.D (show 1000<=gE by decide)
def zq(a:jC)(b:Nat)(q:Lt jD):jC:=jE a (.A 21 [b])<|.A<|q.map jG
abbrev zr(a:Nat)(q:jF):jP:=lv [ln a,.B a,jG<|jz.D a,.A q,.E [.C "right",.B 0],.D,.C "",.B<|jz.G a]
def YT(o:d (lZ e)=V (.C 100<|jz.w_ e))(p:d (.A 21 [e])=V (.A [])):tx (m7 g (.E<|(jz.A e).map jG) d) Jx [.B K3 [.E K8] []] g a (zr e q) d (zr e q)<|zq d e<|jz.K e:=by
 have k:=Wy (i:=g) (c:=a) (d:=d) (g:=zr e q) (Z:=zr e q) (y:=.A 8) (e:=[.B K3 [.E K8] []]) (λc=>zq d e<|(Ll c<|jz.A e).foldl kN []) (xa p).b (.A _)<|Mr (g:=jz.A e) (h:=jG) λc f r=>?_;.simp only[ab,bI]at k;exact k
 .have l:=rF (f:=kN) (λs s=>tA) (Ll c<|jz.A e) [] .nil;refine jx (n3 r) ?_;generalize(Ll c<|jz.A e).foldl kN []=h at l⊢;have m:zq d e h (lZ e)=V (.C 100<|jz.w_ e):=(jQ _ _<|jJ jI).a o;have i:zq d e h (.A 21 [e])=V (.A<|h.map jG):=jS ..;exact jN λb=>b m .D ((jW.F i (oA h)<|kk f).B uH|>.E) (λj b=>sa b m i .A (jX.A i<|jx (ab ..)<|aZ (no l) jI) .A ⟨lE U,(o3 ..).a (by rw[kN,aA j,zq,bK];rfl)⟩) λj b=>sa b .A ⟨lE U,by rw[kN,aC<|cB.a j]⟩
theorem N7(p:d (lZ e)=Y)(r:d (.A 21 [e])=Y)(s:d (.A 22 [e])=Y)(o:d q=V (.A<|(jz.A e).map jG))(k:xo<|jz.A e)(l:∀h,h (lZ e)=V (.C 100<|jz.i_ e)->h (.A 21 [e])=V (.A<|(jz.K e).map jG)->kq (λq=>q=lZ e\/q=.A 21 [e]\/q=.A 22 [e]) d h->n (.A<|lZ e) h):jY g a (sb λt d=>t=.D/\n (.A<|lZ e) d) (kt yf .A) [] (zr e q)<|jE d (lZ e)<|.C 100 []:=by
 revert g a d q n e;apply qv;generalize kE.1.1.1=a,kE.1.1.2=e,kE.1.2=d,kE.2.1.1=g,kE.2.1.2=n,kE.2.2=q;intros;have u:mv (.E<|(jz.A e).map jG) d=V aj:=by cases c:jz.A e with|nil=>exact a' c k.B|cons i x=>rfl
 refine ka λv=>v<|jN λf=>f (p6 U) jV.G .A (jX.I<|(jQ _ _ λc=>mh p<|c▸o).a o) (p6 U) (p6 U) (p6 U) (p6 U) (p6 U) (p6 U) (p6 U) jV.B (jS ..) .A jX.J (p6 U) (.A 21 [e]) (λw=>r) (rm (jS ..) U) (jS ..) .A (YT (jS ..)<|(jQ _ _<|jJ jI).a<|jS ..) (.A 22 [e]) (λw=>s) (rm ((jQ _ _<|jJ jI).a<|(jQ _ _<|jJ jI).a<|jS ..) U) (p6 U) (jS ..) .A (ξ:=aj) u .A (mi.F (c:=[(jz.D e).G," -> ",tp " "<|(jz.A e).map jD.G]) U U λl=>B1 (.inl ⟨U,aX (N4 _) jI⟩) ⟨by decide,B1 (.inl ⟨U,aX k.D jI⟩) l λm=>jN λf=>f (jS ..) .A (jX.o_ k) m⟩ λm=>jN λf=>f (jS ..) m) (p6 U) .A ⟨U,l _ (jS ..) ?_ ?_⟩;.exact(jQ _ _<|jJ jI).a<|(jQ _ _<|jJ jI).a<|jS ..
 .refine λy z j=>?_;have i:=λc=>j<|.inl c;exact(jQ _ _ i).a<|(jQ _ _ λc=>j<|kC c).a<|(jQ _ _ λc=>j<|n6 c).a<|(jQ _ _ i).a<|(jQ _ _ λc=>j<|n6 c).a<|jQ _ _ i
def YU(c:d (lZ e)=Y)(f:d (.A 21 [e])=Y)(h:d (.A 22 [e])=Y)(i:d q=V (.A<|(jz.A e).map jG))(j:xo<|jz.A e)(k:∀b,b (lZ e)=V (.C 100<|jz.i_ e)->b (.A 21 [e])=V (.A<|(jz.K e).map jG)->kq (λq=>q=lZ e\/q=.A 21 [e]\/q=.A 22 [e]) d b->n (.A<|lZ e) b):lz (.ref 100) [.B e,jG<|jz.D e,.A q,.E [.C "right",.B 0],.D,.C "",.B<|jz.G e] g (a+2) d n:=yS jV.d_ jV.g_ (lZ e) c U λl=>N7 c f h i j k
end
section
variable{b c:List kb}{f:jR}{h:jF}{i:bk}
def Fi(e:jY g a p (kt b .A) [] y d):qI (.L b f c) g a y d p:=⟨UZ<|sN<|sM b (a:=g) (b:=a) (c:=p) e⟩
def N8(c:y r=V (.A q))(f:d q=V (.C i Q))(h:sJ Q e=V m)(j:o6.A i e=aj)(k:wz m=aj)(l:n m d):kn w (.B (.A r) e) ⟨g,a,y,d⟩ n:=Di (ps c λo=>have b:=uA.A i e j;H0 f ((A4 Q e).a h) b.1 b.2 k l o)
def YV(c:y 0=V (.A q))(e:y 1=V S)(s:y 15=V m)(f:d q=V (.C i Q))(k:sJ Q 20=V (.A Kx))(l:o6.A i 20=aj)(n:d Kx=V (.B j))(o:kP S=aj)(t:kj j S=Y)(u:d h=Y)(v:La j<16777216)(r:jE d h (.A [m]) q=d q/\jE d h (.A [m]) Kx=d Kx):nw (.L [.E<|.F (.C KA Jb) 42 [Jm]] (.G "KeyError") [.D KA Jb<|.K [Jm]]) g a y d y<|jE (jE d h<|.A [m]) Kx<|.B<|kF j S<|.A h:=⟨λ{p} w=>⟨I7 (r:=λb=>b=d) (T:="KeyError") (UW U<|UV<|D0<|N8 c f k l U<|ps e ⟨U,I6 n o t⟩) (.B _ "KeyError" jV.H U U U) λb (x:b=d)=>jL x.b<|yv<|Ih U<|Dy<|ry<|ps s<|sC ⟨show 1<=16777216 by decide,h,u,N8 c (r.1.a f) k l U<|ps e<|Ii (r.2.a n) o v<|uq w⟩⟩⟩
end
def Fj{b:i->Nat->i}{c:i}(d:a≠0):w4 b c (a+1)=b (w4 b c a) a:=by simp only[w4,dL,co];exact aA d
def jz.b_(a:Nat):Lt jD:=w4 (λb c=>kN b<|jz.D c) [] a
def v1(b:Nat)(c:jD):Lt Nat:=(be b).filter λa=>ba<|a≠0/\jz.D a=c
def qV(b:Nat):Lt jA:=(be b).map λa=>if a=0 then .D else ln a
def N9:Lt<|Nat×jA:=Ll 9 ty++[(28,.D)]
noncomputable def qW:Lt jD:=[.I,.J,.K,.M]
section
def YW(b:a≠0):qV (a+1)=qV a++[ln a]:=by rw[qV,dL,bK,hD,aA b];rfl
def zt:La (qV a)=a:=(ab ..).a bX
theorem N'(c:a≠0):v1 (a+1) f=v1 a f++if jz.D a=f then[a]else[]:=by
 revert a f;apply od;generalize lX.1=a,lX.2=f;intros;simp only[v1,dL,eJ,cO,eK];by_cases b:jz.D a=f;.rw[aC b,aD ⟨c,b⟩];rfl
 .rw[aA b,aG λd=>b d.2];rfl
def rn:kj (lS r l) (jG f)=if f∈l then V<|.A<|.A r [f.ctorIdx]else Y:=yW (d:=jG) m'.a
def xp(a:f∉l):kF (lS r l) (jG f) (.A<|.A r [f.ctorIdx])=lS r (l++[f]):=by rw[rh<|rn.a<|aA a,lS,lS,bK];rfl
def B2(a:Le l):La (lS r l)<16777216:=aZ (jL (ab (as:=l) _).b<|no a) jI
def tP(b:s≠f):jF.A r [s.ctorIdx]≠.A a [f.ctorIdx]:=λc=>b<|BW (an (jF.A.inj c).2).1
def B3{a:Lt i}{b:i}(c:Le a)(d:b∉a):Le (a++[b]):=cz.b ⟨c,cD ..,λj f e g h=>d<|kg (ak.a g)<|kg h f⟩
def mV(b:Lt jD)(e:Nat)(d:jC):=d KE=V (.B<|lS 11 b)/\(∀{r f},(r=10/\f.H=aj)\/(r=11/\f∈b)->∃o:Lt jA,d (.A r [f.ctorIdx])=V (.A o)/\La o<=e)/\(∀f,f∉b->d (.A 11 [f.ctorIdx])=Y)/\Le b
section
variable(c:mV γ u R)
def mV.A:=c.1
def mV.B:=@c.2.1
def mV.D:=c.2.2.1
def mV.E:=c.2.2.2
end
def mV.C(a:mV b e d)(g:∀r h,r=5\/r=10\/r=11->k (.A r h)=d (.A r h)):mV b e k:=(mz ((g _ _ kr).a a.A) (λc=>(a.B c).b λo s=>⟨(g _ _ (.inr (c.c (·.1) (·.1)))).a s.1,s.2⟩) (λf c=>(g _ _<|kC U).a<|a.D f c) a.E)
def mV.G(a:mV b e d)(c:l=b):mV l e d:=jx c a
def Oa(a:f∈l):kN l f=l:=aC a
def Ob(a:f∉l):kN l f=l++[f]:=aA a
def mV.J(c:mV b e d)(f:e<=a):mV b a d:=mz c.A (λg=>(c.B g).b λo s=>⟨s.1,aX s.2 f⟩) c.D c.E
def mV.H(g:mV b e d)(m:f∉b):mV (b++[f]) e<|jE (jE d (.A 11 [f.ctorIdx])<|.A []) KE<|.B<|lS 11<|b++[f]:=⟨jS ..,λ{r s} a=>ka λi=>by
 have j:r≠5:=λc=>a.a (λa=>a' (c.b.a a.1) jI) λa=>a' (c.b.a a.1) jI;by_cases c:jF.A r [s.ctorIdx]=.A 11 [f.ctorIdx];.exact i<|jO [] ((jQ _ _<|jJ j).a<|jx c<|jS ..)<|bT _
 .exact i<|(g.B<|a.c id λa=>⟨a.1,(bR.a a.2).d λh=>c (by rw[ak.a h,a.1])⟩).b λo k=>⟨(jQ _ _<|jJ j).a<|(jQ _ _ c).a k.1,k.2⟩,λs l=>(jQ _ _<|jJ jI).a<|(jQ _ _<|tP λc=>l<|bP _<|ak.b c).a<|g.D s λh=>l<|bM _ h,B3 g.E m⟩
def mV.F(g:mV b e d)(h:(r=10/\f.H=aj)\/(r=11/\f∈b))(l:La o<=e):mV b (e+1)<|jE d (.A r [f.ctorIdx])<|.A<|o++[m]:=⟨(jQ _ _<|jJ λc=>h.a (λa=>a' (c.a a.1) jI) λa=>a' (c.a a.1) jI).a g.A,λ{n s} a=>ka λi=>by
 by_cases c:jF.A n [s.ctorIdx]=.A r [f.ctorIdx];.exact i<|jO (o++[m]) (jx c<|jS ..)<|aX (aw bH)<|bb l
 .exact i<|(g.B a).b λp j=>⟨(jQ _ _ c).a j.1,dB j.2⟩,λs k=>(jQ _ _ λc=>h.a (λa=>a' ((jF.A.inj c).1.a a.1) jI) λa=>k<|kg (show f=s from(BW (an (jF.A.inj c).2).1).b) a.2).a<|g.D s k,g.E⟩
end
def Oc:Lt kb:=[.B (.D .In Ji Kq) [.E<|.F (.C Kq Ji) 42 [JA]] [.B (.D .NotIn Ji Kb) [.D Kb Ji JY] [],.E<|.F (.C Kb Ji) 42 [JA]]]
def u0(a:jF):=a=.A 5 []\/(∃b,a=.A 10 b)\/∃b,a=.A 11 b
def s0(d:a≠5/\a≠10/\a≠11):¬u0 (.A a c):=λb=>b.a (jJ d.1) λb=>b.a (λb=>b.a λc b=>jJ d.2.1 b) λb=>b.a λc b=>jJ d.2.2 b
section
variable{c:cj}
abbrev zu(a:Nat)(q:jF)(m:jA)(c:cj):jP:=((((lv [.A lG,jG<|jz.D a,.A q,.D,.C "",.B<|jz.G a]).A 9 m).A 10<|.E [.C "right",.B 0]).A 11<|.C c).A 13<|.B a
def Od(a:f.H=aj):f∈qW:=by cases f<;>first|decide|exact lf a
def mV.I(a:mV b e d)(c:f∉b):kq u0 d<|jE (jE d (.A 11 [f.ctorIdx])<|.A []) KE<|.B<|lS 11<|b++[f]:=.A (.B<|kC ⟨_,U⟩)<|.B kr
def B4(c:mV b e d):jW .NotIn (jG f) (.A KE) d<|ba<|f∉b:=(jW.D c.A<|kk f).J.A (by
 rw[rn];by_cases a:f∈b;.rw[aC a,aG λg=>g a];rfl
 .rw[aA a,aD a];rfl)
def Fk(a:mV b e d)(c:f∈b):mY (.A KE) (jG f) d=V (.A<|.A 11 [f.ctorIdx]):=ne a.A (kk f)<|rn.a<|aC c
def YX{A:jC->Prop}(h:mV b e d)(j:d lG=V (.C 283 N9))(v:d Ko=V (.B<|lS 10 qW))(w:e<16777216)(D:f.H=ah->f.F=aj)(t:∀k,mV (py b f) (e+1) k->kq u0 d k->A k):jY g r (lV A (λd=>(zu a q m c,d)) p) (kt Oc .A) [] ((zu a q m c).A 14<|jG f) d:=ka λx=>by
 have E:f.H=aj->f.F=ah:=by cases f<;>decide
 cases n:f.H with
 |true=>refine ka λF=>?_;obtain⟨B,o,s⟩:=h.B<|.inl ⟨U,n⟩;have G:py b f=b:=aA<|nt<|E n;exact F<|x<|jN λu=>u j .A ((jW.D v<|kk f).A<|(vM f).a n) j (ne v (kk f)<|rn.a<|aC<|Od n) o .A (jX.A o<|aZ s w) .A<|lh _ (t _ (G.b▸h.F (.inl ⟨U,n⟩) s)<|.B<|n6 ⟨_,U⟩) (lE U) U|false=>
  have C:py b f=kN b f:=aC<|D n;by_cases i:f∈b;.obtain⟨B,o,s⟩:=h.B<|.inr ⟨U,i⟩;exact x<|jN λu=>u j .A ((jW.D v<|kk f).A<|(vM f).a n) j .A ((B4 h).A<|aG λt=>t i) .A j (Fk h i) o .A (jX.A o<|aZ s w) .A<|lh _ (t _ ((C.a<|aC i).b▸h.F (.inr ⟨U,i⟩) s)<|.B<|kC ⟨_,U⟩) (lE U) U
  .have y:=h.H i;have z:f∈b++[f]:=bP _ ae;exact jU (y.B<|.inr ⟨U,z⟩) λB o s=>x<|jN λu=>u j .A ((jW.D v<|kk f).A<|(vM f).a n) j .A ((B4 h).A<|aD i) (.A 11 [f.ctorIdx]) (λI=>h.D f i) j ((lN (d:=jE d (.A 11 [f.ctorIdx])<|.A []) (X:=.A 5 []) h.A (kk f)<|B2 h.E).a<|aB (λa=>V<|jE _ KE<|.B a)<|xp i) .A j (Fk y z) o .A (jX.A o<|aZ s w) .A<|lh _ (t _ (jL (C.a<|aA i).b<|y.F (.inr ⟨U,z⟩) s)<|(h.I i).A<|.B<|kC ⟨_,U⟩) (lE U) U
end
def nk(c:Nat)(b:jC):=b lG=V (.C 283 N9)/\b Kf=V (.A<|qV c)/\b Kx=V (.B<|lS 12<|jz.b_ c)/\(∀e∈jz.b_ c,b (.A 12 [e.ctorIdx])=V (.A<|(v1 c e).map ln))/\(∀e,e∉jz.b_ c->b (.A 12 [e.ctorIdx])=Y/\v1 c e=[])/\(∃f,b KV=V (.B f)/\La f<=c/\∀{g h},kj f (.C g)=V h->∃a,a<c/\a≠0/\g=qs (jz.D a) (jz.A a))/\b Ko=V (.B<|lS 10 qW)/\mV (jz.H c) (10*c) b/\(∀d,d=6\/d=7\/d=8->b (.A d [])=V (.B []))/\(∀a,a<c->a≠0->b (lZ a)=V (.C 100<|jz.i_ a)/\b (.A 21 [a])=V (.A<|(jz.K a).map jG))/\(∀a,c<=a\/a=0->b (lZ a)=Y/\b (.A 21 [a])=Y/\b (.A 22 [a])=Y)/\∀d i,23<=d->d≠52->b (.A d i)=Y
section
variable(b:nk a d)
def nk.A:=b.1
def nk.D:=b.2.1
def nk.K:=b.2.2.1
def nk.I:=b.2.2.2.1
def nk.E:=b.2.2.2.2.1
def nk.F:=b.2.2.2.2.2.1
def nk.B:=b.2.2.2.2.2.2.1
def nk.J:=b.2.2.2.2.2.2.2.1
def nk.G:=b.2.2.2.2.2.2.2.2.1
def nk.H:=b.2.2.2.2.2.2.2.2.2.1
def nk.C:=b.2.2.2.2.2.2.2.2.2.2.1
def nk.L:=b.2.2.2.2.2.2.2.2.2.2.2
end
def sp(a:Nat):=a≠0/\a<=90/\(jz.D a).F=aj/\jz.D a∈so/\jz.A a∈p5/\∀b,b<a->b≠0->(jz.D b).F=aj/\jz.A b∈p5/\¬(jz.D b=jz.D a/\jz.A b=jz.A a)
section
variable(b:sp a)
def sp.A:=b.1
def sp.D:=b.2.1
def sp.C:=b.2.2.1
def sp.E:=b.2.2.2.1
def sp.B:=b.2.2.2.2.1
def sp.F:=b.2.2.2.2.2
end
def B5(b:Nat)(a:jF):=(u0 a\/a=.A 1 []\/a=.A 2 []\/a=.A 3 []\/a=.A 12 [(jz.D b).ctorIdx])\/a=lZ b\/a=.A 21 [b]\/a=.A 22 [b]
section
def u1(g:u≠5/\u≠10/\u≠11)(d:u≠1/\u≠2/\u≠3)(e:u=12->c≠[(jz.D a).ctorIdx])(f:u=20\/u=21\/u=22->c≠[a]):¬B5 a (.A u c):=λb=>b.a (λb=>b.a (s0 g) λb=>b.a (jJ d.1) λb=>b.a (jJ d.2.1) λb=>b.a (jJ d.2.2) λb=>e (jF.A.inj b).1 (jF.A.inj b).2) λb=>b.a (λb=>f (.inl (jF.A.inj b).1) (jF.A.inj b).2) λb=>b.a (λb=>f (n6 (jF.A.inj b).1) (jF.A.inj b).2) λb=>f (kC (jF.A.inj b).1) (jF.A.inj b).2
theorem nk.M(l:nk a d)(m:sp a)(n:kq (B5 a) d k)(x:k Kf=V (.A<|qV a++[ln a]))(y:k Kx=V (.B<|lS 12<|kN (jz.b_ a)<|jz.D a))(z:k (.A 12 [(jz.D a).ctorIdx])=V (.A<|(v1 a<|jz.D a).map ln++[ln a])) (q:d KV=V (.B j)) (A:k KV=V (.B<|kF j (.C<|qs (jz.D a)<|jz.A a)<|ln a)) (B:mV (Bl (jz.H a) a) (10*(a+1)) k) (C:k (lZ a)=V (.C 100<|jz.i_ a)) (D:k (.A 21 [a])=V (.A<|(jz.K a).map jG)):nk (a+1) k:=by
 revert a d k j;apply qu;generalize lr.1.1=a,lr.1.2=d,lr.2.1=k,lr.2.2=j;intro l m n x y z q A B C D;have r:jz.b_ _=kN _ _:=Fj m.A;have E:∀h,h≠a->k (lZ h)=d (lZ h)/\k (.A 21 [h])=d (.A 21 [h])/\k (.A 22 [h])=d (.A 22 [h]):=λh e=>have i:∀{u},u=20\/u=21\/u=22->k (.A u [h])=d (.A u [h]):=λ{u} b=>n _ _<|u1 (by rcases b with b|b|b<;>rw[b]<;>decide) (by rcases b with b|b|b<;>rw[b]<;>decide) (λI=>a' b (by rw[I];decide)) λJ g=>e (an g).1;⟨i kr,i<|.inr kr,i<|kC U⟩;have F:∀f,f≠jz.D a->k (.A 12 [f.ctorIdx])=d (.A 12 [f.ctorIdx]):=λf e=>n _ _<|u1 jB jB (λJ g=>e<|BW (an g).1) λb=>a' b jB;refine⟨(n _ _<|u1 jB jB (λb=>a' b jB) λb=>a' b jB).a l.A,jL (YW m.A).b x,jx r y,λf p=>?_,λf p=>?_,kT _ A ?_ λ{K Q} e=>?_,(n _ _<|u1 jB jB (λb=>a' b jB) λb=>a' b jB).a l.B,jx (show jz.H _=Bl _ a from Fj m.A) B,λu e=>(n _ _ (by rcases e with e|e|e<;>(rw[e];exact u1 jB jB (λb=>a' b jB) λb=>a' b jB))).a<|l.G u e,λh e G=>?_,λh e=>?_,λu c e L=>?_⟩;.
  rw[N' m.A];by_cases g:jz.D a=f;.exact jx (aC g)<|jL g<|jx bK z
  .refine jx (aA g)<|jx (bQ ..) ?_;rw[r]at p;exact(F f λb=>g b.b).a<|l.I f<|(rf.a p).d λb=>g b.b
 .rw[r]at p;have H:=λg=>p<|rf.b<|.inr g;have i:=l.E f λb=>p<|rf.b<|.inl b;exact⟨(F f H).a i.1,jx (N' m.A)<|jx (aA λb=>H b.b)<|jx (bQ ..) i.2⟩
 .exact li l.F λM s N _=>aX (q9 ..)<|bb<|jL (vO<|s.b.a q) N
 .refine li l.F λM s _ O=>?_;obtain rfl:=vO<|s.b.a q;rw[nF]at e;by_cases g:jA.C K=.C (qs (jz.D a)<|jz.A a);.exact kT a (bN _) m.A<|jA.C.inj g
  .rw[aA g]at e;exact(O e).b λh i=>⟨cH i.1,i.2⟩
 .rcases de<|cg e with t|g;.have i:=E h<|bF t;exact⟨i.1.a (l.H h t G).1,i.2.1.a (l.H h t G).2⟩
  .subst g;exact⟨C,D⟩
 .have i:=E h λg=>e.a (λb=>a' (kg g b)<|fW a) λb=>m.A<|jL g b;have v:=l.C h<|e.c cI id;exact⟨i.1.a v.1,i.2.1.a v.2.1,i.2.2.a v.2.2⟩
 .have o:∀w,w<23->u≠w:=λw P=>bi<|au P e;exact(n _ _<|u1 ⟨o _ jB,o _ jB,o _ jB⟩ ⟨o _ jB,o _ jB,o _ jB⟩ (λb=>a' b<|o _ jB) λb=>a' e (by rcases b with b|b|b<;>rw[b]<;>decide)).a<|l.L u c e L
end
def YY:Lt kb:=[.C JG Jc Oc [],.A JJ<|.H Qu [JA,Jb,Jc,Jn,Jg,Jh,Jd],.E<|.F KO 42 [Jm],.D (.B Ja 21) Jp Jm,.L [.E<|.F (.C KA Jb) 42 [Jm]] (.G "KeyError") [.D KA Jb<|.K [Jm]]]
section
variable{h:Nat}
def YZ(a:f∈so)(b:f.H=ah):f.F=aj:=by cases f<;>first|rfl|exact a' b jB|exact a' a jB
theorem Y0(i:nk a d)(s:sp a)(T:mV (kN (jz.H a)<|jz.D a) (10*a) R)(C:kq u0 d R)(K:R (nf h)=V (.A<|(jz.A a).map jG))(e:∀k,nk (a+1) k->kq (B5 a) d k->n .D k):Internal.jY g (r+2) (sb n) (kt YY .A) [] (zu a (nf h) m<|qs (jz.D a)<|jz.A a) R:=by
 revert a r h d R g m n;apply sz;generalize kG.1.1.1=a,kG.1.1.2=r,kG.1.2.1=d,kG.1.2.2=R,kG.2.1.1=g,kG.2.1.2=m,kG.2.2.1=n,kG.2.2.2=h;intro i s T C K e;have D:=zp<|af [.D] s.B;refine jN λb=>b .B<|nT (λw k=>mV ((Ll w<|jz.A a).foldl py<|kN ..) (10*a+w) k/\kq u0 R k) (λμ k=>(zu a _ m _,k)) R ⟨T,.E⟩ (.A _) U (λw k o=>o.2.C K<|s0 jI) (λw k f o L=>YX o.1 (o.2.C (C.C i.A<|s0 jI)<|s0 jI) (o.2.C (C.C i.B<|s0 jI)<|s0 jI) ((λw δ=>aZ (bv (bW 10 s.D) δ) jI) w<|aX (bL (ag.a L).1) D.A) (YZ<|D.C f<|aa L) λM N E=>⟨jx (n3 L) N,o.2.A E⟩) λM o=>ka λF=>?_;have E:=C.A o.2;have G:∀{u c},u≠5/\u≠10/\u≠11->M (.A u c)=d (.A u c):=λb=>E _ _<|s0 b;have N:mV (Bl (jz.H a) a) (10*(a+1)) M:=by have z:=o.1;rw[bI]at z;exact z.J<|bS (aX D.A jI) _
 have O:=i.C a<|.inl<|al _;refine F<|mE λb=>b jV.b_ .B<|YU ((G jI).a O.1) ((G jI).a O.2.1) ((G jI).a O.2.2) (o.2.C K<|s0 jI) D λt ε ζ P=>ka λF=>li i.F λj W η ν=>?_;have A:∀{u c},u≠5/\u≠10/\u≠11->u≠20/\u≠21/\u≠22->t (.A u c)=d (.A u c):=λb Q=>(P _ _ λe=>e.a (jJ Q.1) λe=>e.a (jJ Q.2.1)<|jJ Q.2.2).a<|G b;have x:=(A jI jI).a i.A;have I:=(A jI jI).a i.D;have S:=(A jI jI).a i.K;have θ:=N.C λu c b=>P _ _ λe=>by rcases b with b|b|b<;>rw[b]at e<;>exact e.a (jJ jI) λe=>e.a (jJ jI)<|jJ jI
 have X:∀{v:jC},kq (λp=>p=.A 2 []\/p=.A 12 [(jz.D a).ctorIdx]) (jE (jE t Kf<|.A<|qV a++[ln a]) KV<|.B<|kF j (.C<|qs (jz.D a)<|jz.A a)<|ln a) v->v Kx=V (.B<|lS 12<|kN (jz.b_ a)<|jz.D a)->v (.A 12 [(jz.D a).ctorIdx])=V (.A<|(v1 a<|jz.D a).map ln++[ln a])->n .D v:=λ{v} Z ι y=>have B:∀{u c},u≠2/\u≠12->v (.A u c)=jE (jE t Kf<|.A<|qV a++[ln a]) KV (.B<|kF j (.C<|qs (jz.D a)<|jz.A a)<|ln a) (.A u c):=λb=>Z _ _ λe=>e.a (jJ b.1)<|jJ b.2;have z:=((E.D λp b=>.inl<|.inl b).A<|(P.D λp b=>.inr b).A<|.A (.B<|.inl<|.inr kr)<|.B<|.inl<|kC<|.inr kr).A<|Z.D λp b=>b.a (λb=>.inl<|kC<|.inl b) λb=>.inl<|kC<|kC b;e v (i.M s z (B jI) ι y W (B jI) ((θ.C λu c b=>(jQ _ _<|jJ (by rcases b with b|b|b<;>rw[b]<;>decide)).a<|jQ _ _<|jJ (by rcases b with b|b|b<;>rw[b]<;>decide)).C λu c b=>B (by rcases b with b|b|b<;>rw[b]<;>decide)) ((B jI).a ε)<|(B jI).a ζ) z;have α:∀{β},d (.A 12 [(jz.D a).ctorIdx])=β->t (.A 12 [(jz.D a).ctorIdx])=β:=λκ=>(A jI jI).a κ;have J:a<16777216:=aZ s.D jI;have γ:qK (.A KV) (.C<|qs (jz.D a)<|jz.A a) (ln a) (jE t Kf<|.A<|qV a++[ln a])=V (jE (jE t Kf<|.A<|qV a++[ln a]) KV<|.B<|kF j (.C<|qs (jz.D a)<|jz.A a)<|ln a):=lN (d:=jE t Kf<|.A<|qV a++[ln a]) (X:=.A 3 []) ((A jI jI).a W) (B0 s.C s.B).2<|aZ η J;by_cases q:jz.D a∈jz.b_ a;.have y:=α<|i.I _ q;exact F<|jN λb=>b x I .A (jX.A I<|zt.b▸J) x γ .B<|Fi<|jN λb=>b x (ne (X:=.A 2 []) S (kk _)<|rn.a<|aC q) y .A (jX.A (X:=.A 12 _) y<|aZ (aX (aw<|ab ..)<|aX (dt ..)<|aw bX) J)<|X (.B<|.inr U) (S.a<|aB (λp=>V<|km.B<|lS 12 p) (aC q).b)<|jS ..
 .have y:=α (i.E _ q).1;exact F (jN λb=>b x I .A (jX.A I<|zt.b▸J) x γ .A (YV (q:=lG) (h:=.A 12 [(jz.D a).ctorIdx]) U U U x U U S (kk _) (rn.a<|aA q) y (B2 (rF (λp ξ b=>by
   split;.exact b
   .exact tA b) (be a) [] .nil)) lp)<|X (.A (.B<|.inr U)<|.B kr) (((xp q).a<|aB (lS 12) (aA q).b)▸jS ..)<|(i.E _ q).2.b▸(jQ _ _<|jJ jI).a (jS ..))
end
def Fl(a:jC)(b:Nat):jC:=fj a (λd c=>ks c<|.A [.F aj]) b
def Oe:∀b,Fl d b (.A a c)=d (.A a c):=fj U λf e=>e
def Y1(a:jD):jG a≠.C "%prec":=by
 have b:∀a∈re,a.G≠"%prec":=by decide+kernel
 exact λc=>b a (pU a)<|jA.C.inj c
section
variable{h:Nat}
def jX.p_(b:d q=V (.A o))(c:La o=a):jX (.builtin "len") [.A q] g r d (.B a) d:=jL c<|jX.D b
def tQ:mv (.F w) d=V w:=U
def Y2:Lt kb:=[.B (.D .In (.C Jl J3)<|.I "'\"") [.L [.A Jx<|.H (.G "_literal") [Jl],.B (.D .Gt (.H J1 [Jk]) JX) [.I] [],.B (.D .NotIn Jk Kq) [.D Kq Jk JY] [],.D Jc Jj Jk,.K] (.G "SyntaxError") [.b_]] [],.B (.f_ [.e_<|.H Qj [Jl],.D .NotEq Jl K9]) [.I] []]
abbrev Of(a h:Nat):jP:=lv [.A lG,jG<|jz.D a,.A<|nf h,.D,.C "",.B<|jz.G a]
def Y3(i:d (nf h)=V (.A<|b.map jG))(j:∀f∈b,f∈so)(l:k=Fl d (La (b.map jG))):tx (ra g (.type "enumerate") [.A<|nf h] d) (.B [Jy,Jz]) Y2 g (r+1) (Of a h) d (Of a h) k:=l▸Mt _ U (λe=>(Oe e).a i) (.A _) wJ λe m n=>y5 n λm o p=>oR o λf q s=>ka λt=>by have c:=j f<|aa q;subst p s;exact t (jN λu=>u ((N3 c).a λw v=>by rw[jG,v];rfl) .A (jW.c_.A (aB (!·) (N2 c).2)) .A jV.L .A (N5 c) .A tQ .A ⟨mC U,U⟩)
theorem Y4(e:nk a d)(i:sp a)(G:d (nf h)=V (.A<|(jz.A a).map jG))(y:∀k,nk (a+1) k->kq (B5 a) d k->n .D k):lz (.ref 201) [.A lG,jG<|jz.D a,.A<|nf h,.D,.C "",.B<|jz.G a] g (r+3) d n:=by
 revert a r h d g n;apply qv;generalize kE.1.1.1=a,kE.1.1.2=r,kE.1.2=d,kE.2.1.1=g,kE.2.1.2=n,kE.2.2=h;intros;exact ka λz=>by
  have A:=zp<|af [.D] i.B;have B:(jz.D a).H=ah:=by have:=i.C;revert this;cases jz.D a<;>decide
  obtain⟨t,I⟩:=(show∃t,t=Fl (ks d<|.A [.F aj]) (La ((jz.A a).map jG)) from⟨_,U⟩);have o:∀{u c},t (.A u c)=d (.A u c):=jx I<|Oe _;have v:=o.a e.A;have x:=o.a G;have p:=e.J.C λC C C=>o;refine li e.F λj M α N=>?_;have O:kj j (.C<|qs (jz.D a)<|jz.A a)=Y:=by cases D:kj j<|.C _ with|none=>rfl|some β=>exact(N D).a λP w=>have E:=i.F P w.1 w.2.1;a' (YR i.C E.1 i.B E.2.1 w.2.2) λb=>E.2.2 ⟨b.1.b,b.2.b⟩
  refine jU (eC.a<|bc.a YO _ i.B) λQ S T=>?_;obtain⟨W,J⟩:=cF.a S;refine z<|mZ jV.m_ U λg=>jN λb=>b e.A .A ((jW.D e.B<|kk _).A<|(vM _).a B) .A .A ((jW.C (kk _)<|kk .M).A (aG λD=>by rw[m'.a D]at B;exact ot B)) .A jV.L .A (N5 i.E) .A tQ .A jV.D .A (Y3 (d:=ks d<|.A [.F aj]) G A.C I) .A ((jW.F x (oA _) (by decide+kernel)).A<|aG λb=>(am.a b).a λf w=>Y1 f w.2) jV.T_ v .B<|YS x (o.a e.B) (aX A.A jB) (lP W Q ((ag.a J).1) J<|jx rn<|jx (aC<|Od T) U) λm X=>ka λz=>?_;have K:∀{R},mV _ _ R->kq u0 t R->Internal.jY g (r+2) _ _ [] (zu a _ m _) R:=λZ L=>Y0 e i Z (λu c b=>(L u c b).a o) (L.C x<|s0 jB) y;refine z<|jN λb=>b v (o.a<|e.G 8<|kC U) .A (jX.C (o.a<|e.G 8<|kC U) X U) .A .A (mi.F U U λy=>B1 (.inl ⟨U,aX (N4 _) jB⟩) ⟨by decide,B1 (.inr<|pL _ _ U (x.a<|aB (λq=>V _) N6.b) U<|aX A.F jB) y λF=>jN λb=>b F⟩ λF=>jN λb=>b F) v .A (show jW .In (.C _) (.A KV) t ah from(jW.D (o.a M) (B0 i.C i.B).2).A<|jx O U) .A jV.B v .A (jX.p_ (o.a e.D) zt) v .C (B4 p) (λs b=>b (.A 11 [(jz.D a).ctorIdx]) (λC=>p.D _ s) v ((lN (d:=jE t (.A 11 [(jz.D a).ctorIdx])<|.A []) (X:=.A 5 []) p.A (kk _)<|B2 p.E).a<|aB (λa=>V<|jE _ KE<|.B a)<|xp s) .B (K ((p.H s).G<|Ob s)<|p.I s:)) λs b=>b .B (K (p.G<|Oa<|cB.a s) .E:)
end
def Fm(b:jC)(a:Nat):jC:=fj b (λa b=>jE (jE b (.A 10 [a+4])<|.A []) Ko<|.B<|lS 10<|Ll (a+1) qW) a
noncomputable def sq(a:Nat):Bool:=cK a 12||a.beq 20||a.beq 21||a.beq 22
section
def Og(b:a≠10/\a≠4):∀d,Fm k d (.A a c)=k (.A a c):=fj U λd e=>(jQ _ _<|jJ b.2).a<|(jQ _ _<|jJ b.1).a e
def Oh(b:sq a=ah)(c:sq e=aj):a≠e:=λd=>av<|b.b.a<|jx d c
def Oi:nG sq k<|Fm k a:=λc d b=>Og ⟨Oh b U,Oh b U⟩ a
def B6(b:e<a):cK a e=ah:=di.b λc=>dd b<|bE c
def kX(b:nG α d k)(e:α a=aj):nG α d<|jE k (.A a c) O:=b.A<|.B e
theorem Y5(c:∀e i,sq e=aj->d (.A e i)=Y)(w:∀e i,23<=e->e≠52->d (.A e i)=Y)(x:d (nf 0)=V (.A<|[jD.I,.J,.K].map jG))(y:∀j,nk 1 j->nG sq d j->n (.A lG) j):lz (.ref 283) [.A<|nf 0] g (a+2) d n:=by
 revert a d g n;apply qu;generalize lr.1.1=a,lr.1.2=d,lr.2.1=g,lr.2.2=n;intros;exact ka λz=>by
  have A:∀{j},nG sq d j->∀e i,23<=e->e≠52->j (.A e i)=Y:=λp e i r B=>(p e i (by have s:∀t,t<23->e.beq t=ah:=λt C=>o2<|bi<|au C r;rw[sq,s 20 jB,s 21 jB,s 22 jB,B6<|au jB r];rfl)).a<|w e i r B;refine z<|yS jV.a_4 jV.l_ lG (c _ _ U) U λg=>jN λb=>b Kf (λf=>c _ _ U) U Kx (λf=>c _ _ U) U KV (λf=>c _ _ U) U Ko (λf=>c _ _ U) U .A (o7 (Fm _) U (λm=>(Og jB m).a x) (.A _) λm h o=>?_) (.A 10 [7]) (λf=>c _ _ U) U ((lN U (kk .M) jB).a<|aB (λu=>V<|jE _ Ko<|.B u)<|xp jB) KE (λf=>c _ _ U) U (.A 6 []) (λf=>c _ _ U) U Kp (λf=>c _ _ U) U (.A 8 []) (λf=>c _ _ U) U jV.F .A (jX.b_ (X:=.A 9 [])<|c _ _ U) U U ⟨U,y _ ⟨U,U,U,?_,?_,kT [] U ?_ ?_,U,mz U ?_ ?_ .nil,?_,?_,?_,?_⟩ ?_⟩;.
   have v:∀{k:jC}{q}{h:jD},k Ko=V (.B _)->h∉q->La q<16777216->qK _ _ (.A<|.A 10 [h.ctorIdx]) k=V (jE k Ko<|.B<|lS 10<|q++[h]):=λ{k q h} p b D=>(lN p (kk h)<|jL (ab _).b D).a<|aB (λu=>V<|jE k Ko<|.B u)<|xp b;rcases m with _|_|_|m;.obtain rfl:=aY o;exact jN λb=>b (.A 10 [4]) (λf=>c _ _ U) U (v (q:=[]) U jB jB) ⟨lE U,U⟩
   .obtain rfl:=aY o;exact jN λb=>b (.A 10 [5]) (λf=>c _ _ U) U (v U jB jB) ⟨lE U,U⟩
   .obtain rfl:=aY o;exact jN λb=>b (.A 10 [6]) (λf=>c _ _ U) U (v U jB jB) ⟨lE U,U⟩
   .exact kh o
  .exact λh b=>a' b ac
  .exact λh f=>⟨c _ _ U,U⟩
  .exact bT _
  .exact λ{G H} b=>kh<|b
  .exact λ{e h} b=>b.a (λb=>by obtain⟨rfl,b⟩:=b;revert b;cases h<;>first|exact λf=>jO [] U<|bT _|exact λb=>a' b jB) λb=>a' b.2 ac
  .exact λh f=>c _ _ U
  .exact λe b=>by rcases b with b|b|b<;>rw[b]<;>rfl
  .exact λE b F=>a' (iQ.a b) F
  .exact λE f=>⟨c _ _ U,c _ _ U,c _ _ U⟩
  .exact A<|kX (kX (kX (kX (kX (kX (kX (kX (kX (kX (kX (kX (kX (.A (kX (kX (kX (kX (kX (kX (kX (kX (kX .C U) U) U) U) U) U) U) U) U) Oi) U) U) U) U) U) U) U) U) U) U) U) U) U
  .exact kX (kX (kX (kX (kX (kX (kX (kX (kX (kX (kX (kX (kX (.A (kX (kX (kX (kX (kX (kX (kX (kX (kX .C U) U) U) U) U) U) U) U) U) Oi) U) U) U) U) U) U) U) U) U) U) U) U) U
end
def nr:=1<jz.B/\jz.D 0=.E/\jz.A 0=[.D]/\jz.G 0=0/\jz.r_=jz.H jz.B/\.D∈jz.H jz.B/\jz.B<=90/\(∀b,b∈jz.b_ jz.B↔b.F=aj)/\(∀b,b∈jz.H jz.B↔b.F=aj)/\(∀a,a<jz.B->xo (jz.A a))/\(∀a,jz.v_ a=Bi (jz.D a) (jz.A a))/\∀a,La (jz.A a)<=3
section
variable(a:nr)
def nr.A:=a.1
def nr.K:=a.2.1
def nr.G:=a.2.2.1
def nr.L:=a.2.2.2.1
def nr.F:=a.2.2.2.2.1
def nr.B:=a.2.2.2.2.2.1
def nr.H:=a.2.2.2.2.2.2.1
def nr.E:=a.2.2.2.2.2.2.2.1
def nr.C:=a.2.2.2.2.2.2.2.2.1
def nr.D:=a.2.2.2.2.2.2.2.2.2.1
def nr.I:=a.2.2.2.2.2.2.2.2.2.2.1
def nr.J:=a.2.2.2.2.2.2.2.2.2.2.2
end
def ro(a:jC):=a lG=V (.C 283 ty)/\a Kf=V (.A<|(be jz.B).map ln)/\a Kx=V (.B<|lS 12<|jz.b_ jz.B)/\(∀d∈jz.b_ jz.B,a (.A 12 [d.ctorIdx])=V (.A<|(jz.g_ d).map ln))/\a Ko=V (.B<|lS 10 qW)/\a KE=V (.B<|lS 11<|jz.H jz.B)/\(∀b,b=6\/b=7\/b=8->a (.A b [])=V (.B []))/\(∀c,c<jz.B->a (lZ c)=V (.C 100<|jz.i_ c)/\a (.A 21 [c])=V (.A<|(jz.K c).map jG))/\∀b e,23<=b->b≠52->a (.A b e)=Y
section
variable(a:ro d)
def ro.A:=a.1
def ro.C:=a.2.1
def ro.D:=a.2.2.1
def ro.G:=a.2.2.2.1
def ro.H:=a.2.2.2.2.1
def ro.I:=a.2.2.2.2.2.1
def ro.B:=a.2.2.2.2.2.2.1
def ro.E:=a.2.2.2.2.2.2.2.1
def ro.F:=a.2.2.2.2.2.2.2.2
end
def Fn(a:jF):=a=lG\/a=.A 1 []\/u0 a\/a=lZ 0\/a=.A 21 [0]\/a=.A 22 [0]
section
def Y6(c:nr)(e:d (lZ 0)=Y)(f:d (.A 21 [0])=Y)(h:d (.A 22 [0])=Y)(i:d q=V (.A<|[jD.D].map jG))(j:∀b,b (lZ 0)=V (.C 100<|jz.i_ 0)->b (.A 21 [0])=V (.A<|(jz.K 0).map jG)->kq (λq=>q=lZ 0\/q=.A 21 [0]\/q=.A 22 [0]) d b->n (.A<|lZ 0) b):lz (.ref 100) [.B 0,jG .E,.A q] g (a+2) d n:=yS jV.d_ jV.h_ _ e U λg=>by have k:=N7 (g:=g) (a:=a) e f h (jx c.G i) (c.D 0<|cP c.A) j;exact k
def Oj(b:e≠0/\e≠1/\e≠5/\e≠10/\e≠11)(d:e=20\/e=21\/e=22->c≠[0]):¬Fn (.A e c):=λa=>a.a (jJ b.1) λa=>a.a (jJ b.2.1) λa=>a.a (s0 b.2.2) λa=>a.a (λa=>d (.inl (jF.A.inj a).1) (jF.A.inj a).2) λa=>a.a (λa=>d (n6 (jF.A.inj a).1) (jF.A.inj a).2) λa=>d (kC (jF.A.inj a).1) (jF.A.inj a).2
def Y7(h:nk jz.B d)(i:nr)(f:∀p,ro p->kq Fn d p->n .D p):lz (.ref 209) [.A lG,jG .D] g (a+3) d n:=ka λr=>by
 have s:=h.C 0<|.inr U;refine r<|mZ jV.n_ U λg=>jN λb=>b .A (U) .A h.A .A ((B4 h.J).A<|aG λb=>b i.B) .A jV.b_ (.B _) (λe=>mb e) .B<|Y6 i s.1 s.2.1 s.2.2 (jS ..) λl D E t=>ka λr=>?_;have k:∀{e c},e≠20/\e≠21/\e≠22->l (.A e c)=d (.A e c):=λb=>t _ _ λf=>f.a (jJ b.1) λf=>f.a (jJ b.2.1)<|jJ b.2.2;have u:=(k jB).a h.A;have x:=h.J.C λe c b=>k (by rcases b with b|b|b<;>rw[b]<;>decide);have y:mV _ _<|jE l Kf<|.A<|(qV jz.B).set 0<|ln 0:=x.C λe c b=>jQ _ _<|jJ (by rcases b with b|b|b<;>rw[b]<;>decide);refine jU (y.B<|.inr ⟨U,i.B⟩) λO z F=>?_;have G:(qV jz.B).set 0 _=(be jz.B).map ln:=hR λA=>by
  simp only[List.getElem?_set,qV,ax,ax];by_cases m:0=A;.exact jx (aC m)<|jx (aC (by simp only[ab,bX];exact cP i.A))<|jL m<|jx (bp<|cP i.A) U
  .rw[aA m];by_cases b:A<jz.B;.rw[bp b,fT,fT,aA λf=>m f.b]
   .exact jx (cx<|jx bX<|cv b) U
 have B:∀{H I J},kq Fn d<|jE (jE (jE l Kf H) (.A 11 [jD.D.ctorIdx]) I) lG J:=λ{_ _ _}=>.A (.A .F<|t.D λq b=>kC<|.inr b)<|.A (.B<|.inr kr)<|.A (.B<|kC<|.inl<|kC ⟨_,U⟩)<|.B kr;refine r<|jN λb=>b u (WA ((k jB).a h.D)<|kd zt<|cP i.A) u (Fk y i.B) z .A (jX.A z<|aZ F<|aZ (bW 10 i.H) jB) (rm u U)<|f _ (z8 (jS ..) (G▸jS l Kf _) ((k jB).a h.K) (λK L=>(k jB).a<|h.I K L) ((k jB).a h.B) ?_ (λe b=>?_) (λo b=>?_) λe c b M=>?_) ?_;.exact x.A
 .rcases b with b|b|b<;>rw[b]<;>exact(k jB).a<|h.G _ jB
 .by_cases v:o=0;.exact jx v ⟨D,E⟩
  .have C:=h.H o b v;have j:∀{e},l (.A e [o])=d (.A e [o]):=t _ _ λf=>v<|f.a (λf=>(an (jF.A.inj f).2).1) λf=>f.a (λf=>(an (jF.A.inj f).2).1) λf=>(an (jF.A.inj f).2).1;exact⟨j.a C.1,j.a C.2⟩
 .have j:∀w,w<23->e≠w:=λw N=>bi<|au N b;exact(B _ _<|Oj (mS (j _ jB) (j _ jB) (j _ jB) (j _ jB)<|j _ jB) λf=>a' b (by rcases f with f|f|f<;>rw[f]<;>decide)).a<|h.L e c b M
 .exact B
end
def jz.q_(a:Nat)(b c:jA):List<|Nat×jA:=[(0,jG<|jz.D a),(1,.E<|(jz.A a).map jG),(2,.B a),(3,.D),(4,.D),(5,.C ""),(6,.B<|jz.G a),(7,.E [.C "right",.B 0]),(8,.B (La (jz.A a))),(9,.A<|.A 21 [a]),(10,c),(11,b),(12,.C<|Bi (jz.D a)<|jz.A a)]
def jz.j_(a:jH):Lt<|Nat×jA:=[(0,jG<|jz.D a.1),(1,.E<|(jz.c_ a).map jG),(2,.B a.1),(15,.B a.2),(16,.A<|.A 25 [a.1,a.2]),(8,.B<|La (jz.A a.1)+1),(9,.A<|.A 21 [a.1])]
section
def Ok(a:t.2<=La (jz.A t.1)):La (jz.c_ t)=La (jz.A t.1)+1:=by simp only[jz.c_,bH,dF,cN,gL,dx a,<-cS,gw a]
def jX.q_(b:d q=Y):jX (.type "list") [.E o] g a d (.A q)<|jE d q<|.A o:=jX.a_ kr b
def jX.r_(b:La o=e):jX (.builtin "len") [.E o] g a d (.B e) d:=jL b jX.K
def jX.s_(c:d q=V (.A<|(jz.A t.1).map jG))(e:t.2<=La (jz.A t.1))(f:La (jz.A t.1)<=3):jX (.builtin "list.insert") [.A q,.B t.2,.C "."] g a d .D<|jE d q<|.A<|(jz.c_ t).map jG:=by have b:=jX.i_ (i:=g) (c:=a) (e:=jG .a_) c (jx (ab ..) e)<|jx (ab ..)<|aZ f jB;rw[<-iX,<-gy,<-bo,<-bK]at b;exact b
def Ol{c:jF->Prop}:kq c d<|jE d (.B a) O:=λb b b=>U
def Y8(f:t.2<=La (jz.A t.1))(h:La (jz.A t.1)<=3)(b:d (lZ t.1)=V (.C 100<|jz.q_ t.1 m S))(i:d (ng t)=Y)(j:d (.A 25 [t.1,t.2])=Y)(k:∀c,c (ng t)=V (.C 135<|jz.j_ t)->c (.A 25 [t.1,t.2])=V (.B [])->kq (λq=>q=ng t\/q=.A 25 [t.1,t.2]) d c->n (.A<|ng t) c):lz (.ref 135) [ln t.1,.B t.2] g (a+2) d n:=by
 refine yS jV.a_3 jV.j_ _ i U λg=>jN λl=>l b (p6 U) jV.K b .A (.E λe=>jX.q_<|mb e) (rm (jS ..) U) b (p6 U) (p6 U) (.A 25 [t.1,t.2]) (λo=>j) (rm (jS ..) U) (jS ..) (jS ..) .A (jX.s_ (jS ..) f h) jV.G (jS ..) .A (jX.I<|jS ..) (rm (jS ..) U) jV.B (jS ..) .A (jX.r_<|(ab ..).a<|Ok f) (p6 U) b (p6 U) ⟨U,k _ (jS ..) ?_ ?_⟩;.exact jS ..
 .exact .A (.B kr)<|.A Ol<|.A (.B kr)<|.A (.B<|.inr U)<|.A (.B kr)<|.A Ol<|.B kr
end
structure Y9:Prop where
 A:dk kH (.ref 100) "__len__"=V (V (.ref 83))/\iK kH (.ref 83)=V (.type "function")
def Om:Y9:=⟨wU.2.2.2.2⟩
def Fo:kb:=.L [.F Jd 17<|.C KA<|.C K6<|.J .Add Jg JX] Ka [.F Jd 17 JY]
def On:kb:=.L [.F Jd 18<|.C K6<|.J .Sub Jg JX] (.G "IndexError") [.F Jd 18 .a_]
abbrev Fp(a b:Nat)(c:jA):jP:=((((lv [.A lG]).A 1<|ln a).A 4<|.A<|.A 23 [a]).A 2 c).A 3<|.B b
section
variable{b:jA}
def jX.t_(c:La (jz.A e)<=3)(b:d (lZ e)=V (.C 100<|jz.q_ e m S)):jX (.builtin "len") [ln e] g (a+2) d (.B (La (jz.A e))) d:=⟨λ{p} f=>have h:lz (.ref 83) [ln e] g _ d λm i=>m=.B (La (jz.A e))/\p (.B (La (jz.A e))) i:=mZ jV.i_ U λg=>jN λj=>j jV.B b .A jX.J ⟨U,f⟩;⟨VB b Om.A.1 Om.A.2 (aZ c jB) U h.go⟩⟩
def Y':wP "IndexError" Ka:=.A _ "IndexError" _ "KeyError" _ _ jV.e_ jV.H U U U U U U U
def Za:wP "KeyError" Ka:=.A _ "IndexError" _ "KeyError" _ _ jV.e_ jV.H U U U U U U U
def Zb:jR:=.C KA<|.C K6<|.J .Add Jg JX
abbrev v2(t:jH)(b:jA):jP:=(Fp t.1 t.2 b).A 5<|kK t
def Oo{e:String}(f:uu Zb ⟨g,a,v2 t b,d⟩ e λc=>c=d)(h:wP e Ka)(i:d (ng t)=V (.C 135<|jz.j_ t))(j:d (.A 26 [t.1,t.2])=Y) (k:p .A (v2 t b)<|jE (jE d (.A 26 [t.1,t.2])<|.A []) (ng t)<|.C 135<|jz.j_ t++[(17,.A<|.A 26 [t.1,t.2])]):qI Fo g a (v2 t b) d p:=⟨I7 (UX U f) h λc (l:c=d)=>jL l.b<|yv<|Ig U<|Dy<|sC ⟨bT _,.A 26 [t.1,t.2],j,ps U<|Gq (ng t) 135 (jz.j_ t) U i ((uA.A 135 17 U).1) ((uA.A 135 17 U).2) (show 7<200 by decide)<|uq k⟩⟩
def Oq(a:t.2<=La (jz.A t.1)):((jz.c_ t).map jG)[t.2+1]?=(jz.C t).map jG:=by rw[ax,jz.c_,fq (by rw[dF,dx a];exact bm _),dF,dx a,gR,ie,hF];rfl
def Zc{b:Lt i}(d:b[a]?=Y):qi b (a:Int)=Y:=by unfold qi;cases e:ej _ (La b)with|none=>rfl|some f=>exact(AB e).a (λc=>a' c.1<|fS.b<|cA a) λc=>a' (cY.a c.2.1)<|cn<|bz.a d
def Ot{b:Lt i}{c:i}(d:La b=a+1)(e:b[a]?=V c):qi b (-1)=V c:=by
 unfold qi;have f:(-1:Int)+((a+1:Nat):Int)=a:=by lia
 refine jx d ?_;unfold ej;rw[aC (show(-1:Int)<0 by decide),f,aC<|jx (az ..) ⟨aD<|cA a,aD<|cY.b<|bN a⟩];exact e
def Zd(m:t.2<=La (jz.A t.1))(x:La (jz.A t.1)<=3)(n:d lG=V (.C 283 ty))(s:d Kx=V (.B<|lS 12<|jz.b_ jz.B))(u:∀e,e∈jz.b_ jz.B↔e.F=aj)(j:d (ng t)=V (.C 135<|jz.j_ t))(v:d (.A 26 [t.1,t.2])=Y) (h:∀l,l (ng t)=V (.C 135<|jz.j_ t++[(17,.A<|jz.h_ t)])->(jz.L t=aj->l (.A 26 [t.1,t.2])=V (.A []))->kq (λq=>q=ng t\/q=.A 26 [t.1,t.2]) d l->p .A (v2 t b) l):qI Fo g a (v2 t b) d p:=ka λo=>by
 have w:jz.L t=aj->p .A _ (jE _ _<|.C 135<|jz.j_ t++[(17,.A<|.A 26 [t.1,t.2])]):=λi=>h _ ((jS ..).a (by rw[jz.h_,i];rfl)) (λB=>jS d (.A 26 [t.1,t.2]) _)<|.A (.B<|.inr U)<|.B kr;cases i:jz.C t with
 |none=>
  have r:jz.L t=aj:=by rw[jz.L,i]
  have y:=Zc<|(Oq m).a<|jx i U;exact o<|Oo (UU<|nC<|jN λf=>f n<|D0<|nC<|jN λf=>f j<|nC<|jN λf=>f .A ⟨U,UY y (fk jB<|cA _)<|cY.b (aZ (bb<|aX m x) jB:t.2+1<2^63)⟩) Y' j v<|w r|some e=>
  have c:=sS<|(Oq m).a<|jx i U;by_cases k:e.F=aj;.
   have z:jz.h_ t=.A 12 [e.ctorIdx]:=by rw[jz.h_,jz.L,i];show(bif !e.F then _ else _)=_;rw[k];rfl
   have A:¬jz.L t=aj:=by rw[jz.L,i];exact λh=>a' k<|nt<|pp h
   exact o<|Fi<|jN λf=>f n j .A c (ne s (kk e)<|rn.a<|aC<|(u e).b k) (rm j U)<|h _ ((jS ..).a<|jx z U) (λh=>a' h A)<|.B kr
  .have r:jz.L t=aj:=by rw[jz.L,i];show(!e.F)=aj;rw[di.b k];rfl
   exact o<|Oo (D0<|nC<|jN λf=>f n<|nC<|jN λf=>f j .A c ⟨U,I6 s (kk e)<|rn.a<|aA λh=>k<|(u e).a h⟩) Za j v<|w r
end
def jz.u_(a:jH):Lt<|Nat×jA:=jz.j_ a++[(17,.A<|jz.h_ a),(18,jG<|jz.k_ a)]
def zv(b:Nat)(c:jF):=c=lZ b\/c=.A 23 [b]\/∃a d,(a=24\/a=25\/a=26)/\c=.A a [b,d]
def Fq(a b:Nat):jA:=if b=0 then ln a else kK (a,b-1)
def p7(b:Nat)(e:jC)(d:Nat)(c:jC):=c (lZ b)=V (.C 100<|jz.q_ b (if d=0 then .D else kK (b,0))<|.A<|.A 22 [b])/\(∀a,a+1<d->c (ng (b,a))=V (.C 135<|jz.l_ (b,a)<|kK (b,a+1)))/\(∀a,a+1=d->c (ng (b,a))=V (.C 135<|jz.u_ (b,a)))/\(∀a,a<d->c (.A 25 [b,a])=V (.B [])/\(jz.L (b,a)=aj->c (.A 26 [b,a])=V (.A [])))/\c (.A 23 [b])=V (.A<|(be d).map λa=>kK (b,a))/\(∀a,d<=a->c (ng (b,a))=Y/\c (.A 25 [b,a])=Y/\c (.A 26 [b,a])=Y)/\kq (zv b) e c
section
variable(b:p7 a d e k)
def p7.A:=b.1
def p7.D:=b.2.1
def p7.B:=b.2.2.1
def p7.E:=b.2.2.2.1
def p7.F:=b.2.2.2.2.1
def p7.G:=b.2.2.2.2.2.1
def p7.C:=b.2.2.2.2.2.2
end
section
variable{b:jA}
def xq{b:Nat}(c:a≠u):jF.A e [r,a]≠.A b [r,u]:=λd=>c (an (an (jF.A.inj d).2).2).1
theorem p7.H(j:p7 r R u d)(t:kq (λq=>q=ng (r,u)\/q=.A 25 [r,u]\/q=.A 26 [r,u]) d k)(y:k (ng (r,u))=V (.C 135<|jz.u_ (r,u)))(E:k (.A 25 [r,u])=V (.B []))(F:jz.L (r,u)=aj->k (.A 26 [r,u])=V (.A [])):∃s,oP 11 (Fq r u) (kK (r,u)) k=V s/\s (.A 23 [r])=V (.A<|(be u).map λa=>kK (r,a))/\mv (kK (r,u)) s=V aj/\p7 r R (u+1) (jE s (.A 23 [r])<|.A<|(be u).map (λa=>kK (r,a))++[kK (r,u)]):=by
 revert r u d k R;apply uc;generalize mf.1.1.1=r,mf.1.1.2=u,mf.1.2=d,mf.2.1=k,mf.2.2=R;intros;exact ka λG=>by
  have z:∀{e c},e≠24/\e≠25/\e≠26->k (.A e c)=d (.A e c):=λb=>t _ _ λl=>l.a (jJ b.1) λl=>l.a (jJ b.2.1)<|jJ b.2.2;have m:∀{e a},a≠u->k (.A e [r,a])=d (.A e [r,a]):=λb=>t _ _ λl=>l.a (xq b) λl=>l.a (xq b)<|xq b;have H:(be u).map (λa=>kK (r,a))++[kK (r,u)]=(be<|u+1).map λa=>kK (r,a):=by simp only[dL,bK];rfl
  have A:=(z jB).a j.A;have B:∀a,a<u+1->k (.A 25 [r,a])=V (.B [])/\_:=λa f=>(de<|cg f).a (λb=>have h:=j.E a b;⟨(m<|bF b).a h.1,λg=>(m<|bF b).a<|h.2 g⟩) λb=>b▸⟨E,F⟩;have v:∀a,u+1<=a->k _=Y/\k (.A 25 [r,a])=Y/\k (.A 26 [r,a])=Y:=λa f=>have i:=bi f;have h:=j.G a<|cI f;⟨(m i).a h.1,(m i).a h.2.1,(m i).a h.2.2⟩;have C:∀{n o p},n=20/\o=[r]\/n=24/\(∃a,a<u/\o=[r,a])->oP 11 _ _ k=V _->jE k (.A n o) p _=V (.C 100<|jz.q_ r (kK _)<|.A<|.A 22 [r])->(∀a,a+1<u+1->jE k (.A n o) p (ng _)=V (.C 135 _))->False:=λ{n o p} w I J K=>by have i:∀{e c},e≠20/\e≠24->jE k (.A n o) p (.A e c)=k (.A e c):=λb=>jQ _ _<|jJ<|w.a (λg=>kd g.1 b.1) λg=>kd g.1 b.2;have x:∀{a},u<=a->jE k (.A n o) p _=k (ng (r,a)):=λ{a} b=>jQ _ _<|w.a (λg=>jJ<|kd g.1 jB) λg=>g.2.a λD h=>jx h.2<|xq<|bi<|au h.1 b;exact G ⟨_,I,(i jB).a<|(z jB).a j.F,(w2<|(x<|al u).a y).a U,(jQ _ _<|jJ jB).a J,λa f=>(jQ _ _<|jJ jB).a<|K a f,λa f=>(jQ _ _<|jJ jB).a<|eO f▸(x<|al u).a y,λa f=>⟨(jQ _ _<|jJ jB).a<|(i jB).a (B a f).1,λg=>(jQ _ _<|jJ jB).a<|(i jB).a<|(B a f).2 g⟩,H▸jS ..,λa f=>⟨(jQ _ _<|jJ jB).a<|(x<|cI f).a (v a f).1,(jQ _ _<|jJ jB).a<|(i jB).a (v a f).2.1,(jQ _ _<|jJ jB).a<|(i jB).a (v a f).2.2⟩,(j.C.A<|t.D λq b=>kC<|b.a (λb=>ms 24 u kr b) λb=>b.a (λb=>ms 25 u (.inr kr) b) λb=>ms 26 u (kC U) b).A<|.A (.B<|w.a (λg=>.inl<|g.1▸jx g.2 U) λg=>g.2.a λD h=>kC<|ms 24 D kr<|g.1▸h.2▸U)<|.B<|.inr kr⟩
  cases u with
  |zero=>exact C (.inl lp) (rm A U) (jS ..) λa f=>a' f<|cn<|bb<|bT a|succ u=>
   refine C (.inr ⟨U,u,bN _,U⟩) (rm ((m<|bF<|bN u).a<|j.B u U) U) ((jQ _ _<|jJ jB).a A) λa f=>?_;rcases de<|cg<|ja f with b|b;.exact(jQ _ _<|xq<|bF b).a<|(m<|bF<|cH b).a<|j.D a<|fR b
   .exact b▸jS ..
end
def Ou:Lt kb:=[.B (.D .Gt Jg<|.H J1 [Jb]) [.A Jt .a_] [.A Jt<|.H (.G "LRItem") [Jb,Jg],Fo,On],.F Jc 11 Jd,.B (.e_ Jd) [.J] [],.E<|.F Jh 42 [Jd],.A Jv Jd,.M 3 .Add JX]
def rN(a:jC):=a lG=V (.C 283 ty)/\a Kf=V (.A<|(be jz.B).map ln)/\a Kx=V (.B<|lS 12<|jz.b_ jz.B)
section
variable(a:rN d)
def rN.A:=a.1
def rN.B:=a.2.1
def rN.C:=a.2.2
end
section
variable{b:jA}
def kw.E(b:a≠e):kw ((y.A e S).A a m)<|(y.A a m).A e S:=kd (jP.D y m S b)<|kw.A _
def zw(e:a≠20/\a≠23/\a≠24/\a≠25/\a≠26):¬zv r (.A a c):=λb=>b.a (jJ e.1) λb=>b.a (jJ e.2.1) λb=>b.a λh b=>jU b λi g f=>g.a (λd=>jJ (kd d e.2.2.1) f) λd=>d.a (λd=>jJ (kd d e.2.2.2.1) f) λd=>jJ (kd d e.2.2.2.2) f
def rN.D(a:rN d)(b:∀e c,e<=2->k (.A e c)=d (.A e c)):rN k:=⟨(b _ _ jB).a a.A,(b _ _ jB).a a.B,(b _ _ jB).a a.C⟩
def p7.I(f:p7 r R u d)(g:rN R):rN d:=g.D λe c h=>f.C _ _<|zw (have a:∀b,2<b->e≠b:=λb i=>bF<|aZ h i;(mS (a _ jB) (a _ jB) (a _ jB) (a _ jB)<|a _ jB))
abbrev B7(r:Nat)(a:Nat×jC):jP×jC:=(Fp r a.1<|Fq r a.1,a.2)
def Ze(h:t.2<=La (jz.A t.1))(i:d (ng t)=V (.C 135<|jz.j_ t++[(17,.A<|jz.h_ t)])):nw On g a (v2 t b) d (v2 t b)<|jE d (ng t)<|.C 135<|jz.u_ t:=⟨λ{p} k=>Fi<|jN λl=>l i .A ((by
 have f:=Ok h;have j:∀c,c<La (jz.c_ t)->(jz.k_ t=(jz.c_ t).getD c .a_)->_[c]?=V (jG<|jz.k_ t):=λc m e=>by exact jx (ax)<|jx e<|jx (bZ)<|jx (aq m) U
 cases e:t.2 with|zero=>exact Ot ((ab ..).a f)<|j _ (kd f<|bN _) (by rw[jz.k_,e];rfl)|succ c=>have n:((c+1:Nat):Int)-1=c:=ew (c:Int) 1;exact jx n<|sS<|j c (kd f<|cH<|Nat.lt_of_succ_le<|aX (aw e.b) h) (by rw[jz.k_,e];rfl))) (rm i U) k⟩
theorem Zf(l:rN R)(m:∀v,v∈jz.b_ jz.B↔v.F=aj)(j:La (jz.A r)<=3){f:Nat×jC}(w:f.1<=La (jz.A r)+1)(h:p7 r R f.1 f.2)(x:∀n,oP 11 (kK (r,La (jz.A r))) .D f.2=V n->f.1=La (jz.A r)+1->p .A ((Fp r f.1<|Fq r f.1).A 5 .D) n):jY g (a+3) (sP (λf=>f.1<=La (jz.A r)+1/\p7 r R f.1 f.2) (B7 r) (λD=>La (jz.A r)+2-D.1<La (jz.A r)+2-f.1) p) ((mD<|.b_ aj).B (kt Ou .A) .C) [] (B7 r f).1 (B7 r f).2:=by
 revert l m j;revert a r R g p f;apply qv;generalize kE.1.1.1=a,kE.1.1.2=r,kE.1.2=R,kE.2.1.1=g,kE.2.1.2=p,kE.2.2=f;intro w h x l m j;obtain⟨u,d⟩:=f;refine jN λb=>b .A tQ jV.B .A (jX.t_ j h.A) .C (jW.B jW.K cY) (λE b=>ka λi=>?_) λF b=>ka λi=>?_;.obtain rfl:u=La (jz.A r)+1:=cC w E;have y:oP 11 _ .D d=V _:=rm (h.B (La (jz.A r)) U) U;exact i<|b .A y .A U<|sc<|x _ y U
 .have k:=cv F;have o:=h.G u<|al _;have z:=h.I l;refine i<|b jV.a_0 .B<|Y8 k j h.A o.1 o.2.1 λG H I A=>ka λi=>?_;have s:∀{e c},e≠24/\e≠25->G (.A e c)=d (.A e c):=λb=>A _ _ λt=>t.a (jJ b.1)<|jJ b.2;refine i<|jN λb=>b .B<|Zd k j ((s jB).a z.A) ((s jB).a z.C) m H ((s jB).a o.2.2) λn J K B=>ka λi=>oe (h.H ((A.D λq b=>b.a .inl λb=>n6 b).A<|(B.D λq b=>b.a .inl λb=>kC b).A<|.B kr) (jS ..) ((jQ _ _<|jJ jB).a<|(B _ _ λt=>t.a (jJ jB)<|jJ jB).a I) λL=>(jQ _ _<|jJ jB).a<|K L) λM N C O P=>?_;exact i<|mE λb=>b .A (Ze k J) .A N .A O .A C .A (jX.A C<|jx (ab ..)<|jx (bX ..)<|aZ (aX k j) jB) (U:tv .Add (.B _) Qh=V _)<|nQ (u+1,jE M (.A 23 [r])<|.A _) ⟨bb k,P⟩ (eB (au (dA k)<|bm _)<|bN u) ((r9 U).B 2 _|>.B 3 _) U
end
def qX(a:Nat)(c:jC):=c (lZ a)=V (.C 100<|jz.f_ a)/\(∀b,b<=La (jz.A a)->c (ng (a,b))=V (.C 135<|jz.p_ (a,b)))/\(∀b,b<=La (jz.A a)->c (.A 25 [a,b])=V (.B [])/\(jz.L (a,b)=aj->c (.A 26 [a,b])=V (.A [])))/\c (.A 23 [a])=V (.A<|(be<|La (jz.A a)+1).map λb=>kK (a,b))
section
variable(b:qX a d)
def qX.B:=b.1
def qX.C:=b.2.1
def qX.A:=b.2.2.1
def qX.D:=b.2.2.2
end
def Zg:Lt kb:=[.A Jv Jb,.A Jo J3,.A Jq JY,.H (.b_ aj) Ou [],.F Jb 10 Jh]
def xr(b:Nat)(c:jF):=∃a,a<b/\zv a c
section
variable{b:Nat}{f:jA}
def Ov(a:zv u<|.A e (r::c)):r=u:=a.a (λb=>(an (jF.A.inj b).2).1) λa=>a.a (λb=>(an (jF.A.inj b).2).1) λa=>a.a λf a=>jU a λg h d=>(an (jF.A.inj d).2).1
def Ow(b:u<=r):¬xr u (.A e (r::c)):=λa=>jU a λa d f=>a' (jx (Ov f) d)<|cn b
def qX.E(a:qX r d)(b:∀e g,20<=e->e<=26->k (.A e (r::g))=d (.A e (r::g))):qX r k:=⟨(b _ _ jB jB).a a.B,λc f=>(b _ _ jB jB).a<|a.C c f,λc f=>⟨(b _ _ jB jB).a (a.A c f).1,λh=>(b _ _ jB jB).a<|(a.A c f).2 h⟩,(b _ _ jB jB).a a.D⟩
theorem Zh{j:jC->Prop}(n:nr)(t:rN d)(u:r<jz.B)(v:d (lZ r)=V (.C 100<|jz.i_ r))(m:∀e w,23<=e->e<=26->d (.A e (r::w))=Y)(x:∀k,qX r k->kq (zv r) d k->j k):jY g (a+3) (lV j (λd=>(lv [.A lG],d)) p) (kt Zg .A) [] ((lv [.A lG]).A 1<|ln r) d:=by
 revert a r d g p j;apply qv;generalize kE.1.1.1=a,kE.1.1.2=r,kE.1.2=d,kE.2.1.1=g,kE.2.1.2=p,kE.2.2=j;intros;exact ka λo=>by
  refine o<|jN λc=>c (.A 23 [r]) (λy=>m 23 _ jI jI) .B<|sQ (λh=>h.1<=La (jz.A r)+1/\p7 r d h.1 h.2) (B7 r) (λh=>La (jz.A r)+2-h.1) (0,jE d (.A 23 [r])<|.A []) ⟨bT _,m3 v (λf c=>a' c<|en _) (λf c=>a' c<|dc f) (λf c=>a' c<|en _) (jS ..) (λf y=>⟨m 24 _ jI jI,m 25 _ jI jI,m 26 _ jI jI⟩)<|.B<|.inr kr⟩ (((kw.E jI).B 3 _).D<|kw.E jI) U λh q=>Zf t n.E ((n.D r u).A) q.1 q.2 λE z A=>ka λo=>?_;obtain⟨b,B⟩:=h;subst A;have i:=q.2;have C:=aY<|(rm (q:=ng (r,La (jz.A r))) (i.B _ U) U).b.a z;subst C;have D:qX r<|jE (jE B (ng (r,La (jz.A r)))<|.C 135<|jz.l_ (r,La (jz.A r)) .D) (lZ r)<|.C 100<|jz.q_ r (kK (r,0))<|.A<|.A 23 [r]:=by
   refine mz ((jS ..).a (by rw[jz.f_,n.I];rfl)) (λf s=>(jQ _ _<|jJ jI).a ?_) (λf s=>i.E f<|dA s) i.F;rcases de s with c|c;.exact(jQ _ _<|xq<|bF c).a<|(i.D f<|fR c).a (by rw[jz.p_,jz.n_,aC c])
   .rw[c,jz.p_,jz.n_,aA<|dR _];exact jS ..
  exact o<|mE λc=>c (rm (q:=lZ r) i.A U)<|lh _ (x _ D<|i.C.A<|.A (.B<|kC<|ms 24 _ kr U)<|.B kr) (LQ U) U
def Zi(w:nr)(o:rN d)(x:∀r,r<jz.B->d (lZ r)=V (.C 100<|jz.i_ r))(y:∀e p,23<=e->e<=26->d (.A e p)=Y)(i:∀k,(∀r,r<jz.B->qX r k)->kq (xr jz.B) d k->n .D k):lz (.ref 280) [.A lG] g (a+4) d n:=mZ jV.q_ U λg=>jN λb=>b o.A .B<|nT (λu k=>(∀r,r<u->qX r k)/\kq (xr u) d k) (λs k=>(lv [.A lG],k)) d ⟨λr b=>a' b<|en _,.E⟩ (.A _) U (λu k h=>h.2.C o.B λi=>i.a λr f=>zw jB f.2) (λu E r h l=>ka λz=>by have j:=(ag.a l).1;replace j:=kg bX j;obtain rfl:u=r:=aY<|(bp j).b.a l;have m:=h.2;exact z (Zh (j:=λt=>_/\kq (xr _) d t) w (o.D λe c b=>m _ _ λi=>i.a λr f=>zw (have f:∀u,2<u->e≠u:=λu l=>bF<|aZ b l;(mS (f _ jB) (f _ jB) (f _ jB) (f _ jB)<|f _ jB)) f.2) j (m.C (x u j)<|Ow<|al _) (λe p A B=>m.C (y e _ A B)<|Ow<|al _) λt C v=>⟨λD b=>(de<|cg b).a (λb=>(h.1 D b).E λe p s s=>v _ _ λi=>bF b<|Ov i) λb=>jx b C,(m.D λq b=>b.b λi f=>⟨cH f.1,f.2⟩).A<|v.D λq b=>jO u (bN _) b⟩:)) λk h=>mE λb=>b<|i k (by rw[bX]at h;exact h.1) (by rw[bX]at h;exact h.2)
end
abbrev me:=jD->Lt jD
noncomputable def xt(a:me)(b d:jD):me:=λc=>if c=b then a b++[d]else a c
def zx(a:me):Lt jD->Nat:=eT (motive:=λb=>Nat) 0 λc b d=>11-La (a c)+d
def pD(a:me):Nat:=zx a re
def lw(f b:Nat)(c:List jD)(e:me)(h d:jC):=d (.A f [])=V (.B<|lS b c)/\(∀a∈c,d (.A b [a.ctorIdx])=V (.A<|(e a).map jG))/\(∀a,Le (e a))/\(∀a,.L∉e a)/\(∀a,a∉c->d (.A b [a.ctorIdx])=Y)/\Le c/\kq (λg=>g=.A f []\/∃i,g=.A b i) h d
section
variable{c:me}(f:lw a e b c d k)
def lw.H:=f.1
def lw.B:=f.2.1
def lw.C:=f.2.2.1
def lw.E:=f.2.2.2.1
def lw.F:=f.2.2.2.2.1
def lw.I:=f.2.2.2.2.2.1
def lw.D:=f.2.2.2.2.2.2
end
section
variable{c g:me}
def Zj(b:∀a,La (c a)<=La (g a)):∀l,zx g l<=zx c l:=eT (al _) λf e d=>bv (acm (b f) 11) d
def Zk(a:∀b,La (c b)<=La (g b))(d:La (c f)<La (g f))(e:La (g f)<=11):∀l,f∈l->zx g l<zx c l:=eT (λa=>a' a ac) λb h i j=>(ao.a j).a (λk=>Nat.add_lt_add_of_lt_of_le (jL k<|eB (au d e) d)<|Zj a h) λm=>Nat.add_lt_add_of_le_of_lt (acm (a b) 11)<|i m
def zy:xt c f s f=c f++[s]:=aC U
def B8{a:jD}(b:a≠f):xt c f s a=c a:=aA b
def Zl(d:Le (c f))(e:s∉c f):pD (xt c f s)<pD c:=by
 have a:La (xt c f s f)=La (c f)+1:=jx zy<|jx bH U;refine Zk (λg=>?_) (kd a<|bN _) (zy▸no (B3 d e)) re<|pU f;by_cases b:g=f;.exact jx b<|kd a<|bm _
 .exact jx (B8 b)<|al _
def lw.J(h:lw a e b c k d)(m:a≠e)(g:o=(c f).map jG)(p:f∉b):lw a e (b++[f]) c k<|jE (jE d (.A e [f.ctorIdx])<|.A o) (.A a [])<|.B<|lS e<|b++[f]:=⟨jS ..,λi j=>(jQ _ _<|jJ m.a).a (ka λn=>by
 subst g;by_cases g:i=f;.exact n<|jL g<|jS ..
 .exact n<|(jQ _ _<|tP g).a<|h.B i<|(bR.a j).d λl=>g<|ak.a l),h.C,h.E,λi j=>(jQ _ _<|jJ m.a).a<|(jQ _ _<|tP λg=>j<|bP _<|ak.b g).a<|h.F i λl=>j<|bM _ l,B3 h.I p,h.D.A<|.A (.B<|.inr ⟨_,U⟩)<|.B kr⟩
def lw.d_(i:lw a e b c k d)(m:a≠e)(n:f∈b)(o:s∉c f)(p:s≠.L):lw a e b (xt c f s) k<|jE d (.A e [f.ctorIdx])<|.A<|(c f).map jG++[jG s]:=⟨(jQ _ _<|jJ m).a i.H,λg j=>ka λl=>by
 by_cases h:g=f;.exact l<|jx h<|(jS ..).a (by simp only[zy,bK];rfl)
 .exact l<|(jQ _ _<|tP h).a<|(i.B g j).a<|jx (B8 h) U,λg=>ka λl=>by
 by_cases h:g=f;.exact l<|jx h<|kd zy<|B3 (i.C f) o
 .exact l<|kd (B8 h)<|i.C g,λg j=>by
 by_cases h:g=f;.rw[h,zy]at j;exact(bR.a j).a (i.E f) λq=>p (ak.a q).b
 .rw[B8 h]at j;exact i.E g j,λg j=>(jQ _ _<|tP λh=>j<|kg (show f=g from h.b) n).a<|i.F g j,i.I,i.D.A<|.B<|.inr ⟨_,U⟩⟩
def lw.M(f:lw a e b c k d)(g:l=b):lw a e l c k d:=jx g f
def lw.e_(f:lw a e b c k d):lw a e b c k<|ks d O:=m3 f.H f.B f.C f.E f.F f.I<|f.D.A .F
def lw.G(g:lw a e b c k d)(h:f∈b):mY (.A<|.A a []) (jG f) d=V (.A<|.A e [f.ctorIdx]):=ne g.H (kk f)<|rn.a<|aC h
end
section
variable{b c:jP}{e:kM}{f:jR}{h i:Lt kb}
def Zm(w:nB f g a y d λn l=>n=.E (m::o)/\l=d)(x:mu e m y=V b)(z:jY g a (λr q l=>r=.C/\q=c/\l=k) (kt h .A) [] b d):nw (.C e f h i) g a y d c k:=⟨λ{p} s=>⟨AK<|wF<|(nC w).A λn l t=>⟨r3,sG _,jx t.1 AM,λC u v=>u=0/\v.E=y/\v.A=d,0,pR e,lj U U t.2,λD u q A j=>⟨V m,jx j.1 U,λj=>a' j jB,λn B=>⟨b,aY B▸jx (show q=y from j.2.1) x,by obtain rfl:A=d:=j.2.2;exact(sN<|sM h z).B λr y d s=>by obtain⟨rfl,rfl,rfl⟩:=s;assumption⟩⟩⟩⟩⟩
def Zn(q:nB f g a y d λb j=>b=.E []/\j=d)(r:∀{p:kl},p .A c k->jY g a p (kt i .A) [] y d):nw (.C e f h i) g a y d c k:=⟨λs=>⟨AK<|wF<|(nC q).A λb j l=>⟨r3,sG [],jx l.1 AM,λt m n=>m=0/\n.E=y/\n.A=d,0,pR e,lj U U l.2,λx m u v o=>⟨Y,U,λt=>by obtain rfl:v=d:=o.2.2;obtain rfl:u=y:=o.2.1;exact sN<|sM i<|r s,λb w=>kh w⟩⟩⟩⟩
end
section
variable{c:me}
def Zo:Lt kb:=[.B (.D .Eq Jd KL) [.A Jq<|.b_ aj] [.B (.D .NotIn Jd Jc) [.E<|.F Jc 42 [Jd]] []]]
def Ox{a:km}:jE (ks d O) (.B<|mH d) a=ks d a:=o3 ..
abbrev Zp(f:jD)(l:Lt jD)(d:jC):jP:=(((lv [.A lG,.E<|(f::l).map jG]).A 2<|.A<|.B<|mH d).A 3<|jG f).A 4<|.F ah
def Oy(v:d lG=V (.C 283 ty))(j:lw 6 27 b c k d)(o:f∈b):jX (.ref 258) [.A lG,.E<|(f::l).map jG] g (a+1) d (.A<|.B<|mH d)<|ks d<|.A<|((c f).foldl kN []).map jG:=⟨λ{A} w=>by
 have y:=λ{g}=>by
  have p:=o7 (i:=g) (c:=a) (e:=Zo) (y:=.A 5) (Z:=Zp f l d) (X:=.A 27 [f.ctorIdx]) (λi=>ks d<|.A<|((Ll i<|c f).foldl kN []).map jG) U (λq=>j.B f o) (.A _) λi r s=>by have t:=rF (f:=kN) (λq q=>tA) (Ll i<|c f) [] .nil;refine jx (n3 s) ?_;generalize(Ll i<|c f).foldl kN []=u at t⊢;have m:ks d (.A _) (.B _)=V (.A<|u.map jG):=jS ..;exact jN λe=>e .A ((jW.C (kk r)<|kk .L).A<|aG λz=>j.E f<|kg (m'.a z)<|aa s) .C ((jW.F m (oA u)<|kk r).B uH|>.E) (λh e=>e m .A (jX.A m<|jx (ab ..)<|aZ (no t) jB) .A .A ⟨lE U,Ox.a (by simp only[Ob h,bK];rfl)⟩) λh e=>e .A .A ⟨lE U,jx (Oa<|cB.a h) U⟩
  simp only[bI]at p;exact p
 exact mZ jV.I U λg=>jN λe=>e (.B _) (λh=>mb h) .A (Zm (jN λe=>e lp) U<|jN λe=>e v (j.G o) .A y .A tQ<|lj U U U) w⟩
def Zq:jX (.ref 258) [.A lG,.E []] g (a+1) d (.A<|.B<|mH d)<|ks d<|.A [jG .L]:=⟨λ{e} c=>mZ jV.I U λg=>jN λb=>b (.B _) (λf=>mb f) .A (Zn (jN λb=>b lp) λc=>jN λb=>b (jS ..) .A (jX.A (jS ..) (show 0<16777216 by decide)) c)<|(aB (λh=>e _ h)<|Ox).mpr c⟩
end
def nH(a:jC):=a lG=V (.C 283 ty)/\a Kf=V (.A<|(be jz.B).map ln)/\a Kx=V (.B<|lS 12<|jz.b_ jz.B)/\(∀c∈jz.b_ jz.B,a (.A 12 [c.ctorIdx])=V (.A<|(jz.g_ c).map ln))/\a Ko=V (.B<|lS 10 qW)/\a KE=V (.B<|lS 11<|jz.H jz.B)/\∀b,b<jz.B->a (lZ b)=V (.C 100<|jz.f_ b)
section
variable(a:nH d)
def nH.A:=a.1
def nH.D:=a.2.1
def nH.H:=a.2.2.1
def nH.F:=a.2.2.2.1
def nH.G:=a.2.2.2.2.1
def nH.C:=a.2.2.2.2.2.1
def nH.B:=a.2.2.2.2.2.2
end
def xu(a:Nat):Bool:=cK a 5||a.beq 12||a.beq 20
def nH.E(a:nH d)(b:∀c f,xu c=aj->k (.A c f)=d (.A c f)):nH k:=m3 ((b _ _ U).a a.A) ((b _ _ U).a a.D) ((b _ _ U).a a.H) (λg e=>(b _ _ U).a<|a.F g e) ((b _ _ U).a a.G) ((b _ _ U).a a.C) λh e=>(b _ _ U).a<|a.B h e
def v4(b:xu a=aj)(c:xu e=ah):a≠e:=λd=>av<|c.b.a<|jL d b
def lw.A{g:me}(h:lw a e b g d k)(i:nH d)(j:xu a=ah)(l:xu e=ah):nH k:=i.E λn m f=>h.D _ _ λc=>c.a (jJ<|v4 f j) λc=>c.a λm c=>jJ (v4 f l) c
def mQ(c d:Nat)(e:List jD)(b:me)(f:jC)(a:Bool×me×jC):=lw c d e a.2.1 f a.2.2/\pD a.2.1<=pD b/\(a.1=aj->pD a.2.1<pD b)
section
variable{c:me}{f:Bool×me×jC}(g:mQ a e b c d f)
def mQ.A:=g.1
def mQ.D:=g.2.1
def mQ.B:=g.2.2
end
section
variable{c h:me}{i:Bool×me×jC}
def Zr{b c:jA}(d:e≠a)(f:r≠a):(((y.A a m).A e S).A r b).A a c=((y.A a c).A e S).A r b:=jx (jP.D _ _ _ f)<|jx (jP.D _ _ _ d)<|jx xb U
def mQ.C(a:mQ e r b h k i)(g:e≠r)(j:f∈b)(c:s∉i.2.1 f)(l:s≠.L):mQ e r b h k (aj,xt i.2.1 f s,jE i.2.2 (.A r [f.ctorIdx])<|.A<|(i.2.1 f).map jG++[jG s]):=have d:=au (Zl (a.A.C f) c) a.D;⟨a.A.d_ g j c l,bL d,λm=>d⟩
def mQ.E(a:mQ e r b h k i):mQ e r b h k (i.1,i.2.1,Internal.ks i.2.2 O):=lj a.A.e_ a.D a.B
def Oz:Lt kb:=[.C Jq (.C KA Jc) [.C Jt Qk [.B (.D .NotIn Jd<|.C Kj Jc) [.E<|.F (.C Kj Jc) 42 [Jd],.A Jo<|.b_ aj] []] []] []]
abbrev xv(a:Bool):jP:=(lv [.A lG]).A 3<|.F a
abbrev OA(i:Bool×me×jC):jP×jC:=(xv i.1,i.2.2)
def Zs{w:Bool×me×jC->Prop}(B:nr)(x:nH k)(r:mQ 6 27 b h k i)(o:f∈b)(y:u<jz.B)(C:∀t∈jz.A u,t∈b)(D:∀z,mQ 6 27 b h k z->w z):jY g (a+1) (lV w (λi=>((xv i.1).A 2<|jG f,i.2.2)) p) (kt [.C Jt Qk [.B (.D .NotIn Jd<|.C Kj Jc) [.E<|.F (.C Kj Jc) 42 [Jd],.A Jo<|.b_ aj] []] []] .A) [] (((xv i.1).A 2<|jG f).A 4<|ln u) i.2.2:=ka λE=>by have v:=r.A.A x U U;cases q:jz.A u with|nil=>exact((B.D u y).B) q|cons t l=>refine E<|jN λm=>m v.A (v.B u y) .A (q▸Oy v.A r.A (C t<|q▸ae)) .B<|nT (λF n=>mQ 6 27 b h k n/\n.2.2 (.B _)=V (.A _)) (λF n=>(((xv n.1).A 2 _).A 4 _,n.2.2)) (i.1,i.2.1,ks i.2.2<|.A _) ⟨r.E,jS ..⟩ (.A _) U (λG n c=>c.2) (λG n s c H=>?_) λn c=>mE λm=>m<|lh n (D n c.1) (lE U) U;have A:=c.1.A.A x U U;refine jN λm=>m A.A (c.1.A.G o) .C ((jW.F (c.1.A.B f o) (oA _)<|kk s).B uH|>.E) (λe m=>m A.A (c.1.A.G o) (c.1.A.B f o) .A (jX.A (c.1.A.B f o)<|jx (ab ..)<|aZ (no<|c.1.A.C f) jB) .A<|lh _ ⟨c.1.C jB o e λq=>r.A.E t<|kg q (have m:=aa H;(qO.a m).a (λm=>a' m ac) id),c.2⟩ ?_ U) λe m=>m .A<|lh n c (lE U) U;exact jL (Zr (a:=3) (e:=2) (r:=4) (c:=.F aj) jB jB)<|(lE U).B 3 _
end
def pE:Lt jD:=(qW++[.C])++jz.H jz.B
def s1:me:=λa=>if a.F=aj\/a=.L then[]else[a]
def Zt(a:f.F=aj):s1 f=[]:=aC<|.inl a
def Zu(a:f∈qW):s1 f=[f]:=aA (by cases f<;>first|decide|exact a' a jB)
section
variable{c h:me}{i:Bool×me×jC}{j:Nat}
def lw.K(a:lw e r b c k d)(g:e≠r)(j:o=(c f).map jG)(h:f∉b):qK (.A<|.A e []) (jG f) (.A<|.A r [f.ctorIdx]) (jE d (.A r [f.ctorIdx])<|.A o)=V (jE (jE d (.A r [f.ctorIdx])<|.A o) (.A e [])<|.B<|lS r<|b++[f]):=(lN ((jQ _ _<|jJ g).a a.H) (kk f)<|B2 a.I).a<|aB (λi=>V<|jE _ (.A e [])<|.B i)<|xp h
def lw.a_(a:l[u]?=V f)(g:lw e r (b++(Ll u l++[f])) c k d):lw e r (b++Ll (u+1) l) c k d:=jx (nN a) g
def OB:Le (jz.H a):=rF (λl j b=>by
 split;.exact b
 .exact rF (λc c=>E8) _ _<|tA b) (be a) [] .nil
def Zv{m:Bool×me×jC->Prop}(e:nr)(l:nH k)(n:mQ 6 27 pE h k i)(o:f∈jz.H jz.B)(w:∀j,j<jz.B->∀x∈jz.A j,x∈pE)(y:∀q,mQ 6 27 pE h k q->m q):jY g (a+1) (lV m OA p) (kt Oz .A) [] ((xv i.1).A 2<|jG f) i.2.2:=by have r:=n.A.A l U U;have s:=(e.E f).b<|(e.C f).a o;exact jN λc=>c r.A (ne r.H (kk f)<|rn.a<|aC s) .B<|nT (λt b=>mQ 6 27 _ h k b) (λt b=>((xv b.1).A 2 _,b.2.2)) i n (.A _) U (λu b d=>(d.A.A l U U).F f s) (λu b j d v=>(Zs e l d (bP _ o) (bj.a (ar.a<|aa v).1) (w j<|bj.a (ar.a<|aa v).1) (λt c=>c):)) λb d=>mE λc=>c<|lh b (y b d) (lE U) U
def Zw(D:nr)(k:nH d)(H:∀j,j<jz.B->∀z∈jz.A j,z∈pE)(E:d (.A 6 [])=V (.B []))(J:∀K,d (.A 27 K)=Y)(A:∀c h,lw 6 27 pE c d h->n (nD 6) h):lz (.ref 265) [.A lG] g (a+2) d n:=ka λm=>by
 have L:lw 6 27 [] s1 d d:=⟨E,λf b=>a' b ac,λf=>by unfold s1;split<;>simp,λf b=>by
  unfold s1 at b;split at b;.exact a' b ac
  .exact a' (Or.inr (ak.a b).b) ‹_›,λf p=>J _,.nil,.E⟩;have M:Le qW:=by decide
 refine m<|mZ jV.o_ U λg=>jN λb=>b k.A .A (w1 E) .A k.A .B<|uG (u:=jG) (λu h=>lw 6 27 ([]++Ll u qW) s1 d h) (λp h=>(lv [.A lG],h)) d L (.A _) U (λu h e=>jO _ ((e.A k U U).G) (by unfold lS;rw[bY];rfl)) (λu h f e o=>?_) λQ e=>ka λm=>?_;.have q:=BX M o;have r:=Zu<|aa o;have w:[jG f]=(s1 f).map jG:=jx r U;have x:=e.J jI w q;exact jN λb=>b (.A 27 [f.ctorIdx]) (λp=>e.F f q) (e.A k U U).A (e.K jI w q)<|lh _ (lw.a_ o x) (lE U) U
 have y:=e;have B:.C∉qW:=by decide
 have x:=y.J jI U B;refine m<|mE λb=>b (.A 27 [8]) (λp=>y.F .C B) (y.A k U U).A (y.K (f:=.C) jI U B) (x.A k U U).A .B<|uG (u:=jG) (λu h=>lw 6 27 ((qW++[.C])++Ll u (jz.H jz.B)) s1 d h) (λp h=>(lv [.A lG],h)) _ (x.M<|bQ _) (.A _) U (λu h e=>jO _ ((e.A k U U).C) (by unfold lS;rw[bY];rfl)) (λu h f e o=>?_) λN F=>ka λm=>?_;.have G:=(D.C f).a<|aa o;have q:f∉(qW++[.C])++Ll u (jz.H jz.B):=λC=>(bR.a C).a (λC=>by cases f<;>first|exact a' G jI|exact a' C jI) (BX (OB) o);have w:([]:Lt jA)=(s1 f).map jG:=jx (Zt G) U;exact jN λb=>b (.A 27 [f.ctorIdx]) (λp=>e.F f q) (e.A k U U).A (e.K jI w q)<|lh _ (lw.a_ o<|(e.J jI w q).M (bw ..).b) (lE U) U
 rw[bI]at F;have z:∀{g:jT}{n:kl}(i:me×jC),lw 6 27 _ i.1 d i.2->(∀c h,lw 6 27 _ c d h->n .A _ h)->jY g (a+1) (sP (λi=>lw 6 27 _ i.1 d i.2) (λi:me×jC=>(lv [.A lG],i.2)) (λO=>pD O.1<pD i.1) n) ((mD<|.b_ aj).B (kt [.A Jo<|.b_ ah,.C Jv Kb Oz [],.B Qv [.J] []] .A) .C) [] (lv [.A lG]) i.2:=λ{g n} i e A=>ka λm=>by refine m<|jN λb=>b .A tQ (e.A k U U).A .B<|uG (X:=.A 5 []) (j:=jz.H jz.B) (u:=jG) (λp t=>mQ 6 27 pE i.1 d t) (λp t=>OA t) (ah,i.1,i.2) ⟨e,al _,λr=>lf r⟩ (.A _) U (λu t v=>jO _ ((v.A.A k U U).C) (by unfold lS;rw[bY];rfl)) (λu t f v o=>(Zv D k v (aa o) H (λp b=>b):)) λt v=>ka λm=>?_;obtain⟨P,c,h⟩:=t;exact m<|mE λb=>b .E tQ (λr b=>b .A<|nQ (c,h) v.A (v.B r) (lE U) U) λr b=>b<|sc<|jL (show ah=P from r.b)<|A c h v.A
 refine m<|mE λb=>b .B<|sQ (a:=me×jC) (λi=>lw 6 27 pE i.1 d i.2) (λi=>(lv [.A lG],i.2)) (λi=>pD i.1) (s1,N) F (.A _) U λi e=>z i e λc h e=>mE λb=>b (e.A k U U).A<|A c h e
end
abbrev s2:jP:=(lv [.A lG,.D]).A 1<|jG .D
abbrev Zx(a b:Nat)(c:jD)(d:Nat):jP:=(((s2.A 4<|ln a).A 5<|.B b).A 6<|jG c).A 7<|.A<|.B d
abbrev u2(a b:Nat)(c:jD)(d:Nat)(e f:Bool):jP:=((Zx a b c d).A 8<|.F f).A 3<|.F e
def OC:Lt kb:=[.B (.f_ [.D .NotEq Jf KL,.D .NotIn Jf<|.C Ke Jj]) [.E<|.F (.C Ke Jj) 42 [Jf],.A Jo<|.b_ aj] [],.B (.D .Eq Jf KL) [.A Jx<|.b_ aj] []]
def Fs:Lt kb:=[.B (.D .NotIn Jf<|.C Ke Jj) [.E<|.F (.C Ke Jj) 42 [Jf],.A Jo<|.b_ aj] []]
section
variable{c h:me}{i:Bool×me×jC}
def kw.F{a:jP}(b:y=a):kw y a:=kg b<|kw.A _
def OD(a:mQ 7 28 b h k i)(c:f∈b):jW .NotIn (jG s) (.A<|.A 28 [f.ctorIdx]) i.2.2<|ba<|s∉i.2.1 f:=(jW.F (a.A.B f c) (oA _)<|kk s).B uH|>.E
def OE(c:mQ 7 28 b h k i)(d:f∈b):jX (.builtin "list.append") [.A<|.A 28 [f.ctorIdx],jG s] g a i.2.2 .D<|jE i.2.2 (.A 28 [f.ctorIdx])<|.A<|(i.2.1 f).map jG++[jG s]:=jX.A (c.A.B f d)<|jx (ab ..)<|aZ (no<|c.A.C f) jB
def Zy{t:(Bool×me×jC)×Bool->Prop}(A:nH k)(c:mQ 7 28 b h k i)(m:f∈b)(j:∀o B,mQ 7 28 b h k o->o.2.2 (.B u)=i.2.2 (.B u)->t (o,B)):jY g a (lV t (λq=>(u2 e r f u q.1.1 q.2,q.1.2.2)) p) (kt OC .A) [] ((u2 e r f u i.1 w).A 9<|jG s) i.2.2:=ka λv=>by
 have x:=c.A.A A U U;by_cases n:s=.L;.exact v<|jN λl=>l .A ((jW.G (kk s)<|kk .L).A<|aG λj=>j<|jx n U) .A .A ((jW.C (kk s)<|kk .L).A<|aD<|jx n U) .A<|lh _ (j i aj c U) ((kw.F<|jP.D _ (.F aj) (.F i.1) jB).D<|(((lE U).B 3 _).C U).B 8 _) U
 .have C:jW .NotEq _ (.C "<empty>") i.2.2 aj:=(jW.G (kk s)<|kk .L).A<|aD λj=>n<|m'.a j;have y:∀{d},jW .Eq _ (.C "<empty>") d ah:=(jW.C (kk s)<|kk .L).A<|aG λj=>n<|m'.a j;exact v<|jN λl=>l .A C x.A (c.A.G m) .C (OD c m) (λz l=>l x.A (c.A.G m) (c.A.B f m) .A (OE c m) .A .A y .A<|lh _ (j _ w (c.C jB m z n) U) ((mC U).B 3 _) U) λz l=>l .A .A y .A<|lh _ (j i w c U) (lE U) U
def Zz{l:Bool×me×jC->Prop}(v:nH k)(c:mQ 7 28 b h k i)(d:f∈b)(x:s≠.L)(m:∀n,mQ 7 28 b h k n->l n):jY g a (lV l (λo=>(u2 e r f u o.1 w,o.2.2)) p) (kt Fs .A) [] ((u2 e r f u i.1 w).A 9<|jG s) i.2.2:=have q:=c.A.A v U U;jN λj=>j q.A (c.A.G d) .C (OD c d) (λt j=>j q.A (c.A.G d) (c.A.B f d) .A (OE c d) .A<|lh _ (m _<|c.C jB d t x) ((mC U).B 3 _) U) λt j=>j .A<|lh i (m i c) (lE U) U
end
def Ft:Lt kb:=[.B (.D .In Jj Kb) [.A Jz<|.F Ja 55 [.j_ (.B Jh 1) (.J .Add Jd JX) .a_],.A Jx<|.b_ ah,.C JB Jl OC [],.B (.g_ [Jk,.D .Eq Jd<|.J .Sub (.H J1 [.B Jh 1]) JX]) [.C JB (.C Ke<|.B Jh 0) Fs []] []] []]
section
variable{c h i:me}{j:Bool×me×jC}
def ZA(e:d lG=V (.C 283 ty))(f:lw 6 27 b i d d)(h:∀c∈l,c∈b):∃j:Lt jD,∀{g:jT}{a:Nat},jX (.ref 258) [.A lG,.E<|l.map jG] g (a+1) d (.A<|.B<|mH d)<|ks d<|.A<|j.map jG:=by cases l with|nil=>exact⟨[.L],λ{g a}=>Zq⟩|cons c k=>exact⟨_,λ{g a}=>Oy e f<|h c ae⟩
def lw.b_(j:lw 6 27 b i k k)(p:kq (λl=>l=.A a []\/∃g,l=.A e g) k d)(m:a≠6/\a≠27/\e≠6/\e≠27):lw 6 27 b i d d:=have n:∀{u g},u=6\/u=27->d (.A u g)=k (.A u g):=λ{u g} h=>p _ _ λc=>h.a (λh=>c.a (jJ<|h▸m.1.a) λc=>c.a λg c=>jJ (h▸m.2.2.1.a) c) λh=>c.a (jJ<|h▸m.2.1.a) λc=>c.a λg c=>jJ (h▸m.2.2.2.a) c;(m3 ((n kr).a j.H) (λf o=>(n<|.inr U).a<|j.B f o) j.C j.E (λf o=>(n<|.inr U).a<|j.F f o) j.I .E)
def ZB{c:ky}{b:Lt jA}(e:1<=r)(f:r<=La b)(h:jY g a p c (.E (Lm r b)::o) y d):jY g a p (.K c) (.D::.B r::.E b::o) y d:=λi=>lP (V _) Y (.inr<|jO _ U U) (.inl lp)<|.inr<|x8 b r U U U e f h
def ZC{a b c d:jA}:(((((y.A 3 m).A 4 S).A 5 a).A 6 b).A 7 c).A 8 d=(((((y.A 4 S).A 5 a).A 6 b).A 7 c).A 8 d).A 3 m:=by exact jx (jP.D y m S jB)<|jx (jP.D _ m a jB)<|jx (jP.D _ m b jB)<|jx (jP.D _ m c jB)<|jx (jP.D _ m d jB) U
def ZD{F:Bool×me×jC->Prop}(R:nr)(A:nH k)(L:lw 6 27 pE i k k)(c:mQ 7 28 (jz.H jz.B) h k j)(B:e<jz.B)(C:jz.D e∈jz.H jz.B)(M:∀D∈jz.A e,D∈pE)(N:(jz.A e)[r]?=V f)(q:∀d,mQ 7 28 (jz.H jz.B) h k d->F d):jY g (a+1) (lV F (λj=>((s2.A 3<|.F j.1).A 4<|ln e,j.2.2)) p) (kt Ft .A) [] ((((s2.A 3<|.F j.1).A 4<|ln e).A 5<|.B r).A 6<|jG f) j.2.2:=ka λt=>by
 have v:=c.A.A A U U;have O:jW .In _ (.A KE) j.2.2<|ba _:=(jW.D v.C<|kk f).A (by
  rw[rn];by_cases b:f∈jz.H jz.B;.rw[aC b,aD b];rfl
  .rw[aA b,aG b];rfl);obtain⟨Q,G⟩:=ZA v.A (L.b_ c.A.D jB) λD x=>M D<|gi x;rw[gy]at G;refine t<|jN λb=>b v.A .C O (λx b=>b v.A (v.B e B) .A .B<|ZB (cM ..) (kd (ab ..)<|(ag.a N).1)<|ka λt=>?_) λx b=>b .A<|lh j (q j c) (mC U) U;have H:∀{g a u}{p:kl}{j w},mQ 7 28 _ h k j->(∀d,mQ 7 28 _ h k d->p .A (u2 e r f u d.1 w) d.2.2)->oi _ JB Fs g a _ j.2.2 p:=λ{g a u p j w} c q=>En (λn j=>mQ 7 28 _ h k j) (λn j=>(u2 e r f u j.1 w,j.2.2)) (λn j=>j.2.1 _) 11 j c (.A _) U (λn j c=>c.A.B _ C) (λr j c b=>au b<|no<|c.A.C _) (λI j s c J=>(Zz A c x (λo=>c.A.E (jz.D e)<|kg o<|aa J) (λn b=>b):)) λI j n c n=>q j c;have E:∀{d:Bool×me×jC}{u w}{K:jP},kw (u2 e r f u d.1 w) K->kw _ K:=λb=>(kw.F<|jP.D s2 (.F _) _ jB).D<|((wY U).B 3 _).D b;refine t<|jN λb=>b .A G .B<|nT (λn l=>mQ 7 28 _ h k l.1/\l.1.2.2 (.B<|mH j.2.2)=V (.A<|Q.map jG)) (λn l=>(u2 e r f _ l.1.1 l.2,l.1.2.2)) ((j.1,j.2.1,ks j.2.2<|.A _),ah) ⟨c.E,jS ..⟩ (kw.F ZC.b) U (λn l m=>m.2) (λI l s (m:mQ 7 28 _ h k l.1/\l.1.2.2 (.B _)=V (.A _)) J=>(Zy (t:=λl=>mQ 7 28 _ h k l.1/\l.1.2.2 (.B _)=V (.A _)) A m.1 x (λd S y o=>⟨y,o.a m.2⟩):)) λl m=>ka λt=>?_;have z:=m.1.A.A A U U;exact t<|mE λb=>b .E tQ (λo b=>b z.A (z.B e B) (m.1.A.G C) .B<|H m.1 λd y=>mE λb=>b .A .A<|lh d (q d y) (E<|.A _) U) λo b=>b jV.B (z.B e B) .A jX.J .A .E (jW.C U U) (λo b=>b z.A (z.B e B) (m.1.A.G C) .B<|H m.1 λd y=>mE λb=>b .A .A<|lh d (q d y) (E<|.A _) U) λo b=>b .A .A<|lh l.1 (q _ m.1) (E<|.A _) U
end
section
variable{c h j:me}{m:Bool×me×jC}{o:kM}{q:Lt kb}
def ZE{f:List N}{u:N->jA}(h:Nat->i->Prop)(c:Nat->i->jP×jC)(k:i)(z:h 0 k)(A:kw (c 0 k).1 y)(B:d=(c 0 k).2)(C:∀v D,nb o D v->qH v) (E:∀r b m,h r b->f[r]?=V m->kA False (λF=>jY g a (lV (h<|r+1) (c<|r+1) p) (kt q .A) [] F (c r b).2) (mu o (r4 (.B r)<|u m) (c r b).1)) (G:∀b,h (La f) b->p .A (c (La f) b).1 (c (La f) b).2):oi (ra g (.type "enumerate") [.E<|f.map u] d) o q g a y d p:=⟨_,_,TV,wZ h c (λr w=>_[r]?) (La f) k z A B C (λr b j=>Be U) (λr b H j l=>y5 l λI n w=>oR n λm s w=>(ag.a s).1) (λr b H j l=>y5 l λI n t=>oR n λm s J=>t▸J▸E r b m j s) λr b j e t=>by have x:=bz.a t;simp only[uF,hE,ab]at x;obtain rfl:r=La f:=cC j x;exact G b e⟩
def ZF{d:Bool×me×jC->Prop}(q:nr)(i:nH k)(s:lw 6 27 pE j k k)(b:mQ 7 28 (jz.H jz.B) h k m)(l:e<jz.B)(t:jz.D e∈jz.H jz.B)(u:∀v∈jz.A e,v∈pE)(w:∀n,mQ 7 28 (jz.H jz.B) h k n->d n):jY g (a+1) (lV d (λm=>(s2.A 3<|.F m.1,m.2.2)) p) (kt [.C (.B [Jt,Jy]) (.H Kd [.B Jh 1]) Ft []] .A) [] ((s2.A 3<|.F m.1).A 4<|ln e) m.2.2:=jN λc=>c jV.D ((b.A.A i U U).B e l) .B<|ZE (λo m=>mQ 7 28 _ h k m) (λo m=>((s2.A 3<|.F m.1).A 4 _,m.2.2)) m b (.A _) U wJ (λr m f b x=>(ZD q i s b l t u x (λo c=>c):)) λm b=>mE λc=>c<|lh m (w m b) (lE U) U
def lw.c_(f:lw a e b c k d):lw a e b c d d:=m3 f.H f.B f.C f.E f.F f.I .E
def lw.L(g:lw a e b c d d)(k:R (.A a [])=d (.A a []))(i:∀j,R (.A e j)=d (.A e j)):lw a e b c R R:=m3 (k.a g.H) (λf h=>(i _).a<|g.B f h) g.C g.E (λf h=>(i _).a<|g.F f h) g.I .E
structure Fu(j:me)(k:jC)(a:me×jC):Prop where
 B:lw 7 28 (jz.H jz.B) a.1 a.2 a.2
 C:nH a.2
 D:lw 6 27 (pE) j a.2 a.2
 A:∀D,D<=pD a.1->a.2 (.A 38 [D])=Y
 E:kq (λl=>l=.A 7 []\/∃b d,(b=28\/b=29\/b=38)/\l=.A b d) k a.2
abbrev B9(a:me×jC):jP×jC:=(s2,a.2)
def ZG:Lt kb:=[.A Jo<|.b_ ah,.C Jq (.j_ KO JX .a_) [.C (.B [Jt,Jy]) (.H Kd [.B Jh 1]) Ft []] [],.B Qv [.J] []]
def ZH{d:me×jC}(B:nr)(s:Fu j k d)(J:∀e,e<jz.B->e≠0->jz.D e∈jz.H jz.B)(K:∀e,e<jz.B->∀L∈jz.A e,L∈pE)(o:∀t,nH t->kq (λl=>l=.A 7 []\/∃f i,(f=28\/f=29\/f=38)/\l=.A f i) k t->p .A (s2.A 3<|.F ah) t):jY g (a+1) (sP (Fu j k) B9 (λM=>pD M.1<pD d.1) p) ((mD<|.b_ aj).B (kt ZG .A) .C) [] (B9 d).1 (B9 d).2:=ka λx=>by
 have y:=s.C;have u:∀{f i},f≠38->jE d.2 (.A 38 [pD d.1]) (.A<|((be jz.B).map ln).drop 1) (.A f i)=d.2 (.A f i):=λb=>jQ _ _<|jJ b;have C:=y.E λf i b=>u<|v4 b U;have D:=s.D.L (u jB) λv=>u jB;have E:∀{f i},f≠7/\f≠28->¬(jF.A f i=.A 7 []\/∃N,jF.A f i=.A 28 N):=λb o=>o.a (jJ b.1) λo=>o.a λi o=>jJ b.2 o;refine x<|jN λb=>b .A tQ y.A .A y.D (M2 (by simp only[ab,bX];exact cP B.A)) (.A 38 [pD d.1]) (λv=>s.A _<|al _) .B<|nT (λv m=>mQ 7 28 _ d.1 (jE d.2 (.A 38 [pD d.1])<|.A _) m) (λv m=>(s2.A 3<|.F m.1,m.2.2)) (ah,d.1,jE d.2 (.A 38 [pD d.1])<|.A _) (lj (s.B.L (u jB) λv=>u jB) (al _) λn=>lf n) (.A _) U (λr m h=>(h.A.D _ _<|E jB).a<|(jS ..).a<|jx gy.b U) (λr m e h O=>?_) λm h=>ka λx=>?_;.
  have F:=aa O;have z:=bj.a<|gi F;have P:e≠0:=λn=>by obtain⟨A,q⟩:=cF.a F;rw[hF]at q;have G:=(ag.a q).1;rw[bX]at G;rw[bp G]at q;exact a' ((aY q).a n)<|bi<|au jB<|bd 1 A
  exact(ZF B C D h z (J e z P) (K e z) (λv b=>b):)
 .obtain⟨w,c,t⟩:=m;have H:=s.E.A<|.A (.B<|.inr<|ms 38 _ (kC U) U)<|h.A.D.D λl b=>b.c id λb=>b.a λi b=>ms 28 i kr b;have I:=h.A.A C U U;exact x<|mE λb=>b .E tQ (λn b=>b .A<|nQ (c,t) ⟨h.A.c_,I,D.b_ h.A.D jB,λA q=>(h.A.D _ _<|E jB).a<|(jQ _ _<|sf<|bF<|aZ q<|h.B n).a<|s.A A<|bL<|aZ q<|h.B n,H⟩ (h.B n) (lE U) U) λn b=>b<|sc<|jL (n.b)<|o t I H
end
noncomputable def tR(a:jD):jF:=if a=.D then .A 29 []else .A 28 [a.ctorIdx]
def v5(b:Lt jD):Lt<|jA×jA:=b.map λa=>(jG a,.A<|tR a)
def v6:me:=λa=>if a=.D then[.C]else[]
abbrev zz(b:jF):=b=.A 7 []\/∃a c,(a=28\/a=29\/a=38)/\b=.A a c
def qY(c:Lt jD)(d a:jC):=a Kp=V (.B<|v5 c)/\(∀b∈c,b≠.D->a (.A 28 [b.ctorIdx])=V (.A []))/\(∀b,b∉c\/b=.D->a (.A 28 [b.ctorIdx])=Y)/\(.D∉c->a (.A 29 [])=Y)/\kq zz d a/\∀e,a (.A 38 e)=Y
section
variable(a:qY b d k)
def qY.D:=a.1
def qY.C:=a.2.1
def qY.A:=a.2.2.1
def qY.E:=a.2.2.2.1
def qY.B:=a.2.2.2.2.1
def qY.F:=a.2.2.2.2.2
end
section
variable{h i j:me}
def ZI{e:jD->jA}(g:Le b)(h:f∈b):kF (b.map λa=>(jG a,e a)) (jG f) m=b.map λa=>(jG a,if a=f then m else e a):=by
 induction b with
 |nil=>exact a' h ac|cons j i k=>
  rw[cQ]at g;simp only[bo,bo,kF];by_cases c:j=f;.have l:i.map (λa=>(jG a,if a=f then m else e a))=i.map λa=>_:=fb λa n=>jx (aA (show a≠f from λd=>g.1<|kd (c.a d.b) n)) U;exact jx (aC<|jx c U)<|jx (aC c)<|jx l<|jx c U
  .exact jx (aA λd=>c<|m'.a d)<|jx (aA c)<|jx (k g.2<|(ao.a h).b λd=>c d.b) U
def zA(f:a≠7/\a≠28/\a≠29/\a≠38):¬zz (.A a c):=λd=>d.a (jJ f.1) λd=>d.a λi d=>jU d λc h g=>h.a (λb=>jJ (λe=>f.2.1<|e.a b) g) λb=>b.a (λb=>jJ (λe=>f.2.2.1<|e.a b) g) λb=>jJ (λe=>f.2.2.2<|e.a b) g
def B'(b:xu a=aj):¬zz (.A a c):=zA<|mz (v4 b U) (v4 b U) (v4 b U)<|v4 b U
def qY.G(a:qY l k d)(c:b=l):qY b k d:=jx c a
def qY.H(g:qY l k d)(n:f∉l)(r:La l<16777216):d (tR f)=Y/\qK (.A Kp) (jG f) (.A<|tR f) (jE d (tR f)<|.A [])=V (jE (jE d (tR f)<|.A []) Kp<|.B<|v5<|l++[f])/\qY (l++[f]) k (jE (jE d (tR f)<|.A []) Kp<|.B<|v5<|l++[f])/\jE d (tR f) (.A []) lG=d lG:=ka λo=>by
 have p:kF _ _ (.A _)=v5 (l++[f]):=(rh<|(yW m'.a).a<|aA n).a (by simp only[v5,v5,bK];rfl);have q:∀{h i},tR f=.A h i->h=28\/h=29->d (.A h i)=Y->(∀c,c∈l++[f]->c≠.D->jE d (.A h i) (.A []) (.A 28 [c.ctorIdx])=V (.A []))->(∀c,c∉l++[f]\/c=.D->jE d (.A h i) (.A []) (.A 28 [c.ctorIdx])=Y)->(.D∉l++[f]->jE d (.A h i) (.A []) (.A 29 [])=Y)->False:=λ{h i} b m s t v w=>by rw[b]at o p;exact o<|mz s ((lN ((jQ _ _<|jJ<|m.a (λb=>kd b jB) λb=>kd b jB).a g.D) (kk f)<|jL (ab _).b r).a<|aB (λu=>V<|jE _ Kp<|.B u) p) (lY (jS ..) (λc e a=>(jQ _ _<|jJ jB).a<|t c e a) (λc a=>(jQ _ _<|jJ jB).a<|v c a) (λa=>(jQ _ _<|jJ jB).a<|w a) (g.B.A<|.A (.B<|.inr<|ms h i (m.a .inl λb=>n6 b) U)<|.B kr) λx=>(jQ _ _<|jJ jB).a<|(jQ _ _<|jJ<|m.a (λb=>kd b jB) λb=>kd b jB).a<|g.F x)<|jQ _ _<|jJ<|m.a (λb=>kd b jB) λb=>kd b jB
 by_cases b:f=.D;.refine q (aC b) (.inr U) (g.E<|b▸n) (λc e a=>(jQ _ _<|jJ jB).a<|g.C c ((bR.a e).d λe=>a<|(ak.a e).a b) a) (λc a=>(jQ _ _<|jJ jB).a<|g.A c<|a.c (λa e=>a<|bM _ e) id) λa=>a' (bP _<|ak.b b.b) a
 .refine q (aA b) kr (g.A f<|.inl n) (λc e a=>?_) (λc a=>?_) λa=>(jQ _ _<|jJ jB).a<|g.E λe=>a<|bM _ e;.
   by_cases j:c=f;.exact j▸jS ..
   .exact(jQ _ _<|tP j).a<|g.C c ((bR.a e).d λe=>j<|ak.a e) a
  .exact(jQ _ _<|tP λj=>a.a (λa=>a<|bP _<|ak.b j) λa=>b<|j.b.a a).a<|g.A c<|a.c (λa e=>a<|bM _ e) id
def ZJ(a:f≠.D):v6 f=[]:=aA a
def ZK:Le (v6 f):=by unfold v6;split<;>simp
def ZL:.L∉v6 f:=by unfold v6;split<;>simp
def ZM(t:nr)(o:nH d)(C:lw 6 27 pE j d d)(G:∀e,e<jz.B->e≠0->jz.D e∈jz.H jz.B)(I:∀e,e<jz.B->∀J∈jz.A e,J∈pE)(K:jz.D 1=.D)(D:d Kp=V (.B []))(B:∀m p,m=28\/m=29\/m=38->d (.A m p)=Y)(L:∀h,nH h->kq zz d h->n (nD 7) h):lz (.ref 273) [.A lG] g (a+2) d n:=ka λv=>by
 have x:=OB (a:=jz.B);refine v<|mZ jV.p_ U λg=>jN λb=>b o.A .A (w1 D) .A o.A .A (w1 C.H) .A o.A .B<|uG (u:=jG) (λr h=>qY (Ll r<|jz.H jz.B) d h) (λq h=>(lv [.A lG,.D],h)) d (lY D (λf b=>a' b ac) (λf q=>B _ _ kr) (λq=>B _ _<|.inr kr) .E λq=>B _ _<|kC U) (.A _) U (λr h c=>jO _ (c.B.C o.C<|B' U) (by unfold lS;rw[bY];rfl)) (λr h f c s=>ka λv=>?_) λR c=>ka λv=>?_;.exact wj (c.H (BX x s)<|(λr=>aZ (aX (bg ..)<|no x) jB) r) λy M N O=>v<|jN λb=>b _ (λq=>y) (O.a<|c.B.C o.A<|B' U) M<|lh _ (N.G<|nN s) (lE U) U
 replace c:=bI▸c;have z:=o.E λm p b=>c.B m p<|B' b;have P:kF (v5 _) _ (.A KJ)=lS 28 _:=(ZI x t.B).a (fb λQ q=>by
  by_cases i:Q=.D;.exact jx (aC i)<|jx i U
  .rw[aA i,tR,aA i]);have A:kq zz d<|jE (jE R KJ<|.A [jG .C]) Kp<|.B<|lS 28<|jz.H jz.B:=c.B.A<|.A (.B<|.inr<|ms 28 _ kr U)<|.B kr;have S:Fu j d (v6,jE (jE R KJ<|.A [jG .C]) Kp<|.B<|lS 28<|jz.H jz.B):=by
  refine⟨m3 (jS (jE R KJ<|.A [jG .C]) Kp _) (λf s=>?_) (λf=>?_) (λf b=>?_) (λf s=>?_) x .E,o.E λm p b=>A m p<|B' b,C.L (A 6 []<|zA jB) λp=>A 27 p<|zA jB,λT q=>?_,A⟩;.
   show jE (jE R KJ<|.A [jG .C]) Kp (.B<|lS 28<|jz.H jz.B) (.A 28 [f.ctorIdx])=V (.A<|(v6 f).map jG);rw[jQ _ _<|jJ jB];by_cases i:f=.D;.exact jx i<|jS ..
   .exact jx (ZJ i)<|(jQ _ _<|tP i).a<|c.C f s i
  .exact ZK
  .exact ZL b
  .show jE _ Kp (.B<|lS 28<|jz.H jz.B) (.A 28 [f.ctorIdx])=Y;exact jx (jQ _ _<|jJ jB)<|(jQ _ _<|tP λi=>s<|kg (show .D=f from i.b) t.B).a<|c.A f<|.inl s
  .show jE (jE R KJ<|.A [jG .C]) Kp (.B<|lS 28<|jz.H jz.B) (.A 38 [T])=Y;exact jx (jQ _ _<|jJ jB)<|jx (jQ _ _<|jJ jB)<|c.F _
 have E:=z.B 1 t.A;rw[jz.f_,K]at E;refine v<|mE λb=>b .A U z.A (ql z.D (l:=ln 1)<|jx (ax)<|jx (bp t.A) U) E .A KJ (λq=>c.A .D<|.inr U) z.A ((lN (d:=jE R KJ<|.A [jG .C]) (X:=.A 7 []) c.D (kk .D)<|jL (ab _).b<|aZ (no x) jB).a<|aB (λu=>V<|jE _ Kp<|.B u) P) .B<|sQ _ B9 (λy=>pD y.1) _ S (.A _) U λy W=>ZH t W G I λh F X=>mE λb=>b F.A<|L h F X
end
def u3(b:jC):=nH b/\b lH=V (.C 427<|vL 0)/\b (.A 8 [])=V (.B [])/\(∀a,a<jz.B->b (.A 21 [a])=V (.A<|(jz.K a).map jG))/\∀a,a<jz.B->qX a b
section
variable(a:u3 d)
def u3.A:=a.1
def u3.C:=a.2.1
def u3.D:=a.2.2.1
def u3.E:=a.2.2.2.1
def u3.B:=a.2.2.2.2
end
def OF{b c a:i}(d:(bif w then b else c)=a)(e:w=aj->b=a->β)(f:w=ah->c=a->β):β:=by cases w with|true=>exact e U d|false=>exact f U d
def ZN(a:oz c=aj):c=[]:=by cases c with|nil=>rfl|cons _ _=>exact lf a
def xw{b:i}{d:i}(a:(bif oz c then V b else Y)=V d)(e:c=[]->V b=V d->β):β:=OF a (λf g=>e (ZN f) g) λh a=>kh a
def xx{b:i}{c:i}(a:(bif w then V b else Y)=V c)(d:w=aj->V b=V c->β):β:=OF a d λe a=>kh a
section
def ZO(a:Nat)(c:Lt Nat)(O:km):Prop:=o9 0 (λb=>[]) a c=V O
def ZP(o:nr)(g:u3 d):kv 0 (λr=>[]) d:=λk O a=>by
 cases k with
 |B p=>exact kh a|A q c=>
  replace a:ZO q c O:=a;have b:=ER a;refine ka λh=>?_;rcases ao.a b with e|b;.subst e;exact h<|(by rcases c with _|⟨j,_|⟨l,_|_⟩⟩<;>first|(exact kh a;done)|exact xx a λf a=>((g.B j (w5.a f).1).C l (w5.a f).2).a a)
  rcases ao.a b with e|b;.subst e;exact h<|(by rcases c with _|⟨j,_|_⟩<;>first|(exact kh a;done)|exact xx a λf a=>(g.B j<|bE f).B.a<|(aB (λk=>V _) (bQ _).b).a a)
  rcases ao.a b with e|b;.subst e;exact xw a λi a=>h<|jx i<|g.C.a a
  rcases ao.a b with e|b;.subst e;exact xw a λi a=>h<|jx i<|g.A.A.a a
  rcases ao.a b with e|b;.subst e;exact xw a λi a=>h<|jx i<|g.A.D.a a
  rcases ao.a b with e|b;.subst e;exact xw a λi a=>h<|jx i<|g.A.G.a a
  rcases ao.a b with e|b;.subst e;exact xw a λi a=>h<|jx i<|g.A.C.a<|(aB (λk=>V _) o.F.b).a a
  rcases ao.a b with e|b;.subst e;exact xw a λi a=>h<|jx i<|g.D.a a
  rcases ao.a b with e|b;.subst e;exact h<|(by rcases c with _|⟨p,_|_⟩<;>first|(exact kh a;done)|exact(bD.a a).a λm n=>xx n.2 λf a=>jx ((dT (ag.a n.1).1 jB).a<|n.1.a (w8 m).b)<|(g.A.F m<|(o.E m).b f).a a)
  rcases ao.a b with e|b;.subst e;exact h<|(by rcases c with _|⟨j,_|_⟩<;>first|(exact kh a;done)|exact xx a λf a=>(g.E j<|bE f).a a)
  rcases ao.a b with e|b;.subst e;exact h<|(by rcases c with _|⟨j,_|_⟩<;>first|(exact kh a;done)|exact xx a λf a=>(g.B j<|bE f).D.a a)
  rcases ao.a b with e|b;.subst e;exact h<|(by rcases c with _|⟨j,_|⟨l,_|_⟩⟩<;>first|(exact kh a;done)|exact xx a λf a=>(((g.B j (w5.a (kB f).1).1).A l (w5.a (kB f).1).2).2 (kB f).2).a a)
  exact a' b ac
end
noncomputable def u4(a:Nat):Bool:=[6,7,20,23,24,25,26,27,28,29,38].any<|hW a
section
variable{b:Nat}{f:me}{h i:jC}
def sr(a:u4 b=ah)(c:u4 u=aj):b≠u:=λd=>av<|a.b.a<|jx d c
def Fv(a:u4 b=ah):¬xr u (.A b c):=λd=>jU d λe g f=>zw (mS (sr a U) (sr a U) (sr a U) (sr a U)<|sr a U) f
def ZQ:oy [.C "SLR",.C "LALR"]=aj:=by decide+kernel
def ZR:jW .NotIn QB (.A<|.B u) (jE d (.B u)<|.A [.C "SLR",.C "LALR"]) ah:=(jW.F (jS ..) ZQ E7).J.A<|jx (aD<|af _ ae) U
def zB(b:Nat):Bool:=cK 30 b&&cK b 37
def Fw(a:b<30\/37<b):zB b=ah:=a.a (λa=>by rw[zB,B6 a];rfl) λa=>by rw[zB,B6 a,iI]
def ZS(a:nG α d k):nG α d<|jE k (.B u) O:=a
structure ZT(d k:jC):Prop where
 A:nG zB d k
 B:k lH=V (.C 427 (vL 0))
 C:k (.A 31 [])=V (.B [])
 D:k (.A 32 [])=V (.B [])
 E:k (.A 33 [])=V (.B [])
 F:k (.A 34 [])=V (.B [])
 G:k (.A 37 [])=V (.A [])
 H:k (.A 36 [])=V (.A [])
def ZU(s:nr)(q:ro d)(l:ZT d k)(w:∀e,e<jz.B->qX e R)(D:kq (xr jz.B) k R)(Z:∀e,e<jz.B->e≠0->jz.D e∈jz.H jz.B)(E:∀e,e<jz.B->∀m∈jz.A e,m∈pE)(α:jz.D 1=.D)(t:d Ky=V (.D 391 #[]))(β:d Kz=V (.D 398 #[]))(γ:oC W)(δ:jz.F [(0,0)]∈W)(ε:∀o,kz W o->tO o (z o)) (j:∀o I w k t,kz W o->mw o I k w (lA o<|z o) (La o.A) t->qr o (z o) t.2->t.2 Qt=V (.A [])->(∀b c,b<20->u4 b=ah->t.2 (.A b c)=d (.A b c))->n (.A lH) t.2):jY g (a+9) (sb λζ d=>ζ=.D/\n (.A lH) d) (.H<|kt [.E<|.F J4 56 [],.E<|.F J4 57 [],.E<|.F Ja 71 []] .A) [.D] (lv [.A lH,.A lG,.C "LALR",.D]) R:=ka λy=>by
 have x:∀{b c},b<23->u4 b=ah->R (.A b c)=d (.A b c):=λf r=>(λf r=>(D _ _<|Fv f).a<|l.A _ _ r) r<|Fw<|.inl<|br f jB;have J:∀{b A},23<=b->b≠52->d (.A b A)=Y:=λf r=>q.F _ _ f r;have K:nH R:=m3 ((x jB U).a q.A) ((x jB U).a q.C) ((x jB U).a q.D) (λB f=>(x jB U).a<|q.G B f) ((x jB U).a q.H) ((x jB U).a q.I) λe f=>(w e f).B;have L:=(D _ _<|Fv U).a l.B;have F:∀{b c},b≠20/\b≠23/\b≠24/\b≠25/\b≠26->zB b=ah->R (.A b c)=d (.A b c):=λf r=>(D _ _ λj=>j.a λe m=>zw f m.2).a<|l.A _ _ r;refine y<|jN λf=>f L K.A .B<|Zw s K E ((F jB U).a<|q.B 6 kr) (λc=>(F jB U).a<|J jB jB) λM h G=>ka λy=>?_;have N:=G.A K U U;have H:∀{b c},b≠6/\b≠27->h (.A b c)=R (.A b c):=λf=>G.D _ _ λj=>j.a (jJ f.1) λj=>j.a λη j=>jJ f.2 j;refine y<|jN λf=>f ((H jB).a L) N.A .B<|ZM s N G.c_ Z E α ((H jB).a<|(F jB U).a<|q.B 7<|.inr kr) (λb c f=>?_) λi θ O=>ka λy=>?_;.rcases f with f|f|f<;>rw[f]<;>exact(H jB).a<|(F jB U).a<|J jB jB
 have p:∀{b c},u4 b=ah->i (.A b c)=k (.A b c):=λf=>(O _ _<|zA<|mz (sr f U) (sr f U) (sr f U)<|sr f U).a<|(G.D _ _<|λj=>j.a (jJ<|sr f U) λj=>j.a λη j=>jJ (sr f U) j).a<|D _ _<|Fv f;have P:u3 i:=mS θ ((p U).a l.B) ((p U).a<|(l.A _ _ U).a<|q.B 8<|kC U) (λe C=>(p U).a<|(l.A _ _ U).a (q.E e C).2) λe C=>(w e C).E λb A ι κ=>(show∀{b c},b≠6/\b≠27/\b≠7/\b≠28/\b≠29/\b≠38->i (.A b c)=R (.A b c) from λf=>(O _ _<|zA f.2.2).a<|H ⟨f.1,f.2.1⟩) ?_;.
  have Q:=ZP s P;have μ:uM:=λB=>by refine jx s.F<|jx rn ?_;cases v:B.F with|true=>rw[aC<|(s.C B).b v];rfl|false=>rw[aA λν=>nt v<|(s.C B).a ν];rfl
  exact y<|jN λf=>f Q.A .B<|YI γ Q ⟨(p U).a l.C,(p U).a l.D,(p U).a l.E,(p U).a l.F,(p U).a l.G,λA S=>((P.B A.1 S.1).A A.2 S.2).1,λb c f r=>(λf r=>(p<|di.b λv=>(eC.a v).a λu m=>a' (kg (bA m.2)<|au jB f)<|cn<|(by decide:∀u∈[6,7,20,23,24,25,26,27,28,29,38],u<=38) u m.1).a<|(l.A _ _<|Fw<|.inr<|au jB f).a<|J (aX jB f) r) f r,(p U).a<|(l.A _ _ U).a t,(p U).a<|(l.A _ _ U).a β⟩ (cP s.A) (λe C=>(s.D e C).B) (λj=>aX (s.J j) jB) δ μ ε λo I w k t M ξ ο T=>jN λf=>f ⟨U,j o I w k t M ξ ο ((T 36 []<|.inr U).a<|(p U).a l.H) λb c X π=>(T b c<|.inl X).a<|(p π).a<|l.A _ _<|Fw<|.inl<|br X jB⟩
 .have m:∀u,u<20\/26<u->b≠u:=λu E v=>E.a (λf=>cn ι<|jx v f) λf=>cn κ<|kd v f;exact lY (m _ jB) (m _ jB) (m _ jB) (m _ jB) (m _ jB)<|m _ jB
def ZV(q:nr)(i:ro d)(r:∀e,e<jz.B->e≠0->jz.D e∈jz.H jz.B)(s:∀e,e<jz.B->∀u∈jz.A e,u∈pE)(v:jz.D 1=.D)(j:d Ky=V (.D 391 #[]))(w:d Kz=V (.D 398 #[]))(x:oC W)(y:jz.F [(0,0)]∈W)(A:∀f,kz W f->tO f (z f)) (B:∀f C o k j,kz W f->mw f C k o (lA f<|z f) (La f.A) j->qr f (z f) j.2->j.2 Qt=V (.A [])->(∀b c,b<20->u4 b=ah->j.2 (.A b c)=d (.A b c))->n (.A lH) j.2):lz (.ref 427) [.A lG,.C "LALR"] g (a+11) d n:=ka λD=>by have h:=λ{b c} p E=>i.F b c p E;refine D<|yS jV.a_5 jV.t_ lH (h jB jB) U λg=>jN λp=>p (.B _) (λb=>mb b) .A ZR .A U U Ku (λl=>h jB jB) U KZ (λl=>h jB jB) U i.A U J0 (λl=>h jB jB) U KG (λl=>h jB jB) U U U U (.A 35 []) (λl=>h jB jB) U Qt (λl=>h jB jB) U KU (λl=>h jB jB) U U i.A .B<|Zi q (lj i.A i.C i.D) (λe F=>(i.E e F).1) (λb I J K=>?_) λR o G=>(ZU q i ⟨kX (kX (kX (kX (kX (kX (kX (kX (kX (kX (kX (kX (kX (kX (kX (kX (kX (kX (kX (kX (ZS<|kX .C U) U) U) U) U) U) U) U) U) U) U) U) U) U) U) U) U) U) U) U) U,U,U,U,U,U,U,U⟩ o G r s v j w x y A B:);have H:b=23\/b=24\/b=25\/b=26:=(by decide:∀b,b<27->23<=b->b=23\/b=24\/b=25\/b=26) b (dA ‹_›) ‹_›;rcases H with m|m|m|m<;>rw[m]<;>exact h jB jB
end
namespace jy
def E(a:jD):Nat:=jy.J+1+Lk a jy.c_
def C:Lt<|Nat×kJ:=(jy.H.zipIdx 1).map λa=>(a.2,a.1)
def A(a:jD):Lt jD:=((jy.H.filter λb=>ba<|b.1=a).map (·.2.1)).foldl kN []
def B:Lt jD:=(jy.H.map (·.1)).foldl kN []
def i_:Lt jH:=(0,0)::jy.C.map λa=>(a.1,0)
noncomputable def n_:Lt jH:=[(0,1)]
def K(b:jD):Lt jH:=((jy.C.filter λa=>ba<|a.2.1=b).map λa=>(a.1,1))++(jy.A b).map λc=>(jy.E c,0)
def a_(b c:jD):Lt jH:=(jy.C.filter λa=>ba<|a.2.1=b/\a.2.2.1=c).map λa=>(a.1,2)
def b_(a:Lt jD)(b:Nat):Lt jH:=a.map λc=>(jy.E c,b)
end jy
abbrev kY(a:jD):=a=.A\/a=.B
section
variable{b:jD}
def OG:1<=jy.J:=List.length_pos_iff.b kO.G
theorem u5:v∈jy.C↔∃a,jy.H[a]?=V v.2/\v.1=a+1:=by revert v;apply pJ;generalize pn=v;exact am.c ⟨λe=>e.a λk f=>f.elim λg c=>(cF.a g).a λa d=>by rw[fV,bO]at d;obtain⟨l,b,rfl⟩:=d;exact jO a (c▸b)<|c▸ck 1 a,λh=>h.a λa i=>i.elim λb j=>jO (v.2,v.1) (aa<|jx (fV ..)<|jx (b ..)<|jx (j ..)<|jx (ck ..) U) U⟩
def mx(a:v∈jy.C):v.2∈jy.H:=(u5.a a).a λc b=>aa b.1
def rO(b:v∈jy.C):v.1≠0/\v.1<=jy.J:=(u5.a b).a λc a=>jx a.2 ⟨dc c,(ag.a a.1).1⟩
def xy:jy.C.map (·.1)=fw 1 jy.J:=(bY ..).a<|List.zipIdx_map_snd 1 jy.H
def zC:jy.C.map (·.2)=jy.H:=(bY ..).a<|List.zipIdx_map_fst 1 jy.H
def Fx(b:a≠0)(c:a<=jy.J):∃v∈jy.C,v.1=a:=am.a<|jx xy<|acM.b ⟨Nat.one_le_iff_ne_zero.b b,aZ c<|Nat.lt_add_of_pos_left aeq⟩
def Fy(b:v∈jy.C)(c:Z∈jy.C)(a:v.1=Z.1):v=Z:=by refine jU (u5.a b) λd e f=>jU (u5.a c) λg h i=>?_;obtain rfl:d=g:=eO<|f.b.a<|a.a i;exact bt a<|aY<|e.b.a h
def xz(c:v∈jy.C)(d:Z∈jy.C)(a:v.2=Z.2):v=Z:=by refine jU (u5.a c) λe b f=>jU (u5.a d) λg h i=>?_;obtain rfl:e=g:=(dT (ag.a b).1 kO.H).a<|b.a<|jx a h.b;exact bt (f.a i.b) a
def zD:jy.c_=[.A,.B]\/jy.c_=[.B,.A]:=by unfold rE.c_;cases jy.o_<;>first|exact .inl U|exact .inr U
def Ca(a:kY f):Lk f jy.c_<2/\jy.c_.getD (Lk f jy.c_) .A=f:=by rcases zD with b|b<;>rw[b]<;>rcases a with a|a<;>subst a<;>decide
def pF(a:kY f):jy.J<jy.E f/\jy.E f<jy.J+3:=⟨au (bN _)<|bd ..,gx (Ca a).1 _⟩
def Cb(a:kY f)(b:kY s)(c:jy.E f=jy.E s):f=s:=(Ca a).2.b.a ((aB (jy.c_.getD · .A)<|Nat.add_left_cancel c).a (Ca b).2)
def oW(a:v∈jy.C):jy.M v.1=.D:=(aA (rO a).1).a<|aC (rO a).2
def ss(b:jy.J<a):a≠0/\¬a<=jy.J:=⟨bi<|aZ (bT _) b,dd b⟩
def pG(a:kY f):jy.M (jy.E f)=f:=(aA (ss (pF a).1).1).a ((aA (ss (pF a).1).2).a ((aB (jy.c_.getD · .A)<|gR ..).a (Ca a).2))
def rp(a:v∈jy.C):jy.L v.1=jy.f_ v.2:=(aA (rO a).1).a<|(aC (rO a).2).a ((u5.a a).a λc b=>by simp only[b.2,acI,bZ,b.1];rfl)
def u6(a:kY f):jy.L (jy.E f)=jy.G:=(aA (ss (pF a).1).1).a<|aA (ss (pF a).1).2
def OH(h:jy.J<a)(i:a<jy.J+3):∃f,kY f/\jy.E f=a:=by
 obtain⟨c,rfl⟩:=Nat.exists_eq_add_of_le h;have j:∀d:Lt jD,d=[.A,.B]\/d=[.B,.A]->∃f,kY f/\Lk f d=c:=λd e=>by
  rcases c with _|_|c;.
   rcases e with b|b<;>rw[b];.exact⟨.A,.inl U,U⟩
   .exact⟨.B,.inr U,U⟩
  .rcases e with b|b<;>rw[b];.exact⟨.B,.inr U,U⟩
   .exact⟨.A,.inl U,U⟩
  .exact a' (Nat.lt_of_add_lt_add_left i)<|cn<|cM 2 c
 exact(j _ zD).b λf g=>⟨g.1,aB _ g.2⟩
def v7(e:a<jy.J+3)(g:a=0->β)(h:∀v∈jy.C,v.1=a->β)(i:∀f,kY f->jy.E f=a->β):β:=by
 by_cases c:a=0;.exact g c
 by_cases d:a<=jy.J;.exact(Fx c d).a λv b=>h v b.1 b.2
 .exact(OH (gQ d) e).a λf b=>i f b.1 b.2
def oX(a:b∈m0):b.H=aj/\b.F=ah/\b≠.D/\b≠.C:=by cases b<;>first|decide|exact a' a jB
def pg(b:kY f):f.F=aj/\f.H=ah/\f≠.D/\f∉m0/\f≠.E:=by rcases b with a|a<;>subst a<;>decide
def mT(b:v∈jy.C):jz.C (v.1,0)=V v.2.1/\jz.C (v.1,1)=V v.2.2.1/\jz.C (v.1,2)=v.2.2.2/\jz.C (v.1,3)=Y:=by have a:∀e,jz.C (v.1,e)=_[e]?:=λe=>aB (·[e]?)<|rp b;exact mz (a 0) (a 1) ((a 2).a (by unfold jy.f_;cases v.2.2.2<;>rfl))<|(a 3).a (by unfold jy.f_;cases v.2.2.2<;>rfl)
def p8(a:kY f):jz.C (jy.E f,e)=jy.G[e]?:=aB (·[e]?)<|u6 a
def tS:jz.C (0,0)=V .D/\jz.C (0,1)=Y:=lp
end
def OI{k:i->Bool}{e:i}{b:Lt i}(h:Le b)(l:e∈b)(f:∀a∈b,k a=aj↔a=e):b.filter k=[e]:=by
 induction b with
 |nil=>exact a' l ac|cons a n m=>
  rw[cQ]at h;by_cases c:a=e;.rw[cO,aC<|(f a ae).b c,c,io.b λj g d=>h.1<|kd (c.a ((f j<|af _ g).a d).b) g]
  .rw[cO,aA λd=>c<|(f a ae).a d];exact m h.2 ((ao.a l).b λd=>c d.b) λj g=>f j<|af _ g
def OJ{g:Lt jD->Nat->Lt jD}{h:Nat->Prop}(j:∀i b,f∈g i b↔f∈i\/h b) d:f∈w4 g [] d↔∃b,b<d/\b≠0/\h b:=ue ⟨λa=>a' a ac,λa=>a.a λb c=>a' c.1<|en b⟩ (λd k=>by
 by_cases e:d=0;.subst e;exact⟨λa=>a' a ac,λa=>a.a λb c=>a' (iQ.a c.1) c.2.1⟩
 .rw[Fj e,j,k];exact⟨λa=>a.a (λa=>a.b λb c=>⟨cH c.1,c.2⟩) λa=>kT d (bN d) e a,λa=>a.a λb c=>(de<|cg c.1).a (λa=>.inl ⟨b,a,c.2⟩) λa=>.inr<|kg a c.2.2⟩) d
def OK:∀a:Lt jD,f∈b.foldl py a↔f∈a\/(f∈b/\f.F=aj):=lO (λa=>⟨.inl,λc=>c.a id λc=>a' c.1 ac⟩) (λd i g=>by
 have h:∀a,f∈py a d↔f∈a\/(f=d/\f.F=aj):=λa=>by
  unfold py;split;.exact rf.c (aK ⟨λe=>⟨e,jx e<|‹_›⟩,(·.1)⟩)
  .exact⟨.inl,λc=>c.a id λc=>a' (c.1▸c.2) ‹_›⟩
 refine λa=>(g _).c ?_;rw[h,aL,ao,or_and_right]) b
section
variable{b:jD}
def xA(a:kJ):La (jy.f_ a)=if a.2.2=Y then 2 else 3:=by unfold jy.f_;cases a.2.2<;>rfl
def ZW{a:kJ}(c:a∈jy.H):jy.f_ a∈p5:=by
 have g:∀d∈m0,∀f∈[jD.A,.B],jy.f_ (d,f,Y)∈p5/\∀b∈m0,jy.f_ (d,f,V b)∈p5:=by decide+kernel
 refine ug (g a.1 (kO.C a c) a.2.1 (by rcases kO.A a c with e|e<;>rw[e]<;>decide)) λh i=>?_;obtain⟨d,f,b⟩:=a;cases b with|none=>exact h|some b=>exact i b<|kO.D _ c b U
def OL:jy.G∈p5:=by
 have g:∀a∈m0,[a]∈p5/\∀b∈m0,[a,b]∈p5:=by decide+kernel
 have e:=kO.B;have c:=kO.F;cases f:jy.G with|nil=>rw[f]at c;exact a' c jB|cons a d=>rw[f]at e c;refine ug (g a<|e a ae) λh i=>?_;cases d with|nil=>exact h|cons b d=>cases d with|nil=>exact i b<|e b<|af _ ae|cons j d=>exact a' c jB
def OM(a:f.F=aj):f=.D\/kY f:=by cases f<;>first|exact .inl U|exact .inr kr|exact kC U|exact lf a
def ON(e:b.F=aj):∃a,a<jy.J+3/\a≠0/\jy.M a=b:=(OM e).a (λc=>(Fx iA<|OG).a λv d=>kT 1 (au jB<|cM 3 _) iA<|kd c<|jL d.2<|oW d.1) λc=>kT (jy.E b) ((pF c).2) ((ss (pF c).1).1)<|pG c
def xB(d:a<jy.J+3)(e:a≠0):(jy.M a).F=aj:=v7 d (λb=>a' b e) (λv g b=>b▸oW g▸U) λf c b=>b▸(pG c).b▸(pg c).1
def Fz(d:a<jy.J+3)(e:a≠0):jy.L a∈p5:=v7 d (λb=>a' b e) (λv c b=>b▸kg (rp c).b (ZW<|mx c)) λf g b=>b▸kg (u6 g).b OL
def FA(c:a<jy.J+3):xo<|jy.L a:=by
 by_cases b:a=0;.exact zp<|jx b ae
 .exact zp<|af _<|Fz c b
def Cc:b∈jz.H (jy.J+3)↔b.F=aj:=(OJ (h:=λa=>jy.M a=b\/(b∈jy.L a/\b.F=aj)) (λf a=>(OK _).c (by rw[rf,aL,eq_comm];rfl)) _).c ⟨λd=>d.a λa c=>c.2.2.a (λe=>jL e<|xB c.1 c.2.1) (·.2),λd=>(ON d).b λa c=>lj c.1 c.2.1<|.inl c.2.2⟩
def FC:jy.J+3<=90:=aX (bC kO.E 3) jB
def ZX a:La (jy.L a)<=3:=by
 by_cases b:a<jy.J+3;.exact(FA b).A
 .rw[jy.L,aA (ss<|au (eG jB)<|cv b).1,aA (ss<|au (eG jB)<|cv b).2];exact(zp<|af _<|OL).A
def OO:nr:=⟨au jB<|cM 3 jy.J,U,U,U,U,(Cc).b U,FC,λb=>(OJ (h:=λa=>jy.M a=b) (λg a=>by rw[rf,eq_comm];rfl) _).c ⟨λc=>li c λa d e f=>jL f<|xB d e,λc=>ON c⟩,λb=>Cc,λa c=>FA c,λa=>U,ZX⟩
def ZY(b:e<jy.J+3)(k:e≠0):sp e:=by
 refine lY k (aX (bL b)<|FC) (xB b k) ?_ (Fz b k) λa d m=>⟨xB (br d b) m,Fz (br d b) m,λh=>?_⟩;.rcases OM<|xB b k with h|h|h<;>exact(show jy.M e∈so from kd h jI)
 .have i:jy.M a=jy.M e:=h.1;have l:jy.L a=jy.L e:=h.2;refine v7 b k (λv q g=>v7 (br d b) m (λZ n c=>?_) λf j c=>?_) λf j g=>v7 (br d b) m (λZ n c=>?_) λs u c=>?_;.simp only[<-g,<-c,rp q,rp n]at l;have:=xz n q<|(have r:=an l;have t:=an r.2;have w:∀o p:Op jD,o.toList=p.toList->o=p:=λo p l=>by cases o<;>cases p<;>first|rfl|exact aB V (an l).1|exact a' l jB
                                                                                                                                                                    bt r.1 (bt t.1 (w _ _ t.2)));simp only[<-g,<-c,this]at d;exact dR _ d
  .rw[<-g,<-c,oW q,pG j]at i;exact(pg j).2.2.1 i
  .rw[<-g,<-c,oW n,pG j]at i;exact(pg j).2.2.1 i.b
  .rw[<-g,<-c,pG j,pG u]at i;simp only[<-g,<-c,i]at d;exact dR _ d
end
def xC{d:Lt i}{a:i->Prop}[DecidablePred a]{e:i->N}:(d.filterMap λb=>if a b then V<|e b else Y)=(d.filter λb=>ba<|a b).map e:=lO (by rfl) (λg h f=>by
 refine jx eA<|jx cO ?_;by_cases c:a g;.exact jx (aC c)<|jx (aC<|aD c)<|jx f U
 .exact jx (aA c)<|jx (aA<|nt<|aG c)<|jx f U) d
def OP{b c:i}:(if V f=V s then b else c)=if f=s then b else c:=by
 by_cases a:f=s;.rw[aC a,aC<|aB V a]
 .rw[aA a,aA λd=>a<|aY d]
def xD{a:Lt i}{c d:i->Op N}(e:∀b∈a,c b=d b):a.filterMap c=a.filterMap d:=by induction a with|nil=>rfl|cons f j g=>rw[eA,eA,e f ae,g λb h=>e b<|af _ h]
def Cd{a:Lt i}{b:i->Op N}(c:∀d∈a,b d=Y):a.filterMap b=[]:=ft.b c
def ZZ[DecidableEq i]{b:Lt i}:∀a:Lt i,Le (a++b)->lb a b=a++b:=lO (λa h=>(bQ a).b) (λc d f=>by intro a e;exact jx (show lb a (c::d)=lb _ d from aB (lb · d)<|aA λg=>(cz.a e).2.2 c g c ae U)<|jx (f _<|jx (bw ..) e)<|jx (bw ..) U) b
def Z0[DecidableEq i][DecidableEq N]{a:i->N}{e:Lt i}:∀b:Lt i,(∀d∈e,∀c,(c∈e\/c∈b)->a d=a c->d=c)->lb (b.map a) (e.map a)=(lb b e).map a:=lO (λb p=>U) (λd l m=>by
 intro b k;have j:kN (b.map a) (a d)=(kN b d).map a:=by
  unfold kN;by_cases h:d∈b;.rw[aC h,aC<|jv h]
  .rw[aA h,aA λf=>(am.a f).a λc g=>h<|kd (k d ae c (.inr g.1) g.2.b) g.1,bK];rfl
 show lb _ (l.map a)=_;exact jx j<|m _ λc n g o=>k c (af _ n) g<|o.a (λf=>.inl<|af _ f) λf=>(rf.a f).a .inr λj=>.inl<|kd j ae) e
section
variable{c d:jD}
def Z1 a:be (a+3)=0::(fw 1 a++[a+1,a+2]):=by exact jx (dL ..)<|jx (dL ..)<|jx (jk ..)<|jx (hc ..)<|jx (bw ..) U
def Z2:jz.g_ .D=fw 1 jy.J:=by
 have g:∀a,a=jy.J+1\/a=jy.J+2->¬ba (a≠0/\jy.M a=.D)=aj:=λa d e=>by
  have b:jy.J<a/\a<jy.J+3:=by rcases d with c|c<;>subst c<;>exact⟨eG jB,gx jB _⟩
  exact jU (OH b.1 b.2) λf h c=>(pg h).2.2.1<|(pG h).b.a<|jL c.b (aF e).2
 show(be<|jy.J+3).filter (λa=>ba<|a≠0/\jy.M a=.D)=_;rw[Z1,cO,aA λe=>(aF e).1 U,eJ,List.filter_eq_self.b λa d=>?_,cO,aA<|g _ kr,cO,aA<|g _<|.inr U,eK,bQ];exact(am.a (show a∈jy.C.map _ from jL xy.b d)).a λv b=>jL (b.2)<|aD ⟨(rO b.1).1,oW b.1⟩
def Z3(b:kY f):jz.g_ f=[jy.E f]:=OI gJ (bj.b (pF b).2) λe g=>⟨λc=>v7 (bj.a g) (λa=>a' a (aF c).1) (λv h a=>a' ((aF c).2.b.a<|jL a<|oW h) (pg b).2.2.1) λs i a=>by have d:jy.M e=f:=(aF c).2;rw[<-a,pG i]at d;rw[<-a,d],λa=>jx a<|aD ⟨(ss (pF b).1).1,pG b⟩⟩
def Ce(a:∀d∈x,jz.J d=[]):jz.F x=x:=by simp only[jz.F,jz.a_,List.flatMap_eq_nil_iff.b a];exact bQ x
def zE(a:∀c,jz.C t=V c->c.F=ah):jz.J t=[]:=by unfold jz.J;cases b:jz.C t with|none=>rfl|some c=>exact aA<|nt<|a c b
def Cf(d:v∈jy.C):jz.J (v.1,0)=[]/\jz.J (v.1,1)=[jy.E v.2.2.1]/\jz.J (v.1,2)=[]/\jz.J (v.1,3)=[]:=by refine wj (mT d) λe f g h=>?_;have b:=mx d;refine mz (zE λc a=>(oX<|kg (aY<|e.b.a a)<|kO.C _ b).2.1) ?_ (zE λc a=>(oX<|kO.D _ b c<|g.b.a a).2.1)<|zE λc a=>kh<|h.b.a a;simp only[jz.J,f];exact(aC (pg<|kO.A _ b).1).a<|Z3<|kO.A _ b
def OQ(a:kY f):jz.J (jy.E f,e)=[]:=zE λc b=>(oX<|kO.B c<|aa<|(p8 a).b.a b).2.1
def xE:jz.F [(0,0)]=jy.i_:=by rw[jz.F,jz.a_,(show([(0,0)]:Lt jH).flatMap jz.J=jy.C.map _ from(dU ..).a<|(U).a<|Z2.a xy.b),ZZ [] (by simp only[gX,xy];exact hQ),gX,bY];rfl
def OR:jz.E jy.i_ .D=[(0,1)]:=aB _<|Cd λd b=>(am.a b).a λv a=>jL a.2<|aA λc=>(oX<|kO.C _<|mx a.1).2.2.1<|aY<|(mT a.1).1.b.a c
def zF:jz.F (jz.E jy.i_ .D)=jy.n_:=by exact jx OR<|Ce λd a=>jx (ak.a a)<|zE λc b=>kh<|(tS).2.b.a b
def Z4(b:d≠.D):jz.E jy.i_ d=(jy.C.filter λv=>ba<|v.2.1=d).map λv=>(v.1,1):=by exact jx (show jz.E jy.i_ d=(jy.C.map λv=>_).filterMap λa=>if jz.C a=V d then V _ else Y from gC<|aA λc=>b (aY<|tS.1.b.a c).b)<|jx eq<|kg xC (xD λv e=>by show(if jz.C _=V d then _ else _)=_;exact jx ((mT e).1)<|OP)
theorem tT:f∈jy.A d↔∃v∈jy.C,v.2.1=d/\v.2.2.1=f:=by revert f d;apply od;generalize lX.1=f,lX.2=d;rw[(show f∈jy.A d↔f∈_\/f∈(jy.H.filter λg=>ba _).map _ from qO),am];exact⟨λa=>a.a (λa=>a' a ac) λa=>jU a λg h i=>by have b:=ar.a h;rw[<-zC]at b;exact(am.a b.1).a λv c=>kT v c.1 (jL c.2.b<|aF b.2)<|jL c.2.b i,λa=>a.a λv e=>.inr ⟨v.2,ar.b ⟨mx e.1,aD e.2.1⟩,e.2.2⟩⟩
def mq(b:f∈jy.A d):kY f:=(tT.a b).a λv a=>kg a.2.2<|kO.A _<|mx a.1
theorem Z5(d:jD):jz.a_ ((jy.C.filter λv=>ba<|v.2.1=d).map λv=>(v.1,1))=(jy.A d).map jy.E:=by
 revert d;apply pJ;generalize pn=d;have i:∀a:Lt _,(∀v∈a,v∈jy.C)->(a.map λv=>((v.1,1):jH)).flatMap jz.J=(a.map λv=>v.2.2.1).map jy.E:=λa=>by induction a with|nil=>exact λs=>U|cons v t j=>exact λb=>by simp only[bo,fx,j λc k=>b c<|af _ k,(Cf<|b v ae).2.1];rfl
 have l:(jy.C.filter λv=>ba<|v.2.1=d).map (λv=>v.2.2.1)=(jy.H.filter λa=>ba<|a.1=d).map (·.2.1):=by simp only[<-zC,List.filter_map,bY];rfl
 have f:∀g∈(jy.H.filter λa=>ba<|a.1=d).map _,kY g:=λg m=>(am.a m).a λa h=>kg h.2<|kO.A a (ar.a h.1).1;simp only[jz.a_,i _ λv n=>(ar.a n).1,l];exact Z0 [] λo p q e b=>e.a (λe=>Cb (f o p) (f q e) b) λr=>a' r ac
def zG(a:d≠.D):jz.F (jz.E jy.i_ d)=jy.K d:=by simp only[Z4 a,jz.F,Z5,bY];rfl
end
def jy.r_(b c:jD):Lt<|Nat×kJ:=jy.C.filter λa=>ba<|a.2.1=b/\a.2.2.1=c/\a.2.2.2≠Y
def jy.D:Lt<|Lt jH:=jy.i_::jy.n_::(jy.B.flatMap (λa=>jy.K a::(jy.A a).flatMap λb=>jy.a_ a b::(jy.r_ a b).map λc=>[(c.1,3)])++jy.B.flatMap λa=>(be (La jy.G)).map λd=>jy.b_ (jy.A a)<|d+1)
inductive mK:List jH->Prop where
 |C:mK jy.i_
 |F:mK jy.n_
 |A{a:jD}:a∈jy.B->mK (jy.K a)
 |B{a c:jD}:a∈jy.B->c∈jy.A a->mK (jy.a_ a c)
 |D{b:Nat×kJ}:b∈jy.C->b.2.2.2≠Y->mK [(b.1,3)]
 |E{a:jD}{d:Nat}:a∈jy.B->d<jy.G.length->mK (jy.b_ (jy.A a) (d+1))
section
variable{c d g:jD}
def zH{e:Lt i}{d:i->Nat}:jz.E (e.map λb=>(d b,a)) c=e.filterMap λb=>if jz.C (d b,a)=V c then V (d b,a+1)else Y:=eq ..
def OS:jz.E (x++δ) c=jz.E x c++jz.E δ c:=ge ..
def OT(a:kY f):jz.E (jy.K d) f=jy.a_ d f:=by
 rw[jy.K,OS,zH.a<|Cd λs b=>aA λc=>(pg a).2.2.2.1<|kO.B f<|aa<|(p8<|mq b).b.a c,bQ,zH,xD (d:=λv:Nat×kJ=>if v.2.2.1=f then V _ else Y) λv e=>?_,xC,acq];.exact aB (ey _)<|acN λv h=>(Bool.decide_and ..).b.a<|aS.b and_comm
 .exact jx ((mT (ar.a e).1).2.1) OP
def OU(a:∀f∈b,kY f):jz.E (jy.b_ b e) c=if jy.G[e]?=V c then jy.b_ b<|e+1 else[]:=by
 rw[jy.b_,zH,xD λf d=>by rw[p8<|a f d]];split;.exact aN (List.filterMap_eq_map) b
 .exact Cd λg g=>U
def Z6(b:c∈m0):jz.E (jy.K d) c=if jy.G[0]?=V c then jy.b_ (jy.A d) 1 else[]:=by simp only[jy.K,OS,zH.a<|Cd λv a=>aA λe=>(pg<|kO.A _<|mx (ar.a a).1).2.2.2.1<|kd (aY<|(mT (ar.a a).1).2.1.b.a e) b];exact OU λf=>mq
def OV(c:∀f∈b,kY f):jz.F (jy.b_ b e)=jy.b_ b e:=Ce λd g=>(am.a g).a λf a=>jL a.2<|OQ<|c f a.1
def xF(b:kY f):jz.F (jz.E (jy.K d) f)=jy.a_ d f:=by exact jL (OT b).b<|Ce λg c=>(am.a c).a λv a=>jL a.2 (Cf (ar.a a.1).1).2.2.1
def FD:Le jy.C:=(cc.a (kd xy hQ:Le (jy.C.map _))).imp λa b=>a<|aB _ b
def Z7(b:v∈jy.C)(d:v.2.2.2=V g):jz.E (jy.a_ v.2.1 v.2.2.1) g=[(v.1,3)]:=by rw[jy.a_,zH,xD λc e=>by rw[(mT (ar.a e).1).2.2.1],xC,acq];rw[OI FD b λi f=>?_];rfl;simp only[az,aP,aP];exact⟨λa=>xz f b<|bt a.2.1<|bt a.2.2<|a.1.a d.b,λh=>jL h.b<|lj d U U⟩
def Cg(a:v∈jy.C)(b:v.2.2.2=V g):jz.F (jz.E (jy.a_ v.2.1 v.2.2.1) g)=[(v.1,3)]:=by exact jL (Z7 a b).b<|Ce λd c=>jx (ak.a c) (Cf a).2.2.2
def ph:d∈jy.B↔∃v∈jy.C,v.2.1=d:=by simp only[(show d∈jy.B↔d∈_\/d∈jy.H.map _ from qO),<-zC,bY];exact⟨λa=>a.a (λa=>a' a ac) λa=>am.a a,λa=>.inr<|am.b a⟩
def FE(b:d∈jy.B):d∈m0:=(ph.a b).a λv a=>kg a.2<|kO.C _<|mx a.1
theorem v8:x∈jy.D↔mK x:=by
 revert x;apply pJ;generalize pn=x;unfold jy.D;rw[ao,ao,bR,bV,bV];constructor;.
  rintro(a|a|⟨d,c,b⟩|⟨d,c,b⟩);.exact kd a .C
  .exact kd a .F
  .rcases ao.a b with a|b;.exact kd a<|.A c
   .refine jU (bV.a b) λf h b=>?_;rcases ao.a b with a|b;.exact kd a<|.B c h
    .refine jU (am.a b) λv g a=>?_;have j:=ar.a g;exact kg a<|.D j.1 (aF j.2).2.2
  .exact jU (am.a b) λe i a=>kg a<|.E c<|bj.a i
 .intro b;cases b with|C=>exact .inl U|F=>exact .inr kr|A c=>exact kC<|.inl<|jO _ c ae|B c h=>exact kC<|.inl<|jO _ c<|af _<|bV.b<|jO _ h ae|@D v g k=>exact kC<|.inl<|jO v.2.1 (ph.b ⟨v,g,U⟩)<|af _<|bV.b<|jO v.2.2.1 (tT.b ⟨v,g,U,U⟩)<|af _<|am.b ⟨v,ar.b ⟨g,aD ⟨U,U,k⟩⟩,U⟩|E c i=>exact kC<|.inr<|jO _ c<|am.b ⟨_,bj.b i,U⟩
def zI(b:jz.E x c≠[]):∃g∈x,jz.C g=V c:=by
 refine(fu _ b).a λf d=>jU (cV.a d) λg e a=>?_;split at a;.exact jO g e<|‹_›
 .exact kh a
def Ch(n:mK x)(a:t∈x)(g:jz.C t=V c){i:Lt jH->jD->Prop} (o:i jy.i_ .D) (p:∀v∈jy.C,i jy.i_ v.2.1) (q:∀v∈jy.C,i (jy.K v.2.1) v.2.2.1) (r:∀d∈jy.B,jy.G[0]?=V c->i (jy.K d) c) (s:∀v∈jy.C,v.2.2.2=V c->i (jy.a_ v.2.1 v.2.2.1) c) (u:∀d∈jy.B,∀e,e<La jy.G->jy.G[e+1]?=V c->i (jy.b_ (jy.A d)<|e+1) c):i x c:=by
 cases n with
 |C=>
  rcases ao.a a with b|a;.subst b;obtain rfl:=aY g;exact o
  .obtain⟨v,h,b⟩:=am.a a;subst b;exact aY ((mT h).1.b.a g)▸p v h|F=>exact a' g<|jx (ak.a a)<|jx tS.2 kh|@A d k=>
  rcases bR.a a with a|a;.refine jU (am.a a) λv h b=>?_;subst b;have j:=ar.a h;exact aY ((mT j.1).2.1.b.a g)▸aF j.2▸q v j.1
  .refine jU (am.a a) λf l b=>?_;subst b;exact r d k<|(p8<|mq l).b.a g|@B d f k l=>refine jU (am.a a) λv h b=>?_;subst b;have j:=ar.a h;have m:=aF j.2;exact m.1▸m.2▸s v j.1 ((mT j.1).2.2.1.b.a g)|@D v h y=>rw[ak.a a,(mT h).2.2.2]at g;exact kh g|@E d e k w=>refine jU (am.a a) λf l b=>?_;subst b;exact u d k e w<|(p8<|mq l).b.a g
def zJ(a:jy.G[0]?=V c):jz.F (jz.E (jy.K d) c)=jy.b_ (jy.A d) 1:=by exact jx (Z6<|kO.B c<|aa a)<|jx (aC a)<|OV λf=>mq
def zK(a:jy.G[e]?=V c):jz.F (jz.E (jy.b_ (jy.A d) e) c)=jy.b_ (jy.A d) (e+1):=by exact jx (OU λf=>mq)<|jx (aC a)<|OV λf=>mq
end
section
variable{c:jD}
def Ci(a:v∈jy.C):(v.1,0)∈jy.i_:=af _<|am.b<|jO v a U
def Cj(a:v∈jy.C):(v.1,1)∈jy.K v.2.1:=bM _<|am.b<|jO v (ar.b ⟨a,aD U⟩) U
def FF(a:f∈jy.A c):(jy.E f,0)∈jy.K c:=bP _<|am.b<|jO f a U
def xG(a:v∈jy.C):(v.1,2)∈jy.a_ v.2.1 v.2.2.1:=am.b<|jO v (ar.b ⟨a,aD lp⟩) U
def xH(a:f∈b):(jy.E f,e)∈jy.b_ b e:=am.b<|jO f a U
def p9(a:v∈jy.C):v.2.1∈jy.B:=ph.b<|jO v a U
def qt(a:v∈jy.C):v.2.2.1∈jy.A v.2.1:=tT.b<|kT v a U U
def OW(c:mK x):x≠[]:=by cases c with|C=>exact jB|F=>exact jB|D=>exact jB|A b=>exact(ph.a b).a λv a=>a.2▸eo (Cj a.1)|B b d=>exact(tT.a d).a λv a=>a.2.1▸jL a.2.2 (eo<|xG a.1)|E b e=>exact(ph.a b).a λv a=>a.2▸eo (xH<|qt a.1)
def Ck(a:v∈jy.C)(b:e<=La (jy.f_ v.2)):jz.I (v.1,e):=⟨aZ (rO a).2<|eG jB,aX b<|aw<|aB df (rp a).b⟩
def FG(a:kY f)(b:e<=La jy.G):jz.I (jy.E f,e):=⟨(pF a).2,aX b<|aw<|aB df (u6 a).b⟩
def FH:La jy.C=jy.J:=(ab ..).b.a<|aB df zC
def xI(a:Nat×kJ->Bool):La (jy.C.filter a)<=4:=aX (dt ..)<|jx FH kO.E
def OX:La (lb [] b)<=La b:=(qN .nil).a λs a=>(qO.a a).a (λa=>a' a ac) id
def zL:La (jy.A c)<=4:=aX OX<|aX (aw<|ab ..)<|aX (dt ..) kO.E
def v9:La jy.B<=4:=aX OX<|aX (aw<|ab ..) kO.E
def pk{b:i->N}{c:Lt i}(d:La c<=a):La (c.map b)<=a:=jL (ab b).b d
def OY(c:mK x):La x<=100/\∀d∈x,jz.I d:=by have e:∀g:kJ,2<=La (jy.f_ g):=λg=>cM ..;cases c with|C=>exact⟨aX (bb<|pk<|aw FH)<|aX (bb kO.E) jB,λd b=>(ao.a b).a (λi=>kd i ⟨fB _,bT _⟩) λc=>(am.a c).a λv a=>kg a.2<|Ck a.1<|bT _⟩|F=>exact⟨by decide,λd b=>kd (ak.a b) ⟨fB _,al 1⟩⟩|A h=>exact⟨aX (aw<|bH ..)<|aX (bv (pk<|xI _)<|pk<|zL) jB,λd b=>(bR.a b).a (λc=>(am.a c).a λv a=>kg a.2<|Ck (ar.a a.1).1<|aX jB<|e _) λc=>(am.a c).a λf a=>kg a.2<|FG (mq a.1)<|bT _⟩|B h l=>exact⟨aX (pk<|xI _) jB,λd b=>(am.a b).a λv a=>kg a.2<|Ck (ar.a a.1).1<|e _⟩|D j b=>exact⟨cM 1 99,λd c=>kd (ak.a c)<|Ck j<|kg (xA _).b<|kg (aA b).b<|al 3⟩|E h k=>exact⟨aX (pk<|zL) jB,λd b=>(am.a b).a λf a=>kg a.2<|FG (mq a.1) k⟩
def qZ{d:i->Lt N}{b:Lt i}(f:∀c∈b,La (d c)<=a)(g:La b<=e):La (b.flatMap d)<=a*e:=aX (y9 f)<|bW a g
def Z8:oC jy.D:=m3 (aX (bb<|bb<|aX (aw<|bH ..)<|bv (qZ (λc h=>bb<|qZ (λf h=>bb<|pk<|xI _)<|zL)<|v9) (show La (jy.B.flatMap λc=>(be (La jy.G)).map λe=>jy.b_ ..)<=2*4 from qZ (λc h=>pk<|aX (aw bX)<|kO.F.a (λg=>jx g jI) λg=>jx g<|al 2)<|v9)) jB) (λa j k=>v7 k (λg=>a' g j) (λv d g=>g▸(Cf d).1) λf b g=>g▸OQ b) (λx b=>(OY<|v8.a b).2) (λx b=>(OY<|v8.a b).1) (aX FC jB) (λx b=>OW<|v8.a b) λx b s h l=>v8.b<|(by exact jU (zI l) λo m n=>Ch (i:=λx s=>mK<|jz.F _) (v8.a b) m n (kd zF .F) (λv d=>kd (zG (oX<|kO.C _<|mx d).2.2.1)<|.A<|ph.b ⟨v,d,U⟩) (λv d=>kd (xF<|kO.A _<|mx d)<|.B (ph.b ⟨v,d,U⟩)<|tT.b<|kT v d U U) (λc i b=>kd (zJ b)<|.E i (ag.a b).1) (λv d b=>kd (Cg d b)<|.D d<|jx b jB) λc i e h b=>kd (zK b)<|.E i (ag.a b).1)
def v'(a:kz jy.D T)(b:x∈T.A)(c:t∈x)(d:jz.C t=V s):jz.F (jz.E x s)∈T.A:=kg (a.A x s) (a.C.C b c<|d).1
def OZ(b:kz jy.D T)(m:mK x):x∈T.A:=by
 have i:=kg xE<|aa b.B;have j:∀v∈jy.C,jy.K v.2.1∈T.A:=λv a=>kg (zG (oX<|kO.C _<|mx a).2.2.1)<|v' b i (Ci a) (mT a).1;have k:=λv a=>kg (xF<|kO.A _<|mx a)<|v' b (j v a) (Cj a) (mT a).2.1;cases m with
 |C=>exact i|F=>exact kg zF<|v' b i ae tS.1|A h=>exact(ph.a h).a λv d=>jL d.2<|j v d.1|B h n=>exact(tT.a n).a λv d=>jL d.2.1<|jL d.2.2<|k v d.1|@D v a o=>cases f:v.2.2.2 with|none=>exact a' f o|some q=>exact kg (Cg a f)<|v' b (k v a) (xG a)<|(mT a).2.2.1.a f
 |@E c e h g=>refine jU (ph.a h) λv a f=>?_;subst f;have l:=kO.A _<|mx a;induction e with|zero=>exact kg (zJ<|aq g)<|v' b (j v a) (FF<|qt a)<|(p8 l).a<|aq g|succ e p=>exact kg (zK<|aq g)<|v' b (p<|cP g) (xH<|qt a)<|(p8 l).a<|aq g
def O0(a:kz jy.D T):x∈T.A↔mK x:=⟨λb=>v8.a<|a.D x b,OZ a⟩
def n4(b:kz jy.D T)(c:mK x):T.A[Lk x T.A]?=V x/\T.B (Lk x T.A)=x:=have a:=ES<|OZ b c;⟨a,j'.E a⟩
def Cm(a:kz jy.D T)(b:mK x)(c:mK δ)(d:Lk x T.A=Lk δ T.A):x=δ:=(n4 a b).2.b.a<|jx d (n4 a c).2
def zM(b:kz jy.D T)(c:T.A[a]?=V x):mK x/\Lk x T.A=a:=have d:=(O0 b).a<|aa c;⟨d,((dT (ag.a c).1 b.E).a<|c.a (n4 b d).1.b).b⟩
def s3(a:kz jy.D T):Lk jy.i_ T.A=0:=(zM a<|xE▸a.B).2
def zN(a:kz jy.D T):T.B 0=jy.i_:=j'.E<|jL xE a.B
def O1:jy.K c≠jy.i_:=λd=>by exact(bR.a (show(0,0)∈jy.K c from jx d ae)).a (λa=>(am.a a).a λv b=>a' (aB dO b.2) (by decide:1≠0)) λa=>(am.a a).a λf b=>a' (aB ca b.2)<|bi<|au (fB jy.J)<|bd ..
def Z9(g:c∈jy.B)(h:jy.K c=jy.K s):c=s:=by
 refine jU (ph.a g) λv d i=>?_;subst i;rcases bR.a<|h▸Cj d with a|a;.refine jU (am.a a) λk j b=>?_;have e:=ar.a j;exact(aB (·.2.1)<|Fy e.1 d (bf b).1).b.a<|aF e.2
 .exact(am.a a).a λf b=>a' (aB dO b.2) (by decide:0≠1)
def FI(a:kz jy.D T)(b:mK x)(c:x≠jy.i_):0<Lk x T.A:=acG λd=>c<|Cm a b .C<|d.a (s3 a).b
theorem xJ(h:kz jy.D T):X∈kL T↔X=(0,.D)\/∃v∈jy.C,X=(Lk (jy.K v.2.1) T.A,v.2.2.1):=by
 revert h;revert T X;apply od;generalize lX.1=T,lX.2=X;intros;have n:∀{i x j s},T.A[i]?=V x->j∈x->jz.C j=V s->s.F=aj->(i,s)∈kL T:=λ{i x j s} d l m p=>(E' _ []).b<|.inr ⟨(x,i),hX.b d,U,p,j,l,m⟩;constructor;.intro d;obtain⟨a,q,r,t,j,l,m⟩:=((E' _ []).a d).b ac;obtain⟨i,s⟩:=X;subst r;have o:=zM h<|hX.a q;have k:∀{s},s∈m0->s.F=aj->False:=λu w=>av<|(oX u).2.1.b.a w;exact Ch (i:=λx s=>Lk x T.A=a.2->s.F=aj->(a.2,s)=_\/∃v∈jy.C,(a.2,s)=(Lk (jy.K v.2.1) T.A,v.2.2.1)) o.1 l m (λb g=>.inl<|kg b (s3 h).b▸U) (λv f g d=>(k (kO.C _<|mx f) d).elim) (λv f b g=>.inr ⟨v,f,jx b U⟩) (λc g b g d=>(k (kO.B _<|aa b) d).elim) (λv f b g d=>(k (kO.D _ (mx f) _ b) d).elim) (λc g e g b g d=>(k (kO.B _<|aa b) d).elim) o.2 t
 .rintro(b|⟨v,f,b⟩)<;>subst b;.exact n h.B (jx xE ae) tS.1 U
  .exact n (n4 h<|.A<|p9 f).1 (Cj f) (mT f).2.1 (pg<|kO.A _<|mx f).1
def zO(b:kz jy.D T)(c:mF T a r e=u)(d:(jy.L r)[e]?=V f):mF T a r (e+1)=Lk (jz.F<|jz.E (T.B u) f) T.A:=by show Lk (T.C (T.B<|mF T a r e) _) T.A=_;simp only[b.A,c,ET (show _[e]?=V f by exact d)]
theorem Cn(b:kz jy.D T)(a:v∈jy.C):mF T 0 v.1 1=Lk (jy.K v.2.1) T.A/\mF T 0 v.1 2=Lk (jy.a_ v.2.1 v.2.2.1) T.A/\(v.2.2.2≠Y->mF T 0 v.1 3=T.A.idxOf [(v.1,3)]):=by revert v T;apply od;generalize lX.1=v,lX.2=T;intros;refine wj (mT a) λf g h l=>?_;have d:=(zO (e:=0) (u:=0) b U f).a<|jx (zN b)<|jx (zG (oX<|kO.C _<|mx a).2.2.1) U;have e:=(zO b d g).a<|jx ((n4 b<|.A<|p9 a).2)<|jx (xF<|kO.A _<|mx a) U;refine lj d e λi=>?_;cases c:v.2.2.2 with|none=>exact a' c i|some m=>exact(zO b e<|h.a c).a<|jx ((n4 b<|.B (p9 a)<|qt a).2)<|jx (Cg a c) U
def Z'(b:kz jy.D T)(d:c∈jy.B)(h:kY f):∀e,e<La jy.G->mF T (Lk (jy.K c) T.A) (jy.E f) (e+1)=Lk (jy.b_ (jy.A c)<|e+1) T.A:=λe=>by have g:∀{e},(a:e<La jy.G)->(jy.L<|jy.E f)[e]?=V jy.G[e]:=λa=>jL (u6 h).b<|aq a;induction e with|zero=>exact λa=>(zO (u:=Lk _ T.A) b U<|g a).a<|jx ((n4 b<|.A d).2)<|jx (zJ<|aq a) U|succ e i=>exact λa=>(zO b (i<|cP a)<|g a).a<|jx ((n4 b<|.E d<|cP a).2)<|jx (zK<|aq a) U
end
def tU{b:N->Prop}{f:N->i->N}(g:∀a c,b a->b (f a c)):∀(d:Lt i)(a:N),b a->b (d.foldl f a):=λ{d}=>lO (λ_ e=>e) (λc j h=>λa e=>h _<|g a c e) d
def O2{e d:N->i->N}:∀{c:Lt i}{a:N},(∀a,∀b∈c,e a b=d a b)->c.foldl e a=c.foldl d a:=by intro c;induction c with|nil=>exact λ_=>U|cons b g h=>exact λ{a} f=>(h λa b j=>f a b<|af _ j).a<|aB (λa=>g.foldl d a)<|f a b ae
def aaa{b d:jM}{e:Lt jM}:∀{f:jM->Lt jM},d∈sj f e X b↔d∈f b\/(b∈e/\d=X):=by
 induction e with
 |nil=>exact⟨.inl,λa=>a.a id λh=>a' h.1 ac⟩|cons g j i=>
  refine(i (f:=tK _ g X)).c ?_;unfold tK;by_cases c:b=g;.rw[aC c,bR,ak,aL];exact aK ⟨λa=>a.a (λa=>⟨kd c ae,a⟩) λa=>⟨af _ a.1,a.2⟩,λa=>.inl a.2⟩
  .exact jx (aA c)<|aK<|aW λk=>⟨af _,λa=>(ao.a a).b c⟩
def aab{c:jM}{b:Lt jM}:c∈qT T b X↔c∈b/\X∈rk T c:=by
 have g:∀(b:Lt jM)(d:jM->Lt jM),c∈(b.foldl (λh e=>sj h (rk T e) e) d) X↔c∈d X\/(c∈b/\X∈rk T c):=λb=>by induction b with|nil=>exact λd=>⟨.inl,λa=>a.a id λi=>a' i.1 ac⟩|cons e l j=>refine λd=>(j _).c ?_;rw[aaa,aL];exact aK ⟨λa=>a.a (λa=>⟨kd a.2 ae,jx a.2 a.1⟩) λa=>⟨af _ a.1,a.2⟩,λa=>(ao.a a.1).a (λf=>.inl ⟨f▸a.2,f⟩) λk=>.inr ⟨k,a.2⟩⟩
 exact(g b _).c ⟨λa=>a.a (λa=>a' a ac) id,.inr⟩
def aac{g:jM->List jM}{h d:jM->List jD}:f∈uO g h d X↔f∈h X\/∃b∈g X,f∈d b:=by
 have l:∀(e:List jM)(c:List jD),f∈e.foldl (λc b=>lb c<|d b) c↔f∈c\/∃b∈e,f∈d b:=λe=>by induction e with|nil=>exact λc=>⟨.inl,λa=>a.a id λa=>jU a λb m r=>a' m ac⟩|cons b s n=>refine λc=>(n _).c ?_;rw[qO,aL];exact aK ⟨λa=>a.a (λa=>jO b ae a) λa=>a.b λi j=>⟨af _ j.1,j.2⟩,λa=>jU a λi o k=>(ao.a o).a (λp=>.inl<|jL p k) λq=>.inr<|jO i q k⟩
 exact l ..
def O3:f∈jz.m_ x↔∃b∈x,jz.C b=V f/\f.H=aj:=(NQ x []).c ⟨λc=>(c.b ac).b λb a=>⟨a.1,a.2.a λe d=>jL d.2.2 ⟨d.1,d.2.1⟩⟩,λc=>.inr<|c.b λb a=>⟨a.1,f,a.2.1,a.2.2,U⟩⟩
def O4{g:jM}:g∈rk T X↔∃c∈T.B X.1,jz.D c.1=X.2/\∃a,a+1=La (jz.A c.1)/\g=(mF T X.1 c.1 a,(jz.A c.1).getD a .E)/\g∈kL T:=by
 refine bV.c ⟨λh=>h.b λc d=>⟨d.1,?_⟩,λh=>h.b λc d=>⟨d.1,?_⟩⟩;.
  have f:=d.2;unfold uR at f;split at f;.
   refine⟨‹_›,(bV.a f).b λa b=>?_⟩;have e:=b.2;unfold sU at e;split at e;.rename_i i;exact⟨i.1,ak.a e,kd (ak.a e) i.2⟩
   .exact a' e ac
  .exact a' f ac
 .unfold uR;rw[aC d.2.1];refine d.2.2.a λa b=>bV.b ⟨a,bj.b<|kg b.1<|bN a,?_⟩;unfold sU;exact jx (aC ⟨b.1,kg b.2.1 b.2.2⟩)<|ak.b b.2.1
def jy.q_(b c d:jD):=∃a∈jy.C,a.2.1=b/\a.2.2.1=c/\d=a.2.2.2.getD .C
def mG(a:j')(b:jM):Lt jD:=uO (qT a<|kL a) (rI a) (rI a) b
section
variable{c:jD}{d:jM}
def FJ(a:kz jy.D T)(b:X∈kL T){c:jM->Lt jH->Prop}(e:c (0,.D) jy.i_)(f:∀v∈jy.C,c (Lk (jy.K v.2.1) T.A,v.2.2.1)<|jy.K v.2.1):c X<|T.B X.1:=((xJ a).a b).a (λg=>jx g<|kg (zN a).b e) λb=>b.a λv d=>jx d.2<|kg (n4 a<|.A<|p9 d.1).2.b<|f v d.1
def O5(e:kz jy.D T)(b:(a,s)∈kL T):s∉m0:=λc=>((xJ e).a b).a (λf=>(oX c).2.2.1<|aB dO f) λb=>b.a λv d=>(pg<|kO.A _<|mx d.1).2.2.2.1<|kg (bf d.2).2 c
def su{e:jH}(a:e∈jy.K c){b:jH->Prop}(g:∀v∈jy.C,v.2.1=c->b (v.1,1))(h:∀f∈jy.A c,b (jy.E f,0)):b e:=(bR.a a).a (λa=>(am.a a).a λv d=>kg d.2<|g v (ar.a d.1).1<|aF (ar.a d.1).2) λa=>(am.a a).a λf d=>kg d.2<|h f d.1
def tV(a:t∈jy.i_){b:jH->Prop}(c:b (0,0))(e:∀v∈jy.C,b (v.1,0)):b t:=(ao.a a).a (λf=>kd f c) λa=>(am.a a).a λv d=>kg d.2<|e v d.1
def FK(a:kJ):(a.2.2=Y->La (jy.f_ a)=2)/\∀c,a.2.2=V c->La (jy.f_ a)=3/\(jy.f_ a).getD 2 .E=c:=⟨λb=>jx (xA ..)<|jx (aC b) U,λc b=>⟨jx (xA ..)<|jx (b ..) U,by rw[jy.f_,b];rfl⟩⟩
theorem aad(j:kz jy.D T)(q:X∈kL T)(l:d∈rk T X):X=(0,.D)/\∃v∈jy.C,v.2.2.2=Y/\d=(Lk (jy.K v.2.1) T.A,v.2.2.1):=by
 revert T X d;apply q3;generalize mj.1.1=T,mj.1.2=X,mj.2=d;intros;refine ka λr=>?_;obtain⟨a,h,i,e,c,b,n⟩:=O4.a l;apply r;revert h i c b;refine FJ (c:=λX x=>a∈x->jy.M a.1=X.2->e+1=La (jy.L a.1)->d=(mF T X.1 a.1 e,(jy.L a.1).getD e .E)->X=_/\∃v∈jy.C,v.2.2.2=Y/\d=(Lk (jy.K v.2.1) T.A,v.2.2.1)) j q (λh i c b=>⟨U,?_⟩) λv g h i c b=>?_;.refine tV (b:=λa=>jy.M a.1=.D->e+1=La (jy.L a.1)->d=(mF T 0 a.1 e,(jy.L a.1).getD e .E)->∃v∈jy.C,v.2.2.2=Y/\d=(Lk (jy.K v.2.1) T.A,v.2.2.1)) h jB (λv g k c b=>jO v g ?_) i c b;rw[rp g]at c b;cases m:v.2.2.2 with|none=>obtain rfl:e=1:=eO<|c.a<|(FK v.2).1 m;exact⟨U,b.a (aB (·,v.2.2.1) (Cn j g).1)⟩|some o=>have p:=(FK v.2).2 o m;obtain rfl:e=2:=eO<|c.a p.1;exact a' (kO.D _ (mx g) o m)<|O5 j<|p.2▸b▸n
 .refine(su (b:=λa=>jy.M a.1=v.2.2.1->e+1=La (jy.L a.1)->d=(mF T _ a.1 e,(jy.L a.1).getD e .E)->False) h (λu s k l k k=>(pg<|kO.A _<|mx g).2.2.1<|l.b.a<|oW s) (λf t k c b=>?_) i c b).elim;rw[u6<|mq t]at c b;rw[bZ,(show jy.G[e]?=V (jy.G[e]'(c▸bN e)) from aq _)]at b;exact O5 j (b▸n)<|kO.B _<|List.getElem_mem _
def zP(c:kz jy.D T):d∈qT T (kL T) X↔d=(0,.D)/\∃v∈jy.C,v.2.2.2=Y/\X=(Lk (jy.K v.2.1) T.A,v.2.2.1):=by
 refine aab.c ⟨λb=>aad c b.1 b.2,λb=>⟨kd b.1<|(xJ c).b kr,b.2.a λv a=>O4.b ⟨(v.1,0),jx b.1<|jL (zN c).b<|Ci a.1,jx b.1<|oW a.1,1,?_,?_,(xJ c).b<|.inr ⟨v,a.1,a.2.2⟩⟩⟩⟩;.exact((aB df<|rp a.1).a<|(FK v.2).1 a.2.1).b
 .exact jx b.1 (a.2.2.a (bt (Cn c a.1).1.b (aB (·.getD 1 .E)<|rp a.1).b))
def aae(b:kz jy.D T):qT T (kL T) (0,.D)=[]:=List.eq_nil_iff_forall_not_mem.b λd c=>((zP b).a c).2.a λv a=>(pg<|kO.A _<|mx a.1).2.2.1 (aB dO a.2.2).b
def O6[DecidableEq i]{d:jD->Bool}{e:jD->i}{b:Lt i}{c:i}(a:b[0]?=V c):(om d e b t)[0]?=V c:=by
 unfold om;cases jz.C t with
 |none=>exact a|some s=>
  show(if d s=aj then kN b _ else b)[0]?=V c;split;.exact(by
                                                     unfold kN;split;.exact a
                                                     .exact(dv (ag.a a).1).a a)
  .exact a
def O7(f:kz jy.D T):(kL T)[0]?=V (0,.D):=by have d:=xE▸f.B;unfold kL EM;cases e:T.A with|nil=>rw[e]at d;exact kh d|cons g h=>rw[e]at d;obtain rfl:g=jy.i_:=aY d;exact tU (λb (a:Lt jH×Nat) c=>tU (b:=λb:Lt jM=>b[0]?=V (0,.D)) (λb a c=>O6 (c:=((0,.D):jM)) c) a.1 b c) _ _<|tU (b:=λb:Lt jM=>b[0]?=V _) (λb a c=>O6 c) _ _ (show(om jD.F (λs=>_) [] (0,0))[0]?=V _ from U)
def aaf(a:kz jy.D T):jz.o_=.D:=by rfl
def FL(a:kz jy.D T):s∈rI T (0,.D)↔s=.C:=by unfold rI tB;rw[aC ⟨U,(aaf a).b⟩,bR,ak,zN a,a.A,zF,O3];exact⟨λb=>b.a (λb=>b.a λc d=>by rw[ak.a d.1,tS.2]at d;exact kh d.2.1) id,.inr⟩
def O8(a:kz jy.D T):mG T (0,.D)=rI T (0,.D):=by simp only[mG,uO,aae a];rfl
def O9(a:kz jy.D T):s∈mG T (0,.D)↔s=.C:=jx (O8 a)<|FL a
theorem O'(b:kz jy.D T)(e:c∈jy.B)(l:kY f):s∈mG T (Lk (jy.K c) T.A,f)↔jy.q_ c f s:=by
 revert f s c T;apply qu;generalize lr.1.1=f,lr.1.2=s,lr.2.1=T,lr.2.2=c;intros;have m:rI T (Lk (jy.K c) T.A,f)=jz.m_ (jy.a_ c f):=by unfold rI tB;exact jx (aA λn=>bi (FI b (.A e) O1) n.1)<|jx (bQ ..)<|jx ((n4 b<|.A e).2)<|jx (b.A ..)<|jx (xF l) U
 unfold mG;rw[aac,m,O3];constructor;.
  rintro(⟨i,j,o,_⟩|⟨i,j,p⟩);.refine jU (am.a j) λv a d=>?_;subst d;have g:=ar.a a;exact⟨v,g.1,(aF g.2).1,(aF g.2).2,jL ((mT g.1).2.2.1)<|jx o U⟩
  .obtain⟨d,v,a,k,h⟩:=(zP b).a j;exact⟨v,a,(Z9 e<|Cm b (.A e) (.A<|p9 a)<|aB ca h).b,(aB dO h).b,jx k<|(FL b).a<|jL d p⟩
 .rintro⟨v,a,q,k,h⟩;subst q k h;cases d:v.2.2.2 with|none=>exact .inr ⟨(0,.D),(zP b).b ⟨U,v,a,d,U⟩,(FL b).b U⟩|some i=>exact .inl<|kT (v.1,2) (xG a) ((mT a).2.2.1.a d)<|(oX<|kO.D _ (mx a) i d).1
end
def FM{b:pB}{e:lF}:e∈qU b↔∃c∈b,c.1=e:=by
 have i:∀(b:pB)(d:List lF),e∈b.foldl (λd c=>kN d c.1) d↔e∈d\/∃c∈b,c.1=e:=λb=>by induction b with|nil=>exact λd=>⟨.inl,λa=>a.a id λa=>jU a λc j o=>a' j ac⟩|cons c p k=>refine λd=>(k _).c ?_;rw[rf,aL];exact aK ⟨λa=>a.a (λa=>jO c ae a.b) λa=>a.b λf g=>⟨af _ g.1,g.2⟩,λa=>jU a λf l h=>(ao.a l).a (λm=>.inl<|jL m h.b) λn=>.inr<|jO f n h⟩
 exact(i b []).c ⟨λa=>a.b ac,.inr⟩
theorem Pa{c:pB}{e:lF}:f∈tL c e↔∃b∈c,b.1=e/\f∈b.2:=by
 revert c e f;apply q3;generalize mj.1.1=f,mj.1.2=c,mj.2=e;have l:∀(c:pB)(g:List jD),f∈c.foldl (λi b=>if b.1=e then lb i b.2 else i) g↔f∈g\/∃b∈c,b.1=e/\f∈b.2:=λc=>by
  induction c with
  |nil=>exact λg=>⟨.inl,λa=>a.a id λa=>a.a λb d=>a' d.1 ac⟩|cons b p m=>
   refine λg=>(m _).c ?_;have h:f∈(if b.1=e then lb g b.2 else g)↔f∈g\/(b.1=e/\f∈b.2):=by
    split;.rename_i a;exact qO.c<|aK ⟨λd=>⟨a,d⟩,ade⟩
    .rename_i a;exact⟨.inl,λd=>d.a id λd=>a' d.1 a⟩
   rw[h,aL];exact aK ⟨λa=>a.a (λa=>jO b ae a) λa=>a.b λj d=>⟨af _ d.1,d.2⟩,λa=>jU a λj n k=>(ao.a n).a (λh=>.inl<|jL h k) λo=>.inr<|jO j o k⟩
 exact(l c []).c ⟨λa=>a.b ac,.inr⟩
def u7{e:jM->Lt jD}{b:lF×Lt jD}:b∈qq T e (kL T)↔∃c∈kL T,(b.1.2,b.1.1)∈rJ T c/\b.2=e c:=bV.c ⟨λd=>d.b λc a=>⟨a.1,(am.a a.2).a λg f=>by rw[<-f.2];exact⟨f.1,U⟩⟩,λd=>d.b λc a=>⟨a.1,am.b<|jO _ a.2.1<|bt U a.2.2.b⟩⟩
def FN:(a,t)∈rJ T X↔∃c∈T.B X.1,jz.D c.1=X.2/\a=mF T X.1 c.1 (La (jz.A c.1))/\t∈p0 (T.B a) c.1:=by
 refine bV.c ⟨λf=>f.b λc b=>⟨b.1,?_⟩,λf=>f.b λc b=>⟨b.1,?_⟩⟩;.
  have d:=b.2;unfold uS at d;split at d;.exact(am.a d).a λg e=>⟨‹_›,(bf e.2).1.b,jL (bf e.2).1<|kg (bf e.2).2 e.1⟩
  .exact a' d ac
 .unfold uS;exact jx (aC b.2.1)<|am.b ⟨t,jL b.2.2.1 b.2.2.2,bt b.2.2.1.b U⟩
def jy.j_(a:Nat×kJ):Lt jH:=if a.2.2.2=Y then jy.a_ a.2.1 a.2.2.1 else[(a.1,3)]
abbrev jy.k_(a:Nat×kJ):jH:=(a.1,La (jy.f_ a.2))
abbrev jy.d_(a:jD):jH:=(jy.E a,La jy.G)
abbrev jy.h_(a:jD):Lt jH:=jy.b_ (jy.A a) (La jy.G)
end
section
variable{a f m v R:Nat}{b η:List jD}{c ζ:List Nat}{d:jT}{e:jF}{g p x T:jC}{i:Value}{j:kl}{k q w:jD}{l κ:j'}{n:List kJ}{o θ:Nat × kJ}{r:List (List jD)}{s:jP}{t:List Int}{u ι:Type}{y:List Value}{z:Int}{N:km}{O:List jA}{Q:jA}{S:ku}{W μ:List jH}{X:lk}{Z:List (Nat × Nat)}{α:Expr → Prop}{β:Addr}{γ:List (jD × List jD)}{δ:jA → jC → Prop}{ε:Bool}
section
variable{c:jM}{d:jH}
def Co:∃b,La jy.G=b+1:=kO.F.a (λa=>⟨0,a⟩) λa=>⟨1,a⟩
def tW(b:w∈jy.B):mK<|jy.h_ w:=(Co).a λc a=>by unfold jy.h_;exact jx a<|.E b<|kd a<|bN c
def Cp(a:o∈jy.C):mK<|jy.j_ o:=by
 unfold jy.j_;split;.exact .B (p9 a)<|qt a
 .exact .D a ‹_›
def n':(o.2.2.2=Y->La (jy.f_ o.2)=2/\jy.j_ o=jy.a_ o.2.1 o.2.2.1)/\(o.2.2.2≠Y->La (jy.f_ o.2)=3/\jy.j_ o=[(o.1,3)]):=⟨λa=>⟨(xA _).a<|aC a,aC a⟩,λa=>⟨(xA _).a<|aA a,aA a⟩⟩
def Pb(c:kz jy.D l)(b:o∈jy.C):mF l 0 o.1 (La (jy.L o.1))=Lk (jy.j_ o) l.A:=by
 rw[rp b];by_cases a:o.2.2.2=Y;.rw[((n').1 a).1,((n').1 a).2];exact(Cn c b).2.1
 .exact jx (((n').2 a).1)<|jx (((n').2 a).2)<|(Cn c b).2.2 a
def Pc(d:kz jy.D l)(e:w∈jy.B)(a:kY k):mF l (Lk (jy.K w) l.A) (jy.E k) (La (jy.L<|jy.E k))=Lk (jy.h_ w) l.A:=(Co).a λb c=>by unfold jy.h_;exact jx (u6 a)<|jx c<|Z' d e a b<|kd c<|bN b
def Pd:d∈p0 W a↔d∈W/\jz.D d.1=jz.D a/\La (jz.A d.1)=La (jz.A a)/\Ll d.2 (jz.A d.1)=Ll d.2 (jz.A a):=ar.c<|and_congr_right λb=>aO ..
def FO(b:d∈jy.j_ o)(f:o∈jy.C):d=jy.k_ o\/∃a∈jy.C,d=(a.1,2)/\o.2.2.2=Y/\a.2.1=o.2.1/\a.2.2.1=o.2.2.1:=by
 by_cases c:o.2.2.2=Y;.rw[((n').1 c).2]at b;exact(am.a b).a λa e=>.inr<|nQ a ((ar.a e.1).1) e.2.b c<|aF (ar.a e.1).2
 .rw[((n').2 c).2]at b;exact .inl<|(ak.a b).a<|bt U ((n').2 c).1.b
theorem Pe(c:o∈jy.C):d∈p0 (jy.j_ o) o.1↔d=jy.k_ o:=by
 revert o d;apply od;generalize lX.1=o,lX.2=d;intros;refine Pd.c ⟨λf=>(FO f.1 c).a id λg=>g.a λj a=>?_,λb=>jx b (mz ((by
  unfold jy.k_;by_cases b:o.2.2.2=Y;.exact jx (((n').1 b).1)<|jx (((n').1 b).2)<|xG c
  .refine jx (((n').2 b).1)<|jx (((n').2 b).2) ?_;exact cX _)) U U U)⟩;have e:La (jy.L d.1)=La (jy.L o.1):=f.2.2.1;simp only[a.2.1,rp a.1,rp c,((n').1 a.2.2.1).1,xA]at e;have h:=gb λi=>by rw[aA i]at e;cases e
 exact jx a.2.1<|jx (xz a.1 c<|bt a.2.2.2.1<|bt a.2.2.2.2<|h.a a.2.2.1.b)<|bt U ((n').1 a.2.2.1).1.b
def Pf(b:k∈jy.A w):d∈p0 (jy.h_ w) (jy.E k)↔d=jy.d_ k:=Pd.c ⟨λc=>by refine jU (am.a c.1) λf e a=>?_;subst a;rw[(pG<|mq e).b.a<|(c.2.1).a<|pG<|mq b],λa=>jx a<|mz (xH b) U U U⟩
theorem s4(e:kz jy.D l):(c∈kL l/\(m,d)∈rJ l c)↔(∃o∈jy.C,c=(0,.D)/\m=Lk (jy.j_ o) l.A/\d=jy.k_ o)\/∃w∈jy.B,∃k∈jy.A w,c=(Lk (jy.K w) l.A,k)/\m=Lk (jy.h_ w) l.A/\d=jy.d_ k:=by
 revert m l c d;apply qu;generalize lr.1.1=m,lr.1.2=l,lr.2.1=c,lr.2.2=d;intros;constructor;.
  rintro⟨y,j⟩;refine ka λz=>oe (FN.a j) λa n i f h=>z ?_;revert n i f;refine FJ (c:=λc W=>a∈W->jy.M a.1=c.2->m=mF l c.1 a.1 (La (jy.L a.1))->(∃o∈jy.C,c=_/\m=Lk (jy.j_ o) l.A/\d=jy.k_ o)\/∃w∈jy.B,∃k∈jy.A w,c=(Lk (jy.K w) l.A,k)/\m=Lk (jy.h_ w) l.A/\d=jy.d_ k) e y (λn i f=>.inl ?_) λo b n i f=>.inr ?_;.refine tV (b:=λa=>d∈p0 _ a.1->jy.M a.1=.D->m=mF l 0 a.1 (La (jy.L a.1))->∃o∈jy.C,_=_/\m=Lk (jy.j_ o) l.A/\d=jy.k_ o) n (λq j=>a' j jB) (λo b h q f=>?_) h i f;have p:=f.a<|Pb e b;rw[p,(n4 e<|Cp b).2,Pe b]at h;exact nQ o b U p h
  .refine su (b:=λa=>d∈p0 _ a.1->jy.M a.1=o.2.2.1->m=mF l _ a.1 (La (jy.L a.1))->∃w∈jy.B,∃k∈jy.A w,_=(Lk (jy.K w) l.A,k)/\m=Lk (jy.h_ w) l.A/\d=jy.d_ k) n (λB A q q j q=>((pg<|kO.A _<|mx b).2.2.1<|j.b.a<|oW A).elim) (λk g h i f=>?_) h i f;have t:=mq g;have p:=f.a<|Pc e (p9 b) t;rw[p,(n4 e<|tW<|p9 b).2,Pf g]at h;exact⟨o.2.1,p9 b,k,g,bt U<|i.b.a<|pG t,p,h⟩
 .rintro(⟨o,b,u,v,x⟩|⟨w,r,k,g,u,v,x⟩)<;>subst u v x;.
   refine⟨(xJ e).b kr,FN.b<|nQ (o.1,0) (jL (zN e).b<|Ci b) ?_ ?_ ?_⟩;.exact oW b
   .exact(Pb e b).b
   .exact jx ((n4 e<|Cp b).2)<|(Pe b).b U
  .refine⟨(tT.a g).a λo s=>(xJ e).b<|.inr ⟨o,s.1,jx s.2.1<|jx s.2.2 U⟩,FN.b<|nQ (jy.E k,0) (jL (n4 e<|.A r).2.b<|FF g) ?_ ?_ ?_⟩;.exact pG<|mq g
   .exact(Pc e r<|mq g).b
   .exact jx ((n4 e<|tW r).2)<|(Pf g).b U
def Pg:∀{c:Lt jD},(∀k∈b,kY k)->(∀k∈c,kY k)->jy.b_ b f=jy.b_ c f->b=c:=by
 induction b with
 |nil=>exact λ{c} e g a=>by cases c with|nil=>rfl|cons=>exact a' a jB
 |cons h l i=>exact λ{c} e g a=>by cases c with|nil=>exact a' a jB|cons j m=>have d:=an a;rw[Cb (e h ae) (g j ae) (bf d.1).1,i (λk a=>e k<|af _ a) (λk a=>g k<|af _ a) d.2]
def zQ(a:o∈jy.C)(b:kY k):o.1≠jy.E k:=bF<|aZ (rO a).2 (pF b).1
abbrev u8(l:j'):Lt lF:=qU<|qq l (mG l)<|kL l
def zR(d:kz jy.D l)(e:o∈jy.C):q∈lA l (mG l) (jy.k_ o) (Lk (jy.j_ o) l.A)↔q=.C:=Pa.c ⟨λg=>li g λa h f i=>(u7.a h).a λc b=>((s4 d).a ⟨b.1,b.2.1⟩).a (λj=>oe j λn p m _ _=>(O9 d).a<|jL m<|jL b.2.2 i) λb=>b.a λw b=>b.2.a λk b=>a' (bf<|(aB ca f).b.a b.2.2.2).1<|zQ e<|mq b.1,λf=>kT (_,mG l _) (u7.b<|kT (0,.D) (((s4 d).b<|.inl ⟨o,e,U,U,U⟩).1) (((s4 d).b<|.inl ⟨o,e,U,U,U⟩).2) U) U<|(O9 d).b f⟩
def Ph(a:kz jy.D l)(b:w∈jy.B)(c:k∈jy.A w):(jy.d_ k,Lk (jy.h_ w) l.A)∈u8 l:=have d:=(s4 a).b<|.inr ⟨w,b,k,c,U,U,U⟩;FM.b ⟨(_,mG l _),u7.b<|kT _ d.1 d.2 U,U⟩
theorem Pj(f:kz jy.D l)(o:w∈jy.B)(m:k∈jy.A w):q∈lA l (mG l) (jy.d_ k) (Lk (jy.h_ w) l.A)↔∃b∈jy.B,jy.A b=jy.A w/\jy.q_ b k q:=by
 revert k q w l;apply qu;generalize lr.1.1=k,lr.1.2=q,lr.2.1=w,lr.2.2=l;intros;have h:=mq m;refine Pa.c ⟨λp=>li p λa r g s=>(u7.a r).a λc j=>((s4 f).a ⟨j.1,j.2.1⟩).a (λt=>oe t λC u _ _ i=>a' (bf<|(aB ca g).b.a i).1.b<|zQ u h) λ⟨b,e,v,x,y,n,i⟩=>?_,λz=>li z λb e g A=>?_⟩;.rw[g]at n i;obtain rfl:k=v:=Cb h (mq x) (bf i).1;exact kT b e ((Pg (λB=>mq) (λB=>mq)<|Cm f (tW o) (tW e) n).b)<|(O' f e h).a<|jL y<|jL j.2.2 s
 .have d:=(s4 f).b<|.inr ⟨b,e,k,jx g m,U,U,U⟩;exact kT ((jy.d_ k,Lk _ l.A),mG l _) (u7.b<|kT _ d.1 d.2 U) (by unfold jy.h_;rw[g])<|(O' f e h).b A
def Pk(r:mK W)(e:d∈W)(j:jz.C d=Y){l:jH->List jH->Prop}(s:l (0,1) jy.n_)(m:∀o∈jy.C,l (jy.k_ o)<|jy.j_ o)(t:∀w∈jy.B,∀k∈jy.A w,l (jy.d_ k)<|jy.h_ w):l d W:=by cases r with|C=>exact(tV (b:=λd=>jz.C d=Y->False) e jB (λo a g=>a' ((mT a).1.b.a g) jB) j).elim|F=>exact jx (ak.a e) s|A n=>exact(su (b:=λd=>jz.C d=Y->False) e (λo a y g=>a' ((mT a).2.1.b.a g) jB) (λk h g=>(Co).a λm b=>js m<|aX (aw b.b)<|bz.a<|(p8<|mq h).b.a g) j).elim|@B w k n h=>refine jU (am.a e) λo a b=>ug (ar.a a) λp u=>?_;have q:=aF u;have i:=(n').1<|(mT p).2.2.1.b.a<|(aB jz.C b).a j;have c:=m o p;unfold jy.k_ at c;simp only[i.1,i.2,q.1,q.2]at c;exact jL b c|@D o a v=>have i:=(n').2 v;have c:=m o a;unfold jy.k_ at c;simp only[i.1,i.2]at c;exact jx (ak.a e) c|@E w f n x=>refine jU (am.a e) λk h b=>?_;simp only[<-b,(show f+1=La jy.G from cC x<|bz.a<|(p8<|mq h).b.a<|(aB jz.C b).a j)];exact t w n k h
def aag(c:(0,0)∈jz.F (jz.E W q)):False:=(bR.a c).a (λc=>(cV.a c).a λf d=>by
 have e:=d.2;split at e;.exact dc _ (bf<|aY e).2
 .exact kh e) λc=>(am.a c).a λa d=>by
 refine jU (bV.a<|(qO.a<|kg (bf d.2).1 d.1).b ac) λf _ b=>?_;unfold jz.J at b;split at b;.
  split at b;.exact(aF (ar.a b).2).1 U
  .exact a' b ac
 .exact a' b ac
def Pl(i:mK W){h:jH}(j:h∈W):jz.C h≠V .C:=λb=>have e:jD.C∉m0:=by decide
 Ch (i:=λg q=>q=.C->False) i j b jB (λo c a=>e<|kg a<|kO.C _<|mx c) (λo c a=>(kO.A _<|mx c).a (λb=>a' (a.b.a b) jB) λb=>a' (a.b.a b) jB) (λw g a d=>e<|kO.B _<|d▸aa a) (λo c a d=>e<|kO.D _ (mx c) _<|d▸a) (λw g f g a d=>e<|kO.B _<|d▸aa a) U
theorem aah(e:kz jy.D l):tO l<|mG l:=by
 revert l;apply pJ;generalize pn=l;intros;exact(mz ((λw q=>by exact FJ (c:=λc W=>∀a∈W,jy.M a.1=c.2->a.2=0) e q (λa s f=>tV (b:=λh=>h.2=0) s U λf f=>U) λo g a s=>su (b:=λh=>jy.M h.1=o.2.2.1->h.2=0) s (λO G f b=>a' (b.b.a<|oW G) (pg<|kO.A _<|mx g).2.2.1) λf f f=>U)) ((λy w H h n=>by obtain⟨b,o,g,_,I⟩:=(zP e).a n;cases y with|zero=>exact a' (aB ca<|(aY<|(O7 e).b.a H).a I).b<|bi<|FI e (.A<|p9 g) O1|succ y=>exact kd b<|aa<|(ci<|fB y).a<|O7 e)) (λw f=>O2 λC h n=>jx (((zP e).a n).1)<|jx (O8 e) U) (λm W i=>(by
  have D:=zM e i;have z:∀{t:jH->List jH->Prop},(∀o∈jy.C,Lk _ l.A=m->t ..)->(∀w∈jy.B,Lk _ l.A=m->∀k∈jy.A w,t ..)->∀d∈W,jz.C d=Y->jz.D d.1≠.E->t d W:=λ{t} C J d u A j=>by exact Pk (l:=λd W=>jy.M d.1≠.E->Lk W l.A=m->t d W) D.1 u A (λi=>a' U i) (λo g f i=>C o g i) (λw q k r f i=>J w q i k r) j D.2
  refine mS (z (t:=λd f=>_∈u8 l) (λo g i=>(FM.c ⟨λK=>jU K λa s b=>(u7.a s).a λc p=>((s4 e).a ⟨p.1,p.2.1⟩).a (λL=>oe L λM B _ E v=>by rw[b]at E v;refine jx (Fy g B (bf v).1) ?_;exact E) λ⟨w,_,k,r,_,_,v⟩=>a' (bf<|(aB ca b).b.a v).1<|zQ g<|mq r,λb=>jO (_,mG l _) (u7.b<|kT (0,.D) (((s4 e).b<|.inl ⟨o,g,U,b,U⟩).1) (((s4 e).b<|.inl ⟨o,g,U,b,U⟩).2) U) U⟩).b i.b) λw q i k r=>jL i<|Ph e q r) (λd u j b=>j<|jx b U) (z (t:=λd W=>∀x∈lA l _ d m,∀h∈W,jz.C h≠V x) (λo g i x F h n=>?_) λw q i k r x F h n=>?_) (z (t:=λd W=>jD.C∈lA l _ d m->∀h∈W,jz.C h=Y->jz.D h.1≠.E) (λo g f f h n f j=>?_) λw q f k r f h n f j=>?_) λd u x A=>?_;.have b:=(zR e g).a<|jx i F;exact jx b<|Pl (Cp g) n
  .exact(am.a n).a λN p=>jL p.2 λb=>by rw[p8<|mq p.1,cx<|al _]at b;exact kh b
  .replace j:=j;rcases FO n g with b|⟨M,B,b,_⟩;.rw[b]at j;exact nomatch(oW g).b.a j
   .rw[b]at j;exact nomatch(oW B).b.a j
  .exact(am.a n).a λN p=>(pg<|mq p.1).2.2.2.2<|(pG<|mq p.1).b.a<|(aB (λd:jH=>jy.M d.1) p.2).a j
  .exact jx (e.A ..)<|FI e ((O0 e).a<|v' e (aa i) u A) λb=>aag<|jx b ae)))
end
section
variable{a:jH->Lt jD}{b:ma}{c d:jH}
def u9(a:jH->Lt jD)(d:jH)(k:jD):=(jz.C d=V k/\k.H=aj)\/(jz.C d=Y/\((jz.D d.1=.E/\k=.C)\/(jz.D d.1≠.E/\k∈a d)))
def Cq{a:List<|jD×u}{b:u}(c:Lj q a≠Y\/q=k):Lj q (md a k b)≠Y:=by
 refine jx oU ?_;split;.exact jB
 .exact c.d ‹_›
def Pm(a:Lj q b.1≠Y\/q=k):Lj q (mI c b k).1≠Y:=by
 simp only[mI];cases e:Lj k b.1 with
 |none=>exact Cq a|some d=>
  show Lj q (if jz.G c.1<jz.G (Lg (-d))then _ else(b.1,b.2++[(Lg (-d),c.1)])).1≠Y;split;.exact Cq a
  .exact a.a id λf=>by simp only[f,e];exact jB
def aai:∀(d:Lt jD)(b:ma),Lj q b.1≠Y\/q∈d->Lj q (d.foldl (mI c) b).1≠Y:=λ{d}=>lO (λ_ a=>a.d ac) (λk g e=>λb a=>e _<|a.a (λa=>.inl<|Pm<|.inl a) λa=>(ao.a a).a (λf=>.inl<|Pm<|.inr f) .inr) d
def Pn(c:Lj q b.1≠Y\/u9 a d q):Lj q (np l W a b d).1≠Y:=by
 simp only[np];unfold u9 at c;cases e:jz.C d with
 |none=>
  rw[e]at c;show Lj q (if jz.D d.1=.E then _ else(a d).foldl _ b).1≠Y;split;.exact Cq (c.e λc=>c.a (λc=>kh c.1) λc=>c.2.a (·.2) λc=>a' ‹_› c.1)
  .exact aai _ _ (c.e λc=>c.a (λc=>kh c.1) λc=>c.2.a (λc=>a' c.1 ‹_›) (·.2))|some k=>
  rw[e]at c;show Lj q (if k.H=aj then oF l W b k else b).1≠Y;split;.have f:=c.e λc=>c.a (λc=>(aY c.1).b) λc=>nomatch c.1;simp only[oF];cases g:Lj k b.1 with|none=>exact Cq f|some j=>exact f.a id λh=>jL h.b λi=>a' (g.b.a i) jB
  .exact c.a id λc=>c.a (λc=>a' (aY c.1▸c.2) ‹_›) λc=>nomatch c.1
def aaj:∀(e:List jH)(b:ma),(Lj q b.1≠Y\/∃d∈e,u9 a d q)->Lj q (e.foldl (np l W a) b).1≠Y:=λ{e}=>lO (λ_ c=>c.d λc=>jU c λd g n=>ac g) (λd o h=>λb c=>h _<|c.a (λc=>.inl<|Pn<|.inl c) λc=>jU c λi j f=>(ao.a j).a (λk=>.inl<|Pn<|.inr<|jL k f) λm=>.inr<|jO i m f) e
def aak(a:Lt jD):∀b:ma,Le a->(∀k∈a,Lj k b.1=Y)->(a.foldl (mI c) b).2=b.2:=lO (λd d d=>U) (λk l h=>by
 intro b e f;have i:mI c b k=(md b.1 k (-(c.1:Int)),b.2):=by simp only[mI,f k ae];rfl
 simp only[adc,i];exact h _ (cQ.a e).2 λq g=>by exact jx oU<|jx (aA λj:q=k=>(cQ.a e).1<|kg j g)<|f q<|af _ g) a
theorem aal(e:Lj q (np l W a b d).1≠Y):Lj q b.1≠Y\/u9 a d q:=by
 revert l W a b d q;apply qv;generalize kE.1.1.1=q,kE.1.1.2=l,kE.1.2=W,kE.2.1.1=a,kE.2.1.2=b,kE.2.2=d;intros;have m:∀{c:jH}(h:Lt jD)(b:ma),Lj q (h.foldl (mI c) b).1≠Y->Lj q b.1≠Y\/q∈h:=λ{c} h=>by
  induction h with
  |nil=>exact λb e=>.inl e|cons k i n=>
   refine λb e=>(n _ e).a (λe=>?_) λe=>.inr<|af _ e;by_cases f:q=k;.exact .inr<|kd f ae
   .refine .inl λg=>e ?_;simp only[mI];cases Lj k b.1 with
    |none=>exact(oU ..).a<|(aA f).a g|some i=>
     show Lj q (if jz.G c.1<jz.G (Lg (-i))then _ else(b.1,b.2++[(Lg (-i),c.1)])).1=Y;split;.exact(oU ..).a<|(aA f).a g
     .exact g
 simp only[np]at e;unfold u9;cases g:jz.C d with
 |none=>
  rw[g]at e;change Lj q (if jz.D d.1=.E then _ else(a d).foldl _ b).1≠Y at e;split at e;.
   by_cases f:q=.C;.exact kC ⟨U,.inl ⟨‹_›,f⟩⟩
   .exact .inl λj=>e<|(oU ..).a<|(aA f).a j
  .exact(m _ _ e).e λo=>.inr ⟨U,.inr ⟨‹_›,o⟩⟩|some k=>
  rw[g]at e;change Lj q (if k.H=aj then oF l W b k else b).1≠Y at e;split at e;.
   by_cases f:q=k;.exact n6 ⟨aB V f.b,f▸‹_›⟩
   .refine .inl λj=>e ?_;simp only[oF];cases Lj k b.1 with|none=>exact(oU ..).a<|(aA f).a j|some i=>exact j
  .exact .inl e
def aam:∀(c:List jH)(b:ma),Le c->(∀d,Le (a d))->(∀d∈c,jz.C d=Y->jz.D d.1≠.E->∀k∈a d,Lj k b.1=Y/\∀f∈c,u9 a f k->f=d)->(c.foldl (np l W a) b).2=b.2:=λc=>by
 induction c with
 |nil=>exact λg g g g=>U|cons d x p=>
  intro b q j m;have n:=cQ.a q;refine(p _ n.2 j λf o r s k h=>?_).a ?_;.have i:=m f (af _ o) r s k h;exact⟨gb λe=>(aal e).a (λe=>e i.1) λe=>n.1<|kd (i.2 d ae e) o,λt u v=>i.2 t (af _ u) v⟩
  .simp only[np];cases w:jz.C d with
   |none=>
    show(if jz.D d.1=.E then _ else(a d).foldl _ b).2=b.2;split;.rfl
    .exact aak _ b (j d) λk h=>(m d ae w ‹_› k h).1|some k=>
    show(if k.H=aj then oF l W b k else b).2=b.2;split;.simp only[oF];cases Lj k b.1<;>rfl
    .rfl
end
def oo(a:j')(b:Nat):Lt<|jD×Int:=(rM a (a.B b) λc=>lA a (mG a) c b).1
def u'(e:j')(f:Nat->List (jD×Int)):=(∀i,Le ((f i).map (·.1)))/\(∀{a b},Lj a (f 0)=V b↔a∈jy.B/\b=(Lk (jy.K a) e.A:Nat))/\(∀{a b},Lj a (f<|Lk jy.n_ e.A)=V b↔a=.C/\b=0)/\(∀{c a b},c∈jy.B->(Lj a (f<|Lk (jy.K c) e.A)=V b↔jy.G[0]?=V a/\b=(Lk (jy.b_ (jy.A c) 1) e.A:Nat)))/\(∀{c h a b},c∈jy.B->h∈jy.A c->(Lj a (f<|Lk (jy.a_ c h) e.A)=V b↔∃d∈jy.C,d.2.1=c/\d.2.2.1=h/\a=d.2.2.2.getD .C/\b=if d.2.2.2=Y then-((d.1:Nat):Int)else(e.A.idxOf [(d.1,3)]:Nat)))/\(∀{d a b},d∈jy.C->d.2.2.2≠Y->(Lj a (f<|e.A.idxOf [(d.1,3)])=V b↔a=.C/\b=-((d.1:Nat):Int)))/\∀{c g a b},c∈jy.B->g+1<La jy.G->(Lj a (f<|Lk (jy.b_ (jy.A c)<|g+1) e.A)=V b↔jy.G[g+1]?=V a/\b=(Lk (jy.b_ (jy.A c)<|g+2) e.A:Nat))
section
variable{a:Nat->Lt (jD×Int)}(b:u' l a)
def u'.A:=@b.2.1
def u'.C:=@b.2.2.1
def u'.D:=@b.2.2.2.1
def u'.B:=@b.2.2.2.2.1
def u'.E:=@b.2.2.2.2.2.1
def u'.F:=@b.2.2.2.2.2.2
end
section
variable{b:jD}
def aan{a:jH}(d:Lt jD):∀q:ma,Le (q.1.map (·.1))->Le ((d.foldl (mI a) q).1.map (·.1)):=λq=>tU (b:=λq:ma=>Le (q.1.map _)) (λq b c=>by
 simp only[mI];cases Lj b q.1 with
 |none=>exact sZ c|some o=>
  show Le (ey _ (if jz.G a.1<jz.G (Lg (-o))then _ else(q.1,q.2++[(Lg (-o),a.1)])).1);split;.exact sZ c
  .exact c) d q
def s5:Le ((oo l f).map (·.1)):=tU (b:=λq:ma=>Le (q.1.map _)) (λq c a=>by
 simp only[np];cases jz.C c with
 |none=>
  show Le (ey _ (if jz.D c.1=.E then _ else(lA l _ c f).foldl _ q).1);split;.exact sZ a
  .exact aan _ _ a|some b=>
  show Le (ey _ (if b.H=aj then oF l _ q b else q).1);split;.simp only[oF];cases Lj b q.1 with|none=>exact sZ a|some o=>exact a
  .exact a) _ _ .nil
theorem Po(e:kz jy.D l)(f:mK W):nq l (lA l<|mG l) (Lk W l.A) W<|oo l<|Lk W l.A:=by
 revert W l;apply od;generalize lX.1=l,lX.2=W;intros;have g:∀(c:Lt jH)(q:ma),(∀w∈c,w∈W)->nq l _ _ W q.1->nq l _ _ W (c.foldl (np l W λw=>lA l (mG l) w<|Lk W l.A) q).1:=λc=>by induction c with|nil=>exact λq h a=>a|cons w o i=>exact λq d a=>i _ (λj k=>d j<|af _ k)<|a.C<|d w ae
 unfold oo rM;exact jL ((n4 e f).2).b<|g W _ (λh a=>a) λb o a=>kh a
def aao(b:kz jy.D l)(c:mK W){a:jH}(d:a∈W)(e:u9 (λw=>lA l (mG l) w<|Lk W l.A) a q):∃z,Lj q (oo l<|Lk W l.A)=V z:=by unfold oo rM;exact jL ((n4 b c).2).b<|dq.a<|aaj W _<|.inr<|jO a d e
def Cr(d:kz jy.D l)(e:mK W){a:jD->Int->Prop}(i:∀{q z b},a q z->a q b->z=b)(f:∀{q z},zj l (lA l<|mG l) (Lk W l.A) W q z->a q z)(j:∀{q z},a q z->∃g∈W,u9 (λw=>lA l (mG l) w<|Lk W l.A) g q):Lj q (oo l<|Lk W l.A)=V z↔a q z:=by exact⟨λc=>f<|Po d e _ _ c,λc=>(j c).a λg b=>(aao d e b.1 b.2).a λk h=>jx (i c<|f<|Po d e _ _ h) h⟩
def FP(e:kz jy.D l)(h:mK W)(f:∀a∈W,jz.C a≠Y):Lj q (oo l<|Lk W l.A)=V z↔(∃a∈W,jz.C a=V q/\q.H=aj)/\z=(Lk (jz.F<|jz.E W q) l.A:Nat):=by
 refine Cr (a:=λq z=>(∃a∈W,jz.C a=V q/\q.H=aj)/\z=(Lk (jz.F<|jz.E W q) l.A:Nat)) e h (λb i=>b.2.a i.2.b) (λb=>?_) λb=>b.1.b λa g=>⟨g.1,.inl g.2⟩;unfold zj at b;rw[e.A]at b;rcases b with⟨a,c,d,_⟩|⟨a,c,d,j,k⟩|⟨_,_,a,c,d,_⟩;.exact a' d<|f a c
 .exact⟨kT a c d j,k⟩
 .exact a' d<|f a c
def tX{a:Op u}{b:u}(c:a=V b):a≠Y:=λd=>a' (c.b.a d) jB
def Pq(e:θ∈jy.C)(f:o∈jy.C)(a:θ.2.2.2.getD .C=o.2.2.2.getD .C):θ.2.2.2=o.2.2.2:=by
 cases c:θ.2.2.2 with
 |none=>cases b:o.2.2.2 with|none=>rfl|some d=>rw[c,b]at a;exact a' a.b (oX<|kO.D _ (mx f) d b).2.2.2
 |some d=>cases b:o.2.2.2 with|none=>rw[c,b]at a;exact a' a (oX<|kO.D _ (mx e) d c).2.2.2|some g=>rw[c,b]at a;exact aB V a
theorem sv(m:kz jy.D l):u' l<|oo l:=by
 revert l;apply pJ;generalize pn=l;intros;refine m3 (λf=>s5) (λ{q z}=>?_) (λ{q z}=>?_) (λ{w q z} n=>?_) (λ{w k q z} n t=>?_) (λ{o q z} c g=>?_) λ{w a q z} n E=>?_;.
  have F:=FP (q:=q) (z:=z) m .C λd g=>tV (b:=λd=>jz.C d≠Y) g (tX tS.1) λo c=>tX (mT c).1;rw[s3 m]at F;refine F.c ⟨λb=>?_,λb=>?_⟩;.have n:=li b.1 λd H I J=>tV (b:=λd=>jz.C d=V q->q∈jy.B) H (λe=>nomatch(aY e:jD.D=q)▸J) (λo c e=>aY ((mT c).1.b.a e)▸p9 c) I;exact⟨n,jx b.2<|jx (zG (oX<|FE n).2.2.1) U⟩
  .exact⟨(ph.a b.1).a λo h=>kT (o.1,0) (Ci h.1) (h.2▸(mT h.1).1)<|(oX<|FE b.1).1,jx b.2<|jx (zG (oX<|FE b.1).2.2.1) U⟩
 .refine Cr (a:=λq z=>q=.C/\z=0) m .F (λb C=>b.2.a C.2.b) (λb=>?_) λb=>jO (0,1) (cX _)<|.inr ⟨tS.2,.inl ⟨U,b.1⟩⟩;rcases b with⟨d,g,_,e,_⟩|⟨d,g,e,_⟩|⟨e,K,_⟩;.exact a' (jx (ak.a g) U) e
  .rw[ak.a g,tS.2]at e;exact kh e
  .exact⟨e,K⟩
 .refine(FP m (.A n) λd g=>su (b:=λd=>jz.C d≠Y) g (λo c L=>tX (mT c).2.1) λk t=>(Co).a λM e=>tX<|(p8<|mq t).a<|aq<|kd e<|fB M).c ⟨λb=>?_,λb=>?_⟩;.have u:=li b.1 λd N O P=>su (b:=λd=>jz.C d=V q->jy.G[0]?=V q) N (λo c L e=>a' (aY ((mT c).2.1.b.a e)▸(pg<|kO.A _<|mx c).2.1:q.H=ah) λi=>av<|i.b.a P) (λk t e=>(p8<|mq t).b.a e) O;exact⟨u,jx b.2<|jx (zJ u) U⟩
  .exact⟨(ph.a n).a λo h=>kT (jy.E o.2.2.1,0) (FF<|h.2▸qt h.1) ((p8<|kO.A _<|mx h.1).a b.1)<|(oX<|kO.B _<|aa b.1).1,jx b.2<|jx (zJ b.1) U⟩
 .refine Cr (a:=λq z=>∃o∈jy.C,o.2.1=w/\o.2.2.1=k/\q=o.2.2.2.getD .C/\z=if o.2.2.2=Y then-(o.1:Int)else(l.A.idxOf [(o.1,3)]:Nat)) m (.B n t) (λ⟨o,c,x,y,r,R⟩ ⟨S,G,T,W,X,Z⟩=>?_) (λ{q z} b=>?_) λ{q z} ⟨o,c,x,y,r,_⟩=>?_;.obtain rfl:o=S:=xz c G<|bt (x.a T.b)<|bt (y.a W.b)<|Pq c G<|r.b.a X;exact R.a Z.b
  .unfold zj at b;rw[m.A]at b;have A:∀{d},d∈jy.a_ w k->∃o∈jy.C,o.2.1=w/\o.2.2.1=k/\d=_:=λg=>(am.a g).a λo h=>nQ o ((ar.a h.1).1) ((aF (ar.a h.1).2).1) ((aF (ar.a h.1).2).2) h.2.b;rcases b with⟨d,g,e,_,D,B⟩|⟨d,g,e,_,B⟩|⟨_,_,d,g,_,e⟩<;>obtain⟨o,c,x,y,r⟩:=A g<;>subst x y r;.have i:=(mT c).2.2.1.b.a e;have j:=zR (q:=q) m c;unfold jy.k_ at j;rw[((n').1 i).1,((n').1 i).2]at j;exact rV o c U U (jx i<|j.a D)<|kd (aC i) B
   .have i:=(mT c).2.2.1.b.a e;exact rV o c U U (jx i U)<|kd (aA<|tX i)<|jx B<|jx (Cg c i) U
   .exact nomatch(oW c).b.a e
  .subst x y;refine jO (o.1,2) (xG c) ?_;cases i:o.2.2.2 with|none=>have j:=zR (q:=q) m c;unfold jy.k_ at j;rw[((n').1 i).1,((n').1 i).2]at j;exact .inr ⟨(mT c).2.2.1.a i,.inr ⟨λe=>(nomatch(oW c).b.a e),j.b<|jx r<|jx i U⟩⟩|some d=>obtain rfl:q=d:=jx r<|jx i U;exact .inl ⟨(mT c).2.2.1.a i,(oX<|kO.D _ (mx c) q i).1⟩
 .have j:=λ{q}=>by have j:=zR (q:=q) m c;unfold jy.k_ at j;rw[((n').2 g).1,((n').2 g).2]at j;exact j
  refine Cr (a:=λq z=>q=.C/\z=-(_:Int)) m (.D c g) (λb C=>b.2.a C.2.b) (λb=>?_) λb=>jO (o.1,3) (cX _)<|.inr ⟨(mT c).2.2.2,.inr ⟨λe=>(nomatch(oW c).b.a e),j.b b.1⟩⟩;rcases b with⟨d,g,_,_,D,B⟩|⟨d,g,e,_⟩|⟨_,_,d,g,_,e⟩<;>obtain rfl:=ak.a g;.exact⟨j.a D,B⟩
  .exact kh<|(mT c).2.2.2.b.a e
  .exact nomatch(oW c).b.a e
 .have A:∀d∈jy.b_ (jy.A w) _,jz.C d=jy.G[a+1]?:=λd g=>(am.a g).a λk h=>h.2▸p8 (mq h.1);refine(FP m (.E n<|cP E) λd g=>tX<|(A d g).a<|aq E).c ⟨λb=>?_,λb=>?_⟩;.have u:=li b.1 λd α β γ=>(A d α).b.a β;exact⟨u,jx b.2<|jx (zK u) U⟩
  .exact⟨(ph.a n).a λo h=>kT (jy.E o.2.2.1,a+1) (xH<|h.2▸qt h.1) ((A _<|xH<|h.2▸qt h.1).a b.1)<|(oX<|kO.B _<|aa b.1).1,jx b.2<|jx (zK b.1) U⟩
end
def jy.F:jD:=if jy.e_=jy.o_ then .A else .B
def jy.I:jD:=if jy.e_=jy.o_ then .B else .A
def jy.g_(b:Lt jD)(c d:jD):=∃a∈jy.B,jy.A a=b/\jy.q_ a c d
open Classical in def jy.l_:Lt jD:=re.filter λa=>ba<|jy.g_ [.A,.B] .A a/\jy.g_ [.A,.B] .B a
def FQ(e:Le b)(f:Le η)(d:∀a,a∈b↔a∈η):La b=La η:=cC (e.a λa c=>(d a).a c)<|f.a λa c=>(d a).b c
section
variable{b:ma}{c:jH}{d:Nat×Nat}
def aap(f:(if jz.G c.1<jz.G a then(c.1,a)else(a,c.1))=d)(e:Lj k b.1=Y\/Lj k b.1=V (-(a:Int))):(∀q,Lj q (mI c b k).1=if q=k then V (if Lj k b.1=Y then-(c.1:Int)else-(d.1:Int))else Lj q b.1)/\(mI c b k).2=b.2++dS (if Lh (Lj k b.1)=aj then 1 else 0) d:=by
 simp only[mI];rcases e with e|e<;>rw[e];.exact⟨λq=>oU ..,(bQ _).b⟩
 .have g:Lg (-(-(a:Int)))=a:=jx (hu ..) U;show(∀q,Lj q (if jz.G c.1<jz.G (Lg (-(-(a:Int))))then _ else(b.1,b.2++[(Lg (-(-(a:Int))),c.1)])).1=if q=k then V (-(d.1:Int))else Lj q b.1)/\(if jz.G c.1<jz.G (Lg (-(-(a:Int))))then _ else(b.1,b.2++[(Lg (-(-(a:Int))),c.1)])).2=b.2++[d];refine jx g<|jL f ?_;split;.exact⟨λq=>oU ..,U⟩
  .refine⟨λq=>?_,U⟩;split;.rename_i h;rw[h];exact e
   .rfl
def Pr(n:(if jz.G c.1<jz.G a then(c.1,a)else(a,c.1))=d):∀(f:Lt jD)(b:ma),Le f->(∀k∈f,Lj k b.1=Y\/Lj k b.1=V (-(a:Int)))->(∀q,Lj q (f.foldl (mI c) b).1=if q∈f then V (if Lj q b.1=Y then-(c.1:Int)else-(d.1:Int))else Lj q b.1)/\(f.foldl (mI c) b).2=b.2++dS (La (f.filter λk=>Lh (Lj k b.1))) d:=λf=>by
 induction f with
 |nil=>exact λb o o=>⟨λq=>U,(bQ _).b⟩|cons k p r=>
  intro b s j;have l:=cQ.a s;have h:=aap n<|j k ae;have i:=λq e=>(h.1 q).a (aA λg:q=k=>l.1<|kg g e);have m:=r _ l.2 λq e=>jx (i q e)<|j q<|af _ e;refine⟨λq=>(m.1 q).a ?_,m.2.a ?_⟩;.
   by_cases e:q∈p;.rw[aC e,aC<|af _ e,i q e]
   .rw[aA e,h.1];by_cases g:q=k;.exact jx g<|jx (aC U)<|kd (aC ae) U
    .exact jx (aA g)<|kd (aA λt=>(ao.a t).a g e) U
  .refine jx (h.2 ..)<|jx (bw ..)<|jx (List.replicate_append_replicate ..)<|jx (acN λq e=>by rw[i q e])<|jx (cO ..) ?_;cases Lh (Lj k b.1)with|true=>exact aB (b.2++dS · d)<|ck 1 _|false=>exact aB (b.2++dS · d)<|ct _
end
section
variable{c:jD}
def FR(a:kY k):jz.G (jy.E k)=if jy.e_=aj then 50-(jy.E k:Int)else(jy.E k:Int):=(aA (ss (pF a).1).1).a<|aA (ss (pF a).1).2
def xK:(jy.F=.A/\jy.I=.B\/jy.F=.B/\jy.I=.A)/\jz.G (jy.E jy.F)<jz.G (jy.E jy.I):=by
 have a:(jy.F=.A/\jy.I=.B\/jy.F=.B/\jy.I=.A):=by
  unfold jy.F jy.I;split;.exact .inl lp
  .exact .inr lp
 refine⟨a,?_⟩;simp only[FR<|a.c iU iU,FR<|a.a (λb=>.inr b.2) λb=>.inl b.2];unfold jy.F jy.I jy.E rE.c_;have e:[jD.A,.B].idxOf .B=1:=by decide
 have f:[jD.B,.A].idxOf .A=1:=by decide
 cases jy.e_<;>cases jy.o_<;>simp only[(show∀c d:jD,[c,d].idxOf c=0 from λc d=>gj),e,f,if_true,if_false,cond_true,cond_false,reduceCtorEq]<;>first|exact Int.sub_lt_sub_left (cY.b (bN _)) 50|exact cY.b (bN _)
def aaq(c:Lt jD):∀b:Lt jD,(∀q∈c,kY q)->c.Pairwise (λq d=>q=.B->d=.B)->(b=[]\/b=[.A]\/((b=[.B]\/b=[.A,.B])/\∀q∈c,q=.B))->lb b c=[]\/lb b c=[.A]\/lb b c=[.B]\/lb b c=[.A,.B]:=lO (λb j j a=>a.e λa=>a.e iU) (λq c k=>by
 intro b g l a;have h:=db.a l;apply k _ (λd f=>g d<|af _ f) h.2;rcases g q ae with i|i<;>subst i;.
  rcases a with a|a|a;.exact n6<|jx a U
  .exact n6<|jx a U
  .exact a' (a.2 _ ae) jB
 .have e:=λd f=>h.1 d f U;rcases a with a|a|⟨a|a,_⟩<;>rw[a];.exact kC ⟨.inl U,e⟩
  .exact kC ⟨.inr U,e⟩
  .exact kC ⟨.inl U,e⟩
  .exact kC ⟨.inr U,e⟩) c
def FS(c:w∈jy.B):jy.A w=[.A]\/jy.A w=[.B]\/jy.A w=[.A,.B]:=by refine(aaq _ [] (λq d=>(am.a d).a λh a=>kg a.2<|kO.A _ (ar.a a.1).1) (cc.b<|kO.I.sublist cZ) kr).b λe=>jU (ph.a c) λo f g=>?_;have b:=qt f;rw[g,show jy.A w=[] from e]at b;exact ac b
def jy.p_(l:j')(w:jD):ma:=rM l (jy.h_ w) λa=>lA l (mG l) a<|Lk (jy.h_ w) l.A
abbrev jy.m_(l:j')(w k:jD):Lt jD:=lA l (mG l) (jy.d_ k)<|Lk (jy.h_ w) l.A
def aar(d:kz jy.D l):jy.p_ l w=(jy.A w).foldl (λq k=>(jy.m_ l w k).foldl (mI<|jy.d_ k) q) ([],[]):=by refine(List.foldl_map).a<|O2 λq k b=>?_;have a:=mq b;simp only[np,(p8 a).a<|cx<|al _];exact(aA λc=>(pg a).2.2.2.2<|(pG a).b.a c).a U
def Ps{a:jH}(e:Le b):(∀q,Lj q (b.foldl (mI a) ([],[])).1=if q∈b then V (-(a.1:Int))else Y)/\(b.foldl (mI a) ([],[])).2=[]:=have d:=Pr (a:=0) U b _ e λc g=>.inl U;⟨λq=>(d.1 q).a U,d.2.a<|jx (show(b.filter λc=>Lh (eI c ([]:Lt _)))=[] from io.b λc _ (f:ah=aj)=>av f) U⟩
open Classical in theorem FT(t:kz jy.D l)(u:w∈jy.B):(∀q,Lj q (oo l<|Lk (jy.h_ w) l.A)=if jy.F∈jy.A w/\jy.g_ (jy.A w) jy.F q then V (-((jy.E jy.F:Nat):Int))else if jy.I∈jy.A w/\jy.g_ (jy.A w) jy.I q then V (-((jy.E jy.I:Nat):Int))else Y)/\(jy.p_ l w).2=if jy.A w=[.A,.B]then dS (La jy.l_) (jy.E jy.F,jy.E jy.I)else[]:=by
 revert w l;apply od;generalize lX.1=w,lX.2=l;intros;have v:∀{k},k∈jy.A w->∀q,q∈jy.m_ l w k↔jy.g_ _ k q:=λD q=>Pj t u D;have n:∀k,Le (jy.m_ l w k):=λJ=>uU ..;have E:oo l (Lk (jy.h_ w) l.A)=(jy.p_ l w).1:=by unfold oo;exact jx ((n4 t<|tW u).2) U
 simp only[E,aar t];refine(xK).elim λi y=>?_;have B:∀k m,jy.A w=[k]->k≠m->(jy.F=k/\jy.I=m\/jy.F=m/\jy.I=k)->(∀q,Lj q ((jy.A w).foldl (λq k=>(jy.m_ l w k).foldl (mI<|jy.d_ k) q) ([],[])).1=if jy.F∈jy.A w/\jy.g_ _ jy.F q then V (-((jy.E jy.F:Nat):Int))else if jy.I∈jy.A w/\jy.g_ _ jy.I q then V (-((jy.E jy.I:Nat):Int))else Y)/\((jy.A w).foldl (λq k=>(jy.m_ l w k).foldl (mI _) q) _).2=if jy.A w=[.A,.B]then dS (La jy.l_) (jy.E jy.F,jy.E jy.I)else[]:=λk m d F b=>by
  have A:=d▸cX _;have C:=Ps (a:=jy.d_ k)<|n k;refine jx (show(jy.A w).foldl (λq k=>(jy.m_ l w k).foldl _ q) _=(jy.m_ l w k).foldl (mI _) _ from aB (aer (λq k=>(jy.m_ l w k).foldl (mI _) q) _) d) ?_;refine⟨λq=>(C.1 q).a ?_,C.2.a (aA (c:=jy.A w=[jD.A,.B]) λa=>a' (aB df<|d.b.a a) (show¬1=2 by decide)).b⟩;have o:=v A q;rcases b with b|b<;>rw[b.1,b.2,aA (c:=m∈jy.A w/\jy.g_ _ m q) λa=>(d▸λa=>F (ak.a a).b) a.1]<;>by_cases e:jy.g_ (jy.A w) k q;.rw[aC<|o.b e,aC ⟨A,e⟩]
  .rw[aA λa=>e<|o.a a,aA λa=>e a.2]
  .rw[aC<|o.b e,aC ⟨A,e⟩]
  .rw[aA λa=>e<|o.a a,aA λa=>e a.2]
 rcases FS u with d|d|d;.exact B .A .B d jB i
 .exact B .B .A d jB i.symm
 .have p:=d▸ae;have r:=d▸af _ ae;refine jx (show(jy.A w).foldl (λq k=>(jy.m_ l w k).foldl _ q) _=(jy.m_ l w .B).foldl _ ((jy.m_ l w .A).foldl ..) from aB (aer (λq k=>(jy.m_ l w k).foldl (mI _) q) (([],[]):ma)) d) ?_;have s:=Ps (a:=jy.d_ .A)<|n .A;have e:(if jz.G (jy.E .B)<jz.G (jy.E .A)then(jy.E .B,jy.E .A)else(jy.E .A,jy.E .B))=(jy.E jy.F,jy.E jy.I):=by
   rcases i with b|b<;>rw[b.1,b.2]at y⊢;.exact aA λa=>Int.lt_irrefl _<|aee a y
   .exact aC y
  obtain⟨G,H⟩:=Pr (c:=jy.d_ .B) e _ _ (n _) λc K=>by
   refine jx (s.1 c) ?_;split;.exact .inr U
   .exact .inl U
  have h:=v p;have j:=v r;refine⟨λq=>(G q).a ?_,H.a ?_⟩;.
   refine jx (s.1 q) ?_;have h:=h q;have j:=j q;by_cases f:jy.g_ (jy.A w) .A q<;>by_cases g:jy.g_ (jy.A w) .B q;.
    rw[aC<|h.b f,aC<|j.b g];rcases i with b|b<;>rw[b.1];.exact kd (aC (c:=jD.A∈jy.A w/\_) ⟨p,f⟩) U
    .exact kd (aC (c:=jD.B∈jy.A w/\_) ⟨r,g⟩) U
   .rw[aC<|h.b f,aA λa=>g<|j.a a];rcases i with b|b<;>rw[b.1,b.2];.rw[aC ⟨p,f⟩]
    .rw[aA λa=>g a.2,aC ⟨p,f⟩]
   .rw[aA λa=>f<|h.a a,aC<|j.b g];rcases i with b|b<;>rw[b.1,b.2];.exact jx (aA (c:=jD.A∈_/\_) λa=>f a.2)<|jx (aC (c:=jD.B∈jy.A w/\_) ⟨r,g⟩) U
    .exact kd (aC (c:=jD.B∈jy.A w/\_) ⟨r,g⟩) U
   .rw[aA λa=>f<|h.a a,aA λa=>g<|j.a a];rcases i with b|b<;>rw[b.1,b.2];.exact jx (aA λa=>f a.2)<|jx (aA λa=>g a.2) U
    .rw[aA λa=>g a.2,aA λa=>f a.2]
  .refine jx s.2<|kd (aC d) ?_;refine aB (dS · _)<|FQ ((n _).b cZ) ((by decide:re.Nodup).b cZ) λq=>?_;rw[ar,jy.l_,ar,s.1,aO,j,<-d];refine⟨λb=>⟨pU q,gb λa=>?_⟩,λb=>⟨b.2.2,jx (aC<|(h q).b b.2.1) U⟩⟩;rw[aA λI=>a ⟨(h q).a I,b.1⟩]at b;exact av b.2
end
def sw(a:j')(b:Nat):Lt<|jD×Nat:=tN a (a.B b)<|jz.M<|a.B b
def xL(d:j')(e:Nat->Lt (jD×Nat)):=(∀g,Le ((e g).map (·.1)))/\(∀{a c},Lj a (e 0)=V c↔a=.D/\c=Lk jy.n_ d.A)/\(∀{b a c},b∈jy.B->(Lj a (e<|Lk (jy.K b) d.A)=V c↔a∈jy.A b/\c=Lk (jy.a_ b a) d.A))/\∀{f},mK f->f≠jy.i_->(∀b∈jy.B,f≠jy.K b)->e (Lk f d.A)=[]
section
variable{a:Nat->Lt (jD×Nat)}(b:xL l a)
def xL.C:=b.1
def xL.D:=@b.2.1
def xL.A:=@b.2.2.1
def xL.B:=@b.2.2.2
end
section
variable{b:jD}
theorem aas:∀(f:Lt jD)(h:Lt<|jD×Nat),Lj q (f.foldl (vZ l W) h)=V m↔(q∈f/\jz.E W q≠[]/\m=Lk (l.C W q) l.A)\/(¬(q∈f/\jz.E W q≠[])/\Lj q h=V m):=by
 revert q m W l;apply qu;generalize lr.1.1=m,lr.1.2=q,lr.2.1=l,lr.2.2=W;exact λf=>by
  induction f with
  |nil=>exact λh=>⟨λa=>.inr ⟨λb=>ac b.1,a⟩,λa=>a.a (λb=>a' b.1 ac) ade⟩|cons i f j=>
   intro h;apply(j _).c;have k:Lj q (vZ l W h i)=if q=i/\jz.E W q≠[]then V<|Lk (l.C W q) l.A else Lj q h:=by
    unfold vZ;by_cases b:q=i;.
     subst b;by_cases d:jz.E W q=[];.rw[aC d,aA λb=>b.2 d]
     .rw[aA d,aC ⟨U,d⟩,oU,aC U]
    .refine jx (aA (c:=q=i/\_) λa=>b a.1) ?_;split;.rfl
     .rw[oU,aA b]
   rw[k,ao];by_cases d:jz.E W q=[];.exact jx (aA λb=>b.2 d) ⟨λa=>a.a (λa=>a' d a.2.1) λa=>.inr ⟨λb=>b.2 d,a.2⟩,λa=>a.a (λa=>a' d a.2.1) λa=>.inr ⟨λb=>b.2 d,a.2⟩⟩
   .by_cases e:q∈f;.exact⟨λa=>a.a (λa=>.inl ⟨.inr e,a.2⟩) λa=>a' ⟨e,d⟩ a.1,λa=>a.a (λa=>.inl ⟨e,a.2⟩) λa=>a' ⟨.inr e,d⟩ a.1⟩
    .by_cases b:q=i;.exact jx (aC ⟨b,d⟩) ⟨λa=>a.a (λa=>a' a.1 e) λa=>.inl ⟨.inl b,d,(aY a.2).b⟩,λa=>a.a (λa=>.inr ⟨λg=>e g.1,aB V a.2.2.b⟩) λa=>a' ⟨.inl b,d⟩ a.1⟩
     .exact jx (aA λg=>b g.1) ⟨λa=>a.a (λa=>a' a.1 e) λa=>.inr ⟨λg=>g.1.a b e,a.2⟩,λa=>a.a (λa=>(a.1.a b e).elim) λa=>.inr ⟨λg=>e g.1,a.2⟩⟩
theorem Pt:q∈jz.M W↔∃b∈W,q∈jz.A b.1/\q.F=aj:=by
 revert q W;apply od;generalize lX.1=q,lX.2=W;have g:∀(W:List jH)(c:List jD),q∈W.foldl (λc b=>(jz.K b.1).foldl py c) c↔q∈c\/∃b∈W,q∈jz.A b.1/\q.F=aj:=λW=>by induction W with|nil=>exact λc=>⟨.inl,λa=>a.a id λa=>jU a λb h l=>a' h ac⟩|cons b W i=>refine λc=>(i _).c ?_;rw[OK,M0,aL];exact aK ⟨λa=>a.a (λa=>jO b ae a) λa=>a.b λd e=>⟨af _ e.1,e.2⟩,λa=>jU a λd j f=>(ao.a j).a (λk=>.inl<|jL k f) λm=>.inr<|jO d m f⟩
 exact(g W []).c ⟨λa=>a.b ac,.inr⟩
def FU(c:kz jy.D l)(d:mK W):Lj q (sw l<|Lk W l.A)=V m↔(q.F=aj/\jz.E W q≠[])/\m=Lk (jz.F<|jz.E W q) l.A:=by unfold sw;refine jx ((n4 c d).2) ?_;refine(aas ..).c ⟨λa=>a.a (λa=>⟨⟨(Pt.a a.1).a λe b=>b.2.2,a.2.1⟩,by rw[a.2.2,c.A]⟩) λa=>kh a.2,λa=>.inl ⟨Pt.b<|(zI a.1.2).b λf b=>lj b.1 (aa b.2) a.1.1,a.1.2,by rw[a.2,c.A]⟩⟩
def Cs(a:q∈m0)(b:q.F=aj){c:Prop}:c:=a' ((oX a).2.1.b.a b) av
def rP(n:kz jy.D l):xL l<|sw l:=by
 refine⟨λf=>NT _ [] .nil,λ{q m}=>?_,λ{w q m} e=>?_,λ{W} r v e=>?_⟩;.
  have p:=FU (q:=q) (m:=m) n .C;rw[s3 n]at p;refine p.c ⟨λb=>?_,λb=>?_⟩;.have c:=(zI b.1.2).a λh i=>tV (b:=λh=>jz.C h=V q->q=.D) i.1 (λc=>(aY c).b) (λo d c=>Cs (kg (aY<|(mT d).1.b.a c)<|kO.C _<|mx d) b.1.1) i.2;exact⟨c,jx b.2<|jx c<|jx zF U⟩
  .exact b.1▸⟨⟨U,jx OR jB⟩,jx b.2<|jx zF U⟩
 .refine(FU n<|.A e).c ⟨λb=>?_,λb=>?_⟩;.have c:=(zI b.1.2).a λh i=>su (b:=λh=>jz.C h=V q->q∈jy.A w) i.1 (λo d x c=>aY ((mT d).2.1.b.a c)▸x▸qt d) (λk j c=>Cs (kO.B _<|aa<|(p8<|mq j).b.a c) b.1.1) i.2;exact⟨c,jx b.2<|jx (xF<|mq c) U⟩
  .have j:=mq b.1;exact⟨⟨(pg j).1,jx (OT j)<|OW<|.B e b.1⟩,jx b.2<|jx (xF j) U⟩
 .cases c:sw l _ with|nil=>rfl|cons t A=>have p:Lj t.1 (sw l<|Lk W l.A)=V t.2:=jx (c ..)<|jx (bx ..)<|jx (aI ..) U;have u:=((FU n r).a p).1;exact jU (zI u.2) λh y z=>(Ch (i:=λW q=>W≠jy.i_->(∀w∈jy.B,W≠jy.K w)->q.F=aj->False) r y z (λb=>a' U b) (λo d b=>a' U b) (λo d g b=>a' U<|b _<|p9 d) (λw e g g b=>a' U<|b _ e) (λo d c g g b=>Cs (kO.D _ (mx d) _ c) b) (λw e a g c g g b=>Cs (kO.B _<|aa c) b) v e u.1).elim
def aat{d:jH->Lt jD}:∀(c:Lt jH)(q:ma),(∀a∈c,jz.C a=Y->jz.D a.1=.E)->(c.foldl (np l W d) q).2=q.2:=λ{c}=>lO (λ_ _=>U) (λa c f=>λq e=>(f _ λg h=>e g<|af _ h).a (by
 simp only[np];cases i:jz.C a with
 |none=>show(if jz.D a.1=.E then _ else(d a).foldl _ q).2=q.2;exact jx (aC<|e a ae i) U|some b=>
  show(if b.H=aj then oF l W q b else q).2=q.2;split;.simp only[oF];cases Lj b q.1<;>rfl
  .rfl)) c
theorem aau(p:kz jy.D l)(x:mK W)(d:∀w∈jy.B,jy.A w=[.A,.B]->W≠jy.h_ w):(rM l W λe=>lA l (mG l) e<|Lk W l.A).2=[]:=by
 revert W l;apply od;generalize lX.1=l,lX.2=W;intros;by_cases q:∃w∈jy.B,W=jy.h_ w;.refine jU q λw g a=>?_;subst a;exact(FT p g).2.a<|aA λa=>d w g a U
 by_cases c:∃o∈jy.C,W=jy.j_ o;.
  obtain⟨o,c,a⟩:=c;subst a;refine aam _ _ ((by
   unfold jy.j_;split;.exact cc.b ((cc.a (kd xy hQ:Le (jy.C.map _))).sublist cZ|>.imp λd a=>d (bf a).1)
   .exact cD ..)) (λe=>uU ..) λe j y H b r=>⟨U,λf h z=>?_⟩;have s:∀f∈jy.j_ o,jz.C f=Y->f=jy.k_ o:=λf h i=>(FO h c).a id λA=>A.a λI B=>B.elim λt C=>C.elim λa D=>D.elim λu E=>E.elim λF G=>by rw[a]at i;simp only[a,xz t c<|bt F<|bt G<|((mT t).2.2.1.b.a i).a u.b,jy.k_,((n').1 u).1]
  have v:=s e j y;rw[v]at r;rcases z with⟨m,_⟩|⟨m,_⟩;.exact a' (jL ((zR p c).a r) m)<|Pl (Cp c) h
  .exact kd v<|s f h m
 .exact aat _ _ λe j i=>by exact Pk (l:=λe W=>(¬∃w∈jy.B,W=jy.h_ w)->(¬∃o∈jy.C,W=jy.j_ o)->jz.D e.1=.E) x j i (λn n=>U) (λo c n d=>a' ⟨o,c,U⟩ d) (λw g k n d=>a' ⟨w,g,U⟩ d) q c
def aav{c:Nat->Lt u}(g:∀a,a<m->a≠f->c a=[]):(be m).flatMap c=if f<m then c f else[]:=by
 induction m with
 |zero=>rfl|succ m h=>
  simp only[dL,dj,dU,h λa i=>g a<|cH i];by_cases d:m=f;.subst d;exact jx (aA<|dR m)<|kd (aC<|bN m) U
  .simp only[g m (bN m) d,bQ];by_cases b:f<m;.rw[aC b,aC<|cH b]
   .rw[aA b,aA λe=>(de<|cg e).a b λe=>d e.b]
open Classical in theorem aaw(c:kz jy.D l):nO l (lA l<|mG l) (La l.A)=if∃w∈jy.B,jy.A w=[.A,.B]then dS (La jy.l_) (Lk (jy.b_ [.A,.B] (La jy.G)) l.A,jy.E jy.F,jy.E jy.I)else[]:=by
 revert l;apply pJ;generalize pn=l;intros;have m:∀{W},mK W->_->(rM l (l.B _) λo=>lA l _ o _).2.map (λw=>(Lk W l.A,w.1,w.2))=[]:=λ{W} b h=>jx ((n4 c b).2)<|jx (aau c b h) U;have n:∀f,f<La l.A->∃W,mK W/\Lk W l.A=f:=λf i=>⟨_,zM c<|aq i⟩;refine(aav (f:=Lk (jy.b_ [.A,.B] (La jy.G)) l.A) λf i p=>?_).a ?_;.refine jU (n f i) λW b k=>?_;subst k;exact m b λw t e h=>p (by simp only[h,jy.h_,e])
 .by_cases a:∃w∈jy.B,jy.A w=[.A,.B];.rw[aC a];refine jU a λw a e=>?_;have g:=n4 c<|tW a;have d:=(FT c a).2;rw[aC e]at d;unfold jy.p_ at d;unfold jy.h_ at g d;rw[e]at g d;exact jx (aC (ag.a g.1).1)<|jx g.2<|jx d<|jx fp U
  .rw[aA a];split;.refine ka λq=>jU (n _ ‹_›) λW b k=>q ?_;exact jL k<|m b λw r s=>a' (jO w r s) a
   .rfl
end
def Pu(a:jD):jG a≠.C "":=by cases a<;>exact λb=>a' (jA.C.inj b) (by decide+kernel)
def FV{b a:Op jD}(c:n2 b=n2 a):b=a:=by
 cases b with
 |none=>cases a with|none=>rfl|some d=>exact a' c.b<|Pu d
 |some e=>cases a with|none=>exact a' c<|Pu e|some d=>exact aB V<|m'.a c
def FW{a b:kJ}(e:na a=na b):a=b:=have c:=an<|jA.E.inj e;have d:=an c.2;bt (m'.a c.1) (bt (m'.a d.1)<|FV (an d.2).1)
def zS(b:Op jD) a:lK a (n2 b)=aj:=by
 cases b with
 |none=>
  have c:eH ("":cj)=aj:=by decide+kernel
  cases a<;>exact c|some d=>exact vK d a
def Pw(a:kJ) b:lK (b+1) (na a)=aj:=by show([jG a.1,jG a.2.1,n2 a.2.2].all _)=aj;simp only[dz,dz,dz,vK,vK,zS];rfl
def aax{b:kJ}:na b∈n.map na↔b∈n:=⟨λa=>(am.a a).a λc a=>kg (FW a.2) a.1,λa=>am.b<|jO b a U⟩
def tY(b:Lt kJ):=Le b/\(∀a∈b,a.1∈m0)/\(∀a∈b,kY a.2.1)/\∀a∈b,∀c,a.2.2=V c->c∈m0
section
variable(a:tY n)
def tY.A:=a.1
def tY.C:=a.2.1
def tY.B:=a.2.2.1
def tY.D:=a.2.2.2
end
def xM:Lt<|Op jD:=[V .I,V .J,V .K,Y]
def tZ(a:Nat):kJ:=(m0.getD (a%3) .I,[jD.A,.B].getD (a/3%2) .A,xM.getD (a/6%4) Y)
def wa{b:Nat->Prop}(c:∀d∈be f,b d)(e:a<f):b a:=c a<|bj.b e
def FX c:(tZ c).1∈m0/\kY (tZ c).2.1/\∀a,(tZ c).2.2=V a->a∈m0:=⟨wa (b:=λb=>m0.getD b .I∈m0) jB<|eW c jB,wa (b:=λb=>kY<|[jD.A,.B].getD b .A) jB<|eW _ jB,λa d=>wa (b:=λb=>∀a∈re,xM.getD b Y=V a->a∈m0) jB (eW _ jB) a (pU a) d⟩
section
def aay:jX (.ref 438) [] d (a+1) g (.A<|.B<|mH g)<|ks g<|.A<|xM.map n2:=.E λb=>⟨λc=>mZ jV.E_ U λd=>jN λe=>e (.B _) (λb=>mb b) c⟩
def wc m(a:m≠0):qJ .Mod (lW f) (lW m) g=V (.A<|lW<|f%m):=by
 have b:wW .Mod f m=V ((f%m:Nat):Int):=by show(bif ba _ then V _ else Y)=_;exact jx (aD (p:=(m:Int)≠0) λc=>a<|dH c)<|jx (iS _<|cA m) U
 show((wW .Mod ..).map λd=>uB.A<|.B d)=_;exact jx b U
def xN m(a:(ba (((m:Nat):Int)≠0)&&!dh f m)=aj):qJ .FloorDiv (lW f) (lW m) g=V (.A<|lW<|f/m):=by
 have b:wW .FloorDiv f m=V ((f/m:Nat):Int):=by show(bif ba _&&!dh _ _ then V _ else Y)=_;exact jx a<|jx (Int.fdiv_eq_ediv_of_nonneg _<|cA m) U
 show((wW .FloorDiv ..).map λc=>uB.A<|.B c)=_;exact jx b U
def Px(c:f<3):mY (.C "abc") (lW f) g=V (jG<|m0.getD f .I):=wa (b:=λf=>mY (.C "abc") _ g=V (jG<|m0.getD f .I)) (λd a=>by
 rcases ao.a a with b|a;.subst b;rfl
 rcases ao.a a with b|a;.subst b;rfl
 rcases ao.a a with b|a;.subst b;rfl
 .cases a) c
def aaz(a:g e=V (.A<|xM.map n2))(b:f<4):mY (.A e) (lW f) g=V (n2<|xM.getD f Y):=ql a<|jx (ax)<|jx (bZ)<|jx (aq b) U
abbrev Py(a:jF):=a=.A 13 []\/a=.A 16 []
def oH(b:jC)(c:Lt Nat)(a:Lt kJ)(g:jC):=g J2=V (.A<|c.map lW)/\g Kl=V (.A<|a.map na)/\kq Py b g/\tY a/\La a<=4
section
variable(b:oH x c n T)
def oH.B:=b.1
def oH.A:=b.2.1
def oH.D:=b.2.2.1
def oH.C:=b.2.2.2.1
def oH.E:=b.2.2.2.2
end
def oH.G(b:oH p c n g)(k:tZ a∉n)(e:La n<4):oH p c (n++[tZ a])<|jE g Kl<|.A<|n.map na++[na<|tZ a]:=have h:∀{i:kJ->Prop},(∀d∈n,i d)->i _->∀d∈n++[tZ a],i d:=λl o d e=>(bR.a e).a (l d) λj=>kd (ak.a j) o;(mS b.B ((jS ..).a<|jx bK U) (b.D.A<|.B<|.inr U) ⟨cz.b ⟨b.C.A,cD ..,λf q m r j=>k<|kg (ak.a r)<|kg j q⟩,h b.C.C (FX a).1,h b.C.B (FX a).2.1,h b.C.D (FX a).2.2⟩<|jL (bH).b e)
abbrev zT:jP:=(lv [.A J2]).A 1<|.A Kl
def aaA(i:oH x c n g)(s:n=[]\/La n<4)(o:∀q p,q≠[]->oH x c q p->∀r,kw zT r->j .A r p):jY d (a+1) j (.B 2<|kt [.A Jo<|.M [.C Qc<|.J .Mod Jc KY,.C (.I "AB") Kc,.C K5<|.J .Mod Kg<|.E 4],.B Qx [.E<|.F Jb 42 [Jg]] []] .A) [lW m] zT g:=by
 have h:oH x c n<|ks g<|.A<|xM.map n2:=mS i.B i.A (i.D.A λy z A=>U) i.C i.E;exact jN λb=>b .B (wc 3 jB) (Px<|eW m jB) .B (xN 3 U) .B (wc 2 jB) ((wa (b:=λf=>mY (.C "AB") _ g=V (jG<|[jD.A,.B].getD f .A)) (λB k=>by
  rcases ao.a k with e|k;.subst e;rfl
  rcases ao.a k with e|k;.subst e;rfl
  .cases k)<|eW _ jB)) jV.V_ .A aay .B (xN 6 U) .B (wc 4 jB) (aaz (jS ..)<|eW _ jB) .D ((jW.F h.A (bc.b λC t=>(am.a t).a λu b=>jL b.2<|Pw u 3)<|Pw (tZ m) 4).B aax).E (λe l=>l<|jN λb=>b h.A .A (jX.A h.A<|aZ (aX (aw<|ab ..) h.E) jB) .A<|o (n++[tZ m]) _ (λe=>a' (gT.a e).2 jB) (h.G e<|s.a (λb=>jx b jB) id) _<|mC U) λe l=>l<|jN λb=>b .A<|o n _ (λv=>e λw=>ac<|jL v w) h _<|mC U
def oH.F(a:oH p c n g):oH p ζ n<|jE g J2<|.A<|ζ.map lW:=mS (jS ..) ((jQ _ _<|jJ jB).a a.A) (a.D.A<|.B kr) a.C a.E
def oH.H(d:g J2=V (.A<|c.map lW)):oH g c []<|jE g Kl<|.A []:=mS ((jQ _ _<|jJ jB).a d) (jS ..) (.B<|.inr U) (mz .nil (λb a=>a' a ac) (λb a=>a' a ac) λb a=>a' a ac)<|bT _
def FY{e:Lt Nat×Lt kJ×jC->Prop}(h:oH x c n g)(i:n=[]\/La n<4)(k:∀b p,b≠[]->e (c,b,p)):jY d (a+1) (sP (λf:Lt Nat×Lt kJ×jC=>oH x f.1 f.2.1 f.2.2) (λf=>(zT,f.2.2)) e j) (.B 2<|kt [.A Jo<|.M [.C Qc<|.J .Mod Jc KY,.C (.I "AB") Kc,.C K5<|.J .Mod Kg<|.E 4],.B Qx [.E<|.F Jb 42 [Jg]] []] .A) [lW m] zT g:=aaA h i λb p l o r q=>nQ (c,b,p) o (k b p l) q U
theorem aaB(o:g J2=V (.A<|c.map lW))(q:g Kl=Y)(l:∀i p,tY i->i≠[]->La i<=4->p Kl=V (.A<|i.map na)->kq Py g p->X (.A Kl) p):lz (.ref 445) [.A J2] d (a+2) g X:=by
 revert d a g X c;apply uc;generalize mf.1.1.1=a,mf.1.1.2=c,mf.1.2=d,mf.2.1=g,mf.2.2=X;intros;refine mZ jV.F_ U λd=>jN λe=>e Kl (λr=>q) .B<|sQ (λf=>oH g f.1 f.2.1 f.2.2) (λf=>(zT,f.2.2)) (λf=>La f.1+if f.2.1=[]then 1 else 0) (c,[],jE g Kl<|.A []) (.H o) (.A _) U λf b=>ka λh=>?_;obtain⟨c,i,m⟩:=f;cases i with
 |nil=>cases c with|nil=>exact h<|jN λe=>e .A (o8 b.A) .B (o8 b.B) (λj=>lf j) λr h=>h<|FY b kr λn p k=>jx (aA k) aeq|cons s t=>exact h<|jN λe=>e .A (o8 b.A) .A (o8 b.B) b.B .B<|(jX.H b.B U).G<|FY (b.F) kr λn p k=>jx (aA k)<|cH<|bN _
 |cons u i=>cases c with|nil=>exact h<|jN λe=>e .A (o8 b.A) .A (o8 b.B)<|sc<|mE λe=>e<|l (u::i) m b.C jB b.E b.A b.D|cons s t=>exact h<|jN λe=>e .A (o8 b.A) .A (o8 b.B) jV.B .A (jX.D b.A) .D jW.H (λj h=>h<|jN λe=>e .A (o8 b.B) b.B .B<|(jX.H b.B U).G<|FY (b.F) (.inr (by rw[ab]at j;exact cY.a j)) λn p k=>jx (aA k)<|jx (aA jB)<|bN _) λj h=>h<|jN λe=>e<|sc<|mE λe=>e<|l _ m b.C jB b.E b.A b.D
end
def sx(a:Lt jD):cj:=a.foldl (λb c=>b++c.G) ""
def mW(a:Lt jD):jA:=.C<|sx a
def s6:Lt<|Lt jD:=[[],[.A],[.B],[.A,.B],[.B,.A]]
def va:∀a∈s6,Ld (sx a)<=2/\kP (.C<|sx a)=aj/\(∀c∈s6,sx a=sx c->a=c)/\∀b∈[jD.A,.B],(!(dJ (sx a) b.G 0 (Ld (sx a)) 1).isEmpty)=ba (b∈a)/\(b∉a->a++[b]∈s6):=by decide+kernel
def FZ(b:kY k):k∈[jD.A,.B]:=by rcases b with a|a<;>subst a<;>decide
def aaC(a:Lt jD)(b:jD):sx (a++[b])=sx a++b.G:=by unfold sx;exact jx co U
def aaD{g:u}:∀b:List<|jD×u,(md b k g).map (·.1)=kN (b.map (·.1)) k:=λb=>by
 induction b with
 |nil=>exact(aA ac).b|cons d e h=>
  show(if d.1=k then _::e else d::md e k g).map _=_;rw[bo];unfold kN at h⊢;by_cases a:d.1=k;.exact jx (aC a)<|kd (aC<|kg a ae)<|jx bo<|jx a U
  .refine jx (aA a)<|jx bo<|jx h ?_;by_cases c:k∈e.map (·.1);.rw[aC c,aC<|af _ c]
   .rw[aA c,aA λf=>(ao.a f).a (λf=>a f.b) c];rfl
def t1{b:Lt<|jD×u}:Lj k b≠Y↔k∈b.map (·.1):=lO ⟨λa=>a' U a,λa=>a' a ac⟩ (λd h e=>by
 obtain⟨f,i⟩:=d;rw[bx,bo,ao];by_cases c:k=f;.subst c;exact jx (aI ..) ⟨λg=>.inl U,λg=>jB⟩
 .exact jx (aM c)<|e.c ⟨.inr,λa=>a.b c⟩) b
noncomputable def oa(a:Lt<|jD×Lt jD)(b:jD):Lt jD:=(Lj b a).getD []
def s7(b:Lt<|jD×Lt jD)(a:kJ):Lt<|jD×Lt jD:=if a.2.1∈oa b a.1 then b else md b a.1<|oa b a.1++[a.2.1]
def oq(a:Lt kJ):Lt<|jD×Lt jD:=a.foldl s7 []
def Pz:oa (md γ k b) q=if q=k then b else oa γ q:=by unfold oa;refine jx oU ?_;split<;>rfl
def xO(e:Lt kJ):∀b:Lt<|jD×Lt jD,(e.foldl s7 b).map (·.1)=lb (b.map (·.1)) (e.map (·.1))/\∀a,oa (e.foldl s7 b) a=lb (oa b a) ((e.filter λd=>ba<|d.1=a).map (·.2.1)):=lO (λb=>⟨U,λa=>U⟩) (λd k f=>by
 intro b;have h:(s7 b d).map (·.1)=kN (b.map (·.1)) d.1:=by
  unfold s7;split;.rename_i g;refine(aC<|t1.a λc=>?_).b;rw[oa,c]at g;exact ac g
  .exact aaD _
 have i:∀a,oa (s7 b d) a=if d.1=a then kN (oa b a) d.2.1 else oa b a:=λa=>by
  unfold s7;by_cases c:d.1=a;.
   subst c;rw[aC U];unfold kN;split;.rfl
   .exact jx Pz<|jx (aC U) U
  .refine jx (aA c) ?_;split;.rfl
   .exact jx Pz<|jx (aA λj=>c j.b) U
 refine⟨(f _).1.a<|jx h U,λa=>((f _).2 a).a ?_⟩;rw[i,cO];by_cases c:d.1=a;.exact jx (aC c)<|jx (aC<|aD c) U
 .exact jx (aA c)<|jx (aA<|nt<|aG c) U) e
def PA:∀(a b:Lt jD),(∀c∈a,kY c)->b∈s6->lb b a∈s6:=λ{a}=>lO (λ_ _ d=>d) (λc a f=>λb e d=>f _ (λg h=>e g<|af _ h) (by
 unfold kN;split;.exact d
 .exact((va b d).2.2.2 c<|FZ<|e c ae).2 ‹_›)) a
def PB(d:∀a∈n,kY a.2.1)(b:jD):oa (oq n) b∈s6:=kg ((xO n []).2 b).b<|PA _ [] (λf e=>(am.a e).a λa c=>kg c.2<|d a (ar.a c.1).1) jB
section
def xP(g:jC)(n:Lt kJ):jC:=jE g J5<|.B<|lq mW<|oq n
def PC:(kj (lq mW γ)<|jG k).getD (.C "")=mW (oa γ k):=by simp only[p3,oa];cases Lj k γ<;>rfl
def aaE(a:jD):Ld a.G<=10:=(by decide+kernel:∀a∈re,a.G.length<=10) a<|pU a
def aaF(k:g e=V (.A<|n.map na))(l:∀b∈n,kY b.2.1)(m:g J5=Y):jX (.ref 452) [.A e] d (a+1) g (.A J5)<|xP g n:=⟨λ{X} r=>by
 refine mZ jV.G_ U λd=>jN λc=>c J5 (λs=>m) .A (o7 (λh=>xP g<|Ll h n) U (λs=>(jQ _ _ λi=>mh m<|i▸k).a k) (.A _) λh b o=>?_)<|jx bI r;have p:=va _<|PB (n:=Ll h n) (λb c=>l b<|cr c) b.1;have q:xP g (Ll (h+1) n)=jE g J5 (.B<|lq mW<|s7 (oq<|Ll h n) b):=by unfold xP oq;exact jx (n3 o) U
 have t:∀{g},qJ .Add (mW _) (jG b.2.1) g=V (.A<|mW _):=λ{g}=>by show(bif cK _ 16777216 then V _ else Y)=_;rw[cG<|aX (bv p.1<|aaE b.2.1) jB,mW,aaC];rfl
 exact jN λc=>c (jS ..) .A (jX.C (jS ..) (kk _) PC) .D (jW.c_.A (p.2.2.2 _<|FZ<|l b<|aa o).1).E (λi j=>j<|jN λc=>c (jS ..) .A (jX.C (jS ..) (kk _) PC) .B t (lN (jS ..) (kk _)<|aZ (aX (aw<|ab ..)<|aX (aw (ab (f:=λu:jD×Lt jD=>u.1)).b)<|no<|kg (xO _ []).1.b<|qN .nil) jB) .A ⟨r9 U,(o3 ..).a (q.a (by rw[s7,aA i,sY])).b⟩) λi j=>j<|jN λc=>c .A ⟨r9 U,(q.a (by rw[s7,aC<|cB.a i];rfl)).b⟩⟩
def vb(c:jD->Lt jD)(d:Lt jD)(e:jD)(b:Lt jD)(a:kJ):Lt jD:=if a.2.1=e/\c a.1=d then kN b<|a.2.2.getD .C else b
def p'(a:jD->Lt jD)(b:Lt jD)(c:jD)(n:Lt kJ):Lt jD:=n.foldl (vb a b c) []
def Ct{c:jD->Lt jD}:Le (p' c b k n):=tU (λd e a=>by
 unfold vb;split;.exact tA a
 .exact a) n [] .nil
theorem aaG{e:jD->List jD}:q∈p' e b k n↔∃d∈n,(d.2.1=k/\e d.1=b)/\q=d.2.2.getD .C:=by
 revert n e b k q;apply uc;generalize mf.1.1.1=b,mf.1.1.2=k,mf.1.2=q,mf.2.1=n,mf.2.2=e;have d:∀(n:List kJ)(f:List jD),q∈n.foldl (vb e b k) f↔q∈f\/∃d∈n,(d.2.1=k/\e d.1=b)/\q=d.2.2.getD .C:=λn=>by
  induction n with
  |nil=>exact λf=>⟨.inl,λa=>a.a id λa=>a.a λg c=>a' c.1 ac⟩|cons g p l=>
   refine λf=>(l _).c ?_;have h:q∈vb e b k f g↔q∈f\/((g.2.1=k/\e g.1=b)/\q=g.2.2.getD .C):=by
    unfold vb;split;.rename_i a;exact rf.c<|aK ⟨λc=>⟨a,c⟩,ade⟩
    .rename_i a;exact⟨.inl,λc=>c.a id λc=>a' c.1 a⟩
   rw[h,aL];exact aK ⟨λa=>a.a (λa=>jO g ae a) λa=>a.b λi c=>⟨af _ c.1,c.2⟩,λa=>jU a λi m j=>(ao.a m).a (λh=>.inl<|jL h j) λo=>.inr<|jO i o j⟩
 exact(d n []).c ⟨λa=>a.b ac,.inr⟩
abbrev F0(e a:jF)(b:Lt jD)(c:jD):jP:=(lv [.A e,.A J5,mW b,jG c]).A 4<|.A a
theorem aaH{c:kJ}(t:n[f]?=V c)(w:g J5=V (.B<|lq mW<|oq n))(x:∀y∈n,kY y.2.1)(u:b∈s6):jY d a (uE (F0 e (.B<|mH g) b k)<|ks g<|.A<|(p' (oa<|oq n) b k<|Ll (f+1) n).map jG) (.B 8<|kt [.B (.f_ [.D .Eq Jj Jg,.D .Eq (.C Jb Jd) Jc,.D .NotIn Jk Jh]) [.E<|.F Jh 42 [Jk]] []] .A) [jG<|c.2.2.getD .C] ((((F0 e (.B<|mH g) b k).A 5<|jG c.1).A 6<|jG c.2.1).A 7<|n2 c.2.2)<|ks g<|.A<|(p' (oa<|oq n) b k<|Ll f n).map jG:=by
 revert d a g n e b k c f;apply vl;generalize kZ.1.1.1.1=a,kZ.1.1.1.2=f,kZ.1.1.2=b,kZ.1.2.1=d,kZ.1.2.2=e,kZ.2.1.1=g,kZ.2.1.2=k,kZ.2.2.1=n,kZ.2.2.2=c;intros;refine wj (va _<|PB x c.1) λD z A E=>?_;have v:p' _ b k _=vb _ b k (p' (oa<|oq n) b k _) c:=n3 t;have B:∀{l},mY (.A J5) _ (ks g<|.A l)=V (mW<|oa _ c.1):=λ{l}=>ne (show∀{l},ks g (.A l) J5=V (.B _) from λ{l}=>w) (kk _) (by refine jx p3 ?_;cases j:Lj c.1<|oq n with|none=>exact a' (jL (xO n []).1.b<|qO.b<|.inr<|am.b<|jO c (aa t) U) λC=>t1.b C j|some b=>rw[oa,j];rfl);have o:kw _<|((((F0 e (.B<|mH g) b k).A 5<|jG c.1).A 6<|jG c.2.1).A 7<|n2 c.2.2).A 8<|jG<|c.2.2.getD .C:=wY U;have p:¬_\/c.2.2.getD .C∈p' _ b k _->ks g (.A<|(p' _ b k<|Ll f n).map jG)=ks g (.A<|(p' _ b k _).map jG):=λh=>by
  rw[v,vb];split;.rw[kN,aC<|h.b λm=>m ‹_›]
  .rfl
 exact jN λh=>h .D ((jW.C (kk _)<|kk _).B m') (λq i=>i<|jN λh=>h B .D ((jW.C z (va _ u).2.1).B ⟨λj=>A _ u<|jA.C.inj j,λj=>aB mW j⟩) (λr i=>i<|jN λh=>h .D ((jW.F (jS ..) (oA _)<|kk _).B uH).E (λs i=>i<|jN λh=>h (jS ..) .A (jX.A (jS ..)<|aZ (pk<|no Ct) jB) .A ⟨o,(o3 ..).a (by rw[v,vb,aC ⟨q,r⟩,kN,aA s,bK];rfl)⟩) λs i=>i<|jN λh=>h .A ⟨o,p<|.inr<|cB.a s⟩) λr i=>i<|jN λh=>h .A ⟨o,p<|.inl λm=>r m.2⟩) λq i=>i<|jN λh=>h .A ⟨o,p<|.inl λm=>q m.1⟩
def PD(a:jD):mv (jG a) g=V aj:=by cases a<;>rfl
def aaI(o:g e=V (.A<|n.map na))(r:∀s∈n,kY s.2.1)(t:g J5=V (.B<|lq mW<|oq n))(u:b∈s6):jX (.ref 459) [.A e,.A J5,mW b,jG k] d (a+1) g (.A<|.B<|mH g)<|ks g<|.A<|(p' (oa<|oq n) b k n).map jG:=.E λj=>⟨λ{X} h=>by
 refine mZ jV.H_ U λd=>jN λl=>l (.B _) (λj=>mb j) .A (o7 (λp=>ks g<|.A<|(p' _ b k<|Ll p n).map jG) U (λz=>(jQ _ _ λc=>mh (mb j)<|c▸o).a o) (.A _) λp f v=>ka λi=>?_)<|jx bI h;have q:=aaH (d:=d) (a:=a) (e:=e) (k:=k) v t r u;have w:∀{g},mv (n2 f.2.2) g=V (Lh f.2.2):=λ{g}=>by exact z5 (by rfl) (λm=>PD m) f.2.2
 have x:Lh f.2.2=aj->jG (f.2.2.getD .C)=n2 f.2.2:=λc=>by cases h:f.2.2 with|none=>rw[h]at c;exact lf c|some m=>rfl
 have y:Lh f.2.2=ah->jG (f.2.2.getD .C)=.C "$end":=λc=>by cases h:f.2.2 with|none=>rfl|some m=>rw[h]at c;exact ot c
 exact i<|jN λl=>l .B w (λc i=>i (show jY _ _ _ (.B 8 _) [n2 f.2.2] _ _ from x c▸q)) λc i=>i (show jY _ _ _ (.B 8 _) [.C "$end"] _ _ from y c▸q)⟩
end
noncomputable def PE(a:jD):Nat:=[jD.C,.a_,.L,.A,.B,.D,.E,.I,.J,.K,.M].idxOf a
def t2(a b:jD):Bool:=(PE a).ble<|PE b
def nV(a:Lt jD):Lt jD:=a.mergeSort t2
def PF(a b c:jD)(d:t2 a b=aj)(e:t2 b c=aj):t2 a c=aj:=cG<|aX (bE d)<|bE e
def zU(a:Lt jD):(nV a).Perm a:=ju ..
def PG(c:Lt jD):(nV c).Pairwise λa b=>t2 a b=aj:=ic (λa b d=>PF a b d) (λa b=>(cT ..).mpr<|(Nat.le_total ..).c cG cG) c
def F1(e:η.Perm b)(f:η.Pairwise λc d=>t2 c d=aj):η=nV b:=hr (λc d g g=>λh i=>(by decide+kernel:∀c∈re,∀d∈re,t2 c d=true->t2 d c=true->c=d) c (pU c) d (pU d) h i) f (PG b)<|e.trans (zU b).symm
def Cu(c:Le b)(d:Le η)(e:∀a,a∈b↔a∈η):nV b=nV η:=F1 ((zU b).trans<|(iF c d).b e)<|PG b
def aaJ:∀a:Lt jD,sortedS (a.map jD.G)=aj->a.Pairwise λe f=>t2 e f=aj:=by
 have l:∀(a:Lt jD)(d:jD),risingS d.G (a.map jD.G)=aj->(∀b∈a,t2 d b=aj)/\a.Pairwise λe f=>t2 e f=aj:=λa=>by induction a with|nil=>exact λd g=>⟨λg c=>a' c ac,.nil⟩|cons b h m=>intro d c;simp only[bo,risingS,az,eN]at c;have i:=(by decide+kernel:∀d∈re,∀b∈re,PySem.Spec.ltCps b.G.cps.toList d.G.cps.toList=false->t2 d b=true) d (pU d) b (pU b) c.1;obtain⟨j,n⟩:=m b c.2;exact⟨λo q=>(ao.a q).a (λr=>jx r i) λs=>PF _ _ _ i<|j o s,.cons j n⟩
 intro a;exact QV (λg=>.nil) (λb h=>λc=>have k:=l h b c;.cons k.1 k.2) a
def aaK{e:u->ι}:∀{a:Lt u}{f:Lt ι},f.Perm (a.map e)->∃d:Lt u,f=d.map e/\d.Perm a:=λ{a f} j=>by
 generalize b:a.map e=y at j;induction j generalizing a with
 |nil=>exact jO [] U (by rw[dV.a b])|cons n o p=>cases a with|nil=>cases b|cons c g=>obtain⟨q,r⟩:=an b;exact jU (p r) λd h i=>⟨c::d,by simp only[h,<-q];rfl,i.cons c⟩
 |swap n z A=>match a,b with|c::k::g,b=>have l:=an b;have m:=an l.2;exact⟨k::c::g,by simp only[<-l.1,<-m.1,<-m.2];rfl,.swap c k g⟩
 |trans o B s t=>exact jU (t b) λC h i=>jU (s h.b) λv w x=>jO v w<|x.trans i
section
def jX.c_(c:pu g Q<|b.map jG)(f:La b<64)(h:g e=Y):jX (.builtin "sorted") [Q] d a g (.A e)<|jE g e<|.A<|(nV b).map jG:=⟨λ{X} i=>⟨Vc (kd bY c) (jx (ab ..) f) λo j k=>by refine jU (aaK j) λl m n=>?_;subst m;refine jO e h ?_;refine jx (F1 n<|aaJ l k)<|jx bY ?_;exact i⟩⟩
def jX.F(c:pu g Q<|b.map jG)(e:La b<64):jX (.builtin "sorted") [Q] d a g (.A<|.B<|mH g)<|ks g<|.A<|(nV b).map jG:=.E λf=>.c_ c e<|mb f
def Cv(a:Lt Int):Lt Int:=a.mergeSort λb c=>ba<|b<=c
def PH(a:Lt Int):(Cv a).Perm a:=ju ..
def PI(d:Lt Int):(Cv d).Pairwise (· <=·):=(ic (le:=λb c:Int=>ba<|b<=c) (λb c f a e=>aD<|fk (aF a)<|aF e) (λb c=>(cT ..).mpr<|(Int.le_total b c).c (λa=>aD a) λa=>aD a) d).imp λa=>aF a
def PJ{a:Lt Int}(b:a.Perm t)(c:a.Pairwise (· <=·)):a=Cv t:=hr (λe f d d=>adk) c (PI t)<|b.trans (PH t).symm
def jX.d_(b:pu g Q<|t.map jA.B)(c:La t<64):jX (.builtin "sorted") [Q] d a g (.A<|.B<|mH g)<|ks g<|.A<|(Internal.Cv t).map jA.B:=.E λe=>⟨λ{X} f=>⟨Vd b c λj h i=>jO (.B _) (mb e) (by exact jx (PJ h i) f)⟩⟩
end
def lT(a:j')(d:Nat)(b:jC):=b lH=V (.C 427<|vL d)/\b Ku=V (.B<|oG 65 (La a.A))/\b KZ=V (.B<|oG 66 (La a.A))/\∀c,c<La a.A->b (.A 65 [c])=V (.B<|lq jA.B<|oo a c)/\b (.A 66 [c])=V (.B<|lq zn<|sw a c)
section
variable(b:lT l a g)
def lT.A:=b.1
def lT.G:=b.2.1
def lT.I:=b.2.2.1
def lT.B:=b.2.2.2
end
noncomputable abbrev kI(a:Nat):jA:=.B (a:Nat)
def zV{e:List<|jD×u}{f:u}(g:Le (e.map (·.1)))(b:∀i h,Lj i e=V h↔i=k/\h=f):e=[(k,f)]:=by have a:=λc j=>(dq.a<|t1.b<|am.b<|jO c j U).a λh d=>((b ..).a d).1;match e,g,b,a with|[],_,b,_=>exact kh<|(b k f).b lp|[c],_,b,a=>have d:=(b k f).b lp;rw[bx,a c ae,aI]at d;exact aB (· ::[])<|bt (a c ae)<|aY d|c::l::m,g,_,a=>exact a' ((a c ae).a (a l<|af _ ae).b) λd=>(cQ.a g).1<|ao.b<|.inl d
section
def lT.H(a:lT l f g)(b:∀c d,cK 30 c=aj->p (.A c d)=g (.A c d)):lT l f p:=⟨(b 30 [] U).a a.A,(b 31 [] U).a a.G,(b 32 [] U).a a.I,λm e=>⟨(b 65 _ U).a (a.B m e).1,(b 66 _ U).a (a.B m e).2⟩⟩
def lT.J{c:jF->Prop}(d:lT l f g)(e:kq c g p)(h:∀a b,c (.A a b)->cK 30 a=ah):lT l f p:=d.H λa b i=>e a b λj=>av<|(h a b j).b.a i
def lT.C(b:lT l f g):lT l f<|ks g N:=b.H λa a a=>U
def lT.D(a:lT l f g)(b:m<La l.A):mY (.A Ku) (kI m) g=V (.A<|.A 65 [m]):=ne a.G U<|BY.a<|aC<|bj.b b
def lT.E(a:lT l f g)(b:m<La l.A):mY (.A KZ) (kI m) g=V (.A<|.A 66 [m]):=ne a.I U<|BY.a<|aC<|bj.b b
def lT.F(a:lT l f g)(b:m<La l.A)(c:Lj q (oo l m)=V z):mY (.A<|.A 65 [m]) (jG q) g=V (.B z):=ne (a.B m b).1 (kk q)<|jx p3<|jx c U
def lT.K(a:lT l f g)(b:m<La l.A)(c:Lj q (sw l m)=V v):mY (.A<|.A 66 [m]) (jG q) g=V (kI v):=ne (a.B m b).2 (kk q)<|jx p3<|jx c U
def oI(a:kz jy.D l)(b:mK W):Lk W l.A<La l.A:=(ag.a (n4 a b).1).1
def PK(k:jD):Nat->Lt jH:=fj (motive:=λa=>Lt jH) (jy.K k) λz a=>jy.b_ (jy.A k)<|z+1
def t3(l:j')(k:jD)(z:Nat):Nat:=Lk (PK k z) l.A
def F2(l:j')(k:jD)(z:Nat):Lt Nat:=(be z).map λv=>t3 l k<|v+1
def aaL(a:k∈jy.B):∀z,z<=La jy.G->mK (PK k z):=λ{z}=>ue (λ_=>.A a) (λz c=>λb=>.E a b) z
def aaM(c:kz jy.D l)(d:k∈jy.B):∀z (b:z<La jy.G),oo l (t3 l k z)=[(jy.G[z],((t3 l k<|z+1:Nat):Int))]:=λ{z}=>ue (λb=>zV s5 λq e=>((sv c).D d|>.trans (aW λf=>jx (aq b) ⟨λa=>(aY a).b,λa=>aB V a.b⟩))) (λz g=>λb=>zV s5 λq e=>((sv c).F d b|>.trans (aW λf=>jx (aq b) ⟨λa=>(aY a).b,λa=>aB V a.b⟩))) z
def xQ(e:List Nat):oy (e.map kI)=aj:=bc.b λQ a=>(am.a a).a λq b=>jL b.2 U
def PL(q:jD):nV [q]=[q]:=(F1 (afc [q])<|cD ..).b
def aaN(d:lD<|ks g N):ks g N (.B<|mH g+1)=Y:=have e:lD g:=d.a λb f=>⟨b+_,λv c=>(jQ g N λa=>fW _<|aX (cM _ b)<|kg (jF.B.inj a:v=mH g) c).b.a<|f v<|aX (bd ..) c⟩;(jQ g N λa=>ec _<|jF.B.inj a).a (el e _<|bm _)
def aaO{a:km}:jE (ks g N) (.B<|mH g+1) a (.B<|mH g)=V N:=(jQ _ _ λb=>ec _ (jF.B.inj b).b).a<|jS ..
def t4(l:j')(f:Nat)(k:jD)(a e:jF)(b:jC)(z:Nat)(g:jC):=lT l f g/\g a=V (.A<|jy.G.map jG)/\g e=V (.A<|(F2 l k z).map kI)/\kq (λc=>c=e) b g
section
variable{b e:jF}{z:Nat}(c:t4 κ R w b e x z T)
def t4.A:=c.1
def t4.C:=c.2.1
def t4.B:=c.2.2.1
def t4.D:=c.2.2.2
end
def kw.I(d:s a=V Q):kw (s.A a Q) s:=λm e b=>by
 by_cases c:m=a;.subst c;rw[jP.C]at b;exact d.a b
 .exact(s.B Q c).b.a b
abbrev F3(a e:jF)(b:Nat)(k:Nat):jP:=((lv [.A lH,kI b,.A a]).A 3<|.A e).A 1<|kI k
def aaP(s:kz jy.D l)(t:k∈jy.B)(b:t4 l f k (.A R []) (.A 16 c) p v g)(y:R≠16)(n:v<La jy.G):jY d a (lV (λg=>t4 l f k (.A R []) (.A 16 c) p (v+1) g) (λg=>(F3 (.A R []) (.A 16 c) m<|t3 l k<|v+1,g)) j) (kt [.A Jt<|.C Ks Jb,.B (.g_ [.D .NotEq (.H JZ [Jd])<|.K [Jh],.D .NotIn (.C Jd Jh) Ks]) [.G JY] [],.A Jr<|.C Jd Jh,.E<|.F Jg 42 [Jb]] .A) [] ((F3 (.A R []) (.A 16 c) m<|t3 l k v).A 4<|jG jy.G[v]) g:=by
 have u:∀v,v<=La jy.G->t3 l k v<La l.A:=λv r=>oI s<|aaL t v r;have w:=aaM s t v n;have x:(oo l<|t3 l k v).lookup jy.G[v]=V ((t3 l k<|v+1:Nat):Int):=by simp only[w,bx,aI]
 have o:=u v<|bL n;have e:lT l f<|jE (ks g<|.A<|(nV [jy.G[v]]).map jG) (.B<|mH g+1)<|.A [jG jy.G[v]]:=b.A.C.H λh h h=>U;have q:t4 l f k (.A R []) (.A 16 c) p v _:=mz e b.C b.B<|b.D.A λh h h=>U;refine jN λr=>r b.A.A (b.A.D o) jV.C .A (jX.F (b:=[jy.G[v]]) (.A<|w▸(b.A.B _ o).1)<|cM 2 62) (.B _) aaN .A ((jW.I aaO (jS ..) (oA _)<|oA [jy.G[v]]).A<|aG λz=>z<|aB (ey jG)<|PL _) (e.F o x) e.A .A ((jW.D e.G U).J.A (show _=ah by rw[BY,aC<|bj.b<|u (v+1) n];rfl)) .A (e.F o x) q.B .A (jX.A q.B<|aZ (pk<|aX (aw<|(ab ..).a bX)<|aX (bL n)<|kO.F.a (λi=>jx i (by decide:1<=2)) λi=>jx i<|al 2) jB)<|lh _ (mz (e.J (.B U) λA c i=>(jF.A.inj i).1▸U) ((jQ _ _<|jJ y).a q.C) ((jS ..).a (by unfold F2;simp only[dL,bK,bK];rfl))<|q.D.A<|.B U) (kw.G.D<|kw.B (mC U) 1 _) U
def aaQ(j:kz jy.D l)(n:k∈jy.B)(o:lT l f g)(r:g (.A m [])=V (.A<|jy.G.map jG))(s:g (.A 16 c)=Y)(i:m≠16)(t:∀p,kq (λu=>u=.A 16 c) g p->lT l f p->p (.A 16 c)=V (.A<|(F2 l k (La jy.G)).map kI)->X (.A<|.A 16 c) p):lz (.ref 466) [.A lH,kI<|Lk (jy.K k) l.A,.A<|.A m []] d (a+1) g X:=mZ jV.I_ U λd=>jN λe=>e (.A 16 c) (λw=>s) .B<|nT (t4 l f k (.A m []) (.A 16 c) g) (λz g=>(F3 (.A m []) (.A 16 c) _<|t3 l k z,g)) _ (mz (o.J (.B U) λx c h=>jL (jF.A.inj h).1 U) ((jQ _ _<|jJ i).a r) (jS ..)<|.B U) (kw.I U) U (λz g b=>b.C) (λz g q b v=>by obtain⟨e,h⟩:=ag.a v;subst h;exact aaP j n b i e) λg b=>mE λe=>e<|t g b.D b.A b.B
end
section
variable{b:jF}
structure lI(x:jC)(c:List Nat)(g:jC):Prop where
 B:lD g
 G:∀A,A≠.A 17 []->x A≠Y->g A=x A
 A:g (.A 17 [])=V (.A (c.map kI))
 F:∀B b,B≠17->g (.A B b)=x (.A B b)
def lI.C(d:lI x c g){a:Internal.km}(b:x e=V a)(f:e≠.A 17 []):g e=V a:=(d.G e f<|jx b jB).a b
def lI.E(a:lI x c g)(b:lT l f x):lT l f g:=⟨a.C b.A<|jJ jB,a.C b.G<|jJ jB,a.C b.I<|jJ jB,λm d=>⟨a.C (b.B m d).1<|jJ jB,a.C (b.B m d).2<|jJ jB⟩⟩
def lI.I(d:lI x c T)(b:lI T ζ g):lI x ζ g:=⟨b.B,λe a f=>(b.G e a<|jx (d.G e a f) f).a<|d.G e a f,b.A,λh i a=>(b.F h i a).a<|d.F h i a⟩
def lI.D(a:lI x c g):lI x c<|ks g N:=⟨a.B.A,λe d b=>(jQ _ _ λf:e=.B _=>b<|(a.G e d b).b.a<|(aB g f).a<|mb a.B).a<|a.G e d b,a.A,a.F⟩
def lI.J(b:lI x c g) m:lI x (c++[m])<|jE g KD<|.A<|c.map kI++[kI m]:=⟨b.B.B,λe a d=>(jQ _ _ a).a<|b.G e a d,(jS ..).a<|jx bK U,λf h a=>(jQ _ _<|jJ a).a<|b.F f h a⟩
def lI.H(b:lD g)(e:g KD=V (.A<|c.map kI)):lI g c g:=⟨b,λa a a=>U,e,λa a a=>U⟩
def mi.G{c f:jR}{h:jA}(i:g e=Y)(j:kP Q=aj)(k:nB c d a s (jE g e<|.B []) λb p=>b=Q/\p=jE g e (.B []))(l:nB f d a s (jE g e<|.B []) λb p=>b=h/\p=jE g e (.B [])):mi (.L [c] [f]) d a s g (.A e)<|jE g e<|.B [(Q,h)]:=⟨λ{X} m=>⟨J' jB i ((nC k).A λb T n=>by obtain⟨rfl,rfl⟩:=n;exact(nC l).A λr t o=>by obtain⟨rfl,rfl⟩:=o;exact⟨jS ..,λu q=>jx (ak.a q) j,kg (o3 g e (.B []) _).b m⟩)⟩⟩
def PM(c:g e=V (.B<|lq jA.B [(.C,z)]))(d:g b=V (.B [(.C "$end",.B z)])):jW .NotEq (.A e) (.A b) g ah:=(jW.b_ c d ⟨aj,λh f=>f.a (λa=>ak.a a▸lp) λa=>ak.a a▸lp⟩).A (by show(!(aj&&([(jG .C,jA.B z)].all _)))=ah;simp only[dz,ux,show kj [(jA.C "$end",jA.B z)] _=V (.B z) from(p3 (b:=[(.C,z)])).a<|jx (bx ..)<|jx (aI ..) U];show(!(aj&&(uw g (.B z) (.B z)&&aj)))=ah;refine jx (show uw g (.B z) (.B z)=aj from aD U) ?_;rfl)
def Cw(c:g e=V (.B []))(d:g b=V (.B [])):jW .NotEq (.A e) (.A b) g ah:=(jW.b_ c d ⟨aj,λh f=>f.a (λa=>a' a ac) λa=>a' a ac⟩).A U
noncomputable def qa(l:j')(o:Nat×kJ):Lt Nat:=if o.2.2.2=Y then[]else[l.A.idxOf [(o.1,3)]]
def PN(b:Op jD):n2 b=.C ""↔b=Y:=⟨λa=>FV a,λa=>jx a U⟩
abbrev vc(a:jF)(b:Nat):jP:=(((lv [.A lH,.A a,.A J5]).A 3<|.A<|.A 65 [0]).A 4<|kI b).A 5<|.A KD
abbrev wd(a:jF)(b c:Nat)(k:jD):jP:=((vc a b).A 6<|jG k).A 7<|.A<|.A 66 [c]
abbrev vd(a:jF)(b c:Nat)(k q:jD)(m:Nat)(d:jF):jP:=(((wd a b c k).A 8<|jG q).A 9<|.A<|.A 65 [m]).A 12<|.A d
def aaR(p:kz jy.D l)(n:lT l f T)(r:lI T c g)(h:o∈jy.C)(P:La c<1000000){A:jF}:jY d a (lV (λg=>lI T (c++qa l o) g) (λg=>(vd e m v k q (Lk (jy.a_ o.2.1 o.2.2.1) l.A) A,g)) j) (kt [.B Qn [.B (.D .NotEq (.C Jf J7)<|.J .Sub (.c_ JX) Jn) [.G JY] []] [.E<|.F Jd 42 [KR],.B (.g_ [.D .NotEq (.C Ks KR)<|.L [J7] [.J .Sub (.c_ JX) Jn],.D .NotEq (.C Kr KR) JW]) [.G JY] []]] .A) [] (((vd e m v k q (Lk (jy.a_ o.2.1 o.2.2.1) l.A) A).A 11<|n2 o.2.2.2).A 10<|.B<|(o.1:Int)-1) g:=by
 have G:=oI p<|.B (p9 h)<|qt h;have u:=((sv p).B (p9 h)<|qt h).b<|rV o h U U U U;have H:kw _<|((vd e m v k q (Lk (jy.a_ o.2.1 o.2.2.1) l.A) A).A 11<|n2 o.2.2.2).A 10<|.B<|(o.1:Int)-1:=mC U;have I:(-1:Int)-((o.1:Int)-1)=-(o.1:Int):=by lia
 have J:=r.E n;by_cases b:o.2.2.2=Y;.
  rw[b,aC U]at u;have s:=J.F G u;have R:lI T (c++qa l o) g:=by rw[qa,aC b,bQ];exact r
  exact jN λi=>i .A (((jW.C (zS _ 5)<|zS Y 5).B<|PN o.2.2.2).A<|aD b) s .A .A ((jW.G U U).A<|aG λt=>t<|aB jA.B I.b) .A .A<|lh _ R H U
 .have y:=oI p<|.D h b;have S:jG (o.2.2.2.getD .C)=n2 o.2.2.2:=by cases K:o.2.2.2 with|none=>exact a' K b|some L=>rfl
  rw[aA b]at u;have s:∀{g},lT l f g->mY (.A<|.A 65 [Lk _ l.A]) _ g=V _:=λn=>S▸n.F G u;have B:=r.J<|l.A.idxOf [(o.1,3)];have C:=B.E n;have D:lI T _<|Internal.ks _<|.B [(.C "$end",.B (-1-((o.1:Int)-1)))]:=B.D;have z:=D.E n;have M:lI T (c++qa l o)<|Internal.ks (Internal.ks (jE g KD<|.A<|c.map kI++[kI<|l.A.idxOf [(o.1,3)]])<|.B [(.C "$end",.B (-1-((o.1:Int)-1)))])<|.B []:=by rw[qa,aA b];exact D.D
  have N:=(z.B _ y).1;rw[zV s5 λw K=>(sv p).E h b]at N;have O:=((M.E n).B _ y).2;rw[(rP p).B (.D h b) (λt=>a' (aB dO (an t).1) (show¬3=0 by decide)) λk X t=>su (b:=λL=>L=_->False) (t▸cX _:_∈jy.K k) (λW E E b=>a' (bf b).2 jB) (λW E b=>a' (bf b).2 jB) U]at O;exact jN λi=>i .A (((jW.C (zS _ 5)<|zS Y 5).B<|PN o.2.2.2).A<|aG b) r.A (s J) .A (jX.A r.A<|br ((ab kI).b▸P) jB) C.A (s C) (C.D y) .A (mi.G (mb B.B) (kk .C) (jN λi=>i lp)<|jN λi=>i .A lp) .A (PM N<|I▸jS ..) z.A (s z) (z.E y) (.B _) (λE=>mb D.B) .A (Cw O<|jS ..) .A .A<|lh _ M H U
end
def xR(a:Op jD×Nat):jA:=.E [n2 a.1,.B<|(a.2:Int)-1]
def we(b c:jD):Lt<|Nat×kJ:=jy.C.filter λa=>ba<|a.2.1=b/\a.2.2.1=c
noncomputable abbrev PO(a:Nat×kJ):Op jD×Nat:=(a.2.2.2,a.1)
def s8(a b:jD):Lt<|Op jD×Nat:=(we a b).map PO
def F4(a:Nat×kJ):jA:=r4 (.B<|(a.1:Int)-1)<|na a.2
def aaS(b:F4 o=F4 θ):o=θ:=have a:=an<|jA.E.inj b;bt (dH<|(hs 1).a<|jA.B.inj a.1) (FW (an a.2).1)
section
variable{b h:jF}{i:Nat}
def aaT:uF (jy.H.map na)=jy.C.map F4:=hR λz=>by simp only[uF,gk,ax,ax,jy.C,ax,fV];exact z5 (by rfl) (λa=>by show V _=V (r4 (.B _)<|na a);exact jx (show(((1+z:Nat):Int)-1)=z by lia) U) jy.H[z]?
def PP{b:jR}{c:Bool->jC->Prop}(f:jY d a (λh e g=>qF.rec (motive:=λe=>Prop) (c aj g) (c ah g) False (λe=>False) h) ((mD b).B .A .C) [] s g):r6 [b] ⟨d,a,s,g⟩ c:=((ok b).B f).A λi g j=>by cases i<;>exact j
def nw.A{q r:jR}{j:kM}{t:List jR}{h:List u}{b:u->jA}{i:u->Option jA}{w:lQ}(D:∀k l,b k=b l->k=l)(E:∀z∈pO j,Lj z Z=Y)(F:pQ r ⟨d,a,s,g⟩ λx y p=>x=α/\y=w/\p=g)(G:∀A H,nb j H A->α A) (I:∀c z,w z (jE g e<|.A c)=V (h.map b)[z]?) (J:g e=Y) (K:La h<16777216) (L:∀c k,k∈h->∃n,mu j (b k) (oh Z s)=V n/\r6 t ⟨d,a,n,jE g e<|.A c⟩ λM o=>o=jE g e (.A c)/\bif M then kn ah q ⟨d,a,n,o⟩ (λl N=>i k=V l/\N=o)else i k=Y):nw (.A (.A m)<|.d_ f Z q j r t) d a s g (s.A m<|.A e)<|jE g e<|.A<|h.filterMap i:=(Eu D i).a λB v=>⟨λ{X} O=>⟨IU (F.A λx y p P=>by obtain⟨rfl,rfl,rfl⟩:=P;exact DV ⟨G,E,e,h.map b,B,J,jL (ab b).b K,I,λc Q R=>(am.a R).a λk C=>C.2▸(v k).b▸L c k C.1,(by refine jx eq<|jx (show(B∘b)=i from aJ v) ?_;exact O)⟩)⟩⟩
def aaU(j:g h=V (.A<|jy.H.map na))(n:g e=Y):nw (.A JM<|.d_ 7 [(5,8),(6,6)] (.M [Jh,Jb]) (.B [Jr,.B [Jv,Jo,Jq]]) (.H Kd [Jb]) [.f_ [.D .Eq Jc Jj,.D .Eq Jg Jd]]) d a (((wd h R i k).A 8<|jG q).A 9 Q) g ((((wd h R i k).A 8<|jG q).A 9 Q).A 12<|.A e)<|jE g e<|.A<|(s8 k q).map xR:=by
 have p:jy.C.filterMap (λo=>if o.2.1=k/\o.2.2.1=q then V<|xR<|PO o else Y)=(s8 k q).map xR:=by simp only[xC,s8,bY];rfl
 exact jL p<|nw.A (λr r=>aaS) jB (DL jV.D.A jV.D.B<|ry<|ps U<|sC<|pL _ _ (DM j) U U U) wJ (λs z=>jL aaT<|Be<|sO ((jQ _ _ λf=>mh n<|f▸j).a j) z) n (aZ (aw FH)<|aZ kO.E jB) λs o t=>jO _ U<|PP<|jN λb=>b .D ((jW.C (kk _)<|kk _).B m') (λl c=>c<|jN λb=>b .D ((jW.C (kk _)<|kk _).B m') (λm c=>c<|jN λb=>b ⟨U,nC<|jN λb=>b ⟨aC ⟨l,m⟩,U⟩⟩) λm c=>c<|jN λb=>b ⟨U,aA λf=>m f.2⟩) λl c=>c<|jN λb=>b ⟨U,aA λf=>l f.1⟩
def PQ{a:Op jD}:mv (n2 a) g=V (Lh a):=by exact z5 (by rfl) (λw=>PD w) a
def PR{a:Op jD}:(Lh a=aj->n2 a=jG (a.getD .C))/\(Lh a=ah->jA.C "$end"=jG (a.getD .C)):=by exact z5 ⟨lf,λb=>U⟩ (λw=>⟨λb=>U,ot⟩) a
def ve(k q:jD):Lt jD:=(s8 k q).map λa=>a.1.getD .C
def aaV{j:jF}(o:g j=V (.A<|(s8 k q).map xR))(p:g e=Y):mi (.d_ 3 [] (.h_ Jb Jb J7) (.B [Jr,Jv]) Je []) d a (vd h R i k q m j) g (.A e)<|jE g e<|.A<|(ve k q).map jG:=by simp only[ve,bY];exact mi.D o (λz l=>U) _ (λl l=>(λb=>have n:=an<|jA.E.inj b;bt (FV n.1) (dH<|(hs 1).a<|jA.B.inj (an n.2).1))) p (aZ (pk<|xI _) jB) (λr s t=>jN λb=>b .B PQ (λc f=>f<|jN λb=>b ⟨PR.1 c,U⟩) λc f=>f<|jN λb=>b ⟨PR.2 c,U⟩)<|jN λb=>b lp
def t5(b:o∈we k q):o∈jy.C/\o.2.1=k/\o.2.2.1=q:=have a:=ar.a b;⟨a.1,aF a.2⟩
def PS:Le (ve k q):=by simp only[ve,s8,bY];exact cc.b<|dW (λ{g h} c d e f=>e (have a:=t5 c;have b:=t5 d;xz a.1 b.1 (bt (a.2.1.a b.2.1.b)<|bt (a.2.2.a b.2.2.b)<|Pq a.1 b.1 f)))<|FD.b cZ
def aaW(d:kz jy.D l)(e:k∈jy.B)(f:q∈jy.A k)(w:jD):w∈(oo l<|Lk (jy.a_ k q) l.A).map (·.1)↔w∈ve k q:=by
 rw[<-t1,ve,s8,bY,am];constructor;.intro g;refine ka λh=>?_;obtain⟨Q,a⟩:=dq.a g;exact vm (((sv d).B e f).a a) λo b i j m _=>h<|jO o (ar.b ⟨b,aD ⟨i,j⟩⟩) m.b
 .rintro⟨o,b,a⟩;have c:=t5 b;exact tX<|((sv d).B e f).b<|rV o c.1 c.2.1 c.2.2 a.b U
def zW(l:j')(k q:jD):Lt Nat:=Lk (jy.a_ k q) l.A::(we k q).flatMap (qa l)
def aaX(h:kz jy.D l)(i:k∈jy.B)(e:q∈jy.A k):sw l (Lk (jy.a_ k q) l.A)=[]:=by refine li (tT.a e) λo j m n=>?_;have f:=m▸n▸xG j;exact(rP h).B (.B i e) (λc=>tV (b:=λd=>d=_->False) (jL c f) (λa=>a' (bf a).2 jB) (λg b a=>a' (bf a).2 jB) U) λp b c=>su (b:=λd=>d=_->False) (jL c f) (λg b b a=>a' (bf a).2 jB) (λg b a=>a' (bf a).2 jB) U
end
section
variable{b h:jF}{i:Nat}
def lI.K(b:lI x c g)(d:lT l f x)(e:m<La l.A):pu g (.A<|.A 65 [m]) (((oo l m).map (·.1)).map jG):=by have a:=pu.A ((b.E d).B m e).1;simp only[lq,bY]at a;simp only[bY];exact a
def PT(a:La c<1000000):La (c.map kI)<16777216:=br (jL (ab kI).b a) jB
abbrev F5:Lt kb:=[.B Qn [.B (.D .NotEq (.C Jf J7)<|.J .Sub (.c_ JX) Jn) [.G JY] []] [.E<|.F Jd 42 [KR],.B (.g_ [.D .NotEq (.C Ks KR)<|.L [J7] [.J .Sub (.c_ JX) Jn],.D .NotEq (.C Kr KR) JW]) [.G JY] []]]
abbrev PU:Lt kb:=[.E<|.F Jd 42 [Qd],.A JB<|.C Ks Qd,.A JM<|.d_ 7 [(5,8),(6,6)] (.M [Jh,Jb]) (.B [Jr,.B [Jv,Jo,Jq]]) (.H Kd [Jb]) [.f_ [.D .Eq Jc Jj,.D .Eq Jg Jd]],.B (.g_ [.D .NotEq (.H JZ [Jf])<|.H JZ [.d_ 3 [] (.h_ Jb Jb J7) (.B [Jr,Jv]) Je []],.D .NotEq (.C Kr Qd) JW]) [.G JY] [],.C (.B [JI,JC]) Je F5 []]
def aaY(n:kz jy.D l)(r:lT l f g)(s:lI g c g)(t:g e=V (.A<|(s8 k q).map xR))(u:e≠.A 17 [])(D:La c<100000)(v:∀p,lI g (c++(we k q).flatMap (qa l)) p->j .A (vd h R i k q (Lk (jy.a_ k q) l.A) e) p):oi (m7 d (.A e) g) (.B [JI,JC]) F5 d a (vd h R i k q (Lk (jy.a_ k q) l.A) e) g j:=by
 refine nT (λz p=>lI g (c++(Ll z<|we k q).flatMap _) p) (λw p=>(vd h R i k q _ e,p)) g (by simp only[fn,eY,bQ];exact s) (.A _) U (λz p b=>b.C t u) (λz p E b x=>oR x λo m y=>?_) λp b=>v p (by simp only[s8,ab,bI]at b;exact b);subst y;refine wi (t5<|aa m) λA B C=>?_;subst B C;refine jx (uT m)<|jL (bw ..) ?_;have F:La ((Ll z<|we o.2.1 o.2.2.1).flatMap<|qa l)<=1*4:=qZ (λG w=>by
  unfold qa;split;.exact bT _
  .exact al _)<|aX (bg ..)<|xI _;exact aaR n r b A (by rw[bH];exact aZ (bv (bL ‹c.length<_›) ‹_<=1*4›) jB)
def aaZ(b:kz jy.D l)(m:lT l f T)(o:lI T (c++[Lk (jy.a_ k q) l.A]) x)(z:x e=V (.A<|(s8 k q).map xR))(t:e≠.A 17 [])(n:k∈jy.B)(r:q∈jy.A k)(E:La c<90000):jY d a (lV (λg=>lI T (c++zW l k q) g) (λg=>(wd h R (Lk (jy.K k) l.A) k,g)) j) (kt [.B (.g_ [.D .NotEq (.H JZ [Jf])<|.H JZ [.d_ 3 [] (.h_ Jb Jb J7) (.B [Jr,Jv]) Je []],.D .NotEq (.C Kr Qd) JW]) [.G JY] [],.C (.B [JI,JC]) Je F5 []] .A) [] (vd h R (Lk (jy.K k) l.A) k q (Lk (jy.a_ k q) l.A) e) x:=ka λF=>by have u:=oI b<|.B n r;have i:lI x _ (ks x (.A ((nV ((oo l<|Lk (jy.a_ k q) l.A).map (·.1))).map jG))):=(lI.H o.B o.A).D;have v:lI _ _<|ks (ks _<|.A<|(ve k q).map jG)<|.A<|(nV<|ve k q).map jG:=(lI.H i.B i.A).D.D;have A:=(o.I i).I v;have w:=A.E m;have s:lI T _<|ks _<|.B []:=A.D;have B:=s.E m;have C:=(B.B _ u).2;rw[aaX b n r]at C;exact F<|jN λy=>y jV.C .A (jX.F (o.K m u)<|aZ (no s5) jB) jV.C .A (aaV (i.C z t)<|mb i.B) .A (jX.F (.B<|jS ..)<|aZ (no<|PS) jB) .A ((jW.I (v.C (jS ..) (λy=>by cases y)) (jS ..) (oA _)<|oA _).A<|aG λG=>G<|jx (Cu s5 PS<|aaW b n r) U) w.A ((λm=>m.K (oI b<|.A n)<|((rP b).A n).b ⟨r,U⟩) w) (w.E u) (.B _) (λH=>mb H) .A (Cw C<|jS ..) .A .B<|aaY b B (lI.H s.B s.A) (((i.I v).D).C z t) t (jx bH<|au (fR E) jB) λp I=>lh _ (show lI T _ p by have D:=s.I I;rw[bw]at D;exact D) (r9 U) U
def aa0(e:kz jy.D l)(b:lT l f T)(i:lI T c g)(u:T h=V (.A<|jy.H.map na))(v:h≠.A 17 [])(m:k∈jy.B)(o:q∈jy.A k)(s:La c<90000):jY d a (lV (λg=>lI T (c++zW l k q) g) (λg=>(wd h R (Lk (jy.K k) l.A) k,g)) j) (kt PU .A) [] ((wd h R (Lk (jy.K k) l.A) k).A 8<|jG q) g:=ka λw=>by have t:∀{g},lT l f g->mY (.A<|.A 66 [Lk _ l.A]) _ g=V _:=λb=>b.K (oI e<|.A m)<|((rP e).A m).b ⟨o,U⟩;have n:=i.J<|Lk (jy.a_ k q) l.A;have p:=n.E b;exact w<|jN λr=>r i.A (t<|i.E b) .A (jX.A i.A<|PT<|br s jB) p.A (t p) (p.D<|oI e<|.B m o) .B<|(aaU (n.C u v)<|mb n.B).B (aaZ e b n.D (jS ..) (λr=>by cases r) m o s:)
end
section
variable{b h:jF}{i:Nat}
def aa1{e:List ι}{p:ι->jA}{l:kM}{q:List kb}{r:cj}(t:sH r=e.map p)(f:Nat->u->Prop)(c:Nat->u->jP×jC)(k:u)(v:f 0 k)(w:kw (c 0 k).1 s)(x:g=(c 0 k).2) (y:∀z b h,f z b->e[z]?=V h->kA False (λA=>jY d a (lV (f<|z+1) (c<|z+1) j) (kt q .A) [] A (c z b).2) (mu l (p h) (c z b).1)) (B:∀b,f (La e) b->j .A (c (La e) b).1 (c (La e) b).2):oi (m7 d (.C r) g) l q d a s g j:=⟨_,_,It,wZ f c (λz b=>_[z]?) (La e) k v w x (pR l) (λz b i=>jx t U) (λz b Q i m=>oR m λh n D=>(ag.a n).1) (λz b Q i m=>oR m λh n o=>jL o<|y z b h i n) λz b i C o=>by obtain rfl:z=La e:=cC i<|w0 o;exact B b C⟩
def PV:∀N∈s6,sH (sx N)=N.map jG:=by
 intro N a;rcases ao.a a with b|a;.exact jx b U
 rcases ao.a a with b|a;.exact jx b U
 rcases ao.a a with b|a;.exact jx b U
 rcases ao.a a with b|a;.exact jx b U
 rcases ao.a a with b|a;.exact jx b U
 .exact a' a ac
def lT.L(b:lT l f g)(c:m<La l.A):pu g (.A<|.A 66 [m]) (((sw l m).map (·.1)).map jG):=by have a:=pu.A (b.B m c).2;simp only[lq,bY]at a;simp only[bY];exact a
def lT.M(b:lT l f g)(c:m<La l.A):pu g (.A<|.A 65 [m]) (((oo l m).map (·.1)).map jG):=by have a:=pu.A (b.B m c).1;simp only[lq,bY]at a;simp only[bY];exact a
def xS(k:jD):jy.A k∈s6:=PA _ [] (λw b=>(am.a b).a λe a=>kg a.2<|kO.A e (ar.a a.1).1) jB
def PW(k:jD):oa (oq jy.H) k=jy.A k:=(xO jy.H []).2 k
def Cx(b:g J5=V (.B<|lq mW<|oq jy.H))(c:k∈jy.B):mY (.A J5) (jG k) g=V (mW<|jy.A k):=ne b (kk _) (by refine jx (p3 ..)<|jL (PW ..) ?_;cases a:Lj k<|oq jy.H with|none=>exact a' a<|t1.b<|jL (xO jy.H []).1.b c|some N=>simp only[oa,a];rfl)
def F6:Le (jy.A k):=qN .nil
def wf(l:j')(k:jD):Lt Nat:=Lk (jy.K k) l.A::(jy.A k).flatMap (zW l k)
def F7:La (zW l k q)<=5:=bb (qZ (a:=1) (e:=4) (λa b=>by
 unfold qa;split;.exact bT _
 .exact al _)<|xI _)
abbrev F8:Lt kb:=[.E<|.F Jd 42 [.C Jg Jj],.A Jz<|.C Kr<|.C Jg Jj,.B (.D .NotEq (.H JZ [Jl])<|.H JZ [.C Jc Jj]) [.G JY] [],.C Jx (.C Jc Jj) PU []]
def aa2(b:kz jy.D l)(m:lT l f T)(o:lI T c g)(D:T h=V (.A<|jy.H.map na))(E:h≠.A 17 [])(u:T J5=V (.B<|lq mW<|oq jy.H))(e:k∈jy.B)(v:La c<80000):jY d a (lV (λg=>lI T (c++wf l k) g) (λg=>(vc h R,g)) j) (kt F8 .A) [] ((vc h R).A 6<|jG k) g:=ka λF=>by have x:=oI b<|.C;rw[s3 b]at x;have y:=oI b<|.A e;have A:∀{g},lT l f g->mY (.A<|.A 65 [0]) _ g=V (kI _):=λm=>m.F x<|(sv b).A.b ⟨e,U⟩;have n:=o.J<|Lk (jy.K k) l.A;have r:=n.E m;have t:=xS k;have B:lI T _ (ks (ks _ (.A ((nV ((sw l<|Lk (jy.K k) l.A).map (·.1))).map jG)))<|.A<|(nV<|jy.A k).map jG):=n.D.D;refine F<|jN λi=>i o.A (A<|o.E m) .A (jX.A o.A<|PT<|br v jB) r.A (A r) (r.E y) jV.C .A (jX.F (r.L y)<|aZ (no<|(rP b).C _) jB) jV.C (Cx ((n.D).C u nofun) e) .A (jX.F (kg (PV _ t)<|.C<|aX (va _ t).1 jB)<|aZ (no F6) jB) .A ((jW.I (((lI.H n.B.A (n.D).A).D).C (jS ..) (λi=>by cases i)) (jS ..) (oA _)<|oA _).A<|aG λG=>G<|jx (Cu ((rP b).C _) F6 λw=>t1.symm.c ⟨λi=>(dq.a i).a λJ H=>(((rP b).A e).a H).1,λi=>tX<|((rP b).A e).b ⟨i,U⟩⟩) U) .A (Cx (B.C u nofun) e) .B<|aa1 (PV _ t) (λz g=>lI T (c++[Lk _ l.A]++(Ll z<|jy.A k).flatMap _) g) (λI g=>(wd h R _ k,g)) _ (jx (fn ..)<|jx (eY ..)<|jx (bQ ..) B) (.A _) U (λz p q s C=>?_) λp s=>lh _ (show lI T _ p by rw[bI,bw]at s;exact s) (mC U) U;exact jx (uT C)<|jL (bw ..)<|aa0 b m s D E e (aa C)<|jx bH<|jx bH<|aZ (bS (qZ (λK I=>F7)<|aX (bg ..)<|zL) _)<|au (jt (jt v 1)<|5*4) jB
end
section
variable{b h:jF}{i:Nat}{n:km}
structure s9(g p:jC):Prop where
 B:lD p
 C:∀e,g e≠Y->p e=g e
 D:∀B b,p (.A B b)=g (.A B b)
def s9.E(b:lD g):s9 g g:=⟨b,λa a=>U,λa a=>U⟩
def s9.A(a:s9 g p):s9 g<|ks p N:=⟨a.B.A,λe b=>(jQ _ _ λc:e=.B _=>b<|(a.C e b).b.a<|(aB p c).a<|mb a.B).a<|a.C e b,a.D⟩
def xT(a:lD g):ks (ks g N) n (.B<|mH g)=V N:=((s9.E a.A).A.C _<|jx (show ks g N (.B _)=V N from jS ..) jB).a<|jS ..
def xU(l:j'):Lt Nat:=0::Lk jy.n_ l.A::jy.B.flatMap (wf l)
def PX:La (wf l k)<=21:=bb<|qZ (λa b=>F7)<|zL
def F9:(lq mW<|oq jy.H).map (·.1)=jy.B.map jG:=by rw[<-(show(oq jy.H).map _=jy.B from(xO jy.H []).1),lq,bY,bY];rfl
def F':Le jy.B:=qN .nil
def aa3(i:kz jy.D l)(m:lT l f g)(n:lI g [0,Lk jy.n_ l.A] g)(o:g h=V (.A<|jy.H.map na))(q:h≠.A 17 [])(c:g J5=V (.B<|lq mW<|oq jy.H))(r:∀p,lI g (xU l) p->j .A (vc h R) p):oi (m7 d (.A J5) g) Jy F8 d a (vc h R) g j:=by refine uG (λz p=>lI g ([0,Lk jy.n_ l.A]++(Ll z jy.B).flatMap _) p) (λs p=>(vc h R,p)) g (by dsimp only[fn,eY,bQ];exact n) (.A _) U (λz p b=>jO _ (b.C c nofun) F9) (λz p k b e=>?_) λp b=>r p (by rw[bI]at b;exact b);exact jx (uT e)<|jL (bw ..)<|aa2 i m b o q c (aa e)<|jx bH<|aZ (bS (qZ (λt s=>PX)<|aX (bg ..)<|v9) _) (show 2+21*4<80000 by decide)
def aa4(t:kz jy.D l)(b:s9 g x)(u:lT l f x)(n:g h=V (.A<|jy.H.map na))(o:h≠.A 17 [])(v:g J5=V (.B<|lq mW<|oq jy.H))(w:∀p,lI g (xU l) p->j .A (vc h R) p):oi (m7 d (.A J5)<|jE x KD<|.A<|[0,Lk jy.n_ l.A].map kI) Jy F8 d a (vc h R) (jE x KD<|.A<|[0,Lk jy.n_ l.A].map kI) j:=aa3 t (u.J (.B U) λk m c=>jL (jF.A.inj c).1 U) (lI.H b.B.B<|jS ..) ((jQ _ _ o).a<|(b.C _<|jx n jB).a n) o ((jQ _ _<|jJ jB).a<|(b.D 18 []).a v) λp i=>w p ⟨i.B,λe q c=>have r:=(jQ _ _ q).a<|b.C e c;(i.G e q<|jx r c).a r,i.A,λk m s=>(i.F k m s).a<|(jQ _ _<|jJ s).a<|b.D k m⟩
theorem aa5(c:kz jy.D l)(j:lT l f g)(F:g h=V (.A<|jy.H.map na))(G:h≠.A 17 [])(x:g J5=V (.B<|lq mW<|oq jy.H))(H:g KD=Y)(e:∀p,lI g (xU l) p->X (.A KD) p):lz (.ref 471) [.A lH,.A h,.A J5] d (a+1) g X:=by revert d a f g X l h;apply ud;generalize lt.1.1.1=a,lt.1.1.2=f,lt.1.2.1=d,lt.1.2.2=g,lt.2.1.1=l,lt.2.1.2=X,lt.2.2=h;intros;exact .A λm=>by have i:=oI c<|.C;replace i:=s3 c▸i;have r:=oI c .F;have y:=zV ((rP c).C 0) λw I=>(rP c).D;have z:s9 g (ks (ks g (.A ((nV ((oo l 0).map (·.1))).map jG)))<|.A<|(nV jy.B).map jG):=(s9.E m).A.A;have t:=(j.C (N:=.A ((nV ((oo l 0).map (·.1))).map jG))).C (N:=.A<|(nV jy.B).map jG);have A:=t.L i;rw[y]at A;have B:s9 g<|ks (ks _<|.A<|(nV [jD.D]).map jG)<|.A [.C "S"]:=z.A.A;have n:=(t.C (N:=.A<|(nV [jD.D]).map jG)).C (N:=.A [.C "S"]);have u:=n.C (N:=.B [(.C "$end",.B 0)]);have C:=(u.B _ r).1;rw[zV s5 λw I=>(sv c).C]at C;have D:=u.C (N:=.B []);have E:=(D.B _ r).2;rw[(rP c).B .F (λq=>a' (aB dO (an q).1) (show¬_=0 by decide)) λk v q=>su (b:=λJ=>J=_->False) (q▸cX _:(0,1)∈jy.K k) (λK L v e=>(rO L).1 (bf e).1) (λK v e=>a' (bf e).2 jB) U]at E;refine mZ jV.J_ U λd=>jN λb=>b j.A (j.D i) jV.C .A (jX.F (j.M i)<|aZ (no s5) jB) jV.C .A (jX.F (kg F9<|.A x)<|aZ v9 jB) .A ((jW.I (xT m) (jS ..) (oA _)<|oA _).A<|aG λe=>e<|jx (Cu s5 F' λw=>t1.symm.c ⟨λb=>(dq.a b).a λN q=>((sv c).A.a q).1,λb=>tX<|(sv c).A.b ⟨b,U⟩⟩) U) jV.C t.A (t.E i) .A (jX.F (b:=[.D]) A jB) (.B _) (λm=>mb m) .A ((jW.I (xT z.B) (jS ..) (oA _)<|oA [.D]).A<|aG λe=>e<|aB (ey jG)<|PL _) .A n.A (n.E i) ((λj=>j.K (q:=.D) i<|jx y U) n) n.A (n.D r) .A (mi.G (mb B.B) (kk .C) (jN λb=>b lp)<|jN λb=>b lp) .A (PM C<|jS ..) u.A (u.E r) (.B _) (λm=>mb m) .A (Cw E<|jS ..) .A KD (λv=>H) .B<|aa4 c B.A.A D F G x λp M=>mE λb=>b<|e p M
end
section
variable{a:ko}
theorem aa6{c n o:jR}(W:a.B.A.IsList β (Lc y))(G:gs y t)(a0:La t<=63)(X:kn ε c a λf w=>kn ε n (a.C w) λd x=>kn ε o (a.C x) λg z=>∃A i,sI d A/\sI g i/\f=.G (.ref β)/\∃O p,tq A i (t.map jA.B)=V O/\z p=Y/\δ (.A p) (jE z p<|.A O)):kn ε (.j_ c n o) a δ:=by
 revert ε a δ c n o β y t;apply vl;generalize kZ.1.1.1.1=t,kZ.1.1.1.2=y,kZ.1.1.2=β,kZ.1.2.1=δ,kZ.1.2.2=ε,kZ.2.1.1=a,kZ.2.1.2=c,kZ.2.2.1=n,kZ.2.2.2=o;intros;exact λb H q e Z j α B r=>α (λH=>ay _ _ (dy H _) Z j e) λf a1 I i A γ ζ η=>by
  have J:∀{C:jR}{k:Option cL}{l:ko}{q:ke}{e:bG}{K:jA->jC->Prop}{L:bB->bG->Prop}(b:n7 ε l.B l.D),kn ε C l K->((k=Y/\C=.a_)\/∃d,k=V d/\kV C b.D d)->kS b.A l q e->wu b.A l q e K L->ay kc b.B (evalPart k b.A) L j e:=λb s D g r=>D.a (λD=>by obtain⟨rfl,rfl⟩:=D;exact s b (.Constant .none 0 i') _ _ _ j (λu B=>B ..) g r) λθ=>θ.a λd ι=>ι.elim λc κ=>by subst c;exact s b d _ _ _ j κ g r
  refine hq<|X b f q e _ j γ B λa2 w M a3 a4 μ ν ξ ο=>wpAny_Slice<|J (l:=a.C w) b μ ζ ν λd x E a5 a6 π ρ σ τ=>J (l:=a.C x) b π η ρ λg z F υ v φ N P χ=>ai<|ka λψ=>?_;obtain⟨a7,a8,ω,Γ,rfl,O,p,s,Δ,Θ⟩:=φ;have u:=lR.D v {cls:=.type "slice",data:=.fields #[E,F,.none]}
  have Q:=N.A.H u.B;apply ψ;apply ο.L;have R:({v with heap:=v.heap.push {cls:=.type "slice",data:=.fields #[E,F,.none]}}:bG).heap.IsList β (Lc y):=let⟨k,c,I⟩:=W;(jO k (Q.A.A _ _ c) I);have S:=I8 s<|Lr (v:=υ) (l:=v.heap.push {cls:=.type "slice",data:=.fields #[E,F,.none]}) G;have a9:=G.length;exact gf R.typeIs adg (jn R (gM ..) (AW ω<|τ.A P.B) (AW Γ χ) .none kh (pN.A (λf Ξ M Φ Ψ i Ω T=>r f Ξ M Φ Ψ i ((N.D u).C Ω T)<|(((ξ.A σ).A P).A<|.C u).A T) Q Δ (.C ..) (bJ _ U) S.1 (aX S.2 (by rw[ab];exact aX ‹t.length<=63› jB)) Θ) (by simp only[cU,cy];exact aX (aw ‹_›)<|aX ‹t.length<=63› jB)) U
end
noncomputable def t6(a:Lt Int):Lt Nat:=(Ll 16 a).map λb=>Lg (b%720720)
section
def nw.D{r t:jR}{k:kM}{v:List jR}{i:List u}{c:u->jA}{j:u->Option jA}{w:lQ}(E:∀b l,c b=c l->b=l)(F:∀n∈pO k,Lj n Z=Y)(G:pQ t ⟨d,a,s,g⟩ λx y z=>x=α/\y=w/\z=p)(H:∀A I,nb k I A->α A) (J:∀h n,w n (jE p e<|.A h)=V (i.map c)[n]?) (K:p e=Y) (L:La i<16777216) (M:∀h b,b∈i->∃o,mu k (c b) (oh Z s)=V o/\r6 v ⟨d,a,o,jE p e<|.A h⟩ λN q=>q=jE p e (.A h)/\bif N then kn ah r ⟨d,a,o,q⟩ (λl O=>j b=V l/\O=q)else j b=Y):nw (.A (.A m)<|.d_ f Z r k t v) d a s g (s.A m<|.A e)<|jE p e<|.A<|i.filterMap j:=(Eu E j).a λB C=>⟨λ{T} P=>⟨IU (G.A λx y z Q=>by refine ka λR=>?_;obtain⟨rfl,rfl,rfl⟩:=Q;apply R;exact DV ⟨H,F,e,i.map c,B,K,jL (ab c).b L,J,λh W S=>(am.a S).a λb D=>D.2▸(C b).b▸M h b D.1,(by refine jx eq<|jx (show(B∘c)=j from aJ C) ?_;exact P)⟩)⟩⟩
theorem aa7(k:lD g)(l:d.A.IsList β (Lc y))(m:gs y t)(h:La t<=63)(n:s 0=V (.G<|.ref β))(o:g J2=Y):nw (.A Jr<|.d_ 2 [] (.J .Mod Jb<|.E 720720) Jr (.j_ Ja .a_<|.E 16) []) d a s g (s.A 1<|.A J2)<|jE (ks g<|.A<|(Ll 16 t).map jA.B) J2<|.A<|(t6 t).map lW:=by revert d a g s β y t;apply ud;generalize lt.1.1.1=a,lt.1.1.2=d,lt.1.2.1=g,lt.1.2.2=s,lt.2.1.1=t,lt.2.1.2=y,lt.2.2=β;intros;refine jL (show(Ll 16 t).filterMap (λb=>V _)=(t6 t).map lW from(aN (ez (f:=λb:Int=>lW (Lg (b%720720)))) _).a (by simp only[t6,bY];rfl)) ?_;have p:tq Y (V 16) (t.map jA.B)=V ((Ll 16 t).map jA.B):=jx iX U;exact nw.D (λi i=>jA.B.inj) (λj i=>U) (wF<|aa6 l m h<|ps n<|HF<|yq ⟨Y,V 16,.inl lp,.inr ⟨16,U,U⟩,U,_,.B<|mH g,p,mb k,pL r3 _ (vz<|jS ..) U U U⟩) (pR _) (λc j=>sO ((show∀c,jE _ J2 (.A c) (.B _)=V (.A _) from λc=>(jQ _ _ (show jF.B (mH g)≠.A 13 [] from(λe=>by cases e))).a<|jS ..) c) j) o (aZ (fc ..) jB) λc b h=>kT _ U U<|nC<|jN λe=>e .A ⟨aB V ((show∀b:Int,jA.B (b.fmod 720720)=lW (Lg (b%720720)) from λb=>by rw[lW,iS _ jB,gz<|Int.emod_nonneg b jB]) b).b,U⟩
end
noncomputable def t7(b:Lt kJ):Lt kJ:=(b.filter λa=>ba<|a.2.1=.A)++b.filter λa=>ba<|a.2.1=.B
def xV(a:Nat):Lt jD:=(be<|1+a%2).map λb=>m0.getD (a/6/3^b%3) .I
noncomputable def xW(a:Nat):Lt jD:=if a/3%2=0 then[.A,.B]else[.B,.A]
def t8(a:Lt Int):Nat:=(t6 a).headD 0
def Cy(a:Lt Int)(b:Lt kJ):rE:=⟨t7 b,xV<|t8 a,ba<|t8 a/3%2≠0,ba<|t8 a/162%2=1⟩
section
def Ga(c:∀a∈n,kY a.2.1){a:kJ}:a∈t7 n↔a∈n:=by unfold t7;rw[bR,ar,ar,aO,aO];exact⟨λf=>f.a iU iU,λf=>(c a f).c (λb=>⟨f,b⟩) λb=>⟨f,b⟩⟩
theorem aa8(a:tY n)(o:n≠[])(p:La n<=4):px<|Cy t n:=by
 revert n t;apply od;generalize lX.1=n,lX.2=t;intros;have h:∀{j:kJ->Prop},(∀e∈n,j e)->∀e∈t7 n,j e:=λf e d=>f e<|(Ga a.B).a d;have k:Le (t7 n):=cz.b ⟨a.A.b cZ,a.A.b cZ,λq g r c b=>a' ((aF (ar.a g).2).b.a<|(aB (λe:kJ=>e.2.1) b).a<|aF (ar.a c).2) nofun⟩;refine z8 (λb=>?_) (aX (k.a λe d=>(Ga a.B).a d) p) k (h a.C) (h a.B) (h a.D) ?_ (λu s=>?_) ?_;.obtain⟨e,d⟩:=fu _ o;exact ac<|jL (show t7 n=[] from b)<|(Ga a.B).b d
 .have b:La (Cy t n).G=1+t8 t%2:=(ab ..).a bX;refine jx b ?_;rcases Nat.mod_two_eq_zero_or_one _ with l|l<;>rw[l];.exact .inl U
  .exact .inr U
 .exact jU (am.a s) λm _ b=>kg b<|wa (b:=λm=>m0.getD m .I∈m0) jB<|eW _ jB
 .exact fU.b ⟨dW (λg c i b=>a' ((aF (ar.a g).2).b.a b) nofun)<|a.A.b cZ,dW (λg c i i=>aF (ar.a c).2)<|a.A.b cZ,λq g r c i=>aF (ar.a c).2⟩
def aa9:(Cy t n).c_=xW (t8 t):=by
 unfold rE.c_ xW Cy;by_cases a:t8 t/3%2=0;.rw[aC a,aG λb=>b a];rfl
 .rw[aA a,aD a];rfl
end
section
variable{a:ko}
def aa'{c:Int}(d:0<=c)(e:(aeU z:Int)*c<=2^27)(f:δ (.B<|z^Lg c) a.A):lm ε (mm<|fi .Pow) [.B z,.B c] a δ:=uo f λb b b b b b g=>pow_int d e<|g _ _ (.A ..) λb=>⟨_,U⟩
end
section
theorem aba(e:m<2)(o:s 1=V (lW m))(p:s 2=V (lW f)):kn ah (.C Qc<|.J .Mod (.J .FloorDiv Kg<|.J .Pow KY Jb) KY) ⟨d,a,s,g⟩ λq r=>q=jG (m0.getD (f/6/3^m%3) .I)/\r=g:=by
 revert e;revert d a g f m s;apply qv;generalize kE.1.1.1=a,kE.1.1.2=f,kE.1.2=m,kE.2.1.1=d,kE.2.1.2=g,kE.2.2=s;intros;have t:(3:Int)^Lg (m:Int)=((3^m:Nat):Int):=by simp only[eP,Int.natCast_pow];rfl
 have u:∀i:Nat,(ba (((3^m:Nat):Int)≠0)&&!dh i ((3^m:Nat):Int))=aj:=λi=>by rcases((by decide:∀m,m<2->m=0\/m=1) m e)with b|b<;>subst b<;>rfl
 have h:∀{c j:jA}{g:jC}{l:jA}{v:dw}{n:lk}{s:jP},qJ v c j g=V (.A l)->n l g->lm ah _ [c,j] ⟨d,a,s,g⟩ n:=λb w=>LI<|tt b w;exact HH<|As<|yr<|yr<|yr<|ps p<|yq<|h (xN 6 U)<|yr<|yq<|ps o<|aa' (cA m) (wa (b:=λm=>_*(m:Int)<=2^27) (by decide+kernel) e) (by exact jx t<|h (xN _<|u _)<|yq<|h (wc 3 jB) λc x y=>LG (tt (Px<|eW _ jB) lp) c x y)
theorem abb(k:g Kt=Y):nw (.A Jo<|.d_ 3 [(2,2)] (.C Qc<|.J .Mod (.J .FloorDiv Kg<|.J .Pow KY Jb) KY) Jr (.H (.G "range") [.J .Add JX Qo]) []) d a (Bj i f) g ((Bj i f).A 3<|.A Kt)<|jE g Kt<|.A<|(xV f).map jG:=by revert d a g i f;apply uc;generalize mf.1.1.1=a,mf.1.1.2=f,mf.1.2=d,mf.2.1=g,mf.2.2=i;intros;have c:(be _).filterMap (λm=>V _)=(xV f).map jG:=(aN (ez (f:=λm=>jG _)) _).a (by simp only[xV,bY];rfl);refine jL c ?_;have h:1+f%2<1000000:=br (gx (eW f jB) 1) jB;have l:(1:Int)+((f%2:Nat):Int)=((1+f%2:Nat):Int):=U;exact nw.A (w:=yy _) (λn n c=>dH<|jA.B.inj c) jB (DL jV.c_.A jV.c_.B<|ry ((nC (show nB (.J .Add JX Qo) d a (Bj i f) g λj e=>j=kI _/\e=g from jN λf=>f .B (wc 2 jB) .A ⟨aB jA.B l,U⟩)).A λj e b=>by obtain⟨rfl,rfl⟩:=b;exact sC<|pL _ _ (TW h) U U U)) (pR _) (λo p=>Wx _ p) k (by rw[bX];exact br h jB) λo m q=>kT _ U U<|(aba (au (bj.a q)<|bS (cg<|eW f jB) 1) U U).A λr e b=>⟨aB V b.1.b,b.2⟩
end
section
def PY(m:lD g)(h:g Kl=V (.A<|n.map na))(o:La n<=4):mi (.d_ 2 [] Jb Jr Jd [.D .Eq (.C Jb JX)<|.I k.G]) d a ((yU i f).A 5<|.A Kl) g (.A<|.B<|mH g)<|ks g<|.A<|(n.filter λe=>ba<|e.2.1=k).map na:=by have b:n.filterMap (λe=>if e.2.1=k then V _ else Y)=(n.filter λe=>ba _).map na:=xC;exact jL b<|mi.B (λj j=>FW) (λl j=>U) (yV (show nB Jd d a ((yU i f).A 5<|.A Kl) g λp q=>p=.A Kl/\q=g from jN λf=>f lp)<|vz h) (pR _) (λr l=>sO h l) (mb m) (aZ o jB) λr e s=>jO _ U<|PP<|jN λf=>f (U:mY _ Qh _=V _) .D ((jW.C (kk e.2.1)<|kk k).B m') (λb c=>c<|jN λf=>f ⟨U,nC<|jN λf=>f ⟨aC b,U⟩⟩) λb c=>c<|jN λf=>f ⟨U,aA b⟩
def Gb(n:Lt kJ)(k:jD):km:=.A<|(n.filter λe=>ba<|e.2.1=k).map na
def abc(c:lD g)(d:La n<=4):qJ .Add (.A<|.B<|mH g) (.A<|.B<|mH<|ks g<|Gb n .A) (ks (ks g<|Gb n .A)<|Gb n .B)=V (.B<|(t7 n).map na):=by have a:∀b:kJ->Bool,La ((n.filter b).map na)<=4:=λb=>pk<|aX (dt ..) d;show((vD _).bind λe=>(vD _).bind λf=>bif yJ .Add&&cK _ 16777216 then V _ else Y)=_;refine jx (xT c)<|jx (show ks _ _ (.B _)=V _ from jS ..) ?_;show(bif aj&&cK _ 16777216 then V _ else Y)=_;rw[cG<|aX (bv (a _)<|a _) jB,t7,bK];rfl
end
section
theorem abd(b:lD g)(u:d.A.IsList β (Lc y))(v:gs y t)(w:La t<=63)(x:g J2=Y)(h:∀m,lD m->(∀b c,b≠13->m (.A b c)=g (.A b c))->m J2=V (.A<|(t6 t).tail.map lW)->jY d a j (.B 2<|kt (Lm 2 nX) .A) [lW<|t8 t] ((lv [.G<|.ref β]).A 1<|.A J2) m):jY d a j (kt nX .A) [] (lv [.G<|.ref β]) g:=by revert d a g t β y j;apply ud;generalize lt.1.1.1=a,lt.1.1.2=d,lt.1.2.1=g,lt.1.2.2=j,lt.2.1.1=t,lt.2.1.2=y,lt.2.2=β;intros;exact ka λi=>by have o:nw _ d a (lv [.G<|.ref β]) g _ _:=aa7 b u v w U x;have e:jE (ks g<|.A<|(Ll 16 t).map jA.B) J2 (.A _) J2=V (.A<|(t6 t).map lW):=jS ..;have p:∀b c,b≠13->jE (ks g<|.A<|(Ll 16 t).map jA.B) J2 (.A<|(t6 t).map lW) (.A b c)=g (.A b c):=λb c n=>jQ _ _<|jJ n;have q:lD<|jE (ks g<|.A<|(Ll 16 t).map jA.B) J2<|.A<|(t6 t).map lW:=b.A.B;generalize jE _ J2 (.A _)=r at o e p q;cases f:t6 t with|nil=>have s:mv (.A J2) r=V ah:=(o8 e).a<|jx f U;have k:=h r q p (by rw[f];rw[f]at e;exact e);rw[t8,f]at k;exact i<|jN λl=>l .A o .B s (λh=>lf h) λz i=>i k|cons A B=>have s:mv (.A J2) r=V aj:=(o8 e).a<|jx f U;have k:=h _ q.B (λb c n=>(jQ _ _<|jJ n).a<|p b c n)<|jx f<|jS ..;rw[t8,f]at k;rw[f]at e;exact i<|jN λl=>l .A o .B s (λz i=>i<|jN λl=>l e .B<|(jX.H e U).G k) λh=>ot h
end
section
def abe(p:g Kt=Y)(q:g Km=Y)(r:∀i,(∀c e,jF.A c e≠.A 14 []->jF.A c e≠.A 15 []->i (.A c e)=g (.A c e))->i Kt=V (.A<|(xV f).map jG)->i Km=V (.A<|(xW f).map jG)->lz (.ref 445) [.A J2] d a i λk l=>jY d a j (.B 5<|kt (Lm 5 nX) .A) [k] (yU (.ref β) f) l):jY d a j (.B 2<|kt (Lm 2 nX) .A) [lW f] ((lv [.G<|.ref β]).A 1<|.A J2) g:=ka λh=>by have n:jE g Kt (.A<|(xV f).map jG) Km=Y:=(jQ _ _<|jJ jB).a q;have o:∀m:List jA,m=(xW f).map jG->lz (.ref 445) [.A J2] d a (jE _ Km<|.A m) λk l=>jY d a j (.B 5 _) [k] _ l:=λm b=>r _ (λc e s t=>(jQ _ _ t).a<|jQ _ _ s) ((jQ _ _<|jJ jB).a<|jS ..)<|b▸jS ..;have c:∀{g},jW .Eq _ Qg g<|ba<|f/3%2=0:=λ{g}=>(jW.C U U).B ⟨λb=>dH<|jA.B.inj b,λb=>aB lW b⟩;exact h<|jN λf=>f .A (abb p) .B (xN 3 U) .B (wc 2 jB) .D c (λb h=>h<|jN λf=>f Km (λu=>n) jV.a_ .B<|o _ (by rw[xW,aC b];rfl)) λb h=>h<|jN λf=>f Km (λu=>n) jV.a_ .B<|o _ (by rw[xW,aA b];rfl)
end
section
def abf(u:g J2=V (.A<|c.map lW))(t:∀e,g (.A 16 e)=Y)(v:g (nf 0)=Y) (l:∀h n,tY n->n≠[]->La n<=4->(∀b e,b≠13->jF.A b e≠.A 16 []->jF.A b e≠.A 16 [1]->jF.A b e≠nf 0->h (.A b e)=g (.A b e))->h KW=V (.A<|(t7 n).map na)->h (nf 0)=V (.A<|[jD.I,.J,.K].map jG)->lz (.ref 283) [.A<|nf 0] d (a+2) h λm o=>jY d (a+2) j (.B 6<|kt (Lm 7 nX) .A) [m] (Bk (.ref β) f) o):lz (.ref 445) [.A J2] d (a+2) g λm o=>jY d (a+2) j (.B 5<|kt (Lm 5 nX) .A) [m] (yU (.ref β) f) o:=aaB u (t []) λn w x y i k z=>ka λp=>by have q:∀{b e},b≠13->jF.A b e≠.A 16 []->w (.A b e)=g (.A b e):=λr s=>z _ _ λl=>l.a (jJ r) s;exact p<|jN λf=>f .B<|pv.A λb=>(PY (k:=.A) b k i).A<|ka λp=>p<|jN λf=>f .A (PY (k:=.B) b.A k i) .B (abc b i) KW (λA=>(q (e:=[1]) jB λk=>a' (jF.A.inj k).2 jB).a<|t [1]) jV.a_1 _ (λA=>(jQ _ _<|jJ jB).a<|(q jB<|jJ jB).a v) .B<|l _ n x y i (λb e r s B C=>(jQ _ _ C).a<|(jQ _ _ B).a<|q r s) ((jQ _ _<|jJ jB).a<|jS ..)<|jS ..
end
section
def PZ:La (uF O)=La O:=hE
def abg{h:List ι}{q:ι->jA}{n:kM}{r:List kb}(i:Nat->u->Prop)(f:Nat->u->jP×jC)(l:u)(t:i 0 l)(y:kw (f 0 l).1 s)(v:g=(f 0 l).2)(w:∀b c,i b c->(f b c).2 e=V (.A<|h.map q))(z:∀x A,nb n A x->qH x) (B:∀b c m,i b c->h[b]?=V m->kA False (λC=>jY d a (lV (i<|b+1) (f<|b+1) j) (kt r .A) [] C (f b c).2) (mu n (r4 (.B b)<|q m) (f b c).1)) (D:∀c,i (La h) c->j .A (f (La h) c).1 (f (La h) c).2):oi (ra d (.type "enumerate") [.A e] g) n r d a s g j:=⟨_,_,DM<|jx v<|w 0 l t,wZ i f (λb c=>_[b]?) (La h) l t y v z (λb c k=>Be<|sO (w b c k) b) (λb c E k o=>au (ag.a o).1<|aw<|PZ.a<|ab ..) (λb c E k o=>y5 o λJ F p=>oR F λm G H=>by subst H;subst p;exact B b c m k G) λb c k I p=>by obtain rfl:b=La h:=cC k<|aX (aw (PZ.a<|ab ..).b)<|bz.a p;exact D c I⟩
end
section
variable{b:kJ}
structure nW(p:jC)(v:Nat)(g:jC):Prop where
 B:nk v g
 A:∀a b,13<=a->a<=18\/a=52->g (.A a b)=p (.A a b)
 C:∀c,v<=c->g (nf c)=Y
def nk.a_(c:nk v g):nk v<|jE g (nf a)<|.A O:=have h:∀{d e},d≠19->jE g _ (.A O) (.A d e)=g (.A d e):=λf=>jQ _ _<|jJ f;⟨c.A,c.D,c.K,c.I,c.E,c.F,c.B,c.J.C λd e f=>h (by rcases f with f|f|f<;>rw[f]<;>decide),λd f=>(h (by rcases f with f|f|f<;>rw[f]<;>decide)).a<|c.G d f,c.H,c.C,λd e i b=>(h<|bi<|au jB i).a<|c.L d e i b⟩
theorem nW.E(j:nW p v g)(r:v<jy.J+3)(s:v≠0)(t:∀i,nW p (v+1) i->X .D i):lz (.ref 201) [.A lG,jG<|jy.M v,.A<|nf v,.D,.C "",.B<|jz.G v] d (a+3) (jE g (nf v)<|.A<|(jy.L v).map jG) X:=by
 refine Y4 j.B.a_ (ZY r s) (jS ..) λi u k=>t i ⟨u,λl w m b=>?_,λn o=>?_⟩;.
  have e:∀h,h<13\/h=19\/h=20\/h=21\/h=22->l≠h:=λh q c=>by
   subst c;rcases b with e|rfl;.
    rcases q with f|rfl|rfl|rfl|rfl;.exact cb.b m f
    all_goals exact a' e jB
   .exact a' q jB
  exact(k _ _ (u1 ⟨e _ jB,e _ jB,e _ jB⟩ ⟨e _ jB,e _ jB,e _ jB⟩ (λc=>a' c<|e _ jB) λc=>by rcases c with c|c|c<;>exact a' c<|e _ jB)).a<|(jQ _ _<|jJ<|e _ jB).a<|j.A l w m b
 .exact(k 19 [n]<|u1 jB jB (λc=>a' c jB) λc=>a' c jB).a<|(jQ _ _ λc=>bi o (an (jF.A.inj c).2).1).a<|j.C n<|cI o
end
section
variable{b:kJ}
abbrev vf(i:bB)(f:Nat):jP:=(Bk i f).A 6<|.A lG
def P0(a:jy.H[m]?=V b):(m+1,b)∈jy.C:=u5.b<|jO m a U
def abh(a:jy.H[m]?=V b):jz.G (m+1)=((m+1:Nat):Int):=by show(if m+1=0 then _ else if m+1<=jy.J then _ else _)=_;exact jx (aA<|dc m)<|jx (aC (rO<|P0 a).2) U
def abi(q:nW p (m+1) g)(v:jy.H[m]?=V b):jY d (a+3) (lV (nW p<|m+2) (λg=>(vf i f,g)) j) (kt [.E<|.F Jj 53 [.I "S",.h_ Jn (.K [Jk,Jf,Jn])<|.K [Jk,Jf],.a_,.I "",.J .Add Jl JX]] .A) [] (((((vf i f).A 7<|.B m).A 8<|jG b.1).A 9<|jG b.2.1).A 10<|n2 b.2.2) g:=ka λk=>by
 have t:=P0 v;have w:∀r:List jA,r=(jy.f_ b).map jG->lz (.ref 201) [.A lG,.C "S",.A _,.D,.C "",.B<|(m:Int)+1] d _ _ λe c=>e=.D/\nW p _ c:=λr h=>by have l:=q.E (d:=d) (a:=a) (aZ (rO t).2<|eG jB) (dc m) (X:=λe c=>e=.D/\nW p (m+2) c) λc u=>⟨U,u⟩;rw[show jy.M _=.D from oW t,show jy.L (m+1)=jy.f_ b from rp t,abh v,<-h]at l;exact l
 have l:∀{r},(lz (.ref 201) [.A lG,.C "S",.A _,.D,.C "",.B _] d _ _ λe c=>e=.D/\nW p _ c)->lz (.ref 201) [.A lG,.C "S",.A<|nf<|m+1,.D,.C "",.B<|(m:Int)+1] d (a+3) (jE g (nf<|m+1)<|.A r) λe c=>jY d (a+3) (lV (nW p<|m+2) (λg=>(vf i f,g)) j) (.H .A) [e] (((((vf i f).A 7<|.B m).A 8<|jG b.1).A 9<|jG b.2.1).A 10<|n2 b.2.2) c:=λx=>⟨λ{s}=>x.go.A λe c u=>lh _ u.2 (wY U) U⟩;exact k<|jN λf=>f q.B.A .B PQ (λh k=>k<|jN λf=>f _ (λy=>q.C _<|al _) .A .B<|l<|w _ (by cases o:b.2.2 with|none=>rw[o]at h;exact lf h|some z=>simp only[jy.f_,o];rfl)) λh k=>k<|jN λf=>f _ (λy=>q.C _<|al _) .A .B<|l<|w _ (by cases o:b.2.2 with|none=>simp only[jy.f_,o];rfl|some z=>rw[o]at h;exact ot h)
end
section
def abj:∀a,a<60->13<=a->a<=18\/a=52->sq a=ah:=by decide+kernel
def abk(p:g (nf 0)=V (.A<|[jD.I,.J,.K].map jG))(q:∀b e,sq b=aj->g (.A b e)=Y)(r:∀b e,23<=b->b≠52->g (.A b e)=Y)(s:g KW=V (.A<|jy.H.map na))(t:∀h,1<=h->g (nf h)=Y)(u:∀l,nW g (jy.J+1) l->jY d (a+3) j (kt (Lm 8 nX) .A) [] (vf i f) l):lz (.ref 283) [.A<|nf 0] d (a+3) g λv w=>jY d (a+3) j (.B 6<|kt (Lm 7 nX) .A) [v] (Bk i f) w:=Y5 q r p λl x o=>ka λy=>y<|jN λf=>f jV.D .B<|abg (λm=>nW g<|m+1) (λC g=>(vf i _,g)) l ⟨x,λb e z c=>o b e<|abj b (c.a (λc=>aZ c jI) λc=>jx c jI) z c,λh A=>(o 19 [h] U).a<|t h A⟩ (.A _) U (λm n k=>(k.A 16 [1] jI<|.inl jI).a s) wJ (λm n c k B=>abi k B) λn k=>u n k
end
section
def nk.b_(b:nk v g)(l:13<=a/\a<=18):nk v<|jE g (.A a c) N:=have d:∀{e m},e<13\/18<e->jE g (.A a c) N (.A e m)=g (.A e m):=λf=>jQ _ _<|jJ λn=>f.a (λf=>dd f<|kd n l.1) λf=>dd f<|n▸l.2;⟨(d<|.inl jB).a b.A,(d<|.inl jB).a b.D,(d<|.inl jB).a b.K,λj f=>(d<|.inl jB).a<|b.I j f,λj f=>⟨(d<|.inl jB).a (b.E j f).1,(b.E j f).2⟩,b.F.b λp o=>⟨(d<|.inl jB).a o.1,o.2⟩,(d<|.inl jB).a b.B,b.J.C λe c f=>d (by rcases f with f|f|f<;>rw[f]<;>decide),λe f=>(d (by rcases f with f|f|f<;>rw[f]<;>decide)).a<|b.G e f,λi h k=>⟨(d<|.inr jB).a (b.H i h k).1,(d<|.inr jB).a (b.H i h k).2⟩,λi h=>⟨(d<|.inr jB).a (b.C i h).1,(d<|.inr jB).a (b.C i h).2.1,(d<|.inr jB).a (b.C i h).2.2⟩,λe c h k=>(d<|.inr<|au jB h).a<|b.L e c h k⟩
def nW.D(d:nW p v g)(e:13<=a/\a<=18):nW (jE p (.A a c) N) v<|jE g (.A a c) N:=⟨d.B.b_ e,λf h i j=>by
 by_cases b:jF.A f h=.A a c;.simp only[b,jS,jS]
 .simp only[jQ _ _ b,jQ _ _ b];exact d.A f h i j,λk l=>(jQ _ _ (jJ λb:19=a=>a' e.2 (by rw[<-b];decide))).a<|d.C k l⟩
end
section
def qb(m:Nat):Lt<|jD×Nat:=(Ll m jy.c_).foldl (λa k=>md a k<|jy.E k) []
abbrev vg(i:bB)(f:Nat)(ε:Bool):jP:=((vf i f).A 11<|.F ε).A 12<|.A J9
def P1(a:jy.c_[m]?=V k):kY k/\jy.E k=jy.J+1+m/\qb (m+1)=md (qb m) k (jy.E k):=by
 have b:kY k/\Lk k jy.c_=m:=by rcases zD with c|c<;>rw[c]at a⊢<;>rcases m with _|_|m<;>first|(exact kh a;done)|(obtain rfl:=aY a;exact⟨by first|exact .inl U|exact .inr U,by decide⟩)
 exact⟨b.1,aB _ b.2,by simp only[qb,List.take_succ,a,co];rfl⟩
def abl(f:kY k):Lj k (qb 2)=V (jy.E k):=by
 have c:∀a:Lt jD,a=[.A,.B]\/a=[.B,.A]->Lj k ((Ll 2 a).foldl (λd k=>md d k<|jy.E k) [])=V (jy.E k):=λa e=>by
  rcases e with b|b<;>rw[b];.show Lj k (md (md [] jD.A _) jD.B _)=_;refine jx oU<|jx oU ?_;rcases f with f|f<;>subst f<;>rfl
  .show Lj k (md (md [] jD.B _) jD.A _)=_;refine jx oU<|jx oU ?_;rcases f with f|f<;>subst f<;>rfl
 exact c _ zD
theorem abm(l:nW (jE p J9<|.B<|lq lW<|qb m) (jy.J+1+m) g)(A:p Kt=V (.A<|jy.G.map jG))(B:jy.c_[m]?=V k):jY d (a+3) (lV (nW (jE p J9<|.B<|lq lW<|qb<|m+1)<|jy.J+1+(m+1)) (λg=>(vg i f jy.e_,g)) j) (kt [.D Je Jf<|.H J1 [.B Jj 19],.E<|.F Jj 53 [Jf,.H (.G "list") [Jg],.a_,.I "",.h_ Jp (.J .Sub (.E 50) KS) KS]] .A) [] ((vg i f jy.e_).A 9<|jG k) g:=by revert d a g p i f m k j;apply vl;generalize kZ.1.1.1.1=a,kZ.1.1.1.2=f,kZ.1.1.2=m,kZ.1.2.1=d,kZ.1.2.2=g,kZ.2.1.1=p,kZ.2.1.2=i,kZ.2.2.1=j,kZ.2.2.2=k;intros;exact ka λb=>by refine wi (P1 B) λq c u=>?_;have r:=o3 p J9 (.B _) (.B _)▸l.D (N:=.B<|lq lW<|qb<|m+1) ⟨by decide,by decide⟩;have v:=r.E (d:=d) (a:=a) (jL c (pF q).2) (bi<|au (fB jy.J)<|bd ..) (X:=λs e=>s=.D/\nW _ _ e) λe t=>⟨U,t⟩;rw[show jy.M _=k from(aB jy.M c.b).a<|pG q,show jy.L _=jy.G from(aB jy.L c.b).a<|u6 q,show jz.G _=_ from(aB jz.G c.b).a<|FR q]at v;have w:∀{N},mY (.A J9) _ (jE (jE g J9<|.B<|lq lW<|qb _) (nf<|jy.J+1+m) N)=V _:=λ{N}=>ne ((jQ _ _<|jJ jB).a<|jS ..) (kk k)<|jx p3<|jx u<|jx oU<|jx (aC U) U;have x:∀{y},_=y->lz (.ref 201) [.A lG,jG k,.A<|nf<|jy.J+1+m,.D,.C "",.B y] d (a+3) (jE (jE g J9<|.B<|lq lW<|qb<|m+1) (nf<|jy.J+1+m)<|.A<|jy.G.map jG) λs e=>jY d (a+3) (lV (nW (jE p J9<|.B<|lq lW<|qb<|m+1)<|jy.J+1+(m+1)) (λg=>(vg i f jy.e_,g)) j) (.H .A) [s] ((vg i f jy.e_).A 9<|jG k) e:=λh=>h▸⟨λ{D}=>v.go.A λs e t=>lh _ t.2 (lE U) U⟩;exact b<|jN λf=>f jV.B l.B.A .A (show∀{d a},jX (.builtin "len") [.A Kf] d a g _ g from λ{d a}=>(zt.a c.b)▸jX.D l.B.D) ((lN ((l.A 15 [1] jB<|.inl jB).a<|jS ..) (kk k)<|tM<|tU (b:=λz:List _=>Le (z.map _)) (λz k f=>sZ f) _ [] .nil).a<|aB (λC=>V<|jE g J9<|.B C)<|sY.a<|aB _ u.b) r.B.A jV.K .A (jX.a_ (.inr<|jO _ U<|(r.A 14 [] jB<|.inl jB).a<|(jQ _ _<|jJ jB).a A)<|r.C _<|al _) .B U (λh b=>b<|jN λf=>f w .A .B<|x<|aC h) λh b=>b<|jN λf=>f w .B<|x<|aA<|nt h
end
section
def t9(p:jC):jC:=jE p J9<|.B<|lq lW<|qb 2
def Gc:jF.A 15 []≠.A 15 [1]:=(λf=>by cases f)
def P2:jF.A 15 [2]≠.A 15 [1]:=λa=>a' (an (jF.A.inj a).2).1 jB
def P4:La jy.c_=2:=zD.a (λa=>jx a U) λa=>jx a U
def abn(b:nW p (jy.J+1) g)(l:p Kt=V (.A<|jy.G.map jG))(n:p Km=V (.A<|jy.c_.map jG))(o:p J9=Y)(q:ba (f/162%2=1)=jy.e_) (r:∀h,nW (t9 p) (jy.J+3) h->jY d (a+3) j (kt (Lm 11 nX) .A) [] (vg i f jy.e_) h):jY d (a+3) j (kt (Lm 8 nX) .A) [] (vf i f) g:=ka λs=>s<|jN λf=>f .B (xN 162 U) .B (wc 2 jI) ((((jW.C U U).B ⟨λc=>dH<|jA.B.inj c,λc=>aB lW c⟩:jW .Eq _ Qh g _)).A q) J9 (λt=>(b.A 15 [1] jI<|.inl jI).a o) .B<|nT (λm=>nW (jE p J9<|.B<|lq lW<|qb m)<|jy.J+1+m) (λt g=>(vg i _ jy.e_,g)) _ (b.D (a:=15) (c:=[1]) ⟨by decide,by decide⟩) (.A _) U (λm e b=>(b.A 15 [] jI<|.inl jI).a<|(jQ _ _ Gc).a n) (λm e k b u=>abm b l u) λe b=>r e (P4▸b:)
def rq:jF:=bif jy.e_ then .A 15 [2]else .A 15 []
abbrev wg(i:bB)(f:Nat):jP:=(vg i f jy.e_).A 13<|.A<|rq
def q0(p:jC):jC:=bif jy.e_ then jE (t9 p) Qm<|.A<|[jy.F,jy.I].map jG else t9 p
def P5:jy.c_=bif jy.e_ then[jy.I,jy.F]else[jy.F,jy.I]:=by unfold rE.c_ jy.F jy.I;cases jy.o_<;>cases jy.e_<;>rfl
def abo(b:nW (t9 p) (jy.J+3) g)(q:p Km=V (.A<|jy.c_.map jG))(r:p Qm=Y) (n:∀o,nW (q0 p) (jy.J+3) o->lz (.ref 209) [.A lG,.C "S"] d (a+3) o λs t=>jY d (a+3) j (.H<|kt (Lm 13 nX) .A) [s] (wg i f) t):jY d (a+3) j (kt (Lm 11 nX) .A) [] (vg i f jy.e_) g:=ka λe=>by
 have k:=(b.A 15 [] jB<|.inl jB).a<|(jQ _ _ Gc).a q;refine e<|jN λf=>f .B U (λc e=>?_) λc e=>?_;.
  have l:rq=.A 15 [2]:=by rw[rq,c];rfl
  have m:q0 p=jE (t9 p) Qm (.A<|[jy.F,jy.I].map jG):=by rw[q0,c];rfl
  have h:=n _<|jx m<|b.D ⟨by decide,by decide⟩;rw[wg,l]at h;rw[P5,c]at k;exact e<|jN λf=>f (ql k U) (ql k U) Qm (λu=>(b.A 15 [2] jB<|.inl jB).a<|(jQ _ _ P2).a r) b.B.A .B h
 .have l:rq=.A 15 []:=by rw[rq,c];rfl
  have m:q0 p=t9 p:=by rw[q0,c];rfl
  have h:=n g<|jx m b;rw[wg,l]at h;exact e<|jN λf=>f b.B.A .B h
end
section
def vh(a:Nat):Bool:=cK 13 a&&cK a 18
def or(l:j')(f:Nat)(S:ku)(g:jC):=lT l f g/\kv f S g/\qr l (mG l) g/\g KU=V (.A<|(nO l (lA l<|mG l) (La l.A)).map vW)/\g Qt=V (.A [])
section
variable{f:Nat}{S:ku}(m:or κ f S T)
def or.A:=m.1
def or.B:=m.2.1
def or.C:=m.2.2.1
def or.F:=m.2.2.2.1
def or.G:=m.2.2.2.2
end
def abp(m:19<=a):vh a=ah:=by rw[vh,B6<|au jB m,iI]
def abq(c:w6 f S e=V N):∃a b,e=.A a b/\vh a=ah:=by cases e with|B R=>exact kh c|A a b=>exact ms a b U<|(by decide:∀a∈vS,vh a=false) a<|ER c
def or.D(a:or l f S g)(b:nG vh g p):or l f S p:=mS (a.A.H λc d m=>b c d<|abp<|aX jB<|bE m) (λe i h=>(abq h).a λc j=>jU j λd k n=>(jx k<|b c d n:p e=g e).a<|a.B e i h) ⟨λo q=>(b _ _ U).a<|a.C.A o q,λR r=>(b _ _ U).a<|a.C.B R r⟩ ((b _ _ U).a a.F)<|(b _ _ U).a a.G
def abr(m:k∈so):k∈qW++[jD.C]\/k.F=aj:=(by decide:∀k∈so,k∈qW++[jD.C]\/k.F=true) k m
def abt(w:nW x (jy.J+3) g)(I:x Ky=V (.D 391 #[]))(J:x Kz=V (.D 398 #[]))(k:∀l f S p,kz jy.D l->or l f S p->(∀b c,vh b=aj->p (.A b c)=x (.A b c))->jY d (a+11) j (.B 14<|kt (Lm 14 nX) .A) [.A lH] (wg i m) p):lz (.ref 209) [.A lG,.C "S"] d (a+11) g λK L=>jY d (a+11) j (.H<|kt (Lm 13 nX) .A) [K] (wg i m) L:=Y7 w.B OO λy M N=>ka λn=>by
 have F:∀{b c},b≠0/\b≠1/\b≠5/\b≠10/\b≠11->b≠20/\b≠21/\b≠22->y (.A b c)=g (.A b c):=λm R=>N _ _<|Oj m λk=>a' k λk=>k.a R.1 λk=>k.a R.2.1 R.2.2;have G:∀{c},y (.A 52 c)=x (.A 52 c):=(F jB jB).a<|w.A 52 _ jB<|.inr U;have o:∀l f (e:ku×jC) q r,kz jy.D l->mw l f r q _ (La l.A) e->qr l _ e.2->e.2 Qt=V (.A [])->(∀b c,b<20->u4 b=ah->e.2 (.A b c)=y (.A b c))->jY d _ j (.B 14 _) [.A lH] _ e.2:=λl f e q r n h z A B=>by refine k l f e.1 e.2 n (mS (mz h.C.A h.F h.G h.D) h.C z h.I A) λb c H=>?_;have C:=bE (kB H).1;have s:=bE (kB H).2;have R:∀u,u<13\/18<u->b≠u:=λu O v=>O.a (λD=>a' C<|dd<|jx v D) λD=>a' s<|dd<|kd v D;exact(B b c (aZ s jB)<|(by decide:∀b,b<19->13<=b->u4 b=false) b (dA s) C).a<|(F (mS (R _ jB) (R _ jB) (R _ jB) (R _ jB)<|R _ jB) ⟨R _ jB,R _ jB,R _ jB⟩).a<|w.A b c C<|.inl s
 exact n<|jN λm=>m jV.a_2 .B<|ZV OO M (λP E Q=>(Cc).b<|xB E Q) (λP E o T=>bR.b<|(abr<|(FA E).C o T).c id λv=>(Cc).b v) ((Fx iA<|OG).a λW o=>jL o.2<|oW o.1) (G.a I) (G.a J) Z8 (kd xE<|v8.b .C) (λl n=>aah n) λl f q r e n h z A B=>o l f e q r n h z A B
end
section
variable{b c:jR}{h:kM}{i:Lt u}{j k:u->jA}{l:lQ}
theorem abu(p:Nat->jC->Prop)(z:m7 d Q g α l)(A:∀y B,nb h B y->α y)(C:∀m∈pO h,Lj m Z=Y)(D:g e=Y)(E:La i<16777216)(F:p 0<|jE g e<|.A []) (G:∀m n,p m n->l m n=V (i.map j)[m]?) (H:∀m q n,p m n->i[m]?=V q->kA False (λs=>nB b d a s n λr t=>r=k q/\t e=V (.A<|(Ll m i).map k)/\p (m+1) (jE t e<|.A<|(Ll m i).map k++[k q])) (mu h (j q)<|oh Z s)) (I:∀n,p (La i) n->X (.A e) n) (J:nB c d a s g λr n=>r=Q/\n=g):pv (.d_ f Z b h c []) d a s g X:=⟨DU ((yV J z).A λO P n o=>by obtain⟨rfl,rfl,rfl⟩:=o;refine⟨A,C,e,λu m n=>u+m=La i/\p m n,La i,D,⟨U,F⟩,λu m n o=>kT _ (G m n o.2) (λv=>I n<|jL (cC (hC<|(ck ..).a o.1)<|w0 v:m=La i) o.2) λr K=>oR K λq w v=>?_⟩;subst v;exact kA.A (H m q n o.2 w) λL M N=>jO L M<|(nC N).A λR t x=>⟨_,x.2.1,aZ (aX (aw<|ab ..)<|bg ..) E,u-1,(uf o.1 (ag.a w).1).1,(uf o.1 (ag.a w).1).2,jx x.1 x.2.2⟩)⟩
theorem abv{B C:jR}{t:u->jA}(o:List (jA×jA)->Nat->jC->Prop)(F:m7 d Q g α l)(G:∀D H,nb h H D->α D)(I:∀k∈pO h,Lj k Z=Y)(J:g e=Y)(K:o [] 0<|jE g e<|.B []) (L:∀m k b,o m k b->l k b=V (i.map j)[k]?) (M:∀m k n b,o m k b->i[k]?=V n->kA False (λs=>nB B d a s b λq E=>q=t n/\kP (t n)=aj/\nB C d a s E λr x=>x e=V (.B m)/\La m<16777216/\o (kF m (t n) r) (k+1) (jE x e<|.B<|kF m (t n) r)) (mu h (j n)<|oh Z s)) (N:∀m b,o m (La i) b->X (.A e) b) (O:nB c d a s g λr b=>r=Q/\b=g):pv (.k_ f Z B C h c []) d a s g X:=⟨Ug ((yV O F).A λW β b p=>by obtain⟨rfl,rfl,rfl⟩:=p;refine⟨G,I,e,λq k b=>q+k=La i/\∃m,o m k b,La i,J,⟨U,_,K⟩,λq k b p=>p.2.a λm v=>kT _ (L m k b v) (λy=>N m b<|jL (cC (hC<|(ck ..).a p.1)<|w0 y:k=La i) v) λr P=>oR P λn z y=>?_⟩;subst y;exact kA.A (M m k n b v z) λR S T=>jO R S<|(nC T).A λγ E w=>⟨jx w.1 w.2.1,(nC w.2.2).A λv x A=>⟨m,A.1,A.2.1,q-1,(uf p.1 (ag.a z).1).1,(uf p.1 (ag.a z).1).2,_,jL w.1.b A.2.2⟩⟩)⟩
end
section
variable{b c:jF}
def lD.C(e:lD g):lD<|jE g (.B a) N:=e.a λb f=>⟨b+(a+1),λc d=>(jQ _ _ λh=>fW a<|aX (cM _ b)<|kg (jF.B.inj h:c=a) d).a<|f c<|aX (bd ..) d⟩
theorem mi.K(q:g e=Y)(r:jE g e (.B []) b=Y)(t:jE (jE g e<|.B []) b (.B []) c=Y)(u:e≠b)(v:e≠c):mi KC d a s g (.A e)<|jE (jE (jE g b<|.B []) c<|.B []) e<|.B [(jG .A,.A b),(jG .B,.A c)]:=by
 revert d a s g e b c;apply ud;generalize lt.1.1.1=a,lt.1.1.2=d,lt.1.2.1=e,lt.1.2.2=g,lt.2.1.1=s,lt.2.1.2=b,lt.2.2=c;intro q r t u v;exact⟨λ{w} i=>⟨J' jB q ((nC (jN λf=>f lp:nB (.I "A") d a s _<|Bn (jG .A)<|jE g e<|.B [])).A λj k h=>by
  obtain⟨rfl,rfl⟩:=h;exact(nC (jN λf=>f b (λx=>r) lp:nB JW d a s _<|Bn (.A b) _)).A λj k h=>by
   obtain⟨rfl,rfl⟩:=h;exact(nC (jN λf=>f lp:nB (.I "B") d a s _<|Bn (jG .B) _)).A λj k h=>by
    obtain⟨rfl,rfl⟩:=h;exact(nC (jN λf=>f c (λx=>t) lp:nB JW d a s _<|Bn (.A c) _)).A λj k h=>by
     obtain⟨rfl,rfl⟩:=h;refine⟨(jQ _ _ v).a<|(jQ _ _ u).a<|jS ..,λz l=>?_,?_⟩;.
      rcases ao.a l with m|l;.exact jx m<|kk .A
      .exact jx (ak.a l)<|kk .B
     .have m:jE (jE (jE (jE g e<|.B []) b<|.B []) c<|.B []) e (.B [(jG .A,.A b),_])=jE (jE (jE g b<|.B []) c<|.B []) e (.B [(jG .A,.A b),(jG .B,.A c)]):=aJ λn=>by
       by_cases f:n=e;.rw[f,jS,jS]
       .rw[jQ _ _ f,jQ _ _ f];by_cases o:n=c;.rw[o,jS,jS]
        .rw[jQ _ _ o,jQ _ _ o];by_cases p:n=b;.rw[p,jS,jS]
         .rw[jQ _ _ p,jQ _ _ p,jQ _ _ f]
      have y:yE [] [(jG .A,jA.A b),(jG .B,.A c)]=[(jG .A,.A b),(jG .B,.A c)]:=by show kF [(jG .A,jA.A b)] _ (.A c)=_;rw[kF,aA (λi=>a' (m'.a i) jB:¬jG .A=jG .B)];rfl
      exact jL y.b (kd m i:w (.A e) _))⟩⟩
end
def q1(a:Lt jD)(b:jD):Lt jD:=nV<|p' jy.A a b jy.H
abbrev pH:=Lt (jD×Int)×Lt (Int×Int)
def sy(b:Int)(a:pH)(c:jD):pH:=dC (motive:=λe=>pH) (md a.1 c (-b),a.2) (λd=>(a.1,a.2++[(-d,b)]))<|Lj c a.1
def nP(b:Lt jD)(c:pH)(a:jD):pH:=if a∈b then(q1 b a).foldl (sy<|jy.E a) c else c
def xX(a:Lt jD):pH:=[jy.F,jy.I].foldl (nP a) ([],[])
section
theorem xY:q∈q1 b k↔jy.g_ b k q:=by revert k q b;apply q3;generalize mj.1.1=b,mj.1.2=k,mj.2=q;exact(zU _).mem_iff.c<|aaG.c ⟨λg=>g.a λv h=>h.elim λf i=>i.elim λa e=>by rw[<-zC]at f;refine jU (am.a f) λc d j=>?_;subst j;exact⟨c.2.1,p9 d,a.2,c,d,U,a.1,e⟩,λl=>l.a λw m=>m.elim λx n=>n.elim λa o=>o.a λc p=>p.elim λd r=>r.elim λs t=>t.elim λu e=>kT c.2 (mx d) ⟨u,jx s a⟩ e⟩
def xZ:Le (q1 b k):=(zU _).nodup_iff.b Ct
def Cz{a:pH}(b:Lj q a.1=Y):sy z a q=(md a.1 q (-z),a.2):=by simp only[sy,b]
def CA{a:pH}{b:Int}(c:Lj q a.1=V b):sy z a q=(a.1,a.2++[(-b,z)]):=by simp only[sy,c]
theorem Gd:∀(e:List jD)(a:pH),Le e->(∀b,Lj b (e.foldl (sy z) a).1=if Lj b a.1=Y/\b∈e then V (-z)else Lj b a.1)/\(e.foldl (sy z) a).2=a.2++e.filterMap λq=>(Lj q a.1).map λk=>(-k,z):=by
 revert z;apply pJ;generalize pn=z;exact λe=>by
  induction e with
  |nil=>exact λa s=>⟨λb=>(aA λg=>a' g.2 ac).b,(bQ _).b⟩|cons f l m=>
   intro a h;have h:=cQ.a h;dsimp only[adc,eA];cases i:Lj f a.1 with
   |none=>
    rw[Cz i];refine ug (m (md a.1 f (-z),a.2) h.2) λn o=>⟨λb=>(n b).a ?_,o.a<|aB _<|xD λq p=>?_⟩;.
     rw[oU];by_cases g:b=f;.subst g;exact jx (aC U)<|jx (aA (λd:V (-z)=Y/\b∈l=>a' d.1 jB))<|jx (aC ⟨i,ae⟩) U
     .refine jx (aA g) ?_;by_cases c:Lj b a.1=Y/\b∈l;.rw[aC c,aC ⟨c.1,af _ c.2⟩]
      .rw[aA c,aA λd=>c ⟨d.1,(ao.a d.2).b g⟩]
    .show(Lj q<|md a.1 f (-z)).map _=_;exact jx oU<|jx (aA λd:q=f=>h.1<|kg d p) U|some k=>
    refine jx (CA i) ?_;have j:=m (a.1,a.2++[(-k,z)]) h.2;refine⟨λb=>(j.1 b).a ?_,j.2.a<|bw ..⟩;by_cases c:Lj b a.1=Y/\b∈l;.rw[aC c,aC ⟨c.1,af _ c.2⟩]
    .rw[aA c,aA λd=>c ⟨d.1,(ao.a d.2).b λr:b=f=>kh (d.1.b.a<|(aB (λj=>eI j a.1) r).a i:none=some k)⟩]
def Ge{a:pH}(c:Le (a.1.map (·.1))):Le ((nP b a k).1.map (·.1)):=by
 unfold nP;split;.exact(λe a c=>tU (b:=λa:pH=>Le (a.1.map _)) (λa q c=>by cases d:Lj q a.1 with|none=>rw[Cz d];exact sZ c|some f=>rw[CA d];exact c) e a c) _ _ c
 .exact c
def abw:Le ((xX b).1.map (·.1)):=Ge<|Ge .nil
def abx:jy.F≠jy.I:=(xK).1.a (λa=>a.1.b▸kg a.2.b jB) λa=>a.1.b▸kg a.2.b jB
open Classical in theorem Gf:(Lj q (nP b ([],[]) jy.F).1=if jy.F∈b/\jy.g_ b jy.F q then V (-((jy.E jy.F:Nat):Int))else Y)/\(nP b ([],[]) jy.F).2=[]:=by
 revert q b;apply od;generalize lX.1=b,lX.2=q;unfold nP;by_cases c:jy.F∈b;.
  have e:=Gd (z:=(jy.E jy.F:Nat)) (q1 b jy.F) ([],[]) xZ;refine jx (aC c) ?_;refine⟨(e.1 q).a ?_,e.2.a<|ft.b λf g=>U⟩;by_cases d:jy.g_ b jy.F q;.rw[aC ⟨U,xY.b d⟩,aC ⟨c,d⟩]
  .rw[aA λa=>d<|xY.a a.2,aA λa=>d a.2];rfl
 .exact jx (aA c)<|jx (aA λa=>c a.1) lp
open Classical in theorem aby:Lj q (xX b).1=if jy.F∈b/\jy.g_ b jy.F q then V (-((jy.E jy.F:Nat):Int))else if jy.I∈b/\jy.g_ b jy.I q then V (-((jy.E jy.I:Nat):Int))else Y:=by
 revert q b;apply od;generalize lX.1=b,lX.2=q;show Lj q (nP b _ jy.I).1=_;have f:=(Gf (b:=b) (q:=q)).1;generalize nP b _ jy.F=g at f;unfold nP;by_cases c:jy.I∈b;.
  rw[aC c,(Gd _ g xZ).1 q,f];by_cases d:jy.F∈b/\jy.g_ b jy.F q;.rw[aC d,aA (λa:V _=Y/\_=>a' a.1 jB),aC d]
  .rw[aA d,aA d];by_cases e:jy.g_ b jy.I q;.rw[aC ⟨U,xY.b e⟩,aC ⟨c,e⟩]
   .rw[aA λa=>e<|xY.a a.2,aA λa=>e a.2]
 .rw[aA c,f,aA λa:jy.I∈b/\_=>c a.1]
open Classical in theorem abz(j:w∈jy.B):(xX<|jy.A w).2=if jy.A w=[.A,.B]then dS (La jy.l_) (((jy.E jy.F:Nat):Int),((jy.E jy.I:Nat):Int))else[]:=by
 revert w;apply pJ;generalize pn=w;intros;show(nP _ _ jy.I).2=_;have e:=λq=>(Gf (b:=jy.A w) (q:=q)).1;have f:=(Gf (b:=jy.A w) (q:=.I)).2;generalize nP _ _ jy.F=k at e f;have h:(jy.F∈jy.A w/\jy.I∈jy.A w)↔jy.A w=[.A,.B]:=by rcases(xK).1 with b|b<;>rw[b.1,b.2]<;>rcases(FS j)with c|c|c<;>rw[c]<;>decide
 unfold nP;by_cases a:jy.I∈jy.A w;.
  rw[aC a,(Gd _ k xZ).2,f,gX];by_cases d:jy.F∈jy.A w;.
   have i:=h.a ⟨d,a⟩;rw[aC i,xD (d:=λq=>if jy.g_ (jy.A w) jy.F q then V _ else Y) λq l=>?_,xC,List.map_const',FQ (η:=jy.l_) (xZ.b cZ) ((by decide:re.Nodup).b cZ) λq=>?_];.
    rw[ar,xY,aO,jy.l_,ar,aO,i];rcases(xK).1 with b|b<;>rw[b.1,b.2];.exact⟨λa=>⟨pU q,a.2,a.1⟩,λa=>⟨a.2.2,a.2.1⟩⟩
    .exact⟨λa=>⟨pU q,a.1,a.2⟩,λa=>⟨a.2.1,a.2.2⟩⟩
   .rw[e q];by_cases c:jy.g_ (jy.A w) jy.F q;.exact jx (aC ⟨d,c⟩)<|kd (aC c)<|aB (λm=>V (m,_))<|hu _
    .exact jx (aA λb=>c b.2)<|kd (aA c) U
  .exact kd (aA λb=>d (h.b b).1)<|ft.b λq l=>jx (e q)<|jx (aA λb=>d b.1) U
 .rw[aA a,aA λb=>a (h.b b).2,f]
def abA{c:Lt<|jD×u}(d:Le (c.map (·.1))){a:jD×u}(b:a∈c):Lj a.1 c=V a.2:=by
 induction c with
 |nil=>exact a' b ac|cons f h g=>
  have d:=cQ.a d;refine jx bx ?_;rcases ao.a b with e|b;.rw[e,aI]
  .exact jx (aM λe:a.1=f.1=>d.1<|am.b<|jO a b e)<|g d.2 b
def abB{a b:List<|jD×Int}(c:Le (a.map (·.1)))(f:Le (b.map (·.1)))(d:∀q,Lj q a=Lj q b):ts g (lq jA.B a) (lq jA.B b)=aj:=by have e:=FQ c f λq=>t1.symm.c<|jx (d q) t1;simp only[ab,ab]at e;refine(az ..).mpr ⟨aE.b (by simp only[lq,lq,ab,ab,e]),bc.b λk h=>jU (am.a h) λl i j=>?_⟩;subst j;show(kj ..).elim ah _=aj;exact jx (p3 ..)<|jL (d ..)<|jx (abA c i)<|aD U
end
def oJ(a:j')(b:Lt jD):Nat:=Lk (jy.b_ b (La jy.G)) a.A
def CB(b:Nat)(a:Int×Int):jA:=.E [kI b,.B a.1,.B a.2]
noncomputable abbrev nI(a:jD):jF:=.A 18 [a.ctorIdx+1]
noncomputable abbrev m2(a:jD)(b:Nat):jF:=.A 16 [a.ctorIdx+3,b]
def vi(a:jF):=(∃b,a=.A 18 [b]/\b≠2)\/∃c d,a=.A 16 [c,d]
def ob(a:jC):=a KW=V (.A<|jy.H.map na)/\a Kt=V (.A<|jy.G.map jG)/\a Km=V (.A<|jy.c_.map jG)/\a J9=V (.B<|lq lW<|qb 2)/\a rq=V (.A<|[jy.F,jy.I].map jG)/\a J5=V (.B<|lq mW<|oq jy.H)/\a K1=V (.B [(jG .A,.A<|nI .A),(jG .B,.A<|nI .B)])
section
variable(a:ob g)
def ob.E:=a.1
def ob.F:=a.2.1
def ob.G:=a.2.2.1
def ob.H:=a.2.2.2.1
def ob.I:=a.2.2.2.2.1
def ob.B:=a.2.2.2.2.2.1
def ob.J:=a.2.2.2.2.2.2
end
section
variable{h:Nat}{n:pH}{o:jD->Lt (jA×jA)}
def vj(e:f≠16\/c=[1])(b:f≠18\/c=[]\/c=[2]):¬vi (.A f c):=λg=>g.a (λh=>jU h λR d a=>b.a (jJ · d) λb=>b.a (λb=>nomatch b.b.a (jF.A.inj d).2) λb=>a (an<|b.b.a (jF.A.inj d).2).1.b) λi=>pK i λj m d=>e.a (jJ · d) λe=>nomatch(an<|e.b.a (jF.A.inj d).2).2
def ob.A(a:ob g)(b:kq vi g p):ob p:=⟨(b _ _<|vj (.inr U)<|.inl jB).a a.E,(b _ _<|vj (.inl jB)<|.inl jB).a a.F,(b _ _<|vj (.inl jB)<|.inl jB).a a.G,(b _ _<|vj (.inl jB)<|.inl jB).a a.H,(show p _=g _ by unfold rq;cases jy.e_<;>exact b _ _<|vj (.inl jB)<|.inl jB).a a.I,(b _ _<|vj (.inl jB)<|.inr kr).a a.B,(b _ _<|vj (.inl jB)<|kC U).a a.J⟩
def or.E(c:or l f S g)(b:kq vi g p):or l f S p:=c.D λd e h=>b d e<|vj (.inl λa=>av<|h.b.a<|jx a U)<|.inl λa=>av<|h.b.a<|jx a U
def ob.C(a:ob g)(b:kY k):mY (.A J9) (jG k) g=V (lW<|jy.E k):=ne a.H (kk k)<|jx p3<|jx (abl b) U
def ob.D(b:ob g)(c:kY k):mY (.A K1) (jG k) g=V (.A<|nI k):=ne b.J (kk k) (by
 rcases c with a|a<;>subst a;.exact aC U
 .exact(aA (λd=>a' (m'.a d) jB:¬jG .A=jG .B)).a<|aC U)
abbrev rQ(i:bB)(h:Nat)(e:jF):jP:=((((((wg i h).A 14<|.A lH).A 15<|.A J5).A 17<|.A Kh).A 18<|.A K1).A 19<|.A K2).A 16<|.A e
abbrev s'(i:bB)(h:Nat)(e:jF)(w:jD)(m v:Nat):jP:=(((((rQ i h e).A 8<|jG w).A 20<|.A<|.A 16 [2,m]).A 16<|.A<|.A 16 [4,m]).A 21<|kI v).A 22<|.A<|.A 16 [3,m]
abbrev P6:Lt kb:=[.B (.D .In JQ JK) [.E<|.F JF 42 [.M [JE,.c_<|.C JK JQ,.C Je Jf]]] [.D JK JQ<|.c_ KS]]
abbrev P7:Lt kb:=[.B (.D .In Jf Qe) [.D Qf JE<|.H JZ [.H (.G "_law_wanted") [Jd,Jm,.C Jm Jk,Jf]],.C (.A 23) (.C Qf JE) P6 []] []]
structure vk(m v:Nat)(O:List jA)(x:jC)(n:pH)(g:jC):Prop where
 B:g (.A 16 [3,m])=V (.B (lq jA.B n.1))
 C:g (.A 18 [5])=V (.A (O++n.2.map (CB v)))
 D:(n.1.map (·.1)).Nodup
 A:kq (λa=>a=.A 16 [3,m]\/a=.A 18 [5]) x g
def vk.E(b:vk m v O x n g):kq vi x g:=b.A.D λc h=>h.a (λa=>.inr<|m4 _ _ a) λa=>.inl<|jO _ a jI
def abC(b:vk m v O x n g)(p:ob x)(f:kY k)(r:La O+La n.2<16777216):jY d a (lV (λg=>vk m v O x (sy (jy.E k:Nat) n q) g) (λg=>((s' i h e w m v).A 9<|jG k,g)) j) (kt P6 .A) [] (((s' i h e w m v).A 9<|jG k).A 23<|jG q) g:=by have l:=p.A b.E;have o:kw _<|((s' i h e w m v).A 9<|jG k).A 23<|jG q:=lE U;cases c:Lj q n.1 with|none=>exact jx (Cz c)<|jN λh=>h .A (show jW .In _ (.A<|.A 16 [3,m]) g ah from(jW.D b.B<|kk q).A<|jx p3<|jx c U) (l.C f) (lN b.B (kk q)<|tM b.D) .A<|lh _ ⟨(jS ..).a<|aB (λt=>V _) sY,(jQ _ _<|jJ jB).a b.C,sZ b.D,b.A.A<|.B kr⟩ o U|some u=>refine jx (CA c) ?_;have s:=ne b.B (kk q)<|jx p3<|jx c U;exact jN λh=>h .A (show jW .In _ (.A<|.A 16 [3,m]) g aj from(jW.D b.B<|kk q).A<|jx p3<|jx c U) b.C s (l.C f) .A (jX.A b.C<|jx (bH ..)<|jx (ab ..) r) .A<|lh _ ⟨(jQ _ _<|jJ jB).a b.B,(jS ..).a<|jx (bK ..)<|jL (bw ..) U,b.D,b.A.A<|.B<|.inr U⟩ o U
end
section
variable{c:Nat}{h:jD}{n:pH}{o:jD->Lt (jA×jA)}
abbrev pl(R:Nat):Lt jD:=[jy.F,jy.I].take R
def ta(v m:Nat)(o:jD->Lt (jA×jA))(b a:Lt jD)(k:jD):Lt<|jA×jA:=if k∈b/\k∈a then o k++[(kI v,.A<|m2 k m)]else o k
def tb(m:Nat)(a:jF):=a=.A 16 [3,m]\/a=.A 18 [5]\/∃k,kY k/\(a=nI k\/a=m2 k m)
structure t'(A:List jD)(m v:Nat)(O:List jA)(o:jD->List (jA×jA))(x:jC)(R:Nat)(g:jC):Prop where
 C:g (.A 16 [3,m])=V (.B (lq jA.B ((pl R).foldl (nP A) ([],[])).1))
 D:g (.A 18 [5])=V (.A (O++((pl R).foldl (nP A) ([],[])).2.map (CB v)))
 B:∀k,kY k->g (nI k)=V (.B (ta v m o A (pl R) k))
 E:∀k,k∈A->k∈pl R->g (m2 k m)=V (.A ((q1 A k).map jG))
 F:∀k,kY k->k∉pl R->g (m2 k m)=Y
 A:kq (tb m) x g
def tb.A(c:tb m e):vi e:=c.a (λa=>.inr<|m4 _ _ a) λc=>c.a (λa=>.inl<|jO _ a jI) λd=>d.a λk f=>f.elim λg c=>c.a (λa=>.inl<|jO _ a (by rcases g with b|b<;>rw[b]<;>decide)) λa=>.inr<|m4 _ _ a
def zX(c:k∈[jy.F,jy.I]):kY k:=by
 rcases(xK).1 with a|a<;>rw[a.1,a.2]at c<;>rcases ao.a c with b|c;.exact .inl b
 .exact .inr<|ak.a c
 .exact .inr b
 .exact .inl<|ak.a c
def abD(b:kY k)(d:kY q)(c:k≠q):nI k≠nI q/\∀m,m2 k m≠m2 q m:=by rcases b with a|a<;>subst a<;>rcases d with a|a<;>subst a<;>first|exact a' U c|exact⟨λa=>a' (an (jF.A.inj a).2).1 jB,λm a=>a' (an (jF.A.inj a).2).1 jB⟩
def CC(b:kY k):(nI k≠.A 18 [5]/\nI k≠.A 18 [1])/\m2 k m≠.A 16 [3,m]:=by rcases b with a|a<;>subst a<;>exact⟨⟨λa=>a' (an (jF.A.inj a).2).1 jB,λa=>a' (an (jF.A.inj a).2).1 jB⟩,λa=>a' (an (jF.A.inj a).2).1 jB⟩
def Gg(c:[jy.F,jy.I][R]?=V k):pl (R+1)=pl R++[k]/\k∉pl R:=⟨nN c,by
 rcases R with _|_|R;.exact ac
 .obtain rfl:=aY c;exact λa=>abx (ak.a a).b
 .cases c⟩
def t'.G(a:t' b m v O o x R g):kq vi x g:=a.A.D λc=>tb.A
def P8(a:kY k):jW .In (jG k) (mW<|jy.A h) g<|ba<|k∈jy.A h:=(jW.c_).A ((va _<|xS h).2.2.2 k<|FZ a).1
def CD(a:q∈b++[k])(c:q≠k):q∈b:=(bR.a a).a id λa=>a' (ak.a a) c
def P9:∀(a:List jD)(n:pH),La (a.foldl (sy z) n).2<=La n.2+La a:=λ{a}=>lO (λn=>al _) (λb f d=>λn=>aX (d _) (by
 have e:La (sy z n b).2<=La n.2+1:=by cases c:Lj b n.1 with|none=>rw[Cz c];exact bm _|some g=>rw[CA c];exact aw<|bH ..
 exact aX (bC e _)<|aw<|dN ..)) a
def P':∀(a:Lt jD)(n:pH),La (a.foldl (nP b) n).2<=La n.2+11*La a:=λ{a}=>lO (λn=>al _) (λc f d=>λn=>aX (d _) (by
 have e:La (nP b n c).2<=La n.2+11:=by
  unfold nP;split;.exact aX (P9 ..)<|bS (no xZ) _
  .exact bd ..
 exact aX (bC e _)<|aw (by simp only[cN,ed,cS,ck 11]))) a
def abE(r:t' b m v O o x R g)(w:[jy.F,jy.I][R]?=V k)(A:k∈b)(t:kq (λs=>s=nI k\/s=m2 k m) g p)(B:p (nI k)=V (.B<|o k++[(kI v,.A<|m2 k m)]))(C:p (m2 k m)=V (.A<|(q1 b k).map jG))(h:vk m v O p (nP b ((pl R).foldl (nP b) ([],[])) k) T):t' b m v O o x (R+1) T:=by
 have y:=zX<|aa w;have f:=Gg w;have z:(pl<|R+1).foldl (nP b) ([],[])=nP b ((pl R).foldl (nP b) ([],[])) k:=by simp only[f.1,co];rfl
 have i:∀{q},kY q->T (nI q)=p (nI q)/\T (m2 q m)=p (m2 q m):=λ{q} a=>have j:=CC a;⟨h.A _ _ λd=>d.a (jJ jB) j.1.1,h.A _ _ λd=>d.a j.2<|jJ jB⟩;have u:∀{q},kY q->q≠k->p (nI q)=g _/\p (m2 q m)=g (m2 q m):=λ{q} a e=>have j:=abD a y e;⟨t _ _ λd=>d.a j.1<|jJ jB,t _ _ λd=>d.a (jJ jB)<|j.2 m⟩;refine⟨z▸h.B,z▸h.C,λq a=>?_,λq D l=>?_,λq a l=>?_,r.A.A<|.A (t.D λs c=>kC<|jO k y c)<|h.A.D λs c=>c.a .inl λc=>n6 c⟩;.
  by_cases e:q=k;.subst e;rw[(i a).1,B,ta,aC ⟨A,jx f.1<|bP _<|cX _⟩]
  .simp only[(i a).1,(u a e).1,r.B q a,ta,ta];by_cases n:q∈b/\q∈pl R;.rw[aC n,aC ⟨n.1,f.1▸bM _ n.2⟩]
   .rw[aA n,aA λd=>n ⟨d.1,CD (f.1▸d.2) e⟩]
 .have a:=zX<|cr l;by_cases e:q=k;.subst e;exact(i a).2.a C
  .exact(i a).2.a<|(u a e).2.a<|r.E q D<|CD (f.1▸l) e
 .have e:q≠k:=λE=>l<|f.1▸kd E (bP _<|cX _);exact(i a).2.a<|(u a e).2.a<|r.F q a λd=>l<|jx f.1<|bM _ d
def abF(a:t' b m v O o x R g)(p:[jy.F,jy.I][R]?=V k)(f:k∉b):t' b m v O o x (R+1) g:=by
 have c:=Gg p;have l:(pl<|R+1).foldl (nP b) ([],[])=(pl R).foldl (nP b) ([],[]):=jx c.1<|jx co<|aA f;refine⟨jx l a.C,jx l a.D,λq h=>(a.B q h).a ?_,λq n i=>a.E q n (CD (jL c.1 i) λj:q=k=>f<|kg j n),λq h i=>a.F q h λd=>i<|jx c.1<|bM _ d,a.A⟩;simp only[ta,ta];by_cases e:q∈b/\q∈pl R;.rw[aC e,aC ⟨e.1,jx c.1<|bM _ e.2⟩]
 .rw[aA e,aA λd:q∈b/\q∈pl _=>e ⟨d.1,CD (c.1▸d.2) λj:q=k=>f<|kg j d.1⟩]
def abG(l:t' (jy.A h) m v O o x R g)(W:ob x)(X:h∈jy.B)(t:[jy.F,jy.I][R]?=V k)(Z:La O<1000000)(α:∀k,kY k->kj (o k) (kI v)=Y/\La (o k)<1000000):jY d (a+1) (lV (t' (jy.A h) m v O o x<|R+1) (λg=>(s' i c e h m v,g)) j) (kt P7 .A) [] ((s' i c e h m v).A 9<|jG k) g:=ka λF=>by
 have b:=zX<|aa t;have G:=Gg t;have r:=W.A l.G;have H:kw _<|(s' i c e h m v).A 9<|jG k:=lE U;have z:=Cx r.B X;by_cases s:k∈jy.A h;.have β:=aJ PW;have I:=aaI (d:=d) (a:=a) r.E (λq γ=>kO.A q γ) r.B (xS h) (k:=k);rw[β]at I;have J:kq (λq=>q=nI k\/q=m2 k m) g<|jE (ks g<|.A<|(p' jy.A (jy.A h) k jy.H).map jG) (m2 k m)<|.A<|(q1 (jy.A h) k).map jG:=.A .F<|.B<|.inr U;have A:=α k b;have K:qK (.A _) _ (.A _) _=V (jE _ _<|.B<|o k++[(kI v,.A<|m2 k m)]):=(lN (show jE (ks g<|.A<|(p' jy.A (jy.A h) k jy.H).map jG) (m2 k m) (.A<|(q1 (jy.A h) k).map jG) (nI k)=V (.B _) from(l.B k b).a (by rw[ta,aA λp=>G.2 p.2])) U<|br A.2 jB).a<|jx (rh A.1) U;have u:=J.A<|.B (S:=.B<|o k++[(kI v,.A<|m2 k m)]) kr;have B:jE (jE (ks g<|.A<|(p' jy.A (jy.A h) k jy.H).map jG) _<|.A _) (nI k) (.B<|o k++[(kI v,.A<|m2 k m)]) (m2 k m)=V (.A<|(q1 (jy.A h) k).map jG):=(jQ _ _<|jJ jB).a<|jS ..;have L:jE (jE (ks g<|.A<|(p' jy.A (jy.A h) k jy.H).map jG) (m2 k m)<|.A<|(q1 (jy.A h) k).map jG) _ (.B _) (nI k)=V (.B<|o k++[(kI v,.A<|m2 k m)]):=jS ..;have C:=r.A<|u.D λq c=>tb.A<|kC<|jO k b c;have M:=ne L U<|(by rw[<-rh A.1,nF,aC U]);have D:=CC (m:=m) b;have Q:vk m v O _ _ _:=⟨(u _ _ λp=>p.a (jJ jB) D.2.a).a l.C,(u _ _ λp=>p.a D.1.1.a<|jJ jB).a l.D,tU (b:=λn:pH=>Le (n.1.map _)) (λn k c=>Ge c) _ _ .nil,.E⟩;have S:=λ{y} (f:vk m v O _ _ y)=>abE l t s u L B f;generalize jE _ _ (.B _)=y at K B M Q S C;exact F<|jN λc=>c z .A ((P8 b).A<|aD s) jV.C jV.X_ z .A I .A (jX.c_ (.B<|jS ..) (aZ (no Ct) jB) (show ks g (.A _) (m2 k m)=Y from l.F k b G.2)) ((r.A<|J.D λq c=>tb.A<|kC<|jO k b c).D b) K (C.D b) M .B<|nT (λE g=>vk m v O y ((Ll E<|q1 (jy.A h) k).foldl (sy (jy.E k:Nat)) _) g) (λζ g=>((s' i _ e h m v).A 9 _,g)) y Q (.A _) U (λE T f=>(f.A _ _ λp=>p.a D.2<|jJ jB).a B) (λE T w f δ=>by refine jx (n3 δ) ?_;refine abC f C b<|aZ (bS (aX (P9 ..)<|bv (P' ..)<|aX (bg ..)<|no xZ) _) ?_;have ε:La (pl R)<=2:=bg ..;show La O+(0+11*La (pl R)+11)<16777216;exact aZ (bv (bL Z)<|bC (bS (bW 11 ε) 0) 11) jB) λT f=>mE λc=>c .A<|lh _ (S (by rw[bI]at f;rw[nP,aC s];exact f)) H U
 .exact F<|jN λc=>c z .A ((P8 b).A<|aG s) .A<|lh _ (abF l t s) H U
end
def n5(a:j')(b:Lt jD):Lt Nat:=(be (La jy.G)).map λc=>Lk (jy.b_ b<|c+1) a.A
def lx(a:Nat):Lt<|Lt jD:=lb []<|(Ll a jy.B).map jy.A
def rR(a:Lt jD):Nat:=Lk a<|jy.B.map jy.A
def tc(b:Lt<|Lt jD):Lt<|jA×jA:=b.map λa=>(mW a,.A<|.A 16 [2,rR a])
def rS(c:j')(d:Lt<|Lt jD)(b:jD):Lt<|jA×jA:=(d.filter λa=>ba<|b∈a).map λa=>(kI<|oJ c a,.A<|m2 b<|rR a)
def oc(a:j')(b:Lt<|Lt jD):Lt Nat:=xU a++b.flatMap (n5 a)
def ua(b:j')(a:Lt jD):Lt jA:=(xX a).2.map<|CB<|oJ b a
section
variable{c:Nat}{h:jD}
structure pm(l:j')(x:jC)(m:Nat)(E:jF)(g:jC):Prop where
 A:kq vi x g
 D:g E=V (.A ((oc l (lx m)).map kI))
 E:E=.A 17 []\/∃a,a<m/\E=.A 16 [4,a]
 H:g (.A 18 [1])=V (.B (tc (lx m)))
 B:∀A∈lx m,rR A<m/\g (.A 16 [2,rR A])=V (.A ((n5 l A).map kI))/\∀k∈A,g (m2 k (rR A))=V (.A ((q1 A k).map jG))
 F:∀k,kY k->g (nI k)=V (.B (rS l (lx m) k))
 G:g (.A 18 [5])=V (.A ((lx m).flatMap (ua l)))
 C:∀a c,m<=a->g (.A 16 [c,a])=Y
def zY:b∈lx m↔∃h∈Ll m jy.B,jy.A h=b:=qO.c ⟨λc=>am.a<|c.b ac,λc=>.inr<|am.b c⟩
def zZ:Le (lx m):=qN .nil
def QF(a:jy.B[m]?=V h):lx (m+1)=if jy.A h∈lx m then lx m else lx m++[jy.A h]:=by
 unfold lx;rw[nN a,bK,lb,co];show kN (lb [] _) _=_;unfold kN;by_cases c:jy.A h∈lb [] ((Ll m jy.B).map jy.A);.rw[aC c,aC c]
 .rw[aA c,aA c]
def td(c:b∈lx m):∃h∈jy.B,jy.A h=b:=(zY.a c).b λh a=>⟨cr a.1,a.2⟩
def abH(a:jy.B[m]?=V h)(c:jy.A h∉lx m):rR (jy.A h)=m:=by
 have b:=(ag.a a).1;have e:jy.B.map jy.A=(Ll m jy.B).map jy.A++(jy.A h::(Lm (m+1) jy.B).map jy.A):=by exact jL (bo ..)<|kg (bK ..)<|jL ((ag.a a).2)<|jL (iR b)<|jx (jb ..) U
 rw[rR,e,List.idxOf_append,aA λf=>c<|(am.a f).a λg d=>zY.b<|jO g d.1 d.2,gj,ct,ab,dF,dx<|bL b]
def z0:La (n5 l b)=La jy.G:=(ab ..).a bX
def abI:(n5 l b).map kI≠[]:=λd=>have c:=(aB df d).b.a<|(ab ..).a z0;kO.F.a (λa=>a' (c.a a) jB) λa=>a' (c.a a) jB
def abJ:qi ((n5 l b).map kI) (-1)=V (kI<|oJ l b):=by unfold n5 oJ;rcases kO.F with a|a<;>rw[a]<;>rfl
def CE:La (lx m)<=4:=aX (zZ.a λb c=>(td c).a λh a=>am.b<|jO h a.1 a.2)<|aX (aw<|ab ..)<|v9
def CF:La jy.G<=2:=kO.F.a (λa=>jx a jI) λa=>jx a<|al 2
def abK:La (oc l<|lx m)<=94:=aX (aw<|bH ..)<|bv (bb<|bb<|qZ (λh a=>PX)<|v9)<|qZ (λb a=>jx z0 CF)<|CE
def abL:La ((lx m).flatMap<|ua l)<=88:=qZ (a:=22) (e:=4) (λb a=>aX (aw<|ab ..)<|aX (P' [jy.F,jy.I] _)<|al 22)<|CE
def abM(a:b=jy.A k)(d:η=jy.A q)(c:mW b=mW η):b=η:=(va _<|kd a<|xS k).2.2.1 η (kd d<|xS q)<|jA.C.inj c
def abN(e:∀b∈r,∃h∈jy.B,jy.A h=b):kj (tc r) (mW<|jy.A h)=if jy.A h∈r then V<|.A<|.A 16 [2,rR<|jy.A h]else Y:=by
 unfold tc;induction r with
 |nil=>exact(aA ac).b|cons b f g=>
  rw[bo,kj];by_cases a:b=jy.A h;.rw[aC<|aB mW a,aC<|kg a ae,a]
  .rw[aA λd=>(e b ae).a λj i=>a<|abM i.2.b U d,g λb c=>e b<|af _ c];by_cases c:jy.A h∈f;.rw[aC c,aC<|af _ c]
   .rw[aA c,aA λd=>c<|(ao.a d).b λd=>a d.b]
def QG(a:kz jy.D l)(b:k∈jy.B)(d:q∈jy.B)(c:oJ l (jy.A k)=oJ l (jy.A q)):jy.A k=jy.A q:=Pg (λe=>mq) (λe=>mq)<|Cm a (tW b) (tW d) c
theorem QH(o:kz jy.D l)(p:h∈jy.B)(m:∀b∈r,∃h∈jy.B,jy.A h=b):kj (rS l r k) (kI<|oJ l<|jy.A h)=if jy.A h∈r/\k∈jy.A h then V<|.A<|m2 k<|rR<|jy.A h else Y:=by
 revert l k h r;apply qu;generalize lr.1.1=k,lr.1.2=l,lr.2.1=r,lr.2.2=h;intros;unfold rS;induction r with
 |nil=>exact(aA λa=>a' a.1 ac).b|cons b g i=>
  have i:=i λb c=>m b<|af _ c;refine jx cO ?_;by_cases j:b=jy.A h;.
   subst j;by_cases d:k∈jy.A h;.rw[aC<|aD d,bo,kj,aC U,aC ⟨ae,d⟩]
   .rw[aA λa=>d<|aF a,i,aA λa=>d a.2,aA λa=>d a.2]
  .have f:_↔(jy.A h∈g/\k∈jy.A h):=aW λq=>⟨λa=>(ao.a a).b λa=>j a.b,af _⟩;have n:kj ((g.filter λb=>ba<|k∈b).map λb=>(kI<|oJ l b,jA.A<|m2 k<|rR b)) (kI<|oJ l<|jy.A h)=if jy.A h∈b::g/\k∈jy.A h then V<|.A<|m2 k<|rR<|jy.A h else Y:=by
    rw[i];by_cases a:jy.A h∈g/\k∈jy.A h;.rw[aC a,aC<|f.b a]
    .rw[aA a,aA λe=>a<|f.a e]
   by_cases d:k∈b;.rw[aC<|aD d,bo,kj,aA λa=>(m b ae).a λs e=>j<|jL e.2<|QG o e.1 p<|jL e.2.b<|sd.a a,n]
   .rw[aA λa=>d<|aF a,n]
def x0(m:Nat)(a:jF):=a=.A 16 [2,m]\/a=.A 18 [1]\/a=.A 16 [4,m]\/tb m a
def x0.A(c:x0 m e):vi e:=c.a (λa=>.inr<|m4 _ _ a) λc=>c.a (λa=>.inl ⟨_,a,by decide⟩) λc=>c.a (λa=>.inr<|m4 _ _ a) tb.A
def CG(c:f≠m)(g:jF)(b:x0 m g):g≠.A 16 [a,f]:=λd=>by have e:∀{h},g≠.A 16 [h,m]:=λ{h} i=>c (an (an (jF.A.inj<|d.b.a i).2).2).1;exact b.a e λb=>b.a (λb=>jJ jB<|d.b.a b) λb=>b.a e λb=>b.a e λb=>b.a (λb=>jJ jB<|d.b.a b) λj=>j.a λk l=>l.elim λn b=>b.a (λb=>jJ jB<|d.b.a b) e
def pm.I(d:pm l x m e g)(b:kq (x0 m) g p):p e=g e:=by
 rcases d.E with c|⟨j,f,c⟩;.subst c;exact b _ _ λa=>a.a (jJ jB) λa=>a.a (jJ jB) λa=>a.a (jJ jB) λa=>a.a (jJ jB) λa=>a.a (jJ jB) λh=>h.a λk i=>i.elim λn a=>a.a (jJ jB)<|jJ jB
 .subst c;exact b _ _ λa=>CG (bF f) _ a U
def pm.J(a:pm l x m e g)(u:jy.B[m]?=V h)(v:jy.A h∈lx m)(b:kq (λn=>n=.A 16 [2,m]) g p):pm l x (m+1) e p:=by have f:=(QF u).a<|aC v;have o:∀{q t},q≠16->p (.A q t)=g (.A q t):=λc=>b _ _<|jJ c;have r:∀{j d},d≠m->p (.A 16 [j,d])=g (.A 16 [j,d]):=λc=>b _ _ λs=>CG c _ kr s.b;exact⟨a.A.A<|b.D λn c=>.inr<|m4 _ _ c,(a.I<|b.D λn c=>.inl c).a<|jx f a.D,a.E.c id λw=>w.a λd y=>y.elim λc s=>jO d (cH c) s,(o jB).a<|jx f a.H,λz c=>have i:=a.B z<|jL f c;⟨cH i.1,(r<|bF i.1).a i.2.1,λk c=>(r<|bF i.1).a<|i.2.2 k c⟩,λk A=>(o jB).a<|jx f<|a.F k A,(o jB).a<|f▸a.G,λd j c=>(r<|bi c).a<|a.C d j<|cI c⟩
def pm.K(o:pm l x m e g)(s:jy.B[m]?=V h)(t:jy.A h∉lx m)(b:kq (x0 m) g p)(v:p (.A 16 [2,m])=V (.A<|(n5 l<|jy.A h).map kI))(w:p (.A 16 [4,m])=V (.A<|(oc l<|lx m).map kI++(n5 l<|jy.A h).map kI))(y:p Kh=V (.B<|tc (lx m)++[(mW<|jy.A h,.A<|.A 16 [2,m])])) (z:∀k,kY k->p (nI k)=V (.B<|ta (oJ l<|jy.A h) m (rS l<|lx m) (jy.A h) [jy.F,jy.I] k)) (A:∀k,k∈jy.A h->k∈[jy.F,jy.I]->p (m2 k m)=V (.A<|(q1 (jy.A h) k).map jG)) (B:p K2=V (.A<|(lx m).flatMap (ua l)++(xX<|jy.A h).2.map (CB<|oJ l<|jy.A h))):pm l x (m+1) (.A 16 [4,m]) p:=by
 have d:=(QF s).a<|aA t;have q:=abH s t;have r:∀{j f},f≠m->p (.A 16 [j,f])=g (.A 16 [j,f]):=λc=>b _ _ λa=>CG c _ a U;have u:∀{k},kY k->k∈[jy.F,jy.I]:=λ{k} n=>by rcases(xK).1 with a|a<;>rw[a.1,a.2]<;>rcases n with d|d<;>rw[d]<;>decide
 refine⟨o.A.A<|b.D λD c=>c.A,?_,.inr<|jO m (bN m) U,?_,λC c=>?_,λk n=>?_,?_,λf j c=>(r<|bi c).a<|o.C f j<|cI c⟩;.simp only[w,d,<-bK,oc,oc,dj,dU,bw]
 .simp only[y,d,tc,tc,bK,hD,q]
 .rw[d]at c;rcases bR.a c with c|c;.have i:=o.B C c;exact⟨cH i.1,(r<|bF i.1).a i.2.1,λk c=>(r<|bF i.1).a<|i.2.2 k c⟩
  .exact jx (ak.a c)<|jx q ⟨bN m,v,λk c=>A k c<|u<|mq c⟩
 .simp only[z k n,d,ta,rS,rS,eJ,bK,cO];by_cases c:k∈jy.A h;.exact jx (aC ⟨c,u n⟩)<|jx (aC<|aD c)<|jx eK<|jx hD<|jx q U
  .exact jx (aA λa=>c a.1)<|jx (aA λa=>c<|aF a)<|jx (eK ..)<|jx (im ..)<|jx (bQ ..) U
 .simp only[B,d,dj,dU];rfl
end
section
variable{c:Nat}{h:jD}
def QI(g:kz jy.D l)(i:h∈jy.B)(c:v∈n5 l (jy.A h)):v<La l.A/\sw l v=[]:=by refine jU (am.a c) λd o p=>?_;subst p;have j:mK _:=.E i<|bj.a o;refine jU (ph.a i) λr k b=>?_;have m:_∈jy.b_ _ (d+1):=xH<|b▸qt k;exact⟨oI g j,(rP g).B j (λb=>tV (b:=λe=>e=_->False) (jL b m) (λa=>a' (bf a).2.b<|dc d) (λn f a=>a' (bf a).2.b<|dc d) U) λs f b=>su (b:=λe=>e=_->False) (jL b m) (λn q f a=>zQ q (kO.A _<|mx k) (bf a).1) (λn f a=>a' (bf a).2.b<|dc d) U⟩
abbrev abO:Lt kb:=[.B (.g_ [.D .NotEq (.C Qq JE) JK,.H (.G "any") [.d_ 3 [(2,14)] (.D .NotEq Qr JW) Jr Jw []]]) [.G<|.b_ ah] []]
def abP(t:kz jy.D l)(s:or l f S g)(u:h∈jy.B)(D:g (.A 16 [3,m])=V (.B<|lq jA.B (xX<|jy.A h).1))(z:g (.A 16 [2,m])=V (.A<|(n5 l<|jy.A h).map kI))(E:∀p,(∀b q,p (.A b q)=g (.A b q))->j .A (s' i c e h m<|oJ l<|jy.A h) p):jY d a j (kt abO .A) [] (s' i c e h m<|oJ l<|jy.A h) g:=by
 have A:=oI t<|tW u;refine jN λc=>c s.A.A (s.A.D A) .A ((jW.b_ (s.A.B _ A).1 D ⟨aj,λJ F=>F.a (λo=>(am.a o).a λG n=>n.2▸lp) λo=>(am.a o).a λG n=>n.2▸lp⟩).A (aB (!·)<|abB s5 abw<|(λw=>by classical exact(((FT t u).1 w).a (by congr)).a aby.b))) jV.S_ .B<|pv.A λb=>abu (k:=λr=>.F ah) (λo p=>p (.B _)=V (.A<|(Ll o<|n5 l<|jy.A h).map λr=>.F ah)/\(∀b q,p (.A b q)=g (.A b q))/\lD p) (vz z) (pR _) jB (mb b) (aZ (jx z0 CF) jB) ⟨jS ..,λr r=>U,b.C⟩ (λo p k=>sO ((k.2.1 ..).a z) o) (λo v p k B=>?_) (λp k=>?_)<|jN λc=>c lp;.have x:=QI t u<|aa B;have y:=s.A.H λb q r=>k.2.1 b q;have C:=(y.B _ x.1).2;rw[x.2]at C;exact jN λc=>c y.A (y.E x.1) (.B _) (λb=>mb b) (Cw C<|jS ..)<|mS U ((jQ _ _ λH=>mh (mb k.2.2)<|H▸k.1).a k.1) ((jS ..).a<|jx (nN B)<|jx bK U) k.2.1 k.2.2.A.C
 .have n:=k.1;rw[bI]at n;rw[(show(n5 l _).map (λr=>jA.F ah)=((n5 l _).map λr=>ah).map jA.F from(bY ..).b)]at n;exact jN λc=>c .A (jX.m_ n) .A (aB V<|fy.b λK I=>(am.a I).a λr n=>n.2▸av) .A<|E p k.2.1
end
section
variable{c:Nat}{h:jD}
def Gh(c:a=2\/a=4):¬tb m (.A 16 [a,m]):=λb=>b.a (λe=>a' (an (jF.A.inj e).2).1 (by rcases c with c|c<;>rw[c]<;>decide)) λb=>b.a (jJ jB) λf=>f.a λk g=>g.elim λd b=>b.a (jJ jB) λe=>a' (an (jF.A.inj e).2).1 (by rcases c with c|c<;>rw[c]<;>rcases d with d|d<;>rw[d]<;>decide)
def abQ{b:jF}{a:Lt jA}(c:g e=V (.A O))(d:g b=V (.A a))(f:La O+La a<=1000):qJ .Add (.A e) (.A b) g=V (.B<|O++a):=by show((vD _).bind λa=>(vD _).bind λO=>bif yJ .Add&&cK _ 16777216 then V _ else Y)=_;refine jx c<|jx d ?_;show(bif aj&&cK _ 16777216 then V _ else Y)=_;exact jx (cG<|aX f jB) U
abbrev abR:Lt kb:=[.A (.A 20)<|.H (.G "_law_bodies") [Ji,.C (.C Qq J3) Jk,Jg],.B (.g_ [.D .Eq Jw JY,.D .NotEq (.F Ju 46 [.C Jm Jk,Jw]) Jw]) [.G<|.b_ ah] [],.B (.D .In Qe Ju) [.K] [],.D Ju Qe Jw,.A JP<|.J .Add JR Jw,.A (.A 21)<|.C Jw<|.c_ JX,.A (.A 22) JW,.C JB JA P7 [],.B (.g_ [.D .NotEq (.C Qq JE) JK,.H (.G "any") [.d_ 3 [(2,14)] (.D .NotEq Qr JW) Jr Jw []]]) [.G<|.b_ ah] []]
abbrev abS(l:j')(x:jC)(i:bB)(c m:Nat)(b:kl):kl:=lV (λa:jF×jC=>pm l x m a.1 a.2) (λa=>(rQ i c a.1,a.2)) b
theorem abT(v:kz jy.D l)(Z:or l f S x)(N:ob x)(p:pm l x m e g)(O:jy.B[m]?=V h):Internal.jY d (a+1) (abS l x i c (m+1) j) (kt abR .A) [] ((rQ i c e).A 8<|jG h) g:=by
 revert d a f m g x i c l S h e j;apply z4;generalize lB.1.1.1.1=a,lB.1.1.1.2=f,lB.1.1.2.1=m,lB.1.1.2.2=d,lB.1.2.1.1=e,lB.1.2.1.2=g,lB.1.2.2=x,lB.2.1.1.1=i,lB.2.1.1.2=j,lB.2.1.2=l,lB.2.2.1.1=S,lB.2.2.1.2=c,lB.2.2.2=h;intro v Z N p O;exact ka λP=>by
  have B:=aa O;have Q:=Z.E p.A;have α:=oI v .C;rw[s3 v]at α;have G:kP (mW _)=aj:=(va _<|xS h).2.1;refine P<|jN λβ=>β jV.Y_ Q.A.A (Q.A.D α) (Q.A.F α<|(sv v).A.b ⟨B,U⟩) .B<|aaQ v B Q.A (N.A p.A).F (p.C m 2<|al _) jI λT C ψ w=>ka λP=>?_;have J:=Cx (N.A<|p.A.A<|C.D λs c=>.inr<|m4 _ _ c).B B;have y:=(C _ _<|jJ jI).a p.H;have ζ:=(jW.a_ (d:=jE T (.B _)<|.A []) (X:=.A 16 [2,m]) (a:=.B<|mH T) w (jS ..) (xQ _) U).A<|aG<|abI;have z:=abN (h:=h) (r:=lx m) λb=>td;by_cases D:jy.A h∈lx m;.have η:=p.B _ D;rw[aC D]at z;exact P<|jN λc=>c (.B _) (λr=>mb r) .A ζ y J .A (jX.C y G<|jx z U) .A ((jW.I (d:=jE T (.B _)<|.A []) (X:=.A 16 [2,_]) (a:=.A 16 [2,m]) ((C _ _ λq=>CG (bF η.1) _ kr q.b).a η.2.1) w (xQ _)<|xQ _).A<|aG λq=>q U) .A J .A (show jW .In _ (.A Kh) _ aj from(jW.D (d:=jE T (.B _)<|.A []) (X:=.A 18 [1]) y G).A<|jx z U)<|lh (e,_) (p.J O D<|C.A .F) (mC U) U
  .rw[aA D]at z;have W:∀r t,jF.A r t≠.A 16 [2,m]->jF.A r t≠.A 18 [1]->jE (jE T (.B<|mH T)<|.A []) Kh (.B<|tc (lx m)++[(mW<|jy.A h,.A<|.A 16 [2,m])]) (.A r t)=g (.A r t):=λr t n K=>(jQ _ _ K).a<|C _ _ n;have γ:kq (x0 m) g _:=λr t a=>W r t (λo=>a<|.inl o) λo=>a<|n6 o;have θ:jE (jE T (.B<|mH T)<|.A []) Kh (.B _) Kh=V (.B<|tc (lx m)++[(mW<|jy.A h,.A<|.A 16 [2,m])]):=jS ..;have X:∀L,L≠2->jE (jE T (.B<|mH T)<|.A []) Kh (.B<|tc (lx m)++[(mW<|jy.A h,.A<|.A 16 [2,m])]) (.A 16 [L,m])=Y:=λL σ=>(C 16 [L,m] λo=>σ (an (jF.A.inj o).2).1).a<|p.C m L<|al _;have ι:jE (jE T (.B<|mH T)<|.A []) Kh (.B<|tc (lx m)++[(mW<|jy.A h,.A<|.A 16 [2,m])]) (.A 16 [2,m])=V (.A _):=w;refine P<|jN λβ=>β (.B _) (λr=>mb r) .A ζ y J .A (jX.C y G<|jx z U) .A ((jW.I (d:=jE T (.B _)<|.A []) (X:=.A 16 [2,m]) (a:=.A 16 [2,m]) w w (xQ _)<|xQ _).A<|aG λq=>q U) .A J .A (show jW .In _ (.A Kh) _ ah from(jW.D (d:=jE T (.B _)<|.A []) (X:=.A 18 [1]) y G).A<|jx z U) .A J ((lN (d:=jE T (.B _)<|.A []) (X:=.A 18 [1]) y G<|aZ (pk<|CE) jI).a<|jx (rh z) U) .B (show qJ .Add (.A e) (.A<|.A 16 [2,m]) _=V (.B<|(oc l _).map kI++(n5 l _).map kI) from abQ ((p.I γ).a p.D) w<|aX (bv (pk<|abK)<|pk<|jx z0 CF) jI) (.A 16 [4,m]) (λM=>X 4 jI) ((Bh w).a<|abJ) (.A 16 [3,m]) (λM=>X 3 jI) .B ?_;generalize jE _ Kh (.B _)=E at W γ θ X ι;have δ:kq _ g<|jE (jE E (.A 16 [4,m])<|.A<|(oc l<|lx m).map kI++(n5 l<|jy.A h).map kI) (.A 16 [3,m])<|.B []:=γ.A<|.A (.B<|kC kr)<|.B<|kC<|.inr kr;have κ:jE (jE E (.A 16 [4,m])<|.A<|(oc l<|lx m).map kI++(n5 l<|jy.A h).map kI) (.A 16 [3,m]) (.B []) (.A 16 [4,m])=V (.A<|(oc l<|lx m).map kI++(n5 l<|jy.A h).map kI):=(jQ _ _ λo=>a' (an (jF.A.inj o).2).1 jI).a<|jS ..;have μ:jE (jE E (.A 16 [4,m])<|.A<|(oc l<|lx m).map kI++(n5 l<|jy.A h).map kI) (.A 16 [3,m]) (.B []) (.A 16 [3,m])=V (.B []):=jS ..;have F:∀{s},s≠.A 16 [4,m]->s≠.A 16 [3,m]->jE (jE E (.A 16 [4,m])<|.A<|(oc l<|lx m).map kI++(n5 l<|jy.A h).map kI) (.A 16 [3,m]) (.B []) s=E s:=λn K=>(jQ _ _ K).a<|jQ _ _ n;generalize jE (jE E (.A 16 [4,m])<|.A<|(oc l<|lx m).map kI++(n5 l<|jy.A h).map kI) (.A 16 [3,m]) (.B [])=ν at δ κ μ F;have ξ:=N.A<|p.A.A<|δ.D λs c=>c.A;refine nT (X:=rq) (j:=[jy.F,jy.I]) (p:=jG) (λR=>t' (jy.A h) m (oJ l<|jy.A h) ((lx m).flatMap<|ua l) (rS l<|lx m) ν R) (λM g=>(s' i _ e h m<|oJ l<|jy.A h,g)) ν ⟨μ,(F (jJ jI)<|jJ jI).a<|(W _ _ (jJ jI) λo=>a' (an (jF.A.inj o).2).1 jI).a<|p.G.a<|aB (λs=>V<|km.A s) (bQ _).b,λk n=>(F (jJ jI)<|jJ jI).a<|(W _ _ (jJ jI) (CC (m:=m) n).1.2).a<|(p.F k n).a (by rw[ta,aA λq=>a' q.2 ac]),λk M c=>a' c ac,λk n M=>(F (λo=>Gh (.inr U)<|kg o<|(show∀{k},kY k->tb m (m2 k m) from λ{k} n=>kC<|jO k n<|.inr U) n) (CC n).2).a (X _ λo=>by rcases n with n|n<;>rw[n]at o<;>exact a' o jI),.E⟩ (.A _) U (λR ο ε=>(ξ.A ε.G).I) (λR ο k ε τ=>abG ε ξ B τ (aZ abL jI) λk n=>⟨(QH v B λb=>td).a<|aA λq=>D q.1,aZ (pk<|aX (dt ..)<|CE) jI⟩) λο u=>?_;have π:=δ.A<|u.A.D λs c=>kC<|.inr c;have ρ:=(u.A _ _<|Gh kr).a<|(F (λo=>a' (an (jF.A.inj o).2).1 jI) λo=>a' (an (jF.A.inj o).2).1 jI).a ι;exact abP v (Z.E<|p.A.A<|π.D λs c=>c.A) B u.C ρ λυ A=>lh (.A 16 [4,m],υ) (p.K O D (π.A λr t M=>A r t) ((A ..).a ρ) ((A ..).a<|(u.A _ _<|Gh<|.inr U).a κ) ((A ..).a<|(u.A _ _ λq=>q.a (jJ jB) λq=>q.a (λo=>a' (an (jF.A.inj o).2).1 jB) λφ=>φ.a λk χ=>χ.elim λn q=>q.a (λo=>a' (an (jF.A.inj o).2).1 (by rcases n with n|n<;>rw[n]<;>decide))<|jJ jB).a<|(F (jJ jI)<|jJ jI).a θ) (λk n=>(A ..).a<|u.B k n) (λk n K=>(A ..).a<|u.E k n K)<|(A ..).a u.D) (((((((kw.A _).C (d:=16) U).C (d:=8) U).C (d:=20) U).B 16 _).C (d:=21) U).C (d:=22) U) U
end
section
variable{h:Nat}{n:jD}
def x2(g:jC):jC:=jE (jE (jE (jE (jE (ks g<|.A []) Kh<|.B []) (nI .A)<|.B []) (nI .B)<|.B []) K1<|.B [(jG .A,.A<|nI .A),(jG .B,.A<|nI .B)]) K2<|.A []
def ub(b:a≠18\/c=[]):x2 g (.A a c)=g (.A a c):=by have d:∀{e},jF.A a c≠.A 18 [e]:=λ{e} f=>b.a (λb=>b (jF.A.inj f).1) λb=>a' (b.b.a (jF.A.inj f).2) jB;exact(jQ _ _ d).a<|(jQ _ _ d).a<|(jQ _ _ d).a<|(jQ _ _ d).a<|jQ _ _ d
def pm.L(f:g KD=V (.A<|(xU l).map kI))(i:∀e c,g (.A 16 [e,c])=Y):pm l (x2 g) 0 KD<|x2 g:=by
 have a:∀{c R},c≠R->jF.A 18 [c]≠.A 18 [R]:=λh j=>h (an (jF.A.inj j).2).1;refine⟨.E,(ub<|.inl jB).a<|f.a (by rw[oc,show lx 0=[] from U,eY,bQ]),.inl U,?_,λb h=>a' h ac,λk d=>?_,jS ..,λc e m=>(ub<|.inl jB).a<|i e c⟩;.exact(jQ _ _<|a jB).a<|(jQ _ _<|a jB).a<|(jQ _ _<|a jB).a<|(jQ _ _<|a jB).a<|jS ..
 .rcases d with d|d<;>subst d;.exact(jQ _ _<|a jB).a<|(jQ _ _<|a jB).a<|(jQ _ _<|a jB).a<|jS ..
  .exact(jQ _ _<|a jB).a<|(jQ _ _<|a jB).a<|jS ..
def abU(K:kz jy.D l)(P:or l f S g)(B:g KW=V (.A<|jy.H.map na))(Q:g Kt=V (.A<|jy.G.map jG))(T:g Km=V (.A<|jy.c_.map jG))(W:g J9=V (.B<|lq lW<|qb 2))(X:g rq=V (.A<|[jy.F,jy.I].map jG))(C:∀b o,b=17\/b=18->g (.A b o)=Y)(Z:∀D t,g (.A 16 [D,t])=Y) (u:∀x e p,or l f S x->ob x->pm l x (La jy.B) e p->jY d (a+2) j (kt (Lm 21 nX) .A) [] (rQ i h e) p):jY d (a+2) j (.B 14<|kt (Lm 14 nX) .A) [.A lH] (wg i h) g:=ka λE=>by have v:kq (λF=>F=.A 18 []) g<|xP g jy.H:=.B U;have L:=P.D λb o (k:vh b=ah)=>v b o<|jJ λu=>av<|k.b.a<|jx u U;have M:xP g jy.H J5=V (.B _):=jS ..;refine E<|jN λG=>G jV.W_ .A (aaF B (λF α=>kO.A F α)<|C _ _<|.inr U) jV.Z_ .B<|aa5 K L.A ((v _ _<|jJ jI).a B) (jJ jI) M ((v _ _<|jJ jI).a<|C _ _ kr) λr q=>ka λE=>?_;have s:∀{b o},b≠17->b≠18->r (.A b o)=g (.A b o):=λc β=>(q.F _ _ c).a<|v _ _<|jJ β;have w:=λ{t}=>(q.F _ _ jI).a<|(v 18 [t] λk=>a' (jF.A.inj k).2 jB).a<|C _ _<|.inr U;have N:=L.D λb o (k:vh b=ah)=>have z:∀R,vh R=aj->b≠R:=λR γ u=>av<|k.b.a<|jx u γ;(ub<|.inl<|z _ U).a (q.F _ _<|z _ U);have I:ob _:=⟨(ub<|.inl jI).a<|(s jI jI).a B,(ub<|.inl jI).a<|(s jI jI).a Q,(ub<|.inl jI).a<|(s jI jI).a T,(ub<|.inl jI).a<|(s jI jI).a W,(show x2 r _=g _ by unfold rq;cases jy.e_<;>exact(ub<|.inl jI).a<|s jI jI).a X,(ub<|.inr U).a<|(q.F _ _ jI).a M,(jQ _ _ λk=>a' (an (jF.A.inj k).2).1 jI).a<|jS ..⟩;have z:∀{O:jP},mi KC d (a+2) O _ (.A K1)<|jE (jE (jE (jE (ks r<|.A []) Kh<|.B []) _<|.B []) _<|.B []) K1<|.B [(jG .A,.A<|nI .A),(jG .B,.A<|nI .B)]:=λ{O}=>mi.K w w w (λk=>a' (an (jF.A.inj k).2).1 jI) λk=>a' (an (jF.A.inj k).2).1 jI;exact E<|jN λG=>G (.B _) (λJ=>mb q.B) .A ((jW.a_ (d:=jE r (.B _)<|.A []) (X:=.A 17 []) q.A (jS ..) (xQ _) U).A<|aG jB) .A Kh (λJ=>w) .A z K2 (λJ=>w) .B<|uG (λm (c:jF×jC)=>pm l _ m c.1 c.2) (λJ c=>(rQ i h c.1,c.2)) (.A 17 [],x2 r) (pm.L (l:=l) q.A λD t=>(s jI jI).a<|Z D t) ((kw.E jI).D<|((kw.E jI).D<|(kw.E jI).B 18 _).B 19 _) U (λm c y=>jO _ ((I.A y.A).B) F9) (λm c n y δ=>abT (a:=a+1) K N I y δ) λc y=>u (x2 r) c.1 c.2 N I y
end
def rT(a:j')(b:jH):Lt lF:=(u8 a).filter λc=>ba<|c.1=b
abbrev CH(a:j')(b:lF):Lt jD:=tL (qq a (mG a)<|kL a) b
section
variable{c:Nat}{h:jD}{j:jF}{n:jH}{o:Lt (jA×jA)}
def z1{a:lF}(d:a∈rT l n):a.1=n/\(n,a.2)∈u8 l:=have b:=ar.a d;have c:=aF b.2;⟨c,jL c b.1⟩
def Gi:Le ((rT l n).map dO):=cc.b<|dW (λa b c d=>c<|bt ((z1 a).1.a (z1 b).1.b) d)<|ev _<|Nz _
structure z2(l:j')(n:jH)(j:jF)(x:jC)(o:List (jA×jA))(m:Nat)(g:jC):Prop where
 B:g j=V (.B o)
 C:lD g
 A:∀C b,g (.A C b)=x (.A C b)
 D:o.map (·.1)=(((rT l n).map dO).take m).map kI
 E:∀c∈o,∃v,(n,v)∈u8 l/\c.1=kI v/\∃d,c.2=.A (.B d)/\g (.B d)=V (.A ((nV (CH l (n,v))).map jG))
theorem z2.F(b:z2 l n (.B a) x o m g)(h:((rT l n).map dO)[m]?=V v)(q:(n,v)∈u8 l)(s:La (rT l n)<=4):ks g (.A<|(nV<|CH l (n,v)).map jG) (.B a)=V (.B o)/\La o<16777216/\z2 l n (.B a) x (kF o (kI v)<|.A<|.B<|mH g) (m+1) (jE (ks g<|.A<|(nV<|CH l (n,v)).map jG) (.B a)<|.B<|kF o (kI v)<|.A<|.B<|mH g):=by
 revert m v g x l n o a;apply sz;generalize kG.1.1.1=a,kG.1.1.2=m,kG.1.2.1=v,kG.1.2.2=g,kG.2.1.1=x,kG.2.1.2=l,kG.2.2.1=n,kG.2.2.2=o;intros;have i:jF.B a≠.B _:=λd=>mh (mb b.C)<|d▸b.B;have t:=λu=>by have c:=(Gi (l:=l) (n:=n)).b<|acK (m+1) _;rw[nN h]at c;exact(cz.a c).2.2 v u v (cX v) U
 have j:=Dl λk F d=>by have c:kI v∈o.map (·.1):=am.b<|jO _ (aa d) U;rw[b.D]at c;exact(am.a c).a λG p=>t<|kg (sd.a p.2) p.1
 have w:La o<16777216:=by have c:=aB df b.D;simp only[ab,ab]at c;exact aZ (aw c)<|aZ (bg ..)<|aZ (pk s) jB
 refine⟨(jQ _ _ i).a b.B,w,jS ..,b.C.A.C,b.A,?_,λy e=>?_⟩;.simp only[rh j,bK,b.D,nN h,bK];rfl
 .rw[rh j]at e;rcases bR.a e with e|e;.refine ka λz=>?_;obtain⟨B,C,D,k,E,f⟩:=b.E y e;exact z<|⟨B,C,D,k,E,(jQ _ _ λd=>by simp only[d,b.B]at f;cases f).a<|(jQ _ _ λd=>mh (mb b.C)<|d▸f).a f⟩
  .exact jx (ak.a e) ⟨v,q,U,_,U,(jQ _ _ i.a).a<|jS ..⟩
theorem CI(d:kz jy.D l)(e:kY k):(jy.d_ k,v)∈u8 l↔∃h∈jy.B,k∈jy.A h/\v=oJ l (jy.A h):=by
 revert v l k;apply q3;generalize mj.1.1=v,mj.1.2=k,mj.2=l;intros;exact⟨λc=>by
  refine ka λi=>jU (FM.a c) λu j a=>jU (u7.a j) λw m f=>i ?_;simp only[a]at f;rcases(s4 d).a ⟨m,f.1⟩with⟨x,n,_,_,o⟩|⟨h,b,q,g,_,p,r⟩;.exact a' (aB ca o).b<|zQ n e
  .exact kT h b (kd (Cb e (mq g)<|aB ca r) g) p,λs=>li s λh b t a=>jx a<|Ph d b t⟩
def abV(a:kz jy.D l)(b:h∈jy.B)(c:k∈jy.A h):nV (CH l (jy.d_ k,oJ l<|jy.A h))=q1 (jy.A h) k:=Cu (uU ..) Ct λw=>(Pj a b c).c<|(xY).symm.c (zU _).mem_iff
theorem abW(r:kz jy.D l)(u:kY k)(I:pm l x (La jy.B) e T)(w:z2 l (jy.d_ k) (.B a) T o (La (rT l<|jy.d_ k)) g):ts g o (rS l (lx (La jy.B)) k)=aj/\AX g o (rS l (lx (La jy.B)) k):=by
 revert g x T l k e o a;apply sz;generalize kG.1.1.1=a,kG.1.1.2=e,kG.1.2.1=g,kG.1.2.2=x,kG.2.1.1=T,kG.2.1.2=k,kG.2.2.1=l,kG.2.2.2=o;intros;have J:o.map (·.1)=((rT l<|jy.d_ k).map dO).map kI:=by exact jx w.D<|jx (dE<|aw<|ab ..) U
 have n:∀b,b∈lx (La jy.B)↔∃h∈jy.B,jy.A h=b:=λb=>zY.c (by rw[bI]);have C:=λb s i=>(w.A ..).a<|(I.B b s).2.2 k i;have y:∀f∈rS l _ k,∃h∈jy.B,k∈jy.A h/\f=(kI<|oJ l<|jy.A h,.A<|m2 k<|rR<|jy.A h):=λf m=>by refine jU (am.a m) λb s K=>?_;subst K;have t:=ar.a s;refine jU ((n _).a t.1) λh d L=>?_;subst L;exact kT h d (aF t.2) U
 have M:La o=La (rS l (lx (La jy.B)) k):=by
  have O:La o=La ((rT l<|jy.d_ k).map dO):=jL (ab _)<|jx (J ..)<|jx (ab ..) U;have P:Le (((lx (La jy.B)).filter λb=>ba<|k∈b).map _):=cc.b<|dW (λQ y R q=>by refine jU ((n _).a (ar.a Q).1) λh d S=>?_;subst S;obtain⟨ζ,W,rfl⟩:=(n _).a (ar.a y).1;exact R<|QG r d W q)<|ev _ zZ;have p:∀v,v∈(rT l<|jy.d_ k).map dO↔v∈((lx (La jy.B)).filter λb=>ba<|k∈b).map _:=λv=>by
   rw[am,am];constructor;.rintro⟨η,X,rfl⟩;exact li ((CI r u).a (z1 X).2) λh d i q=>jO _ (ar.b ⟨(n _).b ⟨h,d,U⟩,aD i⟩) q.b
   .rintro⟨b,s,rfl⟩;have t:=ar.a s;refine jU ((n _).a t.1) λh d Z=>?_;subst Z;exact jO _ (ar.b ⟨(CI r u).b<|kT h d (aF t.2) U,aD U⟩) U
  simp only[O,cC (Gi.a λv c=>(p v).a c)<|P.a λv c=>(p v).b c,rS,ab,ab]
 have D:∀f∈o,∃h∈jy.B,k∈jy.A h/\f.1=kI _/\∃p,f.2=.A (.B p)/\g (.B p)=V (.A _):=λf m=>by refine ka λz=>?_;obtain⟨v,α,β,p,γ,δ⟩:=w.E f m;refine li ((CI r u).a α) λh d i ε=>?_;subst ε;exact z<|⟨h,d,i,β,p,γ,δ.a<|jx (abV r d i) U⟩
 have E:∀{j:jF}{F:List jD},g j=V (.A<|F.map jG)->yF g (.A j)=aj/\kP (.A j)=ah:=λ{j F} q=>⟨by show(q' _).elim ah oy=aj;exact jx q<|oA _,U⟩;refine⟨(az ..).mpr ⟨aE.b M,bc.b λf m=>?_⟩,ah,λf m=>m.a (λm=>?_) λm=>?_⟩;.refine ka λz=>?_;obtain⟨h,d,i,G,p,A,B⟩:=D f m;apply z;have H:=QH (k:=k) r d λb=>(n b).a;rw[aC ⟨(n _).b ⟨h,d,U⟩,i⟩]at H;show(kj _ f.1).elim ah _=aj;simp only[G,H,A];show(q' _).elim ah (λθ=>(q' _).elim ah λι=>ba _)=aj;exact jx B<|jx (C _ ((n _).b ⟨h,d,U⟩) i)<|aD U
 .obtain⟨h,d,i,G,p,A,B⟩:=D f m;exact jx A<|E B
 .exact li (y f m) λh d i q=>jx q<|E<|C _ ((n _).b ⟨h,d,U⟩) i
end
section
variable{c:Nat}{h:jD}{n:jF}{o:jH}{s:Lt (jA×jA)}
abbrev abX:Lt kb:=[.A (.A 24)<|.B (.C (.B (.C (.B Jj 19) KS) 10)<|.c_ JX) 16,.B (.D .NotEq (.k_ 4 [(3,24)] Jb (.H JZ [.C Jg Jb]) Jr (.A 24) []) Qf) [.G<|.b_ ah] []]
def abY(D:kz jy.D l)(K:or l f S x)(L:ob x)(u:pm l x (La jy.B) e T)(o:kY k)(r:∀b m,g (.A b m)=T (.A b m)):Internal.jY d a (lV (λg:jC=>(∀b m,g (.A b m)=T (.A b m))/\(R=0\/lD g)) (λg=>(rQ i c e,g)) j) (kt abX .A) [] ((rQ i c e).A 9<|jG k) g:=ka λM=>by
 have E:=u.A.A λb m w=>r b m;have q:=K.E E;have F:=L.A E;have y:=pF o;have G:=FG o<|al (La jy.G);have N:=ql q.B.I<|jx (ax)<|jx (bp (show jy.E k<jz.B from y.2)) U;have O:mY (.A<|.A 23 [jy.E k]) (.B (-1)) g=V (kK<|jy.d_ k):=(Bh<|q.B.a_ y.2).a (by exact jx (show jz.A _=jy.G from u6 o)<|Ot ((ab ..).a bX) (by simp only[ax,bp<|bN _];rfl));have z:=q.C.A (jy.d_ k)<|G;have P:(qp (u8 l)<|jy.d_ k).map (·.1)=((rT l<|jy.d_ k).map dO).map kI:=by simp only[qp,rT,bY,bY];rfl
 refine M<|jN λA=>A q.B.G (F.C o) N (q.B.D y.2) O (q.B.C G) .B<|pv.A λb=>abv (i:=(rT l<|jy.d_ k).map dO) (j:=kI) (t:=kI) (z2 l (jy.d_ k) (.B _) g) (IC z) (pR _) jB (mb b) ⟨jS ..,b.C,λw w=>U,U,λγ Q=>a' Q ac⟩ (λs H p n=>?_) (λs H v p n t=>?_) (λs p n=>?_)<|jN λc=>c lp;.exact jL P<|Mq ((n.A ..).a z) H
 .refine jU (am.a<|aa t) λW X B=>?_;subst B;have C:=z1 X;have m:=ne ((n.A ..).a z) U<|zd.a<|aC C.2;exact jN λc=>c<|lj U U<|jN λc=>c jV.C m .A (jX.F (.B<|(n.A ..).a<|q.C.B _ C.2)<|aZ (no<|uU ..) jB)<|n.F t C.2<|aX (aw (ab dO).b)<|aX (Gi.a λv t=>by refine jU (am.a t) λW Z B=>?_;subst B;exact li ((CI D o).a (z1 Z).2) λh α _ r=>am.b<|jO h α r.b)<|pk<|v9
 .simp only[ab]at n;have J:=abW D o u ⟨n.B,n.C,λb m=>(n.A b m).a<|r b m,n.D,n.E⟩;have β:=F.A λb m w=>n.A b m;exact jN λA=>A (β.D o) .A ((jW.b_ n.B ((n.A ..).a<|(r ..).a<|u.F k o) J.2).A (aB (!·) J.1)) .A<|lh p ⟨λb m=>(n.A b m).a<|r b m,.inr n.C⟩ (lE U|>.C U) U
end
def x3(b:Lt jH):Nat×Lt jD×Nat:=eT (motive:=λc=>Nat×Lt jD×Nat) (0,[],0) (λa d c=>if a.1=0 then(a.2,[],0)else if a.1<=jy.J then(a.2+1,Ll (min a.2 2)<|jy.L a.1,if a.2=3 then a.1 else 0)else(5,(a::d).map λe=>jy.M e.1,a.2)) b
def pI(a:j')(b:Nat):Nat×Lt jD×Nat:=x3<|a.B b
section
variable{c:jD}{d:Lt jH}{e:Nat×Lt jD×Nat}
def x4(a:o∈jy.C):x3 ((o.1,f)::d)=(f+1,Ll (min f 2)<|jy.f_ o.2,if f=3 then o.1 else 0):=(aA (rO a).1).a<|(aC (rO a).2).a<|jx (show jy.L (o.1,f).1=jy.f_ o.2 from rp a) U
theorem QJ(f:c∈jy.B):x3 (jy.K c)=(2,[c],0):=by revert c;apply pJ;generalize pn=c;intros;refine jU (ph.a f) λo g h=>?_;have a:o∈jy.C.filter λo=>ba<|o.2.1=c:=ar.b ⟨g,aD h⟩;unfold jy.K;cases b:jy.C.filter λo=>ba<|o.2.1=c with|nil=>rw[b]at a;exact a' a ac|cons w d=>have e:=ar.a (jx b ae:w∈jy.C.filter λo=>ba _);exact(x4 e.1).a<|aF e.2▸U
theorem QK(g:k∈jy.A c):x3 (jy.a_ c k)=(3,[c,k],0):=by revert k c;apply od;generalize lX.1=k,lX.2=c;intros;refine jU (tT.a g) λo h i=>?_;have a:o∈jy.C.filter λo=>ba<|o.2.1=c/\o.2.2.1=k:=ar.b ⟨h,aD i⟩;unfold jy.a_;cases b:jy.C.filter λo=>ba<|o.2.1=c/\o.2.2.1=k with|nil=>rw[b]at a;exact a' a ac|cons w d=>have e:=ar.a (jx b ae:w∈jy.C.filter λo=>ba _);have f:=aF e.2;exact(x4 e.1).a<|f.1▸f.2▸U
def Gj(h:c∈jy.B):x3 (jy.b_ (jy.A c) f)=(5,jy.A c,f):=by refine jU (ph.a h) λo i j=>?_;have b:=j▸qt i;have d:(jy.b_ _ f).map (λl=>jy.M l.1)=jy.A c:=(bY ..).a<|(fb λk m=>pG<|mq m).a<|List.map_id _;cases a:jy.A c with|nil=>rw[a]at b;exact a' b ac|cons k e=>have g:=ss (pF<|mq (jx a ae:k∈jy.A c)).1;rw[a]at d;exact(aA g.1).a<|(aA g.2).a<|aB (λe=>(5,e,f)) d
variable(g:kz jy.D l)
include g
def rr(a:mK W)(b:x3 W=e):pI l (Lk W l.A)=e:=(aB _ (n4 g a).2).a b
def CJ(i:c∈jy.B)(h:k∈jy.A c)(e:a∈zW l c k):((pI l a).1=3\/(pI l a).1=4)/\(pI l a).2.1=[c,k]:=by
 rcases ao.a e with j|e;.exact jx j<|jx (rr g (.B i h)<|QK h) ⟨.inl U,U⟩
 .refine jU (bV.a e) λo m b=>?_;have d:=t5 m;unfold qa at b;by_cases f:o.2.2.2=Y;.rw[aC f]at b;exact a' b ac
  .rw[aA f]at b;exact jx (ak.a b)<|jx (rr g (.D d.1 f)<|x4 d.1) ⟨.inr U,d.2.1▸d.2.2▸U⟩
def Gk(d:c∈jy.B)(e:a∈wf l c):(2<=(pI l a).1/\(pI l a).1<=4)/\(pI l a).2.1.head?=V c:=by
 rcases ao.a e with b|e;.exact jx b<|jx (rr g (.A d)<|QJ d) ⟨⟨al 2,(by decide:2<=4)⟩,U⟩
 .refine jU (bV.a e) λk h i=>?_;have f:=CJ g d h i;exact jx f.2 ⟨f.1.a (λb=>⟨aX (by decide:2<=3)<|aw b.b,aX (aw b) jB⟩) λb=>⟨aX (by decide:2<=4)<|aw b.b,aw b⟩,U⟩
def Gl(b:c∈jy.B)(d:a∈n5 l (jy.A c)):(pI l a).1=5/\(pI l a).2.1=jy.A c:=by refine jU (am.a d) λf e h=>?_;subst h;exact jx (rr g (.E b<|bj.a e)<|Gj b) lp
def QL:Le (oc l<|lx (La jy.B)):=by
 have w:=(aB _ (s3 g).b).a<|rr g .C U;have x:=rr g .F U;have y:∀{i},i∈jy.B.flatMap _->2<=(pI l i).1/\(pI l i).1<=4:=λr=>(bV.a r).a λc e=>(Gk g e.1 e.2).1;have z:∀{f:Nat},2<=f/\f<=4->f≠0/\f≠1/\f≠5:=λr=>⟨λd=>a' (d▸r.1) jB,λd=>a' (d▸r.1) jB,λd=>a' (d▸r.2) jB⟩;have F:(jy.B.flatMap<|wf l).Pairwise λm i=>pI l m≠pI l i:=fE.b ⟨λc n=>db.b ⟨λi a=>(bV.a a).a λk e=>?_,fE.b ⟨λk u=>db.b ⟨λi a=>?_,fE.b ⟨λo v=>?_,?_⟩⟩,?_⟩⟩,?_⟩;.
  have G:((lx (La jy.B)).flatMap<|n5 l).Pairwise λm i=>pI l m≠pI l i:=fE.b ⟨λb s=>(td s).a λc e=>cc.b<|gJ.imp_of_mem λ{m i} h a p d=>?_,zZ.imp_of_mem λ{b Q} s H p m h i a d=>(td s).a λc e=>(td H).a λI A=>?_⟩;.
   have J:∀m∈xU l,∀i∈(lx (La jy.B)).flatMap _,pI l m≠pI l i:=λm h i a d=>by
    refine jU (bV.a a) λb s a=>jU (td s) λc n K=>?_;subst K;have e:=(aB ca d).a (Gl g n a).1;rcases ao.a h with j|h;.rw[j,w]at e;cases e
    rcases ao.a h with j|h;.rw[j,x]at e;cases e
    exact(z<|y h).2.2 e
   have L:=db.b ⟨λi a d=>by
    rcases ao.a a with j|a;.rw[j,w,x]at d;cases d
    .rw[w]at d;exact(z<|y a).1 (aB ca d).b,db.b ⟨λi a d=>(z<|y a).2.1<|(aB ca d).b.a<|aB ca x,F⟩⟩;exact(fU.b<|lj L G J).imp λr d=>r<|aB _ d
  .rw[<-e.2]at d;simp only[rr g (.E e.1<|bj.a h)<|Gj e.1,rr g (.E e.1<|bj.a a)<|Gj e.1]at d;exact p (eO (aB (·.2.2) d))
  .rw[<-e.2]at h;rw[<-A.2]at a;exact p (e.2.b.a ((Gl g e.1 h).2.b.a ((aB (·.2.1) d).a<|(Gl g A.1 a).2.a A.2)))
 .intro d;have t:=(aB ca d).b.a<|aB ca<|rr g (.A n)<|QJ n;exact(CJ g n e.1 e.2).1.a (λj=>a' (j.b.a t) jB) λj=>a' (j.b.a t) jB
 .intro d;refine jU (bV.a a) λo v a=>ug (t5 v) λE R=>?_;have t:=(aB ca d).b.a<|aB ca<|rr g (.B n u)<|QK u;unfold qa at a;by_cases j:o.2.2.2=Y;.rw[aC j]at a;exact a' a ac
  .replace a:=kg (aA j) a;rw[ak.a a,rr g (.D E j)<|x4 E]at t;cases t
 .unfold qa;split;.exact .nil
  .exact cD ..
 .refine(ev _ FD:Le (we c k)).imp_of_mem λ{o M} v N p m h i a d=>p ?_;have B:=t5 v;have C:=t5 N;unfold qa at h a;by_cases j:o.2.2.2=Y;.rw[aC j]at h;exact a' h ac
  by_cases D:M.2.2.2=Y;.rw[aC D]at a;exact a' a ac
  rw[aA j]at h;rw[aA D]at a;rw[ak.a h,ak.a a,rr g (.D B.1 j)<|x4 B.1,rr g (.D C.1 D)<|x4 C.1]at d;exact Fy B.1 C.1 (aB (·.2.2) d)
 .exact F6.imp_of_mem λ{k q} u O p m h i a d=>p (an (an ((CJ g n u h).2.b.a ((aB (·.2.1) d).a (CJ g n O a).2))).2).1
 .exact F'.imp_of_mem λ{c I} n P p m h i a d=>p (aY ((Gk g n h).2.b.a ((aB (·.2.1.head?) d).a (Gk g P a).2)))
def CK:m∈oc l (lx (La jy.B))↔m<La l.A:=by
 constructor;.
  intro a;rcases bR.a a with a|a;.
   rcases ao.a a with h|a;.exact jx h<|jL (s3 g)<|oI g .C
   rcases ao.a a with h|a;.exact jx h<|oI g .F
   refine jU (bV.a a) λc d a=>?_;rcases ao.a a with h|a;.exact jx h<|oI g<|.A d
   refine jU (bV.a a) λk j a=>?_;rcases ao.a a with h|a;.exact jx h<|oI g<|.B d j
   refine jU (bV.a a) λo i a=>?_;unfold qa at a;by_cases n:o.2.2.2=Y;.rw[aC n]at a;exact a' a ac
   .rw[aA n]at a;exact jx (ak.a a)<|oI g<|.D (t5 i).1 n
  .refine jU (bV.a a) λb s a=>?_;obtain⟨c,d,rfl⟩:=td s;exact(QI g d a).1
 .intro a;have q:=zM g<|aq a;have p:∀{c r},c∈jy.B->r∈wf l c->r∈oc l (lx (La jy.B)):=λd t=>bM _<|af _<|af _<|bV.b<|jO _ d t;have e:∀{W},mK W->Lk W l.A∈oc l _:=λ{W} u=>by cases u with|C=>rw[s3 g];exact bM _ ae|F=>exact bM _<|af _ ae|A d=>exact p d ae|B d j=>exact p d<|af _<|bV.b<|jO _ j ae|@D o i v=>exact p (p9 i)<|af _<|bV.b<|jO _ (qt i)<|af _<|bV.b ⟨o,ar.b ⟨i,aD lp⟩,by rw[qa,aA v];exact cX _⟩|@E c f d w=>exact bP _<|bV.b ⟨jy.A c,zY.b<|jO c (jx bI d) U,am.b<|jO f (bj.b w) U⟩
  exact kg q.2<|e q.1
def QM:La (oc l<|lx (La jy.B))=La l.A:=kg (bX (n:=La l.A))<|cC ((QL g).a λm a=>bj.b<|(CK g).a a)<|gJ.a λm a=>(CK g).b<|bj.a a
end
def rU(a:Nat×Nat×Nat):jA:=.E [kI a.1,kI a.2.1,kI a.2.2]
section
variable{b:Nat}{c:jD}{h j:jF}{n:jP}{o:kb}
def jX.e_(c:g h=V (.A O))(e:La O<2\/∃m b,O=[.E (.B m::b),.E (.B m::b)]/\b.all kP=aj):jX (.builtin "sorted") [.A h] d a g (.A<|.B<|mH g)<|ks g<|.A O:=.E λf=>⟨λi=>⟨VG c e (mb f) i⟩⟩
def abZ[DecidableEq u]{a:Lt u}{h:u->Lt ι}{c:u}(e:Le a)(b:∀d∈a,d≠c->h d=[]):a.flatMap h=if c∈a then h c else[]:=by
 induction a with
 |nil=>exact(aA ac).b|cons d k l=>
  have e:=cQ.a e;refine jx fx<|jx (l e.2 λf m=>b f<|af _ m) ?_;by_cases i:d=c;.subst i;exact jx (aA e.1)<|kd (aC ae)<|jx (bQ ..) U
  .simp only[b d ae i,gX];by_cases g:c∈k;.rw[aC g,aC<|af _ g]
   .rw[aA g,aA λj=>g<|(ao.a j).b λj=>i j.b]
open Classical in theorem QN(m:kz jy.D l):∃h b,La jy.l_=h/\((lx (La jy.B)).flatMap (ua l)=(nO l (lA l<|mG l) (La l.A)).map rU)/\(nO l (lA l<|mG l) (La l.A)=dS h (b,jy.E jy.F,jy.E jy.I)\/nO l (lA l<|mG l) (La l.A)=[]):=by
 revert l;apply pJ;generalize pn=l;intros;have j:[jD.A,.B]∈lx (La jy.B)↔∃c∈jy.B,jy.A c=[.A,.B]:=zY.c (by rw[bI]);have k:=aaw m;have b:∀c∈jy.B,ua l _=if jy.A c=[.A,.B]then dS (La jy.l_)<|rU (oJ l [.A,.B],jy.E jy.F,jy.E jy.I)else[]:=λc d=>by
  rw[ua,abz d];by_cases a:jy.A c=[.A,.B];.exact jx (aC a)<|kd (aC a)<|jx fp<|jx a U
  .exact kd (aA a)<|jx (aA a) U
 have e:=abZ (h:=ua l) (zZ (m:=La jy.B)) λp n o=>(td n).a λc g=>jL g.2<|jx (b c g.1)<|jx g.2<|jx (aA o) U;refine lP _ (oJ l [.A,.B]) U ?_ ?_;.
  simp only[e,k];by_cases a:∃c∈jy.B,jy.A c=[.A,.B];.exact jx (aC<|j.b a)<|jx (aC a)<|kd fp<|jU a λc d a=>(a▸b c d).a<|aC U
  .exact jx (aA λe=>a<|j.a e)<|jx (aA a) U
 .refine jx k ?_;split;.exact .inl U
  .exact .inr U
open Classical in def ab0:La jy.l_<=2:=by
 have i:Le jy.l_:=(by decide:re.Nodup).b cZ;have g:La ((jy.l_.map λw=>(jD.A,w))++jy.l_.map λw=>(jD.B,w))<=La (jy.H.map λa=>(a.2.1,a.2.2.getD .C)):=by
  refine ae2 (fU.b ⟨cc.b<|i.imp λh d=>h (bf d).2,cc.b<|i.imp λh d=>h (bf d).2,λg o j p d=>?_⟩) λB e=>?_;.obtain⟨w,_,rfl⟩:=am.a o;obtain⟨C,_,rfl⟩:=am.a p;exact a' (bf d).1 jB
  .have l:∀{k w},jy.g_ [.A,.B] k w->(k,w)∈jy.H.map λa=>(a.2.1,a.2.2.getD .C):=λq=>q.a λc r=>r.elim λD s=>s.elim λt u=>u.a λv x=>x.elim λy z=>z.elim λt A=>A.elim λj f=>am.b ⟨v.2,mx y,bt j f.b⟩;have m:∀{w},w∈jy.l_->jy.g_ [.A,.B] .A w/\jy.g_ [.A,.B] .B w:=λb=>aF (ar.a b).2;rcases bR.a e with e|e<;>obtain⟨w,n,rfl⟩:=am.a e;.exact l (m n).1
   .exact l (m n).2
 simp only[bH,ab,ab,ab]at g;have:=kO.E;exact cb.a λf=>a' (aX (bv f f)<|aX g this) jB
theorem ab1(i:kz jy.D l):(La ((nO l (lA l<|mG l) (La l.A)).map rU)<2\/∃m b,(nO l (lA l<|mG l) (La l.A)).map rU=[.E (.B m::b),.E (.B m::b)]/\b.all kP=aj)/\(∀c∈nO l (lA l<|mG l) (La l.A),c.2.1<jz.B/\c.2.2<jz.B)/\oy ((nO l (lA l<|mG l) (La l.A)).map rU)=aj:=by
 revert l;apply pJ;generalize pn=l;intros;have f:kY jy.F/\kY jy.I:=⟨zX ae,zX<|af _ ae⟩;have g:∀h:List _,oy (h.map rU)=aj:=λh=>bc.b λq j=>(am.a j).a λc k=>jL k.2 U;refine ka λn=>mr (QN i) λd r o _ a=>n ?_;rcases a with a|a<;>rw[a];.
  refine⟨?_,λc e=>?_,g _⟩;.
   refine jx fp ?_;have p:=o▸ab0;rcases d with _|_|_|d;.exact .inl<|aZ (aw jc) jB
   .exact .inl<|aZ (aw jc) jB
   .exact .inr<|ms _ [kI _,kI _] U U
   .exact a' p<|Nat.not_le.b<|cM 3 d
  .exact((List.mem_replicate.a e).2)▸⟨(pF f.1).2,(pF f.2).2⟩
 .exact⟨.inl jB,λc e=>a' e ac,g _⟩
def QO:La jy.B<=3:=show _<=La m0 from F'.a λc b=>(ph.a b).a λd a=>kg a.2<|kO.C _<|mx a.1
def ab2(f:kz jy.D l):La l.A<64:=by refine jL (QM f) ?_;have g:La (jy.B.flatMap<|wf l)<=11*3:=qZ (λc a=>bb<|qZ (λk h=>F7)<|(show∀c∈jy.B,La (jy.A c)<=2 from λc a=>by rcases FS a with d|d|d<;>rw[d]<;>decide) c a)<|QO;have i:La ((lx (La jy.B)).flatMap<|n5 l)<=2*3:=qZ (λj h=>jx z0 CF)<|aX (zZ.a λj b=>(td b).a λc e=>am.b<|jO c e.1 e.2)<|pk<|QO;simp only[oc,bH];show La (jy.B.flatMap _)+1+1+_<64;exact aZ (bv (bC (bC g 1) 1) i) jB
end
section
variable{b:Nat}{h:jD}{n o:jF}
def ab3(n:Lt Nat):n.map kI=(n.map λv:Nat=>(v:Int)).map jA.B:=(bY ..).b
def QP(b:Le c):Le (c.map λv:Nat=>(v:Int)):=cc.b<|b.imp λa d=>a<|dH d
def QQ{a:Lt jA}{c:gh}(d:lD g)(f:O=a)(R:oy a=aj)(h:c=.Eq/\ε=aj\/c=.NotEq/\ε=ah):jW c (.A<|.B<|mH g) (.A<|.B<|mH<|ks g<|.A O) (ks (ks g<|.A O)<|.A a) ε:=by
 subst f;rcases h with⟨b,e⟩|⟨b,e⟩<;>subst b<;>subst e;.exact(jW.a_ (xT d) (jS ..) R R).A<|aD U
 .exact(jW.I (xT d) (jS ..) R R).A<|aG λi=>i U
def ab4(z:kz jy.D l)(c:or l f S g)(k:lD g)(A:g K2=V (.A<|(nO l (lA l<|mG l) (La l.A)).map rU))(B:∀C g,j (.B<|.F aj) C g):Internal.jY d a j (kt (Lm 23 nX) .A) [] (rQ i b e) g:=ka λD=>by refine wi (ab1 z) λn q E=>?_;have o:(nO l _ (La l.A)).filterMap (λh=>V _)=(nO l (lA l<|mG l) (La l.A)).map rU:=aN ez _;have r:nw (.A JS<|.d_ 4 [] (.M [Jb,.B Jc 2,.B Jg 2]) (.B [Jr,Jv,Jo]) (.B Ji 41) []) d a _ g _<|jE g (.B _)<|.A<|(nO l _ (La l.A)).filterMap λh=>V<|rU h:=nw.A (λs s=>(λb=>by have t:=an<|jA.E.inj b;have u:=an t.2;have v:∀{w R:Nat},ln w=ln R->w=R:=λb=>(an (jF.A.inj<|jA.A.inj b).2).1;exact bt (sd.a t.1)<|bt (v u.1)<|v (an u.2).1)) jB (yV (jN λb=>b c.A.A lp:nB (.B Ji 41) d a (rQ i b e) g λF p=>F=.A KU/\p=g)<|vz c.F) (pR _) (λG m=>sO c.F m) (mb k) (aZ (aX (aw (ab rU).b)<|n.a (λb=>cg<|cH b) λI=>te I λ_ _ o _=>jx o<|al 2) jB) λG h x=>kT _ U U<|nC<|jN λb=>b (c.B.D (q h x).1) (c.B.D (q h x).2) lp;rw[o]at r;have y:lD<|ks g<|.A<|(nO l (lA l<|mG l) (La l.A)).map rU:=k.A;exact D<|jN λJ=>J .A r c.A.A (.B _) (λs=>mb y) ((jW.a_ (d:=ks (ks g<|.A<|(nO l (lA l<|mG l) (La l.A)).map rU)<|.A []) (X:=.A 36 []) c.G (jS ..) U U).A<|aD U) .A U jV.C .A (jX.e_ (xT k) n) jV.C .A (jX.e_ A n) (QQ y.A U E<|.inl lp)<|B ..
def ab5(e:kz jy.D l)(k:or l f S g)(o:lD g)(q:g (.A R c)=V (.A<|(oc l<|lx (La jy.B)).map kI))(z:g K2=V (.A<|(lx (La jy.B)).flatMap<|ua l))(r:∀C g,j (.B<|.F aj) C g):Internal.jY d a j (kt (Lm 22 nX) .A) [] (rQ i b<|.A R c) g:=ka λD=>by
 refine mr (QN e) λN O _ E _=>?_;rw[E]at z;rw[ab3]at q;have A:=QP<|QL e;have s:=(ab λv:Nat=>(v:Int)).a<|QM e;have w:=ab2 e;have F:=PJ ((PH _).trans ((iF A<|QP gJ).b λm=>by rw[am,am];exact⟨λG=>G.a λv H=>H.elim λR x=>jO v (bj.b<|(CK e).a R) x,λI=>I.a λv J=>J.elim λR x=>jO v ((CK e).b<|bj.a R) x⟩))<|PI _;have B:lD<|ks g<|.E<|((oc l<|lx (La jy.B)).map λv:Nat=>(v:Int)).map jA.B:=o.A;have K:∀{p},(∀o c,p (.A o c)=g (.A o c))->pu p (.A Ku) (((be (La l.A)).map λv:Nat=>_).map jA.B):=λ{p} y=>by have t:=pu.A<|(y ..).a k.A.G;simp only[oG,bY]at t;exact kd bY t
 exact D<|jN λL=>L jV.B jV.F .A (jX.k_ q A (λy=>by rw[y]at s;exact a' s<|bF<|aZ (bT _)<|oI e .C) (br (s▸w) jB)<|mb o) .A (jX.L<|jS ..) jV.B .A (jX.D q) .A (show∀{g m},jW .NotEq (.B m) (.B m) g ah from λ{g m}=>(jW.G U U).A<|aG λr=>r U) jV.C .A (jX.d_ (.B q)<|s▸w) jV.C k.A.A .A (jX.d_ (K λu u=>U)<|((ab ..).a bX).b▸w) .A (QQ B (aB (ey jA.B) F) ((λn=>bc.b λP M=>(am.a M).a λh t=>jL t.2 U) _)<|.inr lp) jV.B k.A.A .A (jX.g_ k.A.I) jV.B .A (jX.D q) .A (show∀{g},jW .NotEq (.B (La (oG 66 (La l.A)))) (.B (La (((oc l _).map λv:Nat=>_).map jA.B))) g ah from λ{g}=>(jW.G U U).A<|aG λr=>r<|aB (λa:Nat=>jA.B a)<|((ab ..).a bX).a<|s.b.a (ab ..).b) .B<|ab4 e (k.D λu u u=>U) B.A.A z r
end
section
variable{b:Nat}{h:jD}{n o:jF}
def ab6(u:kz jy.D l)(v:or l f S x)(w:ob x)(o:pm l x (La jy.B) e g)(t:∀y g,j (.B<|.F aj) y g):Internal.jY d a j (kt (Lm 21 nX) .A) [] (rQ i b e) g:=by obtain⟨q,n,c⟩:∃q n,e=.A q n:=o.E.a (λc=>m4 _ _ c) λz=>z.a λE A=>A.elim λr c=>m4 _ _ c;subst c;exact(ka λB=>by exact B<|jN λC=>C .B<|nT (λm p=>(∀s n,p (.A s n)=g (.A s n))/\(m=0\/lD p)) (λr p=>(rQ i b<|.A q n,p)) g ⟨λr r=>U,.inl U⟩ (.A _) U (λm p c=>(c.1 ..).a (w.A o.A).G) (λm p k c D=>abY (R:=m+1) (i:=i) (c:=b) (e:=.A q n) u v w o (P1 D).1 c.1) λp c=>ab5 u (v.E<|o.A.A λs n r=>c.1 s n) (c.2.b λt=>a' ((P4).b.a t) jI) ((c.1 ..).a o.D) ((c.1 ..).a o.G) t)
def x5(b:a≠15\/c=[]):q0 x (.A a c)=x (.A a c):=by
 have d:∀{e},jF.A a c≠.A 15 [e]:=λ{e} f=>b.a (λb=>b (jF.A.inj f).1) λb=>a' (b.b.a (jF.A.inj f).2) jB;have g:t9 x (.A a c)=x (.A a c):=jQ _ _ d;unfold q0;cases jy.e_;.exact g
 .exact(jQ _ _ d).a g
def ab7:q0 x J9=V (.B<|lq lW<|qb 2):=by
 have a:t9 x J9=V (.B _):=jS ..;unfold q0;cases jy.e_;.exact a
 .exact(jQ _ (.A<|[jy.F,jy.I].map jG) P2.a).a a
def ab8(b:x Km=V (.A<|jy.c_.map jG)):q0 x rq=V (.A<|[jy.F,jy.I].map jG):=by
 have a:=P5;unfold q0 rq;cases c:jy.e_;.rw[c]at a;exact(jQ x (.B<|lq lW<|qb 2) Gc).a<|jL (show jy.c_=[jy.F,jy.I] from a) b
 .exact jS (t9 x) Qm _
def ab9:w3 jy:=λd a T i b o y p s t q u z A B C D=>by
 have k:∀{c R},sq c=aj->sq R=ah->c≠R:=λb r m=>av<|r.b.a<|m▸b;have n:∀{c},23<=c->∀R,R<23->c≠R:=λb R E=>bi<|au E b;have v:∀{g},q0 o (.A 52 g)=o (.A 52 g):=x5<|.inl jB;have F:∀{c g},c=17\/c=18->q0 o (.A c g)=Y:=λ{c g} b=>by have h:∀R,R≠17->R≠18->c≠R:=λR G H m=>b.a (λb=>G<|m▸b) λb=>H<|m▸b;exact(x5<|.inl<|h _ jB jB).a<|p (h _ jB jB) (h _ jB jB) (h _ jB jB) (h _ jB jB) (jJ<|h _ jB jB)<|h _ jB jB
 exact abk y (λc g b=>p (k b U) (k b U) (k b U) (k b U) (jJ<|k b U)<|k b U) (λc g b r=>p (n b _ jB) (n b _ jB) (n b _ jB) (n b _ jB) (jJ<|n b _ jB) r) s (λW I=>p jB jB jB jB (λm=>bi I (an (jF.A.inj m).2).1) jB) λX J=>abn J t q u C.b λZ K=>abo K q u λα L=>abt L (v.a A) (v.a B) λl f S M w N j=>abU w N ((j _ _ U).a<|(x5<|.inl jB).a s) ((j _ _ U).a<|(x5<|.inl jB).a t) ((j _ _ U).a<|(x5<|.inr U).a q) ((j _ _ U).a ab7) ((show M _=q0 o _ by unfold rq;cases jy.e_<;>exact j _ _ U).a<|ab8 q) (λc g b=>(j _ _<|b.a (λb=>b▸U) λb=>b▸U).a<|F b) (λβ γ=>(j _ _ U).a<|(x5<|.inl jB).a z) λx e δ O P Q=>ab6 w O P Q D
def ab'(b:lD g)(p:d.A.IsList β (Lc y))(q:gs y t)(r:La t<=63)(h:∀b c,b≠52->g (.A b c)=Y)(s:g Ky=V (.D 391 #[]))(u:g Kz=V (.D 398 #[]))(v:∀w g,j (.B<|.F aj) w g):Internal.jY d (a+11) j (kt nX .A) [] (lv [.G<|.ref β]) g:=abd b p q r (h _ _ jB) λT K i x=>abe ((i _ _ jB).a<|h _ _ jB) ((i _ _ jB).a<|h _ _ jB) λL k z A=>abf ((k _ _ (jJ jB)<|jJ jB).a x) (λc=>(k _ _ (jJ jB)<|jJ jB).a<|(i _ _ jB).a<|h _ _ jB) ((k _ _ (jJ jB)<|jJ jB).a<|(i _ _ jB).a<|h _ _ jB) λB M C D E m F G=>by have R:∀{b c},b≠13->jF.A b c≠.A 14 []->jF.A b c≠.A 15 []->jF.A b c≠.A 16 []->jF.A b c≠.A 16 [1]->jF.A b c≠nf 0->B (.A b c)=g (.A b c):=λ{b c} β n f l H e=>(m _ _ β l H e).a<|(k _ _ n f).a<|i _ _ β;exact WB ab9 (aa8 C D E) _ _ _ _ _ _ G (λ{b c} β n f l e I=>(R β (jJ n) (jJ f) (jJ l) (jJ l) e).a<|h _ _ I) F ((m _ _ jB (jJ jB) (jJ jB)<|jJ jB).a z) ((m _ _ jB (jJ jB) (jJ jB)<|jJ jB).a<|A.a<|jx aa9 U) (λ{o}=>(R (b:=15) (c:=[o]) jB (jJ jB) (λe=>nomatch(jF.A.inj e).2) (jJ jB) (jJ jB)<|jJ jB).a<|h _ _ jB) (λ{J o}=>(R (b:=16) (c:=[J,o]) jB (jJ jB) (jJ jB) (λe=>a' (jF.A.inj e).2 jB) (λe=>nomatch(an (jF.A.inj e).2).2)<|jJ jB).a<|h _ _ jB) ((R jB (jJ jB) (jJ jB) (jJ jB) (jJ jB)<|jJ jB).a s) ((R jB (jJ jB) (jJ jB) (jJ jB) (jJ jB)<|jJ jB).a u) U v
end
section
set_option maxHeartbeats 4000000
open Classical in def x6:ke:=λa=>if a=.A 52 [0]then V (391,391)else if a=.A 52 [1]then V (398,398)else Y
open Classical in def wh:jC:=λa=>if a=.A 52 [0]then V<|.D 391 #[]else if a=.A 52 [1]then V<|.D 398 #[]else Y
def CL{b:bk×bk}(a:x6 e=V b):(e=.A 52 [0]/\b=(391,391))\/(e=.A 52 [1]/\b=(398,398)):=by
 unfold x6 at a;split at a;.obtain rfl:=aY a;exact .inl ⟨‹_›,U⟩
 .split at a;.obtain rfl:=aY a;exact .inr ⟨‹_›,U⟩
  .exact kh a
def aca(a:wh e=V N):(e=.A 52 [0]/\N=.D 391 #[])\/(e=.A 52 [1]/\N=.D 398 #[]):=by
 unfold wh at a;split at a;.obtain rfl:=aY a;exact .inl ⟨‹_›,U⟩
 .split at a;.obtain rfl:=aY a;exact .inr ⟨‹_›,U⟩
  .exact kh a
def QR b:wh (.B b)=Y:=(aA (λa=>by cases a)).a<|aA (λa=>by cases a)
def QS:jF.A 52 [1]≠.A 52 [0]:=λa=>a' (an (jF.A.inj a).2).1 jB
def QT:wh Ky=V (.D 391 #[]):=aC U
def QU:wh Kz=V (.D 398 #[]):=(aA QS).a<|aC U
def acb:x6 Ky=V (391,391):=aC U
def acc:x6 Kz=V (398,398):=(aA QS).a<|aC U
def acd{b:dX}(c:nl=il b ti)(h:Ln b 391=V (gD #[]))(i:Ln b 398=V (gD #[])):ki ⟨[],nl,.none⟩ x6 wh b:=⟨.F _,jx c ⟨λd j a=>of_hideAll _ a,aw<|hideAll_size ..⟩,(λe j a=>by
 rcases aca a with⟨rfl,rfl⟩|⟨rfl,rfl⟩;.exact kT _ acb U h
 .exact kT _ acc U i),(λe f a=>by
 rcases CL a with⟨rfl,_⟩|⟨rfl,_⟩;.exact⟨_,QT⟩
 .exact⟨_,QU⟩),(λe o f p a k l=>by rcases CL a with⟨rfl,rfl⟩|⟨rfl,rfl⟩<;>rcases CL k with⟨rfl,rfl⟩|⟨rfl,rfl⟩<;>first|rfl|exact a' l jB),(λe f a=>by
 have g:Ln nl 391=Y:=jx c<|hideAll_none _ jB;have d:Ln nl 398=Y:=jx c<|hideAll_none _ jB;rcases CL a with⟨rfl,rfl⟩|⟨rfl,rfl⟩;.exact⟨g,g⟩
 .exact⟨d,d⟩),⟨0,λm q=>QR m⟩,λr n=>a' n jB⟩
def ace:uj lu:=λk e C D c l f g m n o p=>by have q:wO ah (.ref 476) [.G<|.ref e] ⟨⟨[],nl,.none⟩,12,lv [],wh⟩ (λh a=>h=.F aj):=Eo WG U λE F=>ab' ⟨0,λr a=>QR r⟩ (by exact jx (show nl=_ from c)<|ghost_list l n:nl.IsList e C.toArray) o p (λG H b=>(aA<|jJ b).a<|aA<|jJ b) QT QU λa a=>U;refine q callerA x6 k [.ref e] _ ⟨by show 301+12<=900;decide,by show 4+4*12<=9000;decide,λa=>U,U,[],U,U,λa b=>a' b ac⟩ (acd c f g) (lP _ _ U U U) λh I s J K t u d v=>?_;subst t;obtain rfl:s=.bool aj:=v;refine pK d.F λL M w=>?_;subst w;obtain⟨x,y⟩:=d.B.G _ _ f;exact(d.B.G _ _ g).a λz A=>m3 U (λi j B=>u.A.A i j (show Ln nl i=V j by rw[show nl=_ from c];exact B)) U m ⟨z,A⟩ ⟨x,y⟩ aH
set_option tactic.hygienic true in def acf:WalkO pq q6 (λa a=>True) (λa d=>wt d) rY.row.toRowW ru.1 ru.2 λi j=>ad8 i j:=by
 intro G H k l I e m f J K L M N O P Q R S n o T W X p q r s t;obtain⟨Z,c⟩:=m;have g:=Df c;wrow_args p q r s t;rename_i u _ _ _ _ _ _ _ v w _ x _ _ _ y _ α _;refine enter_call<|kn_post g (λa a=>U) ?_;have z:f=476:=by
  have d:=(uk (yn c.B).A).1.1;have h:l "law"=V (.ref f):=n;rcases Hl c.A e.T.g e.T.builtins _ _<|aE.a (kB (kB d).1).2 with b|⟨b,_⟩;.rw[h]at b;cases b;rfl
  .rw[h]at b;cases b
 subst z;refine codeAny_mono (RV ace (Q9 _ _ _ _ _<|HA e c) k v w u U g c.C c.D o x y<|cv λA=>a' (cY.b A) ‹_›) λβ γ B=>x7 B λC b D E F=>⟨mz (.inl<|qx (.bool aj) (.bool aj) [] C (λa=>U) ?_ ?_ λa=>⟨eU,λa d=>a' d jB⟩) b D E,F⟩;.exact .bool _
 .wrow_post
end
end
end Mine.Internal
theorem PySem.Challenge.cw_te0002_01_holds : PySem.Challenge.rw_te0002_01.Holds :=
 Mine.Internal.RC Mine.Internal.Hz (λ_ _ a b=>Mine.Internal.wt.A a b) Mine.Internal.acf
