import PyProof.Rows.All
import Wide.All
import OpenK.AllK
import Wide.FinOn
import Lean
import PySem.Challenge.RW_pg0289_01
set_option maxHeartbeats 2000000
set_option Elab.async false
set_option tactic.hygienic false
set_option linter.all false
set_option bootstrap.genMatcherCode false
set_option genSizeOf false
set_option genSizeOfSpec false
set_option genInjectivity false
set_option backward.eqns.nonrecursive false
set_option backward.eqns.deepRecursiveSplit false
set_option Elab.async false
open List renaming not_mem_nil->aA,getElem?_eq_getElem->aD,getElem?_eq_some_iff->aF,mem_singleton->aK,getElem?_map->aL,range->aN,length_map->aO,length_append->aP,getD_eq_getElem?_getD->aS,mem_of_getElem?->aU,mem_cons_of_mem->aX,mem_append->aY,getElem?_set_ne->aZ,all_eq_true->bB,mem_map->bI,mem_cons->bM,mem_cons_self->bN,lookup_cons->bO,mem_range->bQ,getElem?_append_left->bT,take_add_one->bU,getElem?_set_self->bW,map_map->cB,map_append->cD,take_length->cE,getElem?_concat_length->cF,map_cons->cG,getElem?_append_right->cI,isEmpty_iff->cJ,mem_append_left->g0A,getElem?_eq_none->g0H,getElem_mem->g0I,cons_ne_nil->g0J,mem_flatMap->g0N,getElem_of_mem->g0O,length_filter_le->g0P,length_eq_zero_iff->g0R,map_congr_left->g0V,getElem?_range->g0W,range_succ->g0Y,of_mem_zip->g0Z,eq_nil_or_concat->g1A,concat_eq_append->g1B,map_singleton->g1F,filter_append->g1G,filter_cons->g1H,nodup_cons->g1I,length_pos_of_mem->g1L,flatMap_append->g1R,cons_lt_cons_iff->g1X,length_range->g2A,flatMap_cons->g2B,append_assoc->g2C,perm_ext_iff_of_nodup->g2D,mem_iff_getElem->g2G,getElem?_zip_eq_some->g2H,length_cons->g2I,not_lt->g2J,length->g2K,getElem?_cons_succ->g2O,count_pos_iff->g2P,take_of_length_le->g2R,size_toArray->g2S,nodup_append->g2T,mapM_cons->g2X,drop_drop->g2Y,toArray->g3A,mem_append_right->g3B,getElem_map->g3G,length_eraseIdx->g3H,dropLast_concat_getLast->g3J,cons.inj->g3K,mem_filter->g3Q,forIn_cons->g3R,filter_sublist->g3S,count_cons->g3T,exists_cons_of_ne_nil->g3Y,pairwise_iff_getElem->g4E,nodup_nil->g4F,getElem?_eq_none_iff->g4G,length_erase_of_mem->g4J,count_append->g4K,nodup_range->g4P,getElem_zip->g4Q,ext_getElem->g4R,range_succ_eq_map->g4U,sum_append->g4X,length_zip->g4Y,length_filter_lt_length_iff_exists->g4Z,drop_eq_nil_iff->g5G,lt_irrefl->g5K,pairwise_cons->g5V,lt_trans->g5W,getElem_range->g5X,getElem?_inj->g6F,eraseIdx_eq_take_drop_succ->g6G,map_flatMap->g6T,length_take->g6U,le_antisymm->g6V,cons_append->g6W,map->g7E,mapM->g7H,forIn_nil->g7W,drop_eq_getElem_cons->g7X,filterMap_cons_some->g8A,all_cons->g8B,length_eq_one_iff->g8N,drop_eq_nil_of_le->g8O,take_append_drop->g8R,perm_append_comm->g8S,getD->g8T,drop->g8U,mem_of_mem_take->g8Y,length_erase_le->g8Z,getLast?_concat->g9A,count_singleton->g9B,map_id->g9J,length_reverse->g9K,mem_filterMap->g9V,getElem?_drop->g9W,findIdx?_cons->g9X,filter_filter->g9Y,pairwise_map->gAD,foldl_append->gAE,filter_congr->gAF,ext_getElem?->gAG,any_eq_false->gAH,perm_middle->gAM,length_drop->gAN,flatMap_map->gAO,count_erase->gAP,length_nil->gAT,filter_nil->gAU,append_nil->gAV,replicate->gBL,drop_zero->gBM,map_id'->gCH,any_map->gCI,filter->gCV
open Option renaming some.inj->aB,map_eq_some_iff->bP,bind_eq_some_iff->g2M,toList_some->g3U,isSome_iff_exists->g4A,getD_some->g6E,map_some->g6Q,isNone_iff_eq_none->g7G,bind_eq_bind->g8Q,map->gCG
open Nat renaming sub_add_cancel->aC,le_antisymm->aJ,eq_of_beq_eq_true->aR,le_of_ble_eq_true->aT,beq->aW,lt_of_le_of_ne->bH,le_refl->bJ,ble->bK,le_trans->bR,sub_le->bV,not_lt->cH,zero_le->cL,lt_of_lt_of_le->g0C,min_le_right->g0D,succ_pos->g0L,ne_of_beq_eq_false->g0U,le_of_lt_succ->g0X,zero_add->g1E,min_le_left->g1K,lt_succ_self->g1N,lt_succ_of_lt->g1O,ne_of_lt->g1Q,le_total->g1Y,lt_trichotomy->g2V,lt_succ_of_le->g2W,sub_eq_zero_of_le->g3D,add_assoc->g3O,le_max_left->g3V,pos_of_ne_zero->g4B,le_of_lt->g4C,le_of_eq->g4D,not_le->g4M,add_mod_right->g4N,succ_ne_self->g4S,le_of_not_lt->g4T,ne_of_gt->g5B,mul_zero->g5C,min_eq_left->g5D,add_zero->g5E,mul_le_mul_right->g5I,add_le_add_right->g5J,add_le_add->g5M,le_succ->g5Q,lt_or_eq_of_le->g5Y,lt_of_le_of_lt->g5Z,blt->g6N,mul_comm->g6R,lt_or_ge->g6S,min_eq_right->g7C,le_max_right->g7D,strongRecOn->g7N,not_lt_zero->g7O,add_mul->g7P,mul_assoc->g8M,lt_trans->g8X,le_sub_one_of_lt->g9I,mul_le_mul_left->g9S,mul_add->g9T,add_mod->g9U,eq_zero_or_pos->gAB,add_right_comm->gAC,zero_lt_of_lt->gAK,mul_mod_right->gAL,max_eq_right->gAS,max_eq_left->gBI,le_add_left->gBJ,div_add_mod->gBK,zero_mul->gCR,succ.inj->gCS,lt_asymm->gCT,add_comm->gCU,one_pos->gDP,one_mul->gDQ,mul_one->gDR,max->gDS,sub_lt->gEA,lt_min->gEB
open PySem renaming wpAny_bind->aG,Str.ofString->aM,wpAny_pure->aQ,Heap.get?_push_of_some->bS,bindArgs->bY,wpAny->cA,Addr->cK,starEach->cM,wpAny_execs_cons->g0B,Heap.get?_none_of_le->g0E,Heap.get?_push_size->g0K,mainGlobals->g0M,sizeLine_eq->g0Q,wpAny_holding->g0S,Builtin.Range.rangeSize->g0T,Obj.mapSeq->g1C,Heap.SameBut.update->g1D,wpAny_standAt->g1J,wpAny_mono->g1M,wpAny_execs_nil->g1S,Heap.lt_size->g1T,spliced->g2L,importedModules->g2U,W.keepIn->g3C,backTo->g3F,W.findIn->g3I,treeTable->g3N,assignEach->g3Z,cellsFrom->g4H,Builtin.Re.reRawNat->g4I,W.instObj->g4L,Expr.Constant.elim->g4O,compareOp->g4V,builtinsNs->g4W,Value.isStr->g5A,wpAny_call_entry->g5F,W.Frag->g5H,builtinLookup_eq_fast->g5O,Expr.Tuple.elim->g5P,wpAny_rule->g5R,PyData.eqv->g5S,recursionLimit->g6B,methodCallForm->g6C,Expr.Name.elim->g6D,wpAny_Constant_bool->g6I,wpAny_Assign_stores->g6J,slicePicked->g6K,list_getitem_lookup->g6L,Builtin.Range.small->g6M,W.typeIn->g6P,wpAny_newList->g6Z,methodCallPos->g7A,Calls.spliced_cons->g7B,wpAny_truthy_bool->g7K,sliceRange->g7L,codeAny->g7M,Heap.SameBut->g7V,wpAny_eqBool_str->g7Y,Calls.spliced_nil->g7Z,wpAny_richCompare_same_room->g8D,wpAny_of_eq->g8E,typeLookup_type->g8F,clipAt_cast->g8G,cLine->g8H,PyData.depthAll->g8I,Builtin.Str.strSliceIndices->g8J,Builtin.Range.rangeFitsLong->g8K,Builtin.List.listSubscript?->g8L,wpAny_listPart->g8V,W.hasDictIn->g8W,wpAny_call->g9E,sysModules->g9F,call_meets->g9G,Builtin.List.listTooLong->g9H,wpAny_If->g9M,swappedStores->g9N,numAt->g9O,comprehension->g9P,behindInMarks->g9Q,wpAny_Assign_Subscript->gAA,Stmt.If.elim->gAJ,wpAny_loadName_local->gAQ,Around.under_plainId->gAR,wpAny_field->gAY,standAt->gAZ,model->gBA,keywordEach->gBB,holding->gBC,W.plainOver->gBD,IsRange.new->gBE,Expr.Subscript.elim->gBF,Expr.Attribute.elim->gBG,Calls.call_len_list->gBH,wpAny_tupleItemsOf->gBQ,wpAny_isTrue_value->gBR,wpAny_getItem_list->gBS,Result->gBT,Heap.IsSliceOf.new->gBU,Builtin.Re.reRawOf->gBV,wpAny_Name->gBZ,getMethod_builtin->gCA,clipAt_nat->gCB,W.takerIn->gCC,PyData.canLayAll0->gCD,Heap.get?_push_ne->gCE,Expr.Compare.elim->gCF,wpAny_isNot_self->gCK,wpAny_askSetting->gCL,wpAny_Call_NameR->gCM,Stmt.Return.elim->gCN,Stmt.Assign.elim->gCO,Builtin.Re.reTurnSteps->gCP,wpAny_specialOf->gDB,setItem->gDC,getItem->gDD,exec_Assign_arm->gDE,delItem->gDF,codeAny_of_tree->gDG,codeAny_builtin->gDH,W.namesBound->gDI,W.looks_nsIn->gDJ,Unicode.lowerOf->gDK,Unicode.lowerAt->gDL,Expr.Slice.elim->gDM,Expr.IfExp.elim->gDN,wpAny_newTuple->gDU,wpAny_loadPart->gDV,wpAny_bindName->gDW,PyData.keyHash->gDX,Expr.Call.elim->gDY
open Int renaming ofNat_le->aH,ofNat_inj->bF,natCast_nonneg->bG,le_antisymm->bX,toNat->bZ,toNat_of_nonneg->cC,not_lt->g1U,mul_comm->g1Z,zero_add->g2N,add_assoc->g2Q,not_le->g2Z,le_trans->g3E,sub_le_sub_right->g3L,natCast_add->g3W,le_refl->g3X,lt_iff_le_and_ne->g5L,add_le_add->g5N,self_le_toNat->g6O,mul_zero->g6X,add_zero->g6Y,neg_mul->g7Q,mul_one->g7R,emod_nonneg->g7S,add_mul->g7T,lt_trans->g9C,add_comm->g9D,lt_of_le_of_lt->gAI,natCast_pos->gBN,ediv_nonneg->gBO,add_nonpos->gBX,zero_mul->gCW,toNat_lt->gCX,le_of_lt->gCY,le_of_eq->gCZ
open Bool renaming and_eq_true->aI,and_eq_true_iff->aV,false_ne_true->bD,and_true->g8C,or_eq_true_iff->g9L,eq_iff_iff->gAW,decide_and->gAX,decide_or->gBP
open Ne renaming symm->g0F
open Array renaming length_toList->g0G,toArray_toList->g2E,toList_eraseIdxIfInBounds->g6A,eq_empty_of_size_eq_zero->g6H,getD_eq_getD_getElem?->g7F,perm_iff_toList_perm->g7I,getElem?_eq_none_iff->g7J,getElem?_eq_getElem->g7U,ext'->g9Z,getD->gDA,map->gDT
open PyProof renaming Rows.seqObj->g1P,Rows.KeyOrd.kle_refl->g1V,Rows.KeyOrd.kle_of_klt->g1W,Rows.KeyOrd.kle_trans->g2F,Rows.subscriptTail->g5T,Rows.listUpdate_at->gBW,Rows.listItems_at->gCQ,Rows.KeyOrd.kle_antisymm->gDZ
open Decidable renaming em->g3M
open Classical renaming byContradiction->g3P
open Prod renaming mk.injEq->g5U,ext_iff->g8P,ext->g9R
open Eq renaming symm->gBY
open And renaming imp_right->gCJ
open Or renaming imp_right->gDO
namespace Mine
inductive LE1 where
 | n (k:Nat)
 | v (i:Nat)
 | a (x y:LE1)
 | m (k:Nat) (x:LE1)
inductive LC where
 | z
 | l (x y:LE1) (t:LC)
 | e (x y:LE1) (t:LC)
 | b (x y:LE1) (t:LC)
noncomputable def lat:List Nat->Nat->Nat
 | [],_=>0
 | x::_,0=>x
 | _::l,i+1=>lat l i
noncomputable def LE1.d(c:List Nat):LE1->Nat
 | .n k=>k
 | .v i=>lat c i
 | .a x y=>x.d c+y.d c
 | .m k x=>k*x.d c
noncomputable def LC.d(c:List Nat)(G:Prop):LC->Prop
 | .z=>G
 | .l x y t=>x.d c<=y.d c->t.d c G
 | .e x y t=>x.d c=y.d c->t.d c G
 | .b x y t=>bK (x.d c) (y.d c)=true->t.d c G
noncomputable def Ey:Nat->Nat->List Nat->List Nat
 | 0,k,[]=>[k]
 | 0,k,x::l=>(x+k)::l
 | i+1,k,[]=>0::Ey i k []
 | i+1,k,x::l=>x::Ey i k l
noncomputable def Ce:List Nat->List Nat->Nat
 | [],_=>0
 | _::_,[]=>0
 | x::l,y::c=>x*y+Ce l c
noncomputable def LE1.p(k:Nat):LE1->List Nat->List Nat
 | .n j,l=>Ey 0 (k*j) l
 | .v i,l=>Ey (i+1) k l
 | .a x y,l=>y.p k (x.p k l)
 | .m j x,l=>x.p (k*j) l
noncomputable def hd1:List Nat->Nat
 | []=>1
 | k::_=>k
noncomputable def hd0:List Nat->Nat
 | []=>0
 | k::_=>k
noncomputable def tl1:List Nat->List Nat
 | []=>[]
 | _::l=>l
noncomputable def gel:List Nat->List Nat->Bool
 | [],l=>l.all (aW 0)
 | _::_,[]=>true
 | x::l,y::r=>bK y x && gel l r
noncomputable def LC.k:List Nat->LC->List Nat->List Nat->Bool
 | _,.z,[],_=>false
 | _,.z,g::u,w=>gel (g::u) (Ey 0 1 w)
 | ms,.l x y t,u,w=>t.k (tl1 ms) (x.p (hd1 ms) u) (y.p (hd1 ms) w)
 | ms,.b x y t,u,w=>t.k (tl1 ms) (x.p (hd1 ms) u) (y.p (hd1 ms) w)
 | ms,.e x y t,u,w=>t.k (tl1 (tl1 ms)) (y.p (hd0 (tl1 ms)) (x.p (hd1 ms) u)) (x.p (hd0 (tl1 ms)) (y.p (hd1 ms) w))
theorem No(i k:Nat)(l C:List Nat):Ce (Ey i k l) C=Ce l C+k*lat C i:=by
 induction i generalizing l C with
 | zero=>
  cases l with
  | nil=>cases C with
   | nil=>exact((g1E _).trans (g5C k)).symm
   | cons y C=>exact(g5E _).trans (g1E _).symm
  | cons x l=>cases C with
   | nil=>exact((g1E _).trans (g5C k)).symm
   | cons y C=>
    show (x+k)*y+_=x*y+_+k*y;rw[g7P,gAC]
 | succ i ih=>
  cases l with
  | nil=>cases C with
   | nil=>exact((g1E _).trans (g5C k)).symm
   | cons y C=>
    show 0*y+Ce (Ey i k []) C=0+k*lat C i;rw[ih,gCR,g1E];rfl
  | cons x l=>cases C with
   | nil=>exact((g1E _).trans (g5C k)).symm
   | cons y C=>
    show x*y+Ce (Ey i k l) C=x*y+Ce l C+k*lat C i;rw[ih,g3O]
theorem dot_p(e:LE1)(c:List Nat)(k:Nat)(l:List Nat):Ce (e.p k l) (1::c)=Ce l (1::c)+k*e.d c:=by
 induction e generalizing k l with
 | n j=>exact(No 0 (k*j) l (1::c)).trans (congrArg _ (gDR _))
 | v i=>exact No (i+1) k l (1::c)
 | a x y hx hy=>
  show Ce (y.p k (x.p k l)) _=_+k*(x.d c+y.d c);rw[hy,hx,g9T,g3O]
 | m j x hx=>
  show Ce (x.p (k*j) l) _=_+k*(j*x.d c);rw[hx,g8M]
theorem fH(l C:List Nat)(h:l.all (aW 0)=true):Ce l C=0:=by
 induction l generalizing C with
 | nil=>rfl
 | cons x l ih=>
  rw[g8B,aI] at h;cases C with
  | nil=>rfl
  | cons y C=>rw[<-aR h.1];show 0*y+_=0;rw[ih C h.2,gCR]
theorem CD(l r C:List Nat)(h:gel l r=true):Ce r C<=Ce l C:=by
 induction l generalizing r C with
 | nil=>rw[fH r C h];exact cL _
 | cons x l ih=>
  cases r with
  | nil=>exact cL _
  | cons y r=>
   cases C with
   | nil=>exact bJ _
   | cons z C=>
    have h:=(aI _ _).mp h;exact g5M (g5I _ (aT h.1)) (ih r C h.2)
theorem AX(c:List Nat)(t:LC){G:Prop}: ∀(ms l r:List Nat),t.k ms l r=true->Ce l (1::c)<=Ce r (1::c)->t.d c G:=by
 induction t with
 | z=>
  intro ms l r h hl;cases l with
  | nil=>cases h
  | cons x l=>
   have:=CD _ _ (1::c) h;rw[No] at this;exact absurd (bR this hl) (Nat.not_succ_le_self _)
 | l x y t ih=>
  intro ms l r h hl e;refine ih _ _ _ h ?_;rw[dot_p,dot_p];exact g5M hl (g9S _ e)
 | b x y t ih=>
  intro ms l r h hl e;refine ih _ _ _ h ?_;rw[dot_p,dot_p];exact g5M hl (g9S _ (aT e))
 | e x y t ih=>
  intro ms l r h hl e;refine ih _ _ _ h ?_;rw[dot_p,dot_p,dot_p,dot_p,e];exact g5J (g5J hl _) _
theorem AY(c:List Nat)(t:LC){G:Prop}(h:G):t.d c G:=by
 induction t with
 | z=>exact h
 | l x y t ih=>exact λe=>ih
 | b x y t ih=>exact λe=>ih
 | e x y t ih=>exact λe=>ih
theorem gf(c:List Nat)(t:LC){G:Prop}(ms:List Nat)(h:t.k ms [] []=true):t.d c G:=AX c t ms [] [] h (bJ _)
theorem gl(c:List Nat)(x y:LE1)(t:LC)(ms:List Nat)(h:(LC.l (.a y (.n 1)) x t).k ms [] []=true):t.d c (x.d c<=y.d c):=
 (g6S (y.d c) (x.d c)).elim (λn=>(gf c (LC.l (.a y (.n 1)) x t) ms h) n) λn=>AY c t n
theorem gl0(c:List Nat)(x y:LE1)(t:LC)(h:(LC.l (.a y (.n 1)) x t).k [] [] []=true):t.d c (x.d c<=y.d c):=gl c x y t [] h
theorem gf0(c:List Nat)(t:LC){G:Prop}(h:t.k [] [] []=true):t.d c G:=gf c t [] h
end Mine
namespace Mine
inductive IE where
 | n (k:Int)
 | v (i:Nat)
 | a (x y:IE)
 | s (x y:IE)
 | g (x:IE)
 | m (k:Int) (x:IE)
inductive IC where
 | z
 | l (x y:IE) (t:IC)
 | e (x y:IE) (t:IC)
noncomputable def iat:List Int->Nat->Int
 | [],_=>0
 | x::_,0=>x
 | _::l,i+1=>iat l i
noncomputable def IE.d(c:List Int):IE->Int
 | .n k=>k
 | .v i=>iat c i
 | .a x y=>x.d c+y.d c
 | .s x y=>x.d c - y.d c
 | .g x=> -x.d c
 | .m k x=>k*x.d c
noncomputable def IC.d(c:List Int)(G:Prop):IC->Prop
 | .z=>G
 | .l x y t=>x.d c<=y.d c->t.d c G
 | .e x y t=>x.d c=y.d c->t.d c G
noncomputable def Fo:Nat->Int->List Int->List Int
 | 0,k,[]=>[k]
 | 0,k,x::l=>(x+k)::l
 | i+1,k,[]=>0::Fo i k []
 | i+1,k,x::l=>x::Fo i k l
noncomputable def Cd:List Int->List Int->Int
 | [],_=>0
 | _::_,[]=>0
 | x::l,y::c=>x*y+Cd l c
noncomputable def IE.p(k:Int):IE->List Int->List Int
 | .n j,l=>Fo 0 (k*j) l
 | .v i,l=>Fo (i+1) k l
 | .a x y,l=>y.p k (x.p k l)
 | .s x y,l=>y.p (-k) (x.p k l)
 | .g x,l=>x.p (-k) l
 | .m j x,l=>x.p (k*j) l
noncomputable def hdI:List Int->Int
 | []=>1
 | k::_=>k
noncomputable def tlI:List Int->List Int
 | []=>[]
 | _::l=>l
noncomputable def ciZ:Int->Bool
 | .ofNat 0=>true
 | _=>false
noncomputable def ciP:Int->Bool
 | .ofNat (_+1)=>true
 | _=>false
noncomputable def ciN:Int->Bool
 | .ofNat _=>true
 | _=>false
noncomputable def IC.k:List Int->IC->List Int->Bool
 | _,.z,[]=>false
 | _,.z,g::u=>ciP g && u.all ciZ
 | ms,.l x y t,u=>ciN (hdI ms) && t.k (tlI ms) (y.p (-hdI ms) (x.p (hdI ms) u))
 | ms,.e x y t,u=>t.k (tlI ms) (y.p (-hdI ms) (x.p (hdI ms) u))
theorem Ua(i:Nat)(k:Int)(l C:List Int):Cd (Fo i k l) C=Cd l C+k*iat C i:=by
 induction i generalizing l C with
 | zero=>
  cases l with
  | nil=>cases C with
   | nil=>exact((g2N _).trans (g6X k)).symm
   | cons y C=>exact(g6Y _).trans (g2N _).symm
  | cons x l=>cases C with
   | nil=>exact((g2N _).trans (g6X k)).symm
   | cons y C=>
    show (x+k)*y+_=x*y+_+k*y;rw[g7T,Int.add_right_comm]
 | succ i ih=>
  cases l with
  | nil=>cases C with
   | nil=>exact((g2N _).trans (g6X k)).symm
   | cons y C=>
    show 0*y+Cd (Fo i k []) C=0+k*iat C i;rw[ih,gCW,g2N];rfl
  | cons x l=>cases C with
   | nil=>exact((g2N _).trans (g6X k)).symm
   | cons y C=>
    show x*y+Cd (Fo i k l) C=x*y+Cd l C+k*iat C i;rw[ih,g2Q]
theorem doti_p(e:IE)(c:List Int)(k:Int)(l:List Int):Cd (e.p k l) (1::c)=Cd l (1::c)+k*e.d c:=by
 induction e generalizing k l with
 | n j=>exact(Ua 0 (k*j) l (1::c)).trans (congrArg _ (g7R _))
 | v i=>exact Ua (i+1) k l (1::c)
 | a x y hx hy=>
  show Cd (y.p k (x.p k l)) _=_+k*(x.d c+y.d c);rw[hy,hx,Int.mul_add,g2Q]
 | s x y hx hy=>
  show Cd (y.p (-k) (x.p k l)) _=_+k*(x.d c - y.d c);rw[hy,hx,Int.mul_sub,g7Q,g2Q];rfl
 | g x hx=>
  show Cd (x.p (-k) l) _=_+k*(-x.d c);rw[hx,g7Q,Int.mul_neg]
 | m j x hx=>
  show Cd (x.p (k*j) l) _=_+k*(j*x.d c);rw[hx,Int.mul_assoc]
theorem BW{x:Int}(h:ciZ x=true):x=0:=by
 match x,h with
 | .ofNat 0,_=>rfl
theorem Zy{x:Int}(h:ciN x=true):0<=x:=by
 match x,h with
 | .ofNat n,_=>exact bG n
theorem BV{x:Int}(h:ciP x=true):0 < x:=by
 match x,h with
 | .ofNat (n+1),_=>exact gBN.2 (g0L n)
theorem jM(l C:List Int)(h:l.all ciZ=true):Cd l C=0:=by
 induction l generalizing C with
 | nil=>rfl
 | cons x l ih=>
  rw[g8B,aI] at h;cases C with
  | nil=>rfl
  | cons y C=>rw[BW h.1];show 0*y+_=0;rw[ih C h.2,gCW];rfl
theorem AV(c:List Int)(t:IC){G:Prop}: ∀(ms l:List Int),t.k ms l=true->Cd l (1::c)<=0->t.d c G:=by
 induction t with
 | z=>
  intro ms l h hl;cases l with
  | nil=>cases h
  | cons x l=>
   have h:=(aI _ _).mp h;have e:Cd (x::l) (1::c)=x:=(congrArg (x*1+ ·) (jM l c h.2)).trans ((g6Y _).trans (g7R x));rw[e] at hl;exact absurd (BV h.1) (g1U.2 hl)
 | l x y t ih=>
  intro ms l h hl e;have h:=(aI _ _).mp h;refine ih _ _ h.2 ?_;rw[doti_p,doti_p,g2Q,g7Q];exact gBX hl (Int.sub_nonpos_of_le (Int.mul_le_mul_of_nonneg_left e (Zy h.1)))
 | e x y t ih=>
  intro ms l h hl e;refine ih _ _ h ?_;rw[doti_p,doti_p,g2Q,g7Q,e];exact gBX hl (gCZ (Int.add_right_neg _))
theorem AW(c:List Int)(t:IC){G:Prop}(h:G):t.d c G:=by
 induction t with
 | z=>exact h
 | l x y t ih=>exact λe=>ih
 | e x y t ih=>exact λe=>ih
theorem jf(c:List Int)(t:IC){G:Prop}(ms:List Int)(h:t.k ms []=true):t.d c G:=AV c t ms [] h (g3X _)
theorem jl(c:List Int)(x y:IE)(t:IC)(ms:List Int)(h:(IC.l (.a y (.n 1)) x t).k ms []=true):t.d c (x.d c<=y.d c):=
 (Int.lt_or_le (y.d c) (x.d c)).elim (λn=>(jf c (IC.l (.a y (.n 1)) x t) ms h) n) λn=>AW c t n
theorem jl0(c:List Int)(x y:IE)(t:IC)(h:(IC.l (.a y (.n 1)) x t).k [] []=true):t.d c (x.d c<=y.d c):=jl c x y t [] h
end Mine
namespace Mine
noncomputable def nqe{α:Type}:Nat->Nat->(LE1->Nat->α)->α
 | 0,n,k=>k (.n 0) n
 | f+1,n,k=>
  bif bK (n % 16) 9 then k (.v (n % 16)) (n / 16)
  else bif aW (n % 16) 10 then nqe f (n / 16) λx r=>nqe f r λy r=>k (.a x y) r
  else bif aW (n % 16) 11 then k (.n 1) (n / 16)
  else bif aW (n % 16) 12 then k (.n 2) (n / 16)
  else bif aW (n % 16) 13 then k (.n 0) (n / 16)
  else bif aW (n % 16) 14 then nqe f (n / 16 / 16 / 16 ^ (n / 16 % 16)) λx r=>k (.m (n / 16 / 16 % 16 ^ (n / 16 % 16)) x) r
  else k (.n (n / 16 / 16 % 16 ^ (n / 16 % 16))) (n / 16 / 16 / 16 ^ (n / 16 % 16))
noncomputable def nqc:Nat->Nat->LC
 | 0,_=> .z
 | f+1,n=>bif aW (n % 16) 0 then .z else
  nqe 20 (n / 16) λx r=>nqe 20 r λy r=>bif aW (n % 16) 1 then .l x y (nqc f r) else bif aW (n % 16) 2 then .e x y (nqc f r) else .b x y (nqc f r)
theorem Qe: ∀(f n:Nat),∃e r,∀(α:Type) (k:LE1->Nat->α),nqe f n k=k e r:=by
 intro f;induction f with
 | zero=>exact λn=>⟨_,_,λ_ _=>rfl⟩
 | succ f ih=>
  intro n;unfold nqe;cases bK (n % 16) 9 with
  | true=>exact⟨_,_,λ_ _=>rfl⟩
  | false=>
   cases aW (n % 16) 10 with
   | true=>
    obtain⟨x,r,h⟩:=ih (n / 16);obtain⟨y,s,h2⟩:=ih r;exact⟨.a x y,s,λα k=>(h α _).trans (h2 α _)⟩
   | false=>
    cases aW (n % 16) 11 with
    | true=>exact⟨_,_,λ_ _=>rfl⟩
    | false=>
     cases aW (n % 16) 12 with
     | true=>exact⟨_,_,λ_ _=>rfl⟩
     | false=>
      cases aW (n % 16) 13 with
      | true=>exact⟨_,_,λ_ _=>rfl⟩
      | false=>
       cases aW (n % 16) 14 with
       | true=>
        obtain⟨x,r,h⟩:=ih (n / 16 / 16 / 16 ^ (n / 16 % 16));exact⟨_,r,λα k=>h α _⟩
       | false=>exact⟨_,_,λ_ _=>rfl⟩
noncomputable def dG(c:List Nat)(n:Nat):Prop:=nqe 20 n λx r=>nqe 20 r λy r=>(nqc 12 r).d c (x.d c<=y.d c)
noncomputable def kG(ms:List Nat)(n:Nat):Bool:=nqe 20 n λx r=>nqe 20 r λy r=>(LC.l (.a y (.n 1)) x (nqc 12 r)).k ms [] []
theorem gb(c:List Nat)(n:Nat)(ms:List Nat)(h:kG ms n=true):dG c n:=by
 obtain⟨x,r,h1⟩:=Qe 20 n;obtain⟨y,s,h2⟩:=Qe 20 r;unfold dG;unfold kG at h;rw[h1,h2] at h ⊢;exact gl c x y _ ms h
theorem ga(c:List Nat)(n:Nat)(h:kG [] n=true):dG c n:=gb c n [] h
theorem gd{G:Prop}(c:List Nat)(n:Nat)(ms:List Nat)(h:(nqc 12 n).k ms [] []=true):(nqc 12 n).d c G:=gf c _ ms h
theorem gc{G:Prop}(c:List Nat)(n:Nat)(h:(nqc 12 n).k [] [] []=true):(nqc 12 n).d c G:=gf c _ [] h
noncomputable def qe{α:Type}:Nat->Nat->(IE->Nat->α)->α
 | 0,n,k=>k (.n 0) n
 | f+1,n,k=>
  bif bK (n % 16) 8 then k (.v (n % 16)) (n / 16)
  else bif aW (n % 16) 9 then qe f (n / 16) λx r=>k (.g x) r
  else bif aW (n % 16) 10 then qe f (n / 16) λx r=>qe f r λy r=>k (.a x y) r
  else bif aW (n % 16) 11 then k (.n 1) (n / 16)
  else bif aW (n % 16) 12 then qe f (n / 16) λx r=>qe f r λy r=>k (.s x y) r
  else bif aW (n % 16) 13 then k (.n 0) (n / 16)
  else bif aW (n % 16) 14 then qe f (n / 16 / 16 / 16 ^ (n / 16 % 16)) λx r=>k (.m (.ofNat (n / 16 / 16 % 16 ^ (n / 16 % 16))) x) r
  else k (.n (.ofNat (n / 16 / 16 % 16 ^ (n / 16 % 16)))) (n / 16 / 16 / 16 ^ (n / 16 % 16))
noncomputable def qc:Nat->Nat->IC
 | 0,_=> .z
 | f+1,n=>bif aW (n % 16) 0 then .z else
  qe 20 (n / 16) λx r=>qe 20 r λy r=>bif aW (n % 16) 1 then .l x y (qc f r) else .e x y (qc f r)
theorem Po: ∀(f n:Nat),∃e r,∀(α:Type) (k:IE->Nat->α),qe f n k=k e r:=by
 intro f;induction f with
 | zero=>exact λn=>⟨_,_,λ_ _=>rfl⟩
 | succ f ih=>
  intro n;unfold qe;cases bK (n % 16) 8 with
  | true=>exact⟨_,_,λ_ _=>rfl⟩
  | false=>
   cases aW (n % 16) 9 with
   | true=>
    obtain⟨x,r,h⟩:=ih (n / 16);exact⟨_,r,λα k=>h α _⟩
   | false=>
    cases aW (n % 16) 10 with
    | true=>
     obtain⟨x,r,h⟩:=ih (n / 16);obtain⟨y,s,h2⟩:=ih r;exact⟨.a x y,s,λα k=>(h α _).trans (h2 α _)⟩
    | false=>
     cases aW (n % 16) 11 with
     | true=>exact⟨_,_,λ_ _=>rfl⟩
     | false=>
      cases aW (n % 16) 12 with
      | true=>
       obtain⟨x,r,h⟩:=ih (n / 16);obtain⟨y,s,h2⟩:=ih r;exact⟨.s x y,s,λα k=>(h α _).trans (h2 α _)⟩
      | false=>
       cases aW (n % 16) 13 with
       | true=>exact⟨_,_,λ_ _=>rfl⟩
       | false=>
        cases aW (n % 16) 14 with
        | true=>
         obtain⟨x,r,h⟩:=ih (n / 16 / 16 / 16 ^ (n / 16 % 16));exact⟨_,r,λα k=>h α _⟩
        | false=>exact⟨_,_,λ_ _=>rfl⟩
noncomputable def dJ(c:List Int)(n:Nat):Prop:=qe 20 n λx r=>qe 20 r λy r=>(qc 12 r).d c (x.d c<=y.d c)
noncomputable def kJ(ms:List Int)(n:Nat):Bool:=qe 20 n λx r=>qe 20 r λy r=>(IC.l (.a y (.n 1)) x (qc 12 r)).k ms []
theorem jb(c:List Int)(n:Nat)(ms:List Int)(h:kJ ms n=true):dJ c n:=by
 obtain⟨x,r,h1⟩:=Po 20 n;obtain⟨y,s,h2⟩:=Po 20 r;unfold dJ;unfold kJ at h;rw[h1,h2] at h ⊢;exact jl c x y _ ms h
theorem ja(c:List Int)(n:Nat)(h:kJ [] n=true):dJ c n:=jb c n [] h
theorem jd{G:Prop}(c:List Int)(n:Nat)(ms:List Int)(h:(qc 12 n).k ms []=true):(qc 12 n).d c G:=jf c _ ms h
theorem jc{G:Prop}(c:List Int)(n:Nat)(h:(qc 12 n).k [] []=true):(qc 12 n).d c G:=jf c _ [] h
end Mine
namespace Mine.Yy
noncomputable abbrev v0:LE1:=.v 0
noncomputable abbrev s0:LE1:=.a (.v 0) (.n 1)
noncomputable abbrev w0:IE:=.v 0
noncomputable abbrev v1:LE1:=.v 1
noncomputable abbrev s1:LE1:=.a (.v 1) (.n 1)
noncomputable abbrev w1:IE:=.v 1
noncomputable abbrev v2:LE1:=.v 2
noncomputable abbrev s2:LE1:=.a (.v 2) (.n 1)
noncomputable abbrev w2:IE:=.v 2
noncomputable abbrev v3:LE1:=.v 3
noncomputable abbrev s3:LE1:=.a (.v 3) (.n 1)
noncomputable abbrev w3:IE:=.v 3
noncomputable abbrev v4:LE1:=.v 4
noncomputable abbrev s4:LE1:=.a (.v 4) (.n 1)
noncomputable abbrev w4:IE:=.v 4
noncomputable abbrev v5:LE1:=.v 5
noncomputable abbrev s5:LE1:=.a (.v 5) (.n 1)
noncomputable abbrev w5:IE:=.v 5
noncomputable abbrev v6:LE1:=.v 6
noncomputable abbrev s6:LE1:=.a (.v 6) (.n 1)
noncomputable abbrev w6:IE:=.v 6
noncomputable abbrev v7:LE1:=.v 7
noncomputable abbrev w7:IE:=.v 7
noncomputable abbrev w8:IE:=.v 8
noncomputable abbrev n0:LE1:=.n 0
noncomputable abbrev m0:IE:=.n 0
noncomputable abbrev n1:LE1:=.n 1
noncomputable abbrev m1:IE:=.n 1
noncomputable abbrev n2:LE1:=.n 2
noncomputable abbrev m2:IE:=.n 2
end Mine.Yy
namespace Mine
section
open Yy
variable {a b c d e f g i j k l m n o p q r:Nat}{A B C D E F G H I J:Int}{P P1 P2:Prop}
theorem Q0a(x y:Nat):x<=x - y+y:=Nat.sub_le_iff_le_add.1 (bJ _)
theorem Q0b(x:Nat):2*(x / 2)<=x:=Nat.mul_div_le x 2
theorem Q0c(x:Nat):x<=2*(x / 2)+1:=g0X (Nat.lt_mul_div_succ x (g0L 1))
theorem Q1(h:a=0):a=0:=aJ (ga [a] 0xd02d0 rfl h) (ga [a] 0xd rfl)
theorem Q2(h:(b+1)+c=a):a=b+(c+1):=aJ (gb [a,b,c] 0x2b1aa2b2a1a0 [1,0,1] rfl h) (ga [b,c,a] 0x21b0aa22b1a0a rfl h)
theorem Q3(h:a=d)(s:b=e)(t:d<=f)(u:e<=f)(v:bK (2*f) c=true):a+b<=c:=ga [a,b,c,d,e,f] 0x2521e3541531412302210a rfl h s t u v
theorem Q4(h:0<A):A≠0:=λhn=>jc [A] 0xd020bda1 rfl h hn
theorem Q5(h:0<A):0<=A:=ja [A] 0xbda10d rfl h
theorem Q6(h:a<c)(s:bK c b=true):a<b:=ga [a,b,c] 0x1232b0a11b0a rfl h s
theorem Q7(h:a<=c)(s:b<=c):(max a b)<=c:=Nat.max_le.2 ⟨ga [a,c] 0x10110 rfl h,ga [b,c] 0x10110 rfl s⟩
theorem Q8(h:a<=b):a<b+1:=ga [a,b] 0x101b1ab0a rfl h
theorem Q9(h:a+d<c)(s:b<=e)(t:e<=f)(u:bK f d=true):a+b<c:=ga [a,b,c,d,e,f] 0x3535414112b30aa12b10aa rfl h s t u
theorem Q10(h:a+d<c)(s:b<=e+1)(t:e<=f)(u:bK (f+1) d=true):a+b<c:=ga [a,b,c,d,e,f] 0x3b5a3541b4a112b30aa12b10aa rfl h s t u
theorem Q11(h:a+d<c)(s:b<=d):a+b<c:=ga [a,b,c,d] 0x3112b30aa12b10aa rfl h s
theorem Q12(h:a+(c+1)<b):a<b:=ga [a,b,c] 0x1bb2a0aa11b0a rfl h
theorem Q13(h:a+(b+1)<c):(a+1)+b<c:=ga [a,b,c] 0x2bb1a0aa12b1b0aaa rfl h
theorem Q14(h:a+(b+1)<c):a+b<c:=ga [a,b,c] 0x2bb1a0aa12b10aa rfl h
theorem Q15:0<=a:=ga [a] 0xd rfl
theorem Q16(h:bK 1 a=true):1<=a:=ga [a] 0xb30b rfl h
theorem Q17(h:a<=b)(s:b<=a):a=b:=aJ (ga [a,b] 0x10110 rfl h) (ga [b,a] 0x10110 rfl s)
theorem Q18(h:a=b):a<=b:=ga [a,b] 0x10210 rfl h
theorem Q19(h:a-c=0)(s:b=c):a<=b:=gb [a,b,(a-c),c] 0x32a01312d2210 [1,1,0,0,1] rfl h s (Q0a _ _)
theorem Q20(h:a=c)(s:b-c=d+1)(t:c<=b):a<b:=gb [a,b,c,(b-c),d] 0x123a2b4a322021b0a [1,1,0,0,1] rfl h s (aC (ga [c,b] 0x10110 rfl t))
theorem Q21(h:a<=b)(s:b-a=c+1):a<b:=gb [a,b,(b-a),c] 0x102a2b3a221b0a [1,0,1] rfl s (aC (ga [a,b] 0x10110 rfl h))
theorem Q22(h:a-b=0):a<=b:=ga [a,b,(a-b)] 0x12a01d2210 rfl h (Q0a _ _)
theorem Q23(h:a-c=0)(s:c<b):a<=b:=ga [a,b,(a-c),c] 0x32a011b3a1d2210 rfl h s (Q0a _ _)
theorem Q24(h:a<b):a<b:=ga [a,b] 0x1b0a11b0a rfl h
theorem Q25(h:(a+1)+b<c):(a+1)+b<c:=ga [a,b,c] 0x2b1b0aaa12b1b0aaa rfl h
theorem Q26(h:a+c<b):a<b:=ga [a,b,c] 0x1b20aa11b0a rfl h
theorem Q27(h:bK a b=true):a<=b:=ga [a,b] 0x10310 rfl h
theorem Q28(h:a+d<c)(s:bK (b+1) d=true):(a+1)+b<c:=ga [a,b,c,d] 0x3b1a32b30aa12b1b0aaa rfl h s
theorem Q29(h:(a+(32*d))+e<c)(s:bK b e=true):a+b<c:=ga [a,b,c,d,e] 0x4132b43202e0aaa12b10aa rfl h s
theorem Q30(h:a<=c)(s:bK (c+1) b=true):a<b:=ga [a,b,c] 0x1b2a32011b0a rfl h s
theorem Q31(h:a<=c)(s:bK c b=true):a<=b:=ga [a,b,c] 0x12320110 rfl h s
theorem Q32(h:a+d<c)(s:bK b d=true):a+b<c:=ga [a,b,c,d] 0x3132b30aa12b10aa rfl h s
theorem Q33(h:a+d<c)(s:b<=e)(t:e<=f)(u:bK (f+1) d=true):(a+1)+b<c:=ga [a,b,c,d,e,f] 0x3b5a35414112b30aa12b1b0aaa rfl h s t u
theorem Q34(h:a<=1000):(¬((a:Int)≥(2^63))):=g2Z.2 (jl0 [(a:Int)] (.a w0 m1) (.n 9223372036854775808) (.l w0 (.n 1000) .z) rfl (aH.2 h))
theorem Q35:(a:Int)+1≠0:=λhn=>jc [(a:Int)] 0xd1db0a2 rfl hn (bG _)
theorem Q36(h:a=b)(s:b<=200):(a:Int)<2^63:=jl0 [(a:Int),(b:Int)] (.a w0 m1) (.n 9223372036854775808) (.e w0 w1 (.l w1 (.n 200) .z)) rfl (bF.2 h) (aH.2 s)
theorem Q37(h:(bZ A)<a)(s:a<=200):A<2^63:=jl0 [A,(((bZ A):Nat):Int),(a:Int)] (.a w0 m1) (.n 9223372036854775808) (.l (.a w1 m1) w2 (.l w2 (.n 200) (.l w0 w1 .z))) rfl (aH.2 h) (aH.2 s) (g6O _)
theorem Q38(h:A<0):A<0:=ja [A] 0xdb0a1db0a rfl h
theorem Q39(h:0<=A+(b:Int))(s:a=b):(-(a:Int))<=A:=jb [(a:Int),A,(b:Int)] 0x20221ad1109 [1,1,-1] rfl h (bF.2 s)
theorem Q40(h:0<=A+(a:Int))(s:a<=200):(-(2^63))<=A:=jl0 [A,(a:Int)] (.n (-9223372036854775808)) w0 (.l m0 (.a w0 w1) (.l w1 (.n 200) .z)) rfl h (aH.2 s)
theorem Q41(h:0<=A):(-(2^63))<=A:=jl0 [A] (.n (-9223372036854775808)) w0 (.l m0 w0 .z) rfl h
theorem Q42(h:(bZ A)<a)(s:a<=1000):A<2^63:=jl0 [A,(((bZ A):Nat):Int),(a:Int)] (.a w0 m1) (.n 9223372036854775808) (.l (.a w1 m1) w2 (.l w2 (.n 1000) (.l w0 w1 .z))) rfl (aH.2 h) (aH.2 s) (g6O _)
theorem Q43(h:0<=A)(s:(bZ A)<a)(t:a<=1000):((-9223372036854775808)<=A)/\(A<9223372036854775808):=⟨jl0 [A] (.n (-9223372036854775808)) w0 (.l m0 w0 .z) rfl h,jl0 [A,(((bZ A):Nat):Int),(a:Int)] (.a w0 m1) (.n 9223372036854775808) (.l (.a w1 m1) w2 (.l w2 (.n 1000) (.l w0 w1 .z))) rfl (aH.2 s) (aH.2 t) (g6O _)⟩
theorem Q44(h:0<=A+(a:Int))(s:A<0)(t:a<=1000):((-9223372036854775808)<=A)/\(A<9223372036854775808):=⟨jl0 [A,(a:Int)] (.n (-9223372036854775808)) w0 (.l m0 (.a w0 w1) (.l w1 (.n 1000) .z)) rfl h (aH.2 t),jl0 [A] (.a w0 m1) (.n 9223372036854775808) (.l (.a w0 m1) m0 .z) rfl s⟩
theorem Q45(h:a<=c)(s:c<=b):a<=b:=ga [a,b,c] 0x12120110 rfl h s
theorem Q46(h:a=c)(s:c<=d)(t:bK d b=true):a<=b:=ga [a,b,c,d] 0x13332120210 rfl h s t
theorem Q47:(min (a-b) (c-b))<=c:=ga [(min (a-b) (c-b)),c,(c-b)] 0x12120110 rfl (g0D _ _) (bV _ _)
theorem Q48(h:a=b)(s:b<=1000):(¬((a:Int)≥(2^63))):=g2Z.2 (jl0 [(a:Int),(b:Int)] (.a w0 m1) (.n 9223372036854775808) (.e w0 w1 (.l w1 (.n 1000) .z)) rfl (bF.2 h) (aH.2 s))
theorem Q49(h:a=b)(s:b<=1000):(a:Int)<2^63:=jl0 [(a:Int),(b:Int)] (.a w0 m1) (.n 9223372036854775808) (.e w0 w1 (.l w1 (.n 1000) .z)) rfl (bF.2 h) (aH.2 s)
theorem Q50(h:A<=C)(s:C<B):A<=B:=ja [A,B,C] 0x1b2a120110 rfl h s
theorem Q51(h:A<=C)(s:C<=B):A<=B:=ja [A,B,C] 0x12120110 rfl h s
theorem Q52(h:a=b+1):0<a:=gb [a,b] 0xb1a020bda [1,0,1] rfl h
theorem Q53(h:a<=b-1)(s:0<b):a<b:=ga [a,b,(b-1)] 0x1b2a22011b0a rfl h (aC (ga [b] 0xbda10b rfl s))
theorem Q54(h:a<b):a<=b-1:=ga [a,(b-1),b] 0xb1a212b0a110 rfl h (Q0a _ _)
theorem Q55(h:B<A):((A-B)-1)+1=(((bZ (A-B)):Nat):Int):=bX (jb [A,B,(((bZ (A-B)):Nat):Int)] 0x10c222bb10cca [1,-1] rfl (cC (ja [A,B] 0xb1a110cd rfl h))) (ja [(((bZ (A-B)):Nat):Int),A,B] 0x21c02bb21cca0 rfl (cC (ja [A,B] 0xb1a110cd rfl h)))
theorem Q56(h:B<A):0<=(A-B)-1:=ja [A,B] 0xb1a1b10ccd rfl h
theorem Q57(h:0<=A):A+1=(((bZ (A+1)):Nat):Int):=bX (jb [A,(((bZ (A+1)):Nat):Int)] 0xb0a121b0a [1,-1] rfl (cC (ja [A] 0xd1b0ad rfl h))) (ja [(((bZ (A+1)):Nat):Int),A] 0xb1a02b1a0 rfl (cC (ja [A] 0xd1b0ad rfl h)))
theorem Q59(h:A<B):A<=B:=ja [A,B] 0x1b0a110 rfl h
theorem Q60(h:A<=B)(s:B<=A):A=B:=bX (ja [A,B] 0x10110 rfl h) (ja [B,A] 0x10110 rfl s)
theorem Q61(h:a=c)(s:c<b):a<b:=ga [a,b,c] 0x1b2a12021b0a rfl h s
theorem Q62:(((a+(b+1)):Nat):Int)=((((a+1)+b):Nat):Int):=bX (ja [(a:Int),(b:Int)] 0x1b0aab1a0a rfl) (ja [(a:Int),(b:Int)] 0xb1a0a1b0aa rfl)
theorem Q63(h:a=c)(s:c<=d)(t:e<=b)(u:bK (d+2) e=true):a+1<b:=ga [a,b,c,d,e] 0x4c3a31413212021bb0aa rfl h s t u
theorem Q64(h:a<=1000):(a:Int)<2^63:=jl0 [(a:Int)] (.a w0 m1) (.n 9223372036854775808) (.l w0 (.n 1000) .z) rfl (aH.2 h)
theorem Q65(h:a=c)(s:c<d)(t:bK d (b+1)=true):a<=b:=ga [a,b,c,d] 0xb1a333b2a120210 rfl h s t
theorem Q66(h:a<c)(s:bK c (b+1)=true):a<=b:=ga [a,b,c] 0xb1a232b0a110 rfl h s
theorem Q67(h:a<c)(s:b=d)(t:c=e)(u:d=e):a<b:=gb [a,b,c,d,e] 0x4324223122b0a11b0a [1,1,0,1,1,0,0,1] rfl h s t u
theorem Q68(h:a<c)(s:c<b):a<b:=ga [a,b,c] 0x1b2a12b0a11b0a rfl h s
theorem Q69(h:a<c)(s:bK c b=true):a≠b:=λhn=>gd [a,c,b] 0x2022131b0a1 [1,1,0,1] rfl h s hn
theorem Q70(h:a<=d)(s:bK ((d+b)+1) c=true):a+b<c:=ga [a,b,c,d] 0x2b13aa33012b10aa rfl h s
theorem Q71(h:a+2<=c)(s:bK c (b+1)=true):a<b:=ga [a,b,c] 0xb1a232c0a11b0a rfl h s
theorem Q72(h:a<=c)(s:c<=d)(t:bK d b=true):a<=b:=ga [a,b,c,d] 0x13332120110 rfl h s t
theorem Q73:(((a+1):Nat):Int)-1=(a:Int):=bX (ja [(a:Int)] 0xbb0ac rfl) (ja [(a:Int)] 0xbb0ac0 rfl)
theorem Q74(h:a=c)(s:c<=b):a<=b:=ga [a,b,c] 0x12120210 rfl h s
theorem Q75(h:a<b):a<=b:=ga [a,b] 0x1b0a110 rfl h
theorem Q76(h:A<(a:Int))(s:a<=200):A<2^63:=jl0 [A,(a:Int)] (.a w0 m1) (.n 9223372036854775808) (.l (.a w0 m1) w1 (.l w1 (.n 200) .z)) rfl h (aH.2 s)
theorem Q77(h:A<(b:Int))(s:a=b):A<(a:Int):=jb [A,(a:Int),(b:Int)] 0x2122b0a11b0a [1,1,-1] rfl h (bF.2 s)
theorem Q78(h:(a+(8*(c+1)))+d<b):a<b:=ga [a,b,c,d] 0x1b3b2a81e0aaa11b0a rfl h
theorem Q79(h:(a+(8*(b+1)))+c<d):((a+1)+(8*b))+c<d:=ga [a,b,c,d] 0x3b2b1a81e0aaa13b2181eb0aaaa rfl h
theorem Q80(h:(a+(32*(c+1)))+d<e)(s:bK b 32=true):((a+b)+(32*c))+d<e:=ga [a,b,c,d,e] 0x202f134b3b2a202e0aaa14b32202e10aaaa rfl h s
theorem Q81:a<a+1:=ga [a] 0xb0ab0a rfl
theorem Q82(h:a<b):a<b+1:=ga [a,b] 0x1b0a1b1ab0a rfl h
theorem Q83(h:a+b<=c):a+b<=c:=ga [a,b,c] 0x210a1210a rfl h
theorem Q84(h:a+c<=b):a<=b:=ga [a,b,c] 0x120a110 rfl h
theorem Q85(h:c+a<=b):a<=b+1:=ga [a,b,c] 0x102a1b1a0 rfl h
theorem Q88(h:a<=b):a<=b:=ga [a,b] 0x10110 rfl h
theorem Q89:a<=a+0:=ga [a] 0xd0a0 rfl
theorem Q90(h:a+(c+1)<=b):a<b:=ga [a,b,c] 0x1b2a0a11b0a rfl h
theorem Q91(h:a+(c+1)<=b):a-1<b:=ga [(a-1),b,a,c] 0x2011b3a2a11b0a rfl h (bV _ _)
theorem Q92:a<=a+(b+1):=ga [a,b] 0xb1a0a0 rfl
theorem Q93:1<=a+1:=ga [a] 0xb0ab rfl
theorem Q94(h:a+(b+1)<=c):(a+1)+b<=c:=ga [a,b,c] 0x2b1a0a121b0aa rfl h
theorem Q95(h:a<=(b+1)+c):a<=b+(c+1):=ga [a,b,c] 0x2b1aa01b2a1a0 rfl h
theorem Q96(h:a<b+1)(s:b<=a):a=b:=aJ (ga [a,b] 0xb1ab0a110 rfl h) (ga [b,a] 0x10110 rfl s)
theorem Q97(h:a≠b)(s:a<=b)(t:1<=b):a<=b-1:=gb [a,(b-1),b] 0x2b0a12b1a210 [1,0,1] rfl (aC (ga [b] 0xb10b rfl t)) (bH (ga [a,b] 0x10110 rfl s) h)
theorem Q98(h:1<=a):a-1<a:=ga [(a-1),a] 0x1b0a21b0a rfl (aC (ga [a] 0xb10b rfl h))
theorem Q99(h:a<=b)(s:b<=c):a+(b-a)<=c:=ga [a,(b-a),c,b] 0x301a2231210a rfl s (aC (ga [a,b] 0x10110 rfl h))
theorem oO(h:b<=a)(s:1<=b):1<=a:=ga [a,b] 0x1b10110b rfl h s
theorem oP(h:a<=c+(b-c))(s:c<=b):a<=b:=ga [a,b,c,(b-c)] 0x123a232a0110 rfl h (aC (ga [c,b] 0x10110 rfl s))
theorem oQ(h:a<=c)(s:c<b):(0<=a)/\(a<b):=⟨ga [a] 0xd rfl,ga [a,b,c] 0x1b2a12011b0a rfl h s⟩
theorem oR(h:a<b):(0<=a)/\(a<b):=⟨ga [a] 0xd rfl,ga [a,b] 0x1b0a11b0a rfl h⟩
theorem oS(h:b<a)(s:c<=b):((0+a)-1)-b<=((0+a)-1)-c:=gb [(((0+a)-1)-b),(((0+a)-1)-c),c,b,((0+a)-1)] 0x421a2430a232110 [1,1,1,0,0,1] rfl s (aC (ga [b,((0+a)-1),a] 0xb1a2da12b0a110 rfl h (Q0a _ _))) (aC (ga [c,((0+a)-1),b,a] 0xb1a3da12013b2a110 rfl h s (Q0a _ _)))
theorem oT(h:1<=a):((0+a)-1)-b<a:=ga [(((0+a)-1)-b),a,((0+a)-1)] 0x1dab2a22011b0a rfl (bV _ _) (aC (ga [a] 0xb10dab rfl h))
theorem oU(h:a+(c+1)<=b):a<=b:=ga [a,b,c] 0x1b2a0a110 rfl h
theorem Io:0<a+1:=ga [a] 0xb0abda rfl
theorem Ou(h:(b+1)-(0+1)<=a)(s:a<b+1):a=(b+1)-1:=aJ (gb [a,((b+1)-1),b] 0xb2ab1a2b2ab0a110 [1,1,0,1] rfl s (aC (ga [b] 0xb0ab rfl))) (gb [((b+1)-1),a,((b+1)-(0+1)),b] 0xb3ab0a2b3abda2a212110 [1,1,0,1] rfl h (aC (ga [b] 0xb0abda rfl)) (aC (ga [b] 0xb0ab rfl)))
theorem oV(h:a<b):a+1<b+1:=ga [a,b] 0x1b0a1b1abb0aa rfl h
theorem oW:(a+1)-1=a:=aJ (ga [((a+1)-1),a] 0xb1ab0a210 rfl (aC (ga [a] 0xb0ab rfl))) (gb [a,((a+1)-1)] 0xb0ab1a210 [1,0,1] rfl (aC (ga [a] 0xb0ab rfl)))
theorem Ge(h:a<b+1)(s:a≠b):a<b:=ga [a,b] 0x1b0a11b0a rfl (bH (ga [a,b] 0xb1ab0a110 rfl h) s)
theorem oX(h:a<b)(s:b<=c):(a+1)+(b-(a+1))<=c:=ga [a,(b-(a+1)),c,b] 0x3b0a1a223121b0aa rfl s (aC (ga [a,b] 0x1b0a11b0a rfl h))
theorem oY(h:a<=(c+1)+(d-(c+1)))(s:c<d)(t:d<=b):a<=b:=ga [a,b,c,(d-(c+1)),d] 0x4b2a3a21413b2aa0110 rfl h t (aC (ga [c,d] 0x1b0a11b0a rfl s))
theorem V1(h:b<a):1<=a:=ga [a,b] 0xb1a10b rfl h
theorem V2(h:a<=(c+1)+(b-(c+1)))(s:c<b):a<=b:=ga [a,b,c,(b-(c+1))] 0x1b2a3a23b2aa0110 rfl h (aC (ga [c,b] 0x1b0a11b0a rfl s))
theorem oZ(h:a<=b)(s:1<=a):1+(a-1)<=b:=ga [(a-1),b,a] 0x2b0a212110ba rfl h (aC (ga [a] 0xb10b rfl s))
theorem pA(h:a<=b)(s:b<1):a=b:=aJ (ga [a,b] 0x10110 rfl h) (ga [b,a] 0xbb0a110 rfl s)
theorem pB(h:a≠b)(s:1<=b):a≠1+(b-1):=λhn=>gd [a,(b-1),b] 0x2b0a12b1a21ba02 [0,1,0,1] rfl hn (aC (ga [b] 0xb10b rfl s)) (bH (ga [a,b,(b-1)] 0x1b2a22ba0210 rfl hn (aC (ga [b] 0xb10b rfl s))) h)
theorem pC(h:b<=a)(s:1<=b):0<a:=ga [a,b] 0x1b10110bda rfl h s
theorem pD(h:a≠c)(s:a<=1+(c-1))(t:c<=b)(u:1<=c):a-1<b:=ga [(a-1),b,c,a] 0x2b3a13011211b0a rfl t (bV _ _) (bH (ga [a,c,(c-1)] 0x1b2a22ba0110 rfl s (aC (ga [c] 0xb10b rfl u))) h)
theorem pE(h:a≠b)(s:a<=1+(b-1))(t:1<=b):a<=b:=ga [a,b] 0x1b0a110 rfl (bH (ga [a,b,(b-1)] 0x1b2a22ba0110 rfl s (aC (ga [b] 0xb10b rfl t))) h)
theorem pF(h:a≠c)(s:a<=1+(c-1))(t:c<=b)(u:1<=c):a<=b:=ga [a,b,c] 0x2b0a112110 rfl t (bH (ga [a,c,(c-1)] 0x1b2a22ba0110 rfl s (aC (ga [c] 0xb10b rfl u))) h)
theorem pG(h:a≠b)(s:a<=1+(b-1))(t:1<=b):a<b:=ga [a,b] 0x1b0a11b0a rfl (bH (ga [a,b,(b-1)] 0x1b2a22ba0110 rfl s (aC (ga [b] 0xb10b rfl t))) h)
theorem Lg(h:a<=c)(s:c<b):a<b:=ga [a,b,c] 0x1b2a12011b0a rfl h s
theorem pH(h:a≠b)(s:a<=b):a<b:=ga [a,b] 0x1b0a11b0a rfl (bH (ga [a,b] 0x10110 rfl s) h)
theorem pI(h:a<=1)(s:1<=a):a=1:=aJ (ga [a] 0xb01b0 rfl h) (ga [a] 0xb10b rfl s)
theorem pJ(h:a≠b)(s:a<=b)(t:b<1+1):a=0:=aJ (ga [a,b] 0x1b0a1bbab1a1d0 rfl t (bH (ga [a,b] 0x10110 rfl s) h)) (ga [a] 0xd rfl)
theorem pM(h:a-c<=0)(s:c<=b):a<=b:=ga [a,b,(a-c),c] 0x32a01131d2110 rfl h s (Q0a _ _)
theorem pN(h:a<b)(s:b<=d)(t:d<c):(a+b)/2<c:=gb [((a+b)/2),c,a,b,d] 0x32a021e11b4a14313b2a11b0a [2,1,2,2] rfl h s t (Q0b _)
theorem pO(h:a<b):a<=(a+b)/2:=gb [a,((a+b)/2),b] 0xb121ea20a12b0a110 [2] rfl h (Q0c _)
theorem pP(h:a<b)(s:b<=c):(a+b)/2<=c:=gb [((a+b)/2),c,a,b] 0x32a021e11313b2a110 [2,1,2] rfl h s (Q0b _)
theorem pQ(h:a<b)(s:a<=b)(t:b-a<=c+1):((a+b)/2)-a<=c:=gb [(((a+b)/2)-a),c,(b-a),((a+b)/2),a,b] 0x340a2542a254a321e1b1a2110 [2,1,1,0,1,2] rfl t (Q0b _) (aC (ga [a,b] 0x10110 rfl s)) (aC (gb [a,((a+b)/2),b] 0xb121ea20a12b0a110 [2] rfl h (Q0c _)))
theorem pR(h:a<b):(a+b)/2<b:=gb [((a+b)/2),b,a] 0x12a021e11b2a11b0a [2] rfl h (Q0b _)
theorem Ov(h:a<b+1):a<=b:=ga [a,b] 0xb1ab0a110 rfl h
theorem pS(h:a<b)(s:b<=c):(a+b)/2<c:=gb [((a+b)/2),c,a,b] 0x32a021e11313b2a11b0a [2,1,2] rfl h s (Q0b _)
theorem pT(h:a=b+0):a=b:=aJ (ga [a,b] 0xd1a0210 rfl h) (gb [b,a] 0xd0a1210 [1,0,1] rfl h)
theorem D9(h:a+(c+1)=b):a<b:=ga [a,b,c] 0x1b2a0a21b0a rfl h
theorem pU:a-0<=a:=ga [(a-0),a] 0x10110 rfl (bV _ _)
theorem Lh(h:a<0):P:=gc [a] 0xdb0a1 rfl h
theorem V3(h:a<b)(s:b<=a):P:=gc [a,b] 0x111b0a1 rfl h s
theorem Cn(h:a+(b+1)=c):(a+1)+b=c:=aJ (ga [a,b,c] 0x2b1a0a221b0aa rfl h) (gb [c,a,b] 0xb2a1a22b1aa0 [1,0,1] rfl h)
theorem V4:a-b<=a:=ga [(a-b),a] 0x10110 rfl (bV _ _)
theorem pW(h:b<=a):a-(a-b)=b:=aJ (gb [(a-(a-b)),b,(a-b),a] 0x312a2320a210 [1,1,0,0,1] rfl (aC (ga [(a-b),a] 0x10110 rfl (bV _ _))) (aC (ga [b,a] 0x10110 rfl h))) (gb [b,(a-(a-b)),(a-b),a] 0x302a2321a210 [1,0,1] rfl (aC (ga [(a-b),a] 0x10110 rfl (bV _ _))) (aC (ga [b,a] 0x10110 rfl h)))
theorem pX(h:a<b):a+(b-a)=b:=aJ (ga [a,(b-a),b] 0x201a2210a rfl (aC (ga [a,b] 0x1b0a110 rfl h))) (gb [b,a,(b-a)] 0x12a221a0 [1,0,1] rfl (aC (ga [a,b] 0x1b0a110 rfl h)))
theorem pY(h:2<=a):(¬(a<2)):=cH.2 (ga [a] 0xc10c rfl h)
theorem pZ(h:a=b)(s:2<=b):0<a:=gb [a,b] 0x1c11020bda [1,0,1] rfl h s
theorem Q154(h:a<c)(s:b=c):a<b:=gb [a,b,c] 0x2122b0a11b0a [1,1,0,1] rfl h s
theorem Q155(h:2<=a):1<=a:=ga [a] 0xc10b rfl h
theorem qA(h:a<c)(s:bK c (b+2)=true):a<=b+1:=ga [a,b,c] 0xc1a232b0a1b1a0 rfl h s
theorem Q157(h:1<=a):a=(a-1)+1:=aJ (gb [a,(a-1)] 0xb1a2b1a0 [1,0,1] rfl (aC (ga [a] 0xb10b rfl h))) (ga [(a-1),a] 0x1b0a21b0a rfl (aC (ga [a] 0xb10b rfl h)))
theorem Q158(h:3<=a):a=(a-1)+1:=aJ (gb [a,(a-1)] 0xb1a2b1a0 [1,0,1] rfl (aC (ga [a] 0x31f10b rfl h))) (ga [(a-1),a] 0x1b0a21b0a rfl (aC (ga [a] 0x31f10b rfl h)))
theorem qB(h:b<=a+1)(s:bK 2 b=true):1<=a:=ga [a,b] 0x1c3b0a110b rfl h s
theorem Q160(h:3<=a):a=(a-2)+2:=aJ (gb [a,(a-2)] 0xc1a2c1a0 [1,0,1] rfl (aC (ga [a] 0x31f10c rfl h))) (ga [(a-2),a] 0x1c0a21c0a rfl (aC (ga [a] 0x31f10c rfl h)))
theorem qC(h:(a+(8*(b+2)))+c<d):((a+1)+(8*(b+1)))+c<d:=ga [a,b,c,d] 0x3b2c1a81e0aaa13b2b1a81eb0aaaa rfl h
theorem qD(h:(a+(32*(b+2)))+c<d):((a+1)+(32*(b+1)))+c<d:=ga [a,b,c,d] 0x3b2c1a202e0aaa13b2b1a202eb0aaaa rfl h
theorem qE(h:a=b+1):a<=b+1:=ga [a,b] 0xb1a02b1a0 rfl h
theorem qF(h:(max a c)<=b):a<=b:=ga [a,b,(max a c)] 0x20112110 rfl h (g3V _ _)
theorem qG(h:(max c a)<=b):a<=b:=ga [a,b,(max c a)] 0x20112110 rfl h (g7D _ _)
theorem Q166(h:b<a):a=(a-1)+1:=aJ (gb [a,(a-1)] 0xb1a2b1a0 [1,0,1] rfl (aC (ga [a,b] 0xb1a10b rfl h))) (ga [(a-1),a] 0x1b0a21b0a rfl (aC (ga [a,b] 0xb1a10b rfl h)))
theorem Ff:0+a=a:=aJ (ga [a] 0xda rfl) (ga [a] 0xda0 rfl)
theorem Ip(h:a=b+0):a<=b:=ga [a,b] 0xd1a0210 rfl h
theorem Q169:0<=(a:Int):=ja [(a:Int)] 0xd10d rfl (bG _)
theorem V5(h:0<a):a≠(a-1)/2:=λhn=>gd [a,((a-1)/2),(a-1)] 0x212121e11020bda1 [1,2] rfl h hn (Q0b _) (bV _ _)
theorem V6(h:a=0)(s:0<a):P:=gc [a] 0xbda1d02 rfl h s
theorem qH(h:0<a):(a-1)/2≠a:=λhn=>gd [a,((a-1)/2),(a-1)] 0x212121e10120bda1 [1,0,2] rfl h hn (Q0b _) (bV _ _)
theorem qI(h:(b-1)/2=a)(s:(b-1)/2≠b):a≠b:=λhn=>gd [((b-1)/2),a,b] 0x2b0a1212102 [0,1,0,1] rfl h hn (bH (ga [((b-1)/2),b,(b-1)] 0x1212021e110 rfl (Q0b _) (bV _ _)) s)
theorem qJ(h:0<(a-1)/2):a≠(((a-1)/2)-1)/2:=λhn=>gc [((a-1)/2),a,((((a-1)/2)-1)/2),(a-1),(((a-1)/2)-1)] 0x414221e11313021e12120bda1 rfl h hn (Q0b _) (bV _ _) (Q0b _) (bV _ _)
theorem qK(h:0<(a-1)/2):(((a-1)/2)-1)/2≠a:=λhn=>gd [((a-1)/2),((((a-1)/2)-1)/2),a,(a-1),(((a-1)/2)-1)] 0x414121e12313021e12120bda1 [1,0,1] rfl h hn (Q0b _) (bV _ _) (Q0b _) (bV _ _)
theorem V7(h:(a-1)/2=b)(s:0<a):a≠b:=λhn=>gd [((a-1)/2),b,a,(a-1)] 0x2313021e11222bda1102 [0,2,1,2] rfl h s hn (Q0b _) (bV _ _)
theorem qL(h:(b-1)/2=c)(s:(c-1)/2=a)(t:0<c):a≠b:=λhn=>gd [((b-1)/2),c,((c-1)/2),a,b,(b-1),(c-1)] 0x1616221e14515021e14321bda1322102 [0,2,0,1,1,0,1] rfl h s t hn (Q0b _) (bV _ _) (Q0b _) (bV _ _)
theorem qM(h:(a-1)/2=c)(s:(c-1)/2=b)(t:0<c):a≠b:=λhn=>gd [((a-1)/2),c,((c-1)/2),b,a,(a-1),(c-1)] 0x1616221e14515021e13421bda1322102 [0,2,0,1] rfl h s t hn (Q0b _) (bV _ _) (Q0b _) (bV _ _)
theorem qN(h:a=c)(s:b≠c):a≠b:=λhn=>gd [a,c,b] 0x1b2a1202102 [0,1] rfl h hn (bH (gb [b,c,a] 0x2212210 [1,1,0,0,1] rfl h hn) s)
theorem qO(h:a<b):(a-1)/2<b:=ga [((a-1)/2),b,a,(a-1)] 0x2313021e11b2a11b0a rfl h (Q0b _) (bV _ _)
theorem qP(h:a≠0):0<a:=ga [a] 0xbda10bda rfl (bH (ga [a] 0xd rfl) (g0F h))
theorem qQ(h:a≠0):(a-1)/2<a:=gb [((a-1)/2),a,(a-1)] 0x1bda11212021e11b0a [2] rfl (Q0b _) (bV _ _) (bH (ga [a] 0xd rfl) (g0F h))
theorem Ow(h:a<b):(a:Int)<(b:Int):=ja [(a:Int),(b:Int)] 0x1b0a11b0a rfl (aH.2 h)
theorem qR(h:0<(a:Int)):(a:Int)-1=(((a-1):Nat):Int):=bX (jb [(a:Int),(((a-1):Nat):Int)] 0xb1a21b0c [1,-1] rfl (bF.2 (aC ((aH.1 (ja [(a:Int)] 0xbda10b rfl h)))))) (ja [(((a-1):Nat):Int),(a:Int)] 0x1b0a2b1c0 rfl (bF.2 (aC ((aH.1 (ja [(a:Int)] 0xbda10b rfl h))))))
theorem qS(h:0<(a:Int))(s:a<b)(t:b=c)(u:c<=200):(1<=(a:Int))/\(((-4611686018427387904)<=(a:Int)-1)/\((a:Int)-1<4611686018427387904)):=⟨ja [(a:Int)] 0xbda10b rfl h,⟨jl0 [(a:Int)] (.n (-4611686018427387904)) (.s w0 m1) (.l m0 w0 .z) rfl (bG _),jl0 [(a:Int),(b:Int),(c:Int)] (.a (.s w0 m1) m1) (.n 4611686018427387904) (.l (.a w0 m1) w1 (.e w1 w2 (.l w2 (.n 200) .z))) rfl (aH.2 s) (bF.2 t) (aH.2 u)⟩⟩
theorem V8(h:0<(a:Int)):(a-1)/2≠a:=λhn=>jd [(a:Int),((((a-1)/2):Nat):Int),(((a-1):Nat):Int)] 0x212121e10120bda1 [1,-2] rfl h (bF.2 hn) (aH.2 (Q0b _)) (aH.2 (bV _ _))
theorem qT(h:0<(a:Int)):(a-1)/2<a:=(aH.1 (jb [((((a-1)/2):Nat):Int),(a:Int),(((a-1):Nat):Int)] 0x1212021e11bda11b0a [2] rfl h (aH.2 (Q0b _)) (aH.2 (bV _ _))))
theorem V9(h:(a-1)/2=b)(s:a<b+1)(t:0<a):P:=gd [((a-1)/2),b,a,(a-1)] 0x2313021e12bda1b1ab2a1102 [0,2,2] rfl h s t (Q0b _) (bV _ _)
theorem Ox(h:a<1000):(a:Int)<4611686018427387904:=jl0 [(a:Int)] (.a w0 m1) (.n 4611686018427387904) (.l (.a w0 m1) (.n 1000) .z) rfl (aH.2 h)
theorem qU(h:bK 1 a=true):0<a:=ga [a] 0xb30bda rfl h
theorem qV(h:(2*(a:Int))+1<(c:Int))(s:b=c):(2*a)+1<b:=(aH.1 (jb [(a:Int),(b:Int),(c:Int)] 0x2122bb021eaa11bb021eaa [1,1,-1] rfl h (bF.2 s)))
theorem qW(h:((((2*a)+1):Nat):Int)<(c:Int))(s:b=c):(a:Int)<(b:Int):=jb [(a:Int),(b:Int),(c:Int)] 0xd12122bb021eaa11b0a [1,1,-1] rfl h (bF.2 s) (bG _)
theorem qX(h:a<c)(s:c=d)(t:d<=e)(u:bK e b=true):a<b:=ga [a,b,c,d,e] 0x1434313222b0a11b0a rfl h s t u
theorem qY(h:((((2*c)+1):Nat):Int)<(a:Int))(s:(b-1)/2=c)(t:0<b):a-b<a-c:=(aH.1 (jb [(((a-b):Nat):Int),(((a-c):Nat):Int),((((b-1)/2):Nat):Int),(c:Int),(((b-1):Nat):Int),(b:Int),(a:Int)] 0x2d1631a2650a25b4a24221e13221b0a [1,-1,1,1,1,-1] rfl (bF.2 s) (aH.2 (Q0b _)) (bF.2 (aC ((aH.1 (ja [(b:Int)] 0xbda10b rfl (aH.2 t)))))) (bF.2 (aC ((aH.1 (jb [(b:Int),(a:Int),(c:Int),((((b-1)/2):Nat):Int),(((b-1):Nat):Int)] 0xb4a01b321ea412321bb221eaa110 [1,1,2] rfl h (bF.2 s) (aH.2 (Q0c _)) (aH.2 (Q0a _ _))))))) (bF.2 (aC ((aH.1 (ja [(c:Int),(a:Int)] 0xd11bb021eaa110 rfl h (bG _)))))) (bG _)))
theorem qZ(h:((2*(a:Int))+1)+1<(c:Int))(s:b=c):(2*a)+2<b:=(aH.1 (jb [(a:Int),(b:Int),(c:Int)] 0x2122bbb021eaaa11b21f021eaa [1,1,-1] rfl h (bF.2 s)))
theorem rA:(2*a)+1≠a:=λhn=>gc [a] 0xb021ea2 rfl hn
theorem rB:(2*a)+2≠a:=λhn=>gc [a] 0xc021ea2 rfl hn
theorem rC:(((2*a)+2)-1)/2=a:=aJ (gb [((((2*a)+2)-1)/2),a,(((2*a)+2)-1)] 0xc121eab2a22021e110 [2] rfl (Q0b _) (aC (ga [a] 0xc021eab rfl))) (gb [a,((((2*a)+2)-1)/2),(((2*a)+2)-1)] 0xc021eab2a2b121ea2110 [2,1,0,1] rfl (Q0c _) (aC (ga [a] 0xc021eab rfl)))
theorem rD:0<(2*a)+2:=ga [a] 0xc021eabda rfl
theorem Wa:(((2*a)+1)-1)/2=a:=aJ (gb [((((2*a)+1)-1)/2),a,(((2*a)+1)-1)] 0xb121ea212021e110 [2] rfl (Q0b _) (bV _ _)) (gb [a,((((2*a)+1)-1)/2),(((2*a)+1)-1)] 0xb2ab021ea1b121ea2110 [2] rfl (Q0c _) (Q0a _ _))
theorem Wb:0<(2*a)+1:=ga [a] 0xb021eabda rfl
theorem rE(h:(c:Int)<=((2*(a:Int))+1)+1)(s:b=c):(¬(((2*a)+2)<b)):=cH.2 ((aH.1 (ja [(b:Int),(a:Int),(c:Int)] 0x202bb121eaa2121f121ea0 rfl h (bF.2 s))))
theorem rF(h:(c:Int)<=(((((2*b)+1)+1):Nat):Int))(s:(a-1)/2=b)(t:a<d)(u:c=d)(v:0<a):a=(2*b)+1:=aJ ((aH.1 (jb [(a:Int),(b:Int),(c:Int),(d:Int)] 0x3223b0a1bb121eaa21b121ea0 [1,1,1,-1] rfl h (aH.2 t) (bF.2 u)))) ((aH.1 (jb [(b:Int),(a:Int),((((a-1)/2):Nat):Int),(((a-1):Nat):Int)] 0x1b3a23221e10221b021ea [1,-2] rfl (bF.2 s) (aH.2 (Q0b _)) (bF.2 (aC ((aH.1 (ja [(a:Int)] 0xbda10b rfl (aH.2 v)))))))))
theorem rG(h:(c:Int)<=(2*(a:Int))+1)(s:b=c):(¬(((2*a)+1)<b)):=cH.2 ((aH.1 (ja [(b:Int),(a:Int),(c:Int)] 0x202b121ea21b121ea0 rfl h (bF.2 s))))
theorem Wc(h:(a:Int)<=((((2*b)+1):Nat):Int))(s:(c-1)/2=b)(t:a=d)(u:c<d)(v:0<c):P:=jd [(a:Int),(b:Int),((((c-1)/2):Nat):Int),(d:Int),(c:Int),(((c-1):Nat):Int)] 0x4b5a25221e13b4a1302122b121ea01 [1,-2,-1] rfl h (bF.2 s) (bF.2 t) (aH.2 u) (aH.2 (Q0b _)) (bF.2 (aC ((aH.1 (ja [(c:Int)] 0xbda10b rfl (aH.2 v))))))
theorem Q207:(0:Int)<=(0:Int):=ja [] 0xdd rfl
theorem rH:(¬(0<0)):=cH.2 (ga [] 0xdd rfl)
theorem rI(h:b<=a):(¬(a<b)):=cH.2 (ga [b,a] 0x10110 rfl h)
theorem rJ(h:a<=b)(s:b<1000):(a:Int)<4611686018427387904:=jl0 [(a:Int),(b:Int)] (.a w0 m1) (.n 4611686018427387904) (.l w0 w1 (.l (.a w1 m1) (.n 1000) .z)) rfl (aH.2 h) (aH.2 s)
theorem Wd(h:a<b)(s:b<=a):False:=gc [a,b] 0x111b0a1 rfl h s
theorem rK(h:b<a):a-1<a:=ga [(a-1),a] 0x1b0a21b0a rfl (aC (ga [a,b] 0xb1a10b rfl h))
theorem rL(h:0<a):0<=(-1)+(a:Int):=ja [(a:Int)] 0xbda10b9ad rfl (aH.2 h)
theorem rM(h:0<a):(bZ ((-1)+(a:Int)))=a-1:=aJ ((aH.1 (jb [(((bZ ((-1)+(a:Int))):Nat):Int),(((a-1):Nat):Int),(a:Int)] 0x2b1a22b9a0210 [1,1,-1] rfl (cC (ja [(a:Int)] 0xbda10b9ad rfl (aH.2 h))) (bF.2 (aC ((aH.1 (ja [(a:Int)] 0xbda10b rfl (aH.2 h))))))))) ((aH.1 (jb [(((a-1):Nat):Int),(((bZ ((-1)+(a:Int))):Nat):Int),(a:Int)] 0x2b0a22b9a1210 [1,-1] rfl (cC (ja [(a:Int)] 0xbda10b9ad rfl (aH.2 h))) (bF.2 (aC ((aH.1 (ja [(a:Int)] 0xbda10b rfl (aH.2 h)))))))))
theorem rN(h:a≠0):0<=(a:Int)-1:=ja [(a:Int)] 0xbda1b0cd rfl (aH.2 (bH (aH.1 (ja [(a:Int)] 0xd10d rfl (bG _))) (g0F h)))
theorem rO(h:a<d)(s:d<=e)(t:bK e c=true):(min a b)<c:=ga [(min a b),c,a,d,e] 0x2011434313b2a11b0a rfl h s t (g1K _ _)
theorem We(h:0<=A)(s:A<=4):(0<=A)/\(A<=1000):=⟨ja [A] 0xd10d rfl h,ja [A] 0x41f013e83f0 rfl s⟩
theorem rP:(a+1)+b=a+(b+1):=aJ (ga [a,b] 0xb1a0a1b0aa rfl) (ga [a,b] 0x1b0aab1a0a rfl)
theorem Gf(h:a<c)(s:c<=d)(t:bK d b=true):a<b:=ga [a,b,c,d] 0x1333212b0a11b0a rfl h s t
theorem rQ(h:a<c)(s:b=d)(t:c<d):a<b:=gb [a,b,c,d] 0x3b2a13122b0a11b0a [1,1,0,1] rfl h s t
theorem rR(h:b=d)(s:d<=e)(t:bK (e+1) c=true):(min a b)<c:=ga [(min a b),c,b,d,e] 0x2011b4a34313221b0a rfl h s t (g0D _ _)
theorem Oy(h:b<c)(s:c<=a):a≠b:=λhn=>gc [b,c,a] 0x222111b0a1 rfl h s hn
theorem rS(h:a<=d)(s:b<=c):a+b<=c+d:=ga [a,b,c,d] 0x21130132a10a rfl h s
theorem Wf(h:a<c)(s:c<=b+1):a<=b:=ga [a,b,c] 0xb1a212b0a110 rfl h s
theorem Li(h:a<=0):a=0:=aJ (ga [a] 0xd01d0 rfl h) (ga [a] 0xd rfl)
theorem rT(h:a<=(min c d))(s:d<=e+1)(t:e<f)(u:bK (f+1) b=true):a<b:=ga [a,b,(min c d),d,e,f] 0x3211b5a35b4a1b4a312011b0a rfl h s t u (g0D _ _)
theorem rU(h:a+2<=c)(s:c<b):a+2<=b:=ga [a,b,c] 0x1b2a12c0a11c0a rfl h s
theorem Wg(h:a<=c+1)(s:c<d)(t:bK d b=true):a<=b:=ga [a,b,c,d] 0x1333b2a1b2a0110 rfl h s t
theorem Wh(h:(a+b)+d<=c):a+b<=c:=ga [a,b,c,d] 0x2310aa1210a rfl h
theorem Wi:(min a b)<=b:=ga [(min a b),b] 0x10110 rfl (g0D _ _)
theorem Wj(h:b+2<=a):a≠b:=λhn=>gc [b,a] 0x121c0a1 rfl h hn
theorem Wk(h:a+2<=b):a<=b+1:=ga [a,b] 0x1c0a1b1a0 rfl h
theorem Wl(h:a+d<=e)(s:b<=d)(t:bK (e+1) c=true):a+b<c:=ga [a,b,c,d,e] 0x2b4a3311430a12b10aa rfl h s t
theorem Iq:a<=a+1:=ga [a] 0xb0a0 rfl
theorem Wm(h:a+2<=b):a<=b:=ga [a,b] 0x1c0a110 rfl h
theorem Wn(h:b+2<=c)(s:c+(0+1)<=a):a≠b+1:=λhn=>gc [b,c,a] 0xb0a222bda1a11c0a1 rfl h s hn
theorem Lj(h:a<=b):a<=b+1:=ga [a,b] 0x101b1a0 rfl h
theorem Wo(h:a<c)(s:bK (c+1) b=true):a+1<b:=ga [a,b,c] 0x1b2a32b0a11bb0aa rfl h s
theorem rV(h:a<c)(s:b=c):a<=b:=gb [a,b,c] 0x2122b0a110 [1,1,0,1] rfl h s
theorem rW(h:b<d)(s:bK d (c+1)=true):(min a b)<=c:=ga [(min a b),c,b,d] 0x201b1a333b2a110 rfl h s (g0D _ _)
theorem rX(h:a<d)(s:bK d (b+2)=true):a<=b+(c+1):=ga [a,b,c,d] 0xc1a333b0a1b2a1a0 rfl h s
theorem rY(h:b<d)(s:bK (2*d) (c+2)=true):(min a b)+(b-(a+1))<=c:=gb [(min a b),(b-(a+1)),c,b,d] 0x311301c2a421e34b3a1210a [1,2] rfl h s (g0D _ _) (bV _ _)
theorem rZ(h:a+2<=c)(s:c+2=d)(t:d<b):a+2<=b:=ga [a,b,c,d] 0x1b3a13c2a22c0a11c0a rfl h s t
theorem sA(h:b<a):a=(b+1)+(a-(b+1)):=aJ (gb [a,b,(a-(b+1))] 0xb1a2a22b1aa0 [1,0,1] rfl (aC (ga [b,a] 0x1b0a11b0a rfl h))) (ga [b,(a-(b+1)),a] 0x2b0a1a221b0aa rfl (aC (ga [b,a] 0x1b0a11b0a rfl h)))
theorem Wp(h:b+2<=c)(s:c+2=d)(t:d+(0+1)<=a):a≠b+1:=λhn=>gc [b,c,d,a] 0xb0a323bda2a12c1a21c0a1 rfl h s t hn
theorem Q256:(0:Int)<=(1:Int):=ja [] 0xbd rfl
theorem Wq(h:a<=(min c d))(s:d<=e)(t:bK (e+1) b=true):a<b:=ga [a,b,(min c d),d,e] 0x3211b4a34312011b0a rfl h s t (g0D _ _)
theorem Co(h:a<b):a≠b:=λhn=>gd [a,b] 0x1021b0a1 [1,0,1] rfl h hn
theorem sB(h:b<=d)(s:c=d+a):a+b<=c:=gb [a,b,c,d] 0x3a22311210a [1,1,0,1] rfl h s
theorem sC(h:a+c=d)(s:d<b):a<=b:=ga [a,b,c,d] 0x1b3a1320a210 rfl h s
theorem De(h:b<a):a≠b:=λhn=>gc [b,a] 0x121b0a1 rfl h hn
theorem Gg:a<=b+a:=ga [a,b] 0x1a0 rfl
theorem sD(h:c<=e)(s:e+a=f)(t:f<d):a+(min b c)<d:=ga [a,(min b c),d,c,e,f] 0x3112b5a1504a24312b10aa rfl h s t (g0D _ _)
theorem Wr(h:a<=c)(s:bK (c+1) b=true):1+a<=b:=ga [a,b,c] 0x1b2a320110ba rfl h s
theorem sE:(¬((0:Int)<=(-(1:Int)))):=g2Z.2 (ja [] 0xdbb9a rfl)
theorem Ws:0<=(-1)+((a:Int)+1):=ja [(a:Int)] 0xd1b0ab9ad rfl (bG _)
theorem Wt:(bZ ((-1)+((a:Int)+1)))=a:=aJ ((aH.1 (ja [(((bZ ((-1)+((a:Int)+1))):Nat):Int),(a:Int)] 0xb1ab9a0210 rfl (cC (ja [(a:Int)] 0xd1b0ab9ad rfl (bG _)))))) ((aH.1 (jb [(a:Int),(((bZ ((-1)+((a:Int)+1))):Nat):Int)] 0xb0ab9a1210 [1,-1] rfl (cC (ja [(a:Int)] 0xd1b0ab9ad rfl (bG _))))))
theorem Oz:a≠a+1:=λhn=>gd [a] 0xb0a02 [0,1] rfl hn
theorem sF(h:a+(c+1)<=d)(s:bK d b=true):a<b:=ga [a,b,c,d] 0x1333b2a0a11b0a rfl h s
theorem sG(h:(a+1)+(b+1)<=c):a+b<=c:=ga [a,b,c] 0x2b1ab0aa1210a rfl h
theorem Wu:a+1≠a:=λhn=>gc [a] 0xb0a2 rfl hn
theorem sH(h:a+1<b):a+1<b:=ga [a,b] 0x1bb0aa11bb0aa rfl h
theorem Ll(h:a<b):a≠b+1:=λhn=>gd [a,b] 0xb1a021b0a1 [1,0,1] rfl h hn
theorem Wv(h:b<c)(s:c+1<d)(t:d<a):a≠b:=λhn=>gc [b,c,d,a] 0x323b2a12bb1aa11b0a1 rfl h s t hn
theorem Ww(h:b<a):a+1≠b:=λhn=>gc [b,a] 0xb1a21b0a1 rfl h hn
theorem sI(h:(a+1)+(c+1)<=d)(s:bK d b=true):a+1<b:=ga [a,b,c,d] 0x1333b2ab0aa11bb0aa rfl h s
theorem sJ(h:(a+1)+(b+1)<=c):(a+2)+b<=c:=ga [a,b,c] 0x2b1ab0aa121c0aa rfl h
theorem Q280(h:a+(b+1)<=c):a+b<=c:=ga [a,b,c] 0x2b1a0a1210a rfl h
theorem sK(h:a+1=b):a+1=b:=aJ (ga [a,b] 0x1b0a21b0a rfl h) (gb [b,a] 0xb1a2b1a0 [1,0,1] rfl h)
theorem sL(h:a<=c+d)(s:c+e<=f)(t:d<g)(u:g<=e)(v:bK f b=true):a<b:=ga [a,b,c,d,e,f,g] 0x1534616b3a1542a132a011b0a rfl h s t u v
theorem sM(h:a=d+1)(s:d<=b+c):a<=b+(c+1):=ga [a,b,c,d] 0x21a31b3a02b2a1a0 rfl h s
theorem Q285(h:a<=b+c):a<=b+(c+1):=ga [a,b,c] 0x21a01b2a1a0 rfl h
theorem sN(h:a<c)(s:c<=b):1+a<=b:=ga [a,b,c] 0x1212b0a110ba rfl h s
theorem sO(h:a+d<=c)(s:b<d):(a+1)+b<=c:=ga [a,b,c,d] 0x3b1a1230a121b0aa rfl h s
theorem sP:((2*a)+1)+1=2*(a+1):=aJ (ga [a] 0xb0a21ebb021eaa rfl) (ga [a] 0xbb021eaab0a21e rfl)
theorem Wx(h:A<=B):A<=B:=ja [A,B] 0x10110 rfl h
theorem sQ(h:a<=c)(s:c<=d)(t:bK ((6*d)+1) b=true):1+(6*a)<=b:=gb [a,b,c,d] 0x1b361ea33212011061eba [1,6,6] rfl h s t
theorem sR(h:(a+1)+(6*c)<=d)(s:bK d (b+1)=true):a<=b:=ga [a,b,c,d] 0xb1a333261eb0aa110 rfl h s
theorem sS(h:a+1=c)(s:c+d<=e)(t:e<=b):a<=b:=ga [a,b,c,d,e] 0x141432a12b0a210 rfl h s t
theorem sT(h:a+c<=d)(s:d<=b):a<=b:=ga [a,b,c,d] 0x131320a110 rfl h s
theorem Bw(h:a<c)(s:c<=b):a<b:=ga [a,b,c] 0x1212b0a11b0a rfl h s
theorem sU(h:a<=c)(s:bK ((2*c)+1) b=true):2*a<b:=gb [a,b,c] 0x1b221ea32011b021ea [1,2] rfl h s
theorem sV(h:a<=c)(s:bK ((2*c)+2) b=true):(2*a)+1<b:=gb [a,b,c] 0x1c221ea32011bb021eaa [1,2] rfl h s
theorem Ir(h:(a:Int)=(b:Int)):a=b:=aJ ((aH.1 (ja [(a:Int),(b:Int)] 0x10210 rfl h))) ((aH.1 (jb [(b:Int),(a:Int)] 0x1210 [1,-1] rfl h)))
theorem sW(h:(d+1)+(6*e)<=f)(s:a=d)(t:bK (f+b) (c+1)=true):a+b<=c:=ga [a,b,c,d,e,f] 0xb2a15a33025461eb3aa1210a rfl h s t
theorem sX(h:a<c)(s:b<=d)(t:d<=e)(u:bK e 100=true):(100*a)+b<(100*c)+1:=gb [a,b,c,d,e] 0x642f434313112b0a1b2642eab10642eaa [1,100] rfl h s t u
theorem sY(h:a<=d)(s:b<e)(t:d<=f)(u:1+(6*e)<=c)(v:bK f 7=true):a+(6*b)<=c:=gb [a,b,c,d,e,f] 0x71f532461eba15314b1a13012161e0a [1,1,6] rfl h s t u v
theorem sZ(h:(d+1)+(6*b)<=c)(s:a=d):a+(6*b)<=c:=ga [a,b,c,d] 0x3022161eb3aa12161e0a rfl h s
theorem tC(h:a=b):a<b+1:=ga [a,b] 0x102b1ab0a rfl h
theorem tD(h:a<=b)(s:a<=c):(a<=b)/\(a<=c):=⟨ga [a,b] 0x10110 rfl h,ga [a,c] 0x10110 rfl s⟩
theorem Wy(h:b<a)(s:b<=a):a-(b+1)<a-b:=gb [(a-(b+1)),(a-b),b,a] 0x321a23b2a0a21b0a [1,1,0,0,1] rfl (aC (ga [b,a] 0x1b0a11b0a rfl h)) (aC (ga [b,a] 0x10110 rfl s))
theorem tE(h:a≠0):a≠0:=λhn=>gc [a] 0xdb0a1 rfl (bH (ga [a] 0xd02d0 rfl hn) h)
theorem tF:(¬(0<=((-(a:Int))-1))):=g2Z.2 (ja [(a:Int)] 0xd1dbb09ca rfl (bG _))
theorem tG(h:a<b):0<=((-(a:Int))-1)+(b:Int):=ja [(a:Int),(b:Int)] 0x1b0a11b09cad rfl (aH.2 h)
theorem tH(h:a<b):(bZ (((-(a:Int))-1)+(b:Int)))=(b-1)-a:=aJ ((aH.1 (jb [(((bZ (((-(a:Int))-1)+(b:Int))):Nat):Int),((((b-1)-a):Nat):Int),(a:Int),(b:Int),(((b-1):Nat):Int)] 0x3b4a2421a23b29ca0210 [1,1,-1,-1] rfl (cC (ja [(a:Int),(b:Int)] 0x1b0a11b09cad rfl (aH.2 h))) (bF.2 (aC ((aH.1 (ja [(a:Int),(((b-1):Nat):Int),(b:Int)] 0xb1a212b0a110 rfl (aH.2 h) (aH.2 (Q0a _ _))))))) (bF.2 (aC ((aH.1 (ja [(b:Int),(a:Int)] 0x1d10b1a10b rfl (aH.2 h) (bG _))))))))) ((aH.1 (jb [((((b-1)-a):Nat):Int),(((bZ (((-(a:Int))-1)+(b:Int))):Nat):Int),(a:Int),(b:Int),(((b-1):Nat):Int)] 0x3b4a2420a23b29ca1210 [1,-1] rfl (cC (ja [(a:Int),(b:Int)] 0x1b0a11b09cad rfl (aH.2 h))) (bF.2 (aC ((aH.1 (ja [(a:Int),(((b-1):Nat):Int),(b:Int)] 0xb1a212b0a110 rfl (aH.2 h) (aH.2 (Q0a _ _))))))) (bF.2 (aC ((aH.1 (ja [(b:Int),(a:Int)] 0x1d10b1a10b rfl (aH.2 h) (bG _)))))))))
theorem Wz(h:a<=b)(s:b<=a):a-b=0:=aJ (ga [(a-b),a,b] 0x120a2211d0 rfl h (aC (ga [b,a] 0x10110 rfl s))) (ga [(a-b)] 0xd rfl)
theorem W0(h:a-b=0)(s:b<a):P:=gc [(a-b),b,a] 0x10a212b1a1d02 rfl h s (Q0a _ _)
theorem tI:(-(a:Int))-1=(-(((a+1):Nat):Int)):=bX (ja [(a:Int)] 0xb0a9b09c rfl) (ja [(a:Int)] 0xb09cb0a9 rfl)
theorem tJ(h:a<b)(s:b<=60):(a:Int)<4611686018427387904:=jl0 [(a:Int),(b:Int)] (.a w0 m1) (.n 4611686018427387904) (.l (.a w0 m1) w1 (.l w1 (.n 60) .z)) rfl (aH.2 h) (aH.2 s)
theorem tK(h:a<=60):((-4611686018427387904)<=(a:Int)+1)/\((a:Int)+1<4611686018427387904):=⟨jl0 [(a:Int)] (.n (-4611686018427387904)) (.a w0 m1) (.l m0 w0 .z) rfl (bG _),jl0 [(a:Int)] (.a (.a w0 m1) m1) (.n 4611686018427387904) (.l w0 (.n 60) .z) rfl (aH.2 h)⟩
theorem tL(h:1<=a):2<2*((a:Int)+1):=ja [(a:Int)] 0xd10b1b0a21eb21fa rfl (aH.2 h) (bG _)
theorem tM(h:a<=60):((-4611686018427387904)<=2*((a:Int)+1))/\(2*((a:Int)+1)<4611686018427387904):=⟨jl [(a:Int)] (.n (-4611686018427387904)) (.m 2 (.a w0 m1)) (.l m0 w0 .z) [1,2] rfl (bG _),jl [(a:Int)] (.a (.m 2 (.a w0 m1)) m1) (.n 4611686018427387904) (.l w0 (.n 60) .z) [1,2] rfl (aH.2 h)⟩
theorem Lm(h:a<=b):a<=b+c:=ga [a,b,c] 0x10121a0 rfl h
theorem tN(h:a<=40)(s:b<=40):((-4611686018427387904)<=(a:Int)+(b:Int))/\((a:Int)+(b:Int)<4611686018427387904):=⟨jl0 [(a:Int),(b:Int)] (.n (-4611686018427387904)) (.a w0 w1) (.l m0 w0 (.l m0 w1 .z)) rfl (bG _) (bG _),jl0 [(a:Int),(b:Int)] (.a (.a w0 w1) m1) (.n 4611686018427387904) (.l w0 (.n 40) (.l w1 (.n 40) .z)) rfl (aH.2 h) (aH.2 s)⟩
theorem W4(h:a<=40):(¬((a:Int)>40)):=g1U.2 (ja [(a:Int)] 0x282f01282f0 rfl (aH.2 h))
theorem O0(h:(a:Int)<(b:Int)):a<b:=(aH.1 (ja [(a:Int),(b:Int)] 0x1b0a11b0a rfl h))
theorem tO(h:(a:Int)<(b:Int))(s:b<=40):a<=60:=(aH.1 (ja [(a:Int),(b:Int)] 0x282f111b0a13c2f0 rfl h (aH.2 s)))
theorem W5(h:(b:Int)<=(a:Int)):(¬(a<b)):=cH.2 ((aH.1 (ja [(b:Int),(a:Int)] 0x10110 rfl h)))
theorem tP(h:a<=d)(s:b<=c):a+b<=c+(1*d):=ga [a,b,c,d] 0x211301311e2a10a rfl h s
theorem W6(h:a<=d)(s:b<=d)(t:bK (2*d) c=true):a+b<=c:=ga [a,b,c,d] 0x2321e3311301210a rfl h s t
theorem W7(h:a<=10)(s:b<=10):((-4611686018427387904)<=(a:Int)+(b:Int))/\((a:Int)+(b:Int)<4611686018427387904):=⟨jl0 [(a:Int),(b:Int)] (.n (-4611686018427387904)) (.a w0 w1) (.l m0 w0 (.l m0 w1 .z)) rfl (bG _) (bG _),jl0 [(a:Int),(b:Int)] (.a (.a w0 w1) m1) (.n 4611686018427387904) (.l w0 (.n 10) (.l w1 (.n 10) .z)) rfl (aH.2 h) (aH.2 s)⟩
theorem W8(h:(a:Int)=2):a=2:=aJ ((aH.1 (ja [(a:Int)] 0x21f0221f0 rfl h))) ((aH.1 (jb [(a:Int)] 0x21f02021f [1,-1] rfl h)))
theorem tQ(h:a<=c)(s:bK (c+2) b=true):a+1<b:=ga [a,b,c] 0x1c2a32011bb0aa rfl h s
theorem tR(h:a+((c+d)+1)=e)(s:e<=b):a<b:=ga [a,b,c,d,e] 0x1414b32aa0a21b0a rfl h s
theorem tS(h:a+(d+(1*b))<=c):a+b<=c:=ga [a,b,c,d] 0x2111e3a0a1210a rfl h
theorem tT(h:a+(c+(1*b))<=d):(a+b)+c<=d:=ga [a,b,c,d] 0x3111e2a0a13210aa rfl h
theorem tU(h:a=c)(s:c<d)(t:d<=e)(u:bK e b=true):a<b:=ga [a,b,c,d,e] 0x1434313b2a12021b0a rfl h s t u
theorem W9(h:a=b):a=b:=aJ (ga [a,b] 0x10210 rfl h) (gb [b,a] 0x1210 [1,0,1] rfl h)
theorem tV(h:a<a):False:=gc [a] 0xb0a1 rfl h
theorem tW(h:(a+1)+b<a):False:=gc [a,b] 0xb1b0aaa1 rfl h
theorem tX:(a+1)+b≠a:=λhn=>gc [a,b] 0x1b0aa2 rfl hn
theorem tY(h:(b+1)+c=d)(s:a=d+1):a=(b+1)+(c+1):=aJ (gb [a,b,c,d] 0xb3a0232b1aa2b2ab1aa0 [1,0,1] rfl h s) (gb [b,c,a,d] 0xb3a2231b0aa22b1ab0aa [1,1,0,0,1] rfl h s)
theorem tZ:a≠(a+1)+b:=λhn=>gd [a,b] 0x1b0aa02 [0,1] rfl hn
theorem uA(h:a<=4):(0<=(a:Int))/\((a:Int)<=4):=⟨ja [(a:Int)] 0xd10d rfl (bG _),ja [(a:Int)] 0x41f0141f0 rfl (aH.2 h)⟩
theorem uB(h:a<=b+c):(a:Int)<=(b:Int)+(c:Int):=ja [(a:Int),(b:Int),(c:Int)] 0x21a0121a0 rfl (aH.2 h)
theorem Ln(h:a<=2)(s:bK 2 b=true):a<=b:=ga [a,b] 0x1c3c0110 rfl h s
theorem uC:(a<=(a+1)+b)/\(a<=(a+1)+c):=⟨ga [a,b] 0x1b0aa0 rfl,ga [a,c] 0x1b0aa0 rfl⟩
theorem Xa:(a+b)+(c+d)=(a+c)+(b+d):=aJ (ga [a,b,c,d] 0x31a20aa32a10aa rfl) (ga [a,c,b,d] 0x31a20aa32a10aa rfl)
theorem uD(h:b=d-1)(s:c=d+a)(t:0<d):(a+b)+1=c:=aJ (gb [a,b,c,(d-1),d] 0x4b3a204a223122b10aa [1,1,0,0,1] rfl h s (aC (ga [d] 0xbda10b rfl t))) (gb [c,a,b,(d-1),d] 0x4b3a214a02322b21aa0 [1,0,1,1,0,0,1] rfl h s (aC (ga [d] 0xbda10b rfl t)))
theorem Xb(h:0<a):(a-1)+1=a:=aJ (ga [(a-1),a] 0x1b0a21b0a rfl (aC (ga [a] 0xbda10b rfl h))) (gb [a,(a-1)] 0xb1a2b1a0 [1,0,1] rfl (aC (ga [a] 0xbda10b rfl h)))
theorem uE(h:a+b<0):P:=gc [a,b] 0xdb10aa1 rfl h
theorem uF(h:((b+0)+c)+d=a):a=b+(c+d):=aJ (gb [a,b,c,d] 0x32d1aaa232a1a0 [1,0,1] rfl h) (ga [b,c,d,a] 0x321d0aaa2321a0a rfl h)
theorem uG(h:a+(b+1)<=c):a+b<c:=ga [a,b,c] 0x2b1a0a12b10aa rfl h
theorem uH(h:((b+(c+(g+f)))+d)+e=a):a=((b+c)+(d+e))+(f+g):=aJ (gb [a,b,c,d,e,f,g] 0x4356a2a1aaa265a43a21aaa0 [1,0,1] rfl h) (ga [b,c,d,e,f,g,a] 0x63245a1a0aaa2654a32a10aaa rfl h)
theorem Xc(h:a=0)(s:0<a):False:=gc [a] 0xbda1d02 rfl h s
theorem uI(h:(a+c)+d=e)(s:(b+d)+c=f)(t:e=f):a=b:=aJ (gb [a,b,c,d,e,f] 0x5425231aa24320aa210 [1,1,0,0,1] rfl h s t) (gb [b,a,c,d,e,f] 0x5425230aa24321aa210 [1,0,1,1,0,0,1] rfl h s t)
theorem uJ(h:(a+b)+c=d)(s:d=0):a=0:=aJ (ga [a,b,c,d] 0xd323210aa2d0 rfl h s) (ga [a] 0xd rfl)
theorem uK(h:a=b):a=b:=aJ (ga [a,b] 0x10210 rfl h) (gb [b,a] 0x1210 [1,0,1] rfl h)
theorem uL(h:((i+c)+f)+g=a)(s:(b+d)+e=i):a=((b+(c+(d+e)))+f)+g:=aJ (gb [a,b,c,d,e,f,g,i] 0x7431aa206527aaa26543a2a1aaa0 [1,0,1,0,1] rfl h s) (ga [b,c,d,e,f,g,a,i] 0x7320aa265417aaa265432a1a0aaa rfl h s)
theorem uM(h:a+1=d)(s:d+1=e)(t:e+b<c+1):a+(b+1)<c:=ga [a,b,c,d,e] 0xb2ab14aa14b3a23b0a22bb1a0aa rfl h s t
theorem uN:a+b=b+a:=aJ (ga [a,b] 0x1a10a rfl) (ga [b,a] 0x1a10a rfl)
theorem Xd:a+(b+c)=(a+b)+c:=aJ (ga [a,b,c] 0x210aa21a0a rfl) (ga [a,b,c] 0x21a0a210aa rfl)
theorem uO:a+(b+c)=((0+b)+a)+c:=aJ (ga [a,b,c] 0x201daaa21a0a rfl) (ga [b,a,c] 0x20a1a210daaa rfl)
theorem uP(h:b<a):(a-1)+1=a:=aJ (ga [(a-1),a] 0x1b0a21b0a rfl (aC (ga [a,b] 0xb1a10b rfl h))) (gb [a,(a-1)] 0xb1a2b1a0 [1,0,1] rfl (aC (ga [a,b] 0xb1a10b rfl h)))
theorem uQ(h:a+1=c)(s:c<=b):a<=b:=ga [a,b,c] 0x1212b0a210 rfl h s
theorem uR:a+b=b+a:=aJ (ga [a,b] 0x1a10a rfl) (ga [b,a] 0x1a10a rfl)
theorem Xe(h:2<=a):0<a:=ga [a] 0xc10bda rfl h
theorem O1:2+(2*a)=2*(a+1):=aJ (ga [a] 0xb0a21e021eca rfl) (ga [a] 0x21ecab0a21e rfl)
theorem uS(h:c=2*a)(s:c<=b):2*a<=b:=gb [a,b,c] 0x121021e221021e [1,0,1] rfl h s
theorem uT(h:0<a):0<a+b:=ga [a,b] 0xbda110abda rfl h
theorem uU(h:a+1=d)(s:d+e<=f)(t:f<=g)(u:2*b<=g)(v:bK (3*g) (c+2)=true):(2*a)+(2*b)<=c:=gb [a,b,c,d,e,f,g] 0xc2a631e36121e1651543a13b0a22121e021ea [1,2,0,2,2] rfl h s t u v
theorem uV(h:b+a=c)(s:b=0)(t:0<c):0<a:=gb [a,b,c] 0x2bda1d12201a20bda [1,0,1] rfl h s t
theorem uW:0<1+a:=ga [a] 0xbabda rfl
theorem uX(h:a=b+c)(s:0<b):0<a:=gb [a,b,c] 0x1bda121a020bda [1,0,1] rfl h s
theorem uY(h:2<=a):1<a:=ga [a] 0xc10bba rfl h
theorem uZ(h:b=0)(s:b=1):2<=a:=gb [a,b] 0xb12d120c [0,1,0,0,1] rfl h s
theorem vA(h:a=b+c)(s:0<c):0<a:=gb [a,b,c] 0x2bda121a020bda [1,0,1] rfl h s
theorem vB:0+(a+b)=a+b:=aJ (ga [a,b] 0x10a10ada rfl) (ga [a,b] 0x10ada10a rfl)
theorem vC(h:a≠b)(s:b<=a):(¬(a<(b+1))):=cH.2 (ga [b,a] 0x1b0a11b0a rfl (bH (ga [b,a] 0x10110 rfl s) (g0F h)))
theorem Xf:1+a=a+1:=aJ (ga [a] 0xb0a0ba rfl) (ga [a] 0xbab0a rfl)
theorem vD:A+(B+C)=B+(A+C):=bX (ja [A,B,C] 0x20a1a21a0a rfl) (ja [B,A,C] 0x20a1a21a0a rfl)
theorem Xg:A+(A+(2*B))=2*(A+B):=bX (ja [A,B] 0x10a21e121e0a0a rfl) (ja [A,B] 0x121e0a0a10a21e rfl)
theorem Xh:(0:Int)+(0:Int)<=(0:Int):=ja [] 0xddda rfl
theorem Q386(h:A+E<=C)(s:B<=E+D):A+B<=C+D:=ja [A,B,C,D,E] 0x34a11240a132a10a rfl h s
theorem Xi(h:A+E<=C)(s:B<=E+D):(A+B)+0<=C+D:=ja [A,B,C,D,E] 0x34a11240a132ad10aa rfl h s
theorem O2(h:a<b-1):a<b:=ga [a,b,(b-1)] 0x1212b0a11b0a rfl h (bV _ _)
theorem Xj(h:a<b-1):a+1<b:=ga [a,b,(b-1)] 0x1b2a22b0a11bb0aa rfl h (aC (ga [b,a,(b-1)] 0x212b1a10b rfl h (bV _ _)))
theorem vE(h:B+A<=C):A+B<=C:=ja [A,B,C] 0x201a1210a rfl h
theorem Xk:(¬(a<0)):=cH.2 (ga [a] 0xd rfl)
theorem vF(h:a<c+1)(s:c<d)(t:d<b):a<b:=ga [a,b,c,d] 0x1b3a13b2a1b2ab0a11b0a rfl h s t
theorem vG(h:a<c+1)(s:c<b):a<b:=ga [a,b,c] 0x1b2a1b2ab0a11b0a rfl h s
theorem vH(h:a<c)(s:c<d+1)(t:d<b):a<b:=ga [a,b,c,d] 0x1b3a1b3ab2a12b0a11b0a rfl h s t
theorem Iu:a<=a:=ga [a] 0 rfl
theorem Xl(h:A<B)(s:B<=C)(t:C<=A):False:=jc [A,B,C] 0x212111b0a1 rfl h s t
theorem vJ:(((a+0):Nat):Int)<=(a:Int)+1:=ja [(a:Int)] 0xb0ad0a rfl
theorem Xm:A+B=B+A:=bX (ja [A,B] 0x1a10a rfl) (ja [B,A] 0x1a10a rfl)
theorem vK(h:A+0<=B):A<=B:=ja [A,B] 0x1d0a110 rfl h
theorem vM(h:0<=B)(s:A<=0):2*A<=B:=jb [A,B] 0xd011d11021e [1,1,2] rfl h s
theorem vN(h:A<=B+0):2*A<=B+B:=jb [A,B] 0xd1a0111a021e [1,2] rfl h
theorem vO(h:A<=B+D)(s:A<=C+E):2*A<=B+(C+(D+(E+0))):=ja [A,B,C,D,E] 0x42a0131a01d4a3a2a1a021e rfl h s
theorem Xn(h:a<b)(s:2<=a):(2<=a)/\(a<b):=⟨ga [a] 0xc10c rfl s,ga [a,b] 0x1b0a11b0a rfl h⟩
theorem vP(h:(a:Int)=1):a=1:=aJ ((aH.1 (ja [(a:Int)] 0xb02b0 rfl h))) ((aH.1 (jb [(a:Int)] 0xb020b [1,-1] rfl h)))
theorem vQ(h:a<=c)(s:c<d)(t:d<=e)(u:bK e b=true):a<b:=ga [a,b,c,d,e] 0x1434313b2a12011b0a rfl h s t u
theorem vR(h:(a:Int)≠1):a≠1:=λhn=>jd [(a:Int)] 0xbb0a1b02 [-1] rfl (bF.2 hn) (g5L.2 ⟨(ja [(a:Int)] 0xb02b0 rfl (bF.2 hn)),h⟩)
theorem Xo(h:b<=d)(s:bK (d+1) c=true):(min a b)<c:=ga [(min a b),c,b,d] 0x2011b3a33211b0a rfl h s (g0D _ _)
theorem Xp(h:a<b)(s:b=c):a<(min b c):=gEB.2 ⟨ga [a,b] 0x1b0a11b0a rfl h,ga [a,c,b] 0x1222b0a11b0a rfl h s⟩
theorem vU(h:a<(min b c)):(a<b)/\(a<c):=⟨ga [a,b,(min b c)] 0x1212b0a11b0a rfl h (g1K _ _),ga [a,c,(min b c)] 0x1212b0a11b0a rfl h (g0D _ _)⟩
theorem vV:(min a b)<=a:=ga [(min a b),a] 0x10110 rfl (g1K _ _)
theorem vW(h:a<=c):(min a b)<=c:=ga [(min a b),c,a] 0x20112110 rfl h (g1K _ _)
theorem vX(h:a<c)(s:b=c):a<(min b c):=gEB.2 ⟨gb [a,b,c] 0x2122b0a11b0a [1,1,0,1] rfl h s,ga [a,c] 0x1b0a11b0a rfl h⟩
theorem vY(h:a<b)(s:b<=e)(t:bK e d=true):(min a (min b c))<d:=ga [(min a (min b c)),d,a,b,e] 0x2011434313b2a11b0a rfl h s t (g1K _ _)
theorem vZ(h:a+(2*c)<e)(s:b<c)(t:bK e (d+2)=true):a+(2*(min b c))<d:=gb [a,(min b c),d,c,e,b] 0x511c2a433b5a14b321e0aa12b121e0aa [1,1,2,1,2] rfl h s t (g1K _ _)
theorem wA(h:a+b<d)(s:bK (d+1) c=true):a+(b+1)<c:=ga [a,b,c,d] 0x2b3a33b10aa12bb1a0aa rfl h s
theorem wB(h:a<c)(s:c<=b):a<=b:=ga [a,b,c] 0x1212b0a110 rfl h s
theorem wC:1+(a:Int)=(a:Int)+1:=bX (ja [(a:Int)] 0xb0a0ba rfl) (ja [(a:Int)] 0xbab0a rfl)
theorem wD(h:a<b-1)(s:1<=b):a+1<b:=ga [a,b,(b-1)] 0x1b2a22b0a11bb0aa rfl h (aC (ga [b] 0xb10b rfl s))
theorem wE(h:a<d-1)(s:d<=e)(t:bK e c=true):(min a b)<c:=ga [(min a b),c,a,(d-1),d,e] 0x2014311535413b2a11b0a rfl h s t (bV _ _) (g1K _ _)
theorem wF(h:b<d)(s:bK d c=true):(min a b)<c:=ga [(min a b),c,b,d] 0x2011333b2a11b0a rfl h s (g0D _ _)
theorem wG(h:a<c)(s:bK (2*c) (b+2)=true):a+a<=b:=gb [a,b,c] 0xc1a221e32b0a1100a [1,2] rfl h s
theorem wH(h:1<=a):2<=a+a:=gb [a] 0xb100ac [1,2] rfl h
theorem wI(h:a<c)(s:bK (2*c) (b+1)=true):a+a<b:=gb [a,b,c] 0xb1a221e32b0a11b00aa [1,2] rfl h s
theorem wJ(h:a<=(min c d))(s:d<=b):a<=b:=ga [a,b,(min c d),d] 0x32113120110 rfl h s (g0D _ _)
theorem wK(h:a=b)(s:2<=b):2<=a:=gb [a,b] 0x1c11020c [1,0,1] rfl h s
theorem wL(h:a=c)(s:c<=d)(t:bK (d+1) b=true):a<b:=ga [a,b,c,d] 0x1b3a33212021b0a rfl h s t
theorem wM(h:a<b):(a:Int)<=(b:Int):=ja [(a:Int),(b:Int)] 0x1b0a110 rfl (aH.2 h)
theorem wN(h:a+1=c+1)(s:c<b+1):a<=b:=ga [a,b,c] 0xb1ab2a1b2ab0a210 rfl h s
theorem Q457(h:a<=c)(s:bK c b=true):a-1<=b:=ga [(a-1),b,a,c] 0x20113332110 rfl h s (bV _ _)
theorem wO(h:a+1=c)(s:c<=d)(t:bK d (b+1)=true):a<=b:=ga [a,b,c,d] 0xb1a333212b0a210 rfl h s t
theorem wP(h:a=c)(s:c<d)(t:d=e)(u:e<=f)(v:bK f b=true):a<b:=ga [a,b,c,d,e,f] 0x1535414323b2a12021b0a rfl h s t u v
theorem Xq(h:a<c)(s:c<d)(t:d<=e)(u:bK e (b+1)=true):a<b:=ga [a,b,c,d,e] 0xb1a434313b2a12b0a11b0a rfl h s t u
theorem wQ(h:bK (a+1) b=true):a<b:=ga [a,b] 0x1b0a31b0a rfl h
theorem wR(h:a<=5)(s:1<=a):(0<=(a:Int)-1)/\((a:Int)-1<=1000):=⟨ja [(a:Int)] 0xb1b0cd rfl (aH.2 s),ja [(a:Int)] 0x51f013e83fb0c rfl (aH.2 h)⟩
theorem wS:((a:Int)-1)+(((b:Int)-1)+(((c:Int)-1)+((d:Int)-1)))=((((a:Int)-1)+((b:Int)-1))+((c:Int)-1))+((d:Int)-1):=bX (ja [(a:Int),(b:Int),(c:Int),(d:Int)] 0xb3cb2cb1cb0caaab3cb2cab1cab0ca rfl) (ja [(a:Int),(b:Int),(c:Int),(d:Int)] 0xb3cb2cab1cab0cab3cb2cb1cb0caaa rfl)
theorem wT(h:a<=c)(s:c=d)(t:d<=b):a<=b:=ga [a,b,c,d] 0x13132220110 rfl h s t
theorem wU(h:a=0)(s:1<=a):P:=gc [a] 0xb1d02 rfl h s
theorem wV:(a+1)-a=1:=aJ (ga [((a+1)-a),a] 0xb1a10a2b0 rfl (aC (ga [a] 0xb0a0 rfl))) (gb [((a+1)-a),a] 0xb1a10a20b [1,0,1] rfl (aC (ga [a] 0xb0a0 rfl)))
theorem wW:a-a=0:=aJ (ga [(a-a),a] 0x110a2d0 rfl (aC (ga [a] 0 rfl))) (ga [(a-a)] 0xd rfl)
theorem wX(h:A<=4)(s:B<=4*(a:Int)):A+B<=4*((a:Int)+1):=ja [A,B,(a:Int)] 0x241e1141f01b2a41e10a rfl h s
theorem wY(h:(2*B)+(2*C)=D+D)(s:A<=D):A<=B+C:=jb [A,B,C,D] 0x30133a221e121ea221a0 [2,-1,2] rfl h s
theorem wZ(h:a+1=c)(s:c<=d)(t:d<=b):a<=b:=ga [a,b,c,d] 0x1313212b0a210 rfl h s t
theorem xA(h:0<=B)(s:A=B)(t:B<=4*(a:Int))(u:a<=5):(0<=A)/\(A<=20):=⟨jb [A,B] 0x1021d10d [1,1,-1] rfl h s,jb [A,B,(a:Int)] 0x51f21241e11102142f0 [1,1,1,4] rfl s t (aH.2 u)⟩
theorem xB:2*(a+1)=2+(2*a):=aJ (ga [a] 0x21ecab0a21e rfl) (ga [a] 0xb0a21e021eca rfl)
theorem xC(h:a<=c)(s:c<b):a<=b:=ga [a,b,c] 0x1b2a120110 rfl h s
theorem xD(h:0<a):1<=a:=ga [a] 0xbda10b rfl h
theorem xE(h:0<a):0<a:=ga [a] 0xbda10bda rfl h
theorem xF(h:b=0)(s:b=1):1<=a:=gb [a,b] 0xb12d120b [0,1,0,0,1] rfl h s
theorem xG(h:a=b+1):1<=a:=gb [a,b] 0xb1a020b [1,0,1] rfl h
theorem xH(h:d<=e)(s:f<=d)(t:f=2*b)(u:g+1=i)(v:i+j<=d)(w:a=2*g)(x:bK (3*e) (c+1)=true):a+(2*b)<c:=gb [a,b,c,d,e,f,g,i,j] 0xb2a431e3621e02387a17b6a2121e523514312b121e0aa [1,3,1,0,1,2,0,2] rfl h s t u v w x
theorem xI(h:(2*b)+(2*c)=a)(s:1<=b):2<=a:=gb [a,b,c] 0x1b10221e121ea20c [1,1,0,2] rfl h s
theorem O3(h:b+c<=a)(s:b=d+1)(t:1<=d):2<=a:=gb [a,b,c,d] 0x3b1b3a12021a10c [1,1,0,1] rfl h s t
theorem xJ(h:c<=d)(s:e<=c)(t:e=2*f)(u:g+1=i)(v:i+j<=c)(w:(2*g)+(2*f)=a)(x:bK (3*d) (b+1)=true):a<b:=gb [a,b,c,d,e,f,g,i,j] 0xb1a331e30521e621ea2287a17b6a2521e422413211b0a [1,3,1,0,1,2,0,2,0,1] rfl h s t u v w x
theorem xK(h:(2*b)+(2*c)=d+d)(s:a-1=d)(t:1<=b):1<=a:=gb [a,b,c,d,(a-1)] 0x411b134233a221e121ea20b [2,1,0,0,2,1,2] rfl h s t (bV _ _)
theorem xL(h:(2*b)+(2*c)=a+a)(s:1<=b):1<=a:=gb [a,b,c] 0x1b100a221e121ea20b [2] rfl h s
theorem xM(h:c<=d)(s:e<=c)(t:e=2*f)(u:g+1=i)(v:i+j<=c)(w:(2*g)+(2*f)=a+a)(x:bK (3*d) (b+1)=true):a<b:=gb [a,b,c,d,e,f,g,i,j] 0xb1a331e300a521e621ea2287a17b6a2521e422413211b0a [1,3,1,0,1,2,0,2,0,1] rfl h s t u v w x
theorem xN(h:0<=A)(s:A<=4*(a:Int))(t:b=2*a)(u:b<=c)(v:c<=5):(A<=100)/\(0<=A):=⟨jb [A,(a:Int),(b:Int),(c:Int)] 0x51f31321121e22141e01642f0 [1,1,-2,2,2] rfl s (bF.2 t) (aH.2 u) (aH.2 v),ja [A] 0xd10d rfl h⟩
theorem xO(h:0<=A)(s:A<=20):((-4611686018427387904)<=A)/\(A<4611686018427387904):=⟨jl0 [A] (.n (-4611686018427387904)) w0 (.l m0 w0 .z) rfl h,jl0 [A] (.a w0 m1) (.n 4611686018427387904) (.l w0 (.n 20) .z) rfl s⟩
theorem xP(h:a<=5):(a:Int)<4611686018427387904:=jl0 [(a:Int)] (.a w0 m1) (.n 4611686018427387904) (.l w0 (.n 5) .z) rfl (aH.2 h)
theorem xQ(h:0<=A)(s:A<=4*(a:Int))(t:a<=5):((-4611686018427387904)<=A)/\(A<4611686018427387904):=⟨jl0 [A] (.n (-4611686018427387904)) w0 (.l m0 w0 .z) rfl h,jl [A,(a:Int)] (.a w0 m1) (.n 4611686018427387904) (.l w0 (.m 4 w1) (.l w1 (.n 5) .z)) [1,1,4] rfl s (aH.2 t)⟩
theorem xR(h:a<=5):((-4611686018427387904)<=(a:Int)-1)/\((a:Int)-1<4611686018427387904):=⟨jl0 [(a:Int)] (.n (-4611686018427387904)) (.s w0 m1) (.l m0 w0 .z) rfl (bG _),jl0 [(a:Int)] (.a (.s w0 m1) m1) (.n 4611686018427387904) (.l w0 (.n 5) .z) rfl (aH.2 h)⟩
theorem xS(h:0<=A)(s:A<=100):((-4611686018427387904)<=A)/\(A<4611686018427387904):=⟨jl0 [A] (.n (-4611686018427387904)) w0 (.l m0 w0 .z) rfl h,jl0 [A] (.a w0 m1) (.n 4611686018427387904) (.l w0 (.n 100) .z) rfl s⟩
theorem xT(h:a<=90)(s:65<=a):a-65<26:=ga [(a-65),a] 0x1412f0a25a2f111a2fb0a rfl h (aC (ga [a] 0x412f10412f rfl s))
theorem xU(h:65<=a):(a-65)+65=a:=aJ (ga [(a-65),a] 0x1412f0a21412f0a rfl (aC (ga [a] 0x412f10412f rfl h))) (gb [a,(a-65)] 0x412f1a2412f1a0 [1,0,1] rfl (aC (ga [a] 0x412f10412f rfl h)))
theorem xV(h:a<=122)(s:97<=a):a-97<26:=ga [(a-97),a] 0x1612f0a27a2f111a2fb0a rfl h (aC (ga [a] 0x612f10612f rfl s))
theorem xW(h:97<=a):(a-97)+97=a:=aJ (ga [(a-97),a] 0x1612f0a21612f0a rfl (aC (ga [a] 0x612f10612f rfl h))) (gb [a,(a-97)] 0x612f1a2612f1a0 [1,0,1] rfl (aC (ga [a] 0x612f10612f rfl h)))
theorem xX:((2*a)+1)/2=a:=aJ (gb [(((2*a)+1)/2),a] 0xb121ea021e110 [2] rfl (Q0b _)) (gb [a,(((2*a)+1)/2)] 0xb121eab021ea110 [2] rfl (Q0c _))
theorem xY:(((2*a)+2)/2)-1=a:=aJ (gb [((((2*a)+2)/2)-1),a,(((2*a)+2)/2)] 0x2b0a2c121ea221e110 [2,1,2] rfl (Q0b _) (aC (gb [(((2*a)+2)/2),a] 0xb021eac121ea10b [2] rfl (Q0c _)))) (gb [a,((((2*a)+2)/2)-1),(((2*a)+2)/2)] 0x2b1a2b221eac021ea110 [2,1,0,2] rfl (Q0c _) (aC (gb [(((2*a)+2)/2),a] 0xb021eac121ea10b [2] rfl (Q0c _))))
end
end Mine
namespace Mine
section
open Yy
variable {a b c d e f g i j k l m n o p q r:Nat}{A B C D E F G H I J:Int}{P P1 P2:Prop}
theorem Rna{P Q:Prop}[Decidable P](h: ¬(P/\Q)): ¬P\/¬Q:=if p:P then .inr λq=>h ⟨p,q⟩ else .inl p
theorem R1(h:((-((2:Int)^62))<=A)/\(A<(2:Int)^62)):(-((2:Int)^64))<A:=jl0 [A] (.a (.n (-18446744073709551616)) m1) w0 (.l (.n (-4611686018427387904)) w0 .z) rfl h.1
theorem R2(h:((-((2:Int)^62))<=A)/\(A<(2:Int)^62)):A<(2:Int)^64:=jl0 [A] (.a w0 m1) (.n 18446744073709551616) (.l (.a w0 m1) (.n 4611686018427387904) .z) rfl h.2
theorem R12(h:b-a=c)(s:b<=c)(t:0<c):a=0:=(g1Y (a) (b)).elim (λc1=>aJ (gl [a,(b-a),c,b] v0 n0 (.e v1 v2 (.l v3 v2 (.e (.a v1 v0) v3 .z))) [1,0,1] rfl h s (aC (gl0 [a,b] v0 v1 (.l v0 v1 .z) rfl c1))) (gl0 [a] n0 v0 .z rfl)) (λc2=>aJ (gl [a,(b-a),c] v0 n0 (.e v1 v2 (.l (.a n0 n1) v2 (.e v1 n0 .z))) [0,0,1] rfl h t (g3D c2)) (gl0 [a] n0 v0 .z rfl))
theorem R13(h:¬(B<A)):(0:Int)=(((bZ (A-B)):Nat):Int):=(Int.le_total 0 ((A-B))).elim (λc1=>bX (jl0 [(((bZ (A-B)):Nat):Int)] m0 w0 (.l m0 w0 .z) rfl (bG _)) (jl0 [(((bZ (A-B)):Nat):Int),A,B] w0 m0 (.l w1 w2 (.e w0 (.s w1 w2) .z)) rfl (g1U.1 h) (cC (jl0 [A,B] m0 (.s w0 w1) (.l m0 (.s w0 w1) .z) rfl c1)))) (λc2=>bX (jl0 [(((bZ (A-B)):Nat):Int)] m0 w0 (.l m0 w0 .z) rfl (bG _)) (jl0 [(((bZ (A-B)):Nat):Int)] w0 m0 (.e w0 m0 .z) rfl (bF.2 (Int.toNat_of_nonpos c2))))
theorem R16{a:Nat}(h:97<=a)(s:a<=101):a=97\/a=98\/a=99\/a=100\/a=101:=(by decide: ∀a,a < 102->97<=a->a=97\/a=98\/a=99\/a=100\/a=101) a (g2W s) h
theorem R18(h:(a<=c)/\(c<b)):a<=((a+b)-1)-c:=gl [a,(((a+b)-1)-c),c,b,((a+b)-1)] v0 v1 (.l s2 v3 (.e (.a v1 v2) v4 (.e s4 (.a v0 v3) .z))) [1,1,0,1,0,1] rfl h.2 (aC (gl0 [c,((a+b)-1),b,a] v0 v1 (.l s0 v2 (.l (.a v3 v2) s1 .z)) rfl h.2 (Q0a _ _))) (aC (gl0 [a,b,c] n1 (.a v0 v1) (.l s2 v1 .z) rfl h.2))
theorem R19(h:(a<=c)/\(c<b)):((a+b)-1)-c<b:=gl0 [(((a+b)-1)-c),b,a,c,((a+b)-1)] s0 v1 (.l v2 v3 (.e (.a v0 v3) v4 (.e s4 (.a v2 v1) .z))) rfl h.1 (aC (gl0 [c,((a+b)-1),b,a] v0 v1 (.l s0 v2 (.l (.a v3 v2) s1 .z)) rfl h.2 (Q0a _ _))) (aC (gl0 [a,b,c] n1 (.a v0 v1) (.l s2 v1 .z) rfl h.2))
theorem R20(h:(a<=b)/\(b<c)):a<=b:=gl0 [a,b] v0 v1 (.l v0 v1 .z) rfl h.1
theorem R21(h:(c<=a)/\(a<b)):a<b:=gl0 [a,b] s0 v1 (.l s0 v1 .z) rfl h.2
theorem R22(h:(a+1)-((b+1)+1)<=c):a-(b+1)<=c:=(g1Y (((b+1)+1)) ((a+1))).elim (λc1=>gl [(a-(b+1)),c,((a+1)-((b+1)+1)),b,a] v0 v1 (.l v2 v1 (.e (.a v2 (.a s3 n1)) s4 (.e (.a v0 s3) v4 .z))) [1,1,0,1] rfl h (aC (gl0 [b,a] (.a s0 n1) s1 (.l (.a s0 n1) s1 .z) rfl c1)) (aC (gl0 [b,a] s0 v1 (.l (.a s0 n1) s1 .z) rfl c1))) (λc2=>(g1Y ((b+1)) (a)).elim (λc3=>gl0 [(a-(b+1)),c,a,b] v0 v1 (.l s2 (.a s3 n1) (.e (.a v0 s3) v2 .z)) rfl c2 (aC (gl0 [b,a] s0 v1 (.l s0 v1 .z) rfl c3))) (λc4=>gl0 [(a-(b+1)),c] v0 v1 (.e v0 n0 .z) rfl (g3D c4)))
theorem R23(h:1<=a)(s:¬(1=a)):1+1<=a:=gl0 [a] (.a n1 n1) v0 (.l (.a n1 n1) v0 .z) rfl (bH (gl0 [a] n1 v0 (.l n1 v0 .z) rfl h) s)
theorem R24(s:a<1+1)(t:¬(b=a))(u:b=0):a=1:=aJ (gl0 [a] v0 n1 (.l s0 (.a n1 n1) .z) rfl s) (gl0 [a,b] n1 v0 (.l s1 v0 .z) rfl (bH (gl0 [b,a] v0 v1 (.e v0 n0 .z) rfl u) t))
theorem R25(h:a-b<=c+1):a-(((b+a)/2)+1)<=c:=(g1Y (b) (a)).elim (λc1=>(g1Y ((((b+a)/2)+1)) (a)).elim (λc3=>gl [(a-(((b+a)/2)+1)),c,(a-b),b,a,((b+a)/2)] v0 v1 (.l v2 s1 (.l (.a v3 v4) (.a (.m 2 v5) n1) (.e (.a v2 v3) v4 (.e (.a v0 s5) v4 .z)))) [1,1,1,0,1,2] rfl h (Q0c _) (aC (gl0 [b,a] v0 v1 (.l v0 v1 .z) rfl c1)) (aC (gl0 [((b+a)/2),a] s0 v1 (.l s0 v1 .z) rfl c3))) (λc4=>gl0 [(a-(((b+a)/2)+1)),c] v0 v1 (.e v0 n0 .z) rfl (g3D c4))) (λc2=>(g1Y ((((b+a)/2)+1)) (a)).elim (λc5=>gl [(a-(((b+a)/2)+1)),c,a,b,((b+a)/2)] v0 v1 (.l v2 v3 (.l s4 v2 (.l (.a v3 v2) (.a (.m 2 v4) n1) .z))) [0,1,2] rfl c2 c5 (Q0c _)) (λc6=>gl0 [(a-(((b+a)/2)+1)),c] v0 v1 (.e v0 n0 .z) rfl (g3D c6)))
theorem R38(h:1<=a):(max a 1)=a:=(g1Y (a) (1)).elim (λc1=>aJ (gl0 [(max a 1),a] v0 v1 (.l n1 v1 (.e v0 n1 .z)) rfl h (gAS c1)) (gl0 [a,(max a 1)] v0 v1 (.l v0 v1 .z) rfl (g3V _ _))) (λc2=>aJ (gl0 [(max a 1),a] v0 v1 (.e v0 v1 .z) rfl (gBI c2)) (gl0 [a,(max a 1)] v0 v1 (.l v0 v1 .z) rfl (g3V _ _)))
theorem R45(h:0<a)(s:(a-1)/2=b):(a=(2*b)+1)\/(a=(2*b)+2):=(g3M (a=(2*b)+1)).elim .inl λc2=> .inr (aJ (gl [a,b,((a-1)/2),(a-1)] v0 (.a (.m 2 v1) n2) (.e v2 v1 (.l v3 (.a (.m 2 v2) n1) (.e s3 v0 .z))) [1,2,0,1,0,1] rfl s (Q0c _) (aC (gl0 [a] n1 v0 (.l (.a n0 n1) v0 .z) rfl h))) (gl0 [b,a] (.a (.m 2 v0) n2) v1 (.l (.a (.a (.m 2 v0) n1) n1) v1 .z) rfl (bH (gl [b,a,((a-1)/2),(a-1)] (.a (.m 2 v0) n1) v1 (.e v2 v0 (.l (.m 2 v2) v3 (.e s3 v1 .z))) [1,0,2] rfl s (Q0b _) (aC (gl0 [a] n1 v0 (.l (.a n0 n1) v0 .z) rfl h))) (g0F c2))))
theorem R49(h:((0:Int)<=A)/\(A<=(1000:Int))):((-(4611686018427387904:Int))<=A*(1000:Int))/\(A*(1000:Int)<(4611686018427387904:Int)):=⟨jl [(A*(1000:Int)),A] (.n (-4611686018427387904)) w0 (.l m0 w1 (.e w0 (.m 1000 w1) .z)) [1,1000,-1] rfl h.1 (g1Z _ _),jl [(A*(1000:Int)),A] (.a w0 m1) (.n 4611686018427387904) (.l w1 (.n 1000) (.e w0 (.m 1000 w1) .z)) [1,1000] rfl h.2 (g1Z _ _)⟩
theorem R53(h:(if(a=0) then(b-1) else(a-1))<b)(s:¬(a=0)):a-1<b:=(g3M (a=0)).elim (λc1=>gl [(a-1),b,a] s0 v1 (.l s2 n0 .z) [0] rfl (bH (gl0 [a] v0 n0 (.e v0 n0 .z) rfl c1) s)) (λc2=>gl [(a-1),b,(if(a=0) then(b-1) else(a-1))] s0 v1 (.l s2 v1 (.e v2 v0 .z)) [1,1,0,1] rfl h (if_neg c2))
theorem R54{a:Nat}(h:a+1<=4):a=0\/a=1\/a=2\/a=3:=(by decide: ∀a,a < 4->a=0\/a=1\/a=2\/a=3) a h
theorem R63:(1:Int)+(((a:Nat):Int)*(1:Int))=(((a+1):Nat):Int):=bX (jl0 [(((a:Nat):Int)*(1:Int)),((a:Nat):Int)] (.a m1 w0) (.a w1 m1) (.e w0 (.m 1 w1) .z) rfl (g1Z _ _)) (jl [((a:Nat):Int),(((a:Nat):Int)*(1:Int))] (.a w0 m1) (.a m1 w1) (.e w1 (.m 1 w0) .z) [1,-1] rfl (g1Z _ _))
theorem R64: ∀{a:Nat},a < 5->a=0\/a=1\/a=2\/a=3\/a=4:=by decide
theorem R67(h:b<=60)(s:¬((((a:Nat):Int)-((b:Nat):Int))*(2:Int)>(99:Int))):((-(4611686018427387904:Int))<=((a:Nat):Int)-((b:Nat):Int))/\(((a:Nat):Int)-((b:Nat):Int)<(4611686018427387904:Int)):=⟨jl0 [((a:Nat):Int),((b:Nat):Int)] (.n (-4611686018427387904)) (.s w0 w1) (.l w1 (.n 60) (.l m0 w0 .z)) rfl (aH.2 h) (bG _),jl [((a:Nat):Int),((b:Nat):Int),((((a:Nat):Int)-((b:Nat):Int))*(2:Int))] (.a (.s w0 w1) m1) (.n 4611686018427387904) (.l w2 (.n 99) (.e w2 (.m 2 (.s w0 w1)) .z)) [2,1,-1] rfl (g1U.1 s) (g1Z _ _)⟩
theorem R68(h:b<=10)(s:a<=b*10):a<=100:=gl [a,b,(b*10)] v0 (.n 100) (.l v1 (.n 10) (.l v0 v2 (.e v2 (.m 10 v1) .z))) [1,10] rfl h s (g6R _ _)
theorem R69(h:¬(((b:Nat):Int)=(2:Int))):¬((a=2)/\(b=2)):=λc1=>jf [((b:Nat):Int)] (.e w0 m2 (.l (.a w0 m1) m2 .z)) [-1] rfl (bF.2 c1.2) (g5L.2 ⟨(jl0 [((b:Nat):Int)] w0 m2 (.e w0 m2 .z) rfl (bF.2 c1.2)),h⟩)
theorem R70(h:¬(((a:Nat):Int)=(2:Int))):¬((a=2)/\(b=2)):=λc1=>jf [((a:Nat):Int)] (.e w0 m2 (.l (.a w0 m1) m2 .z)) [-1] rfl (bF.2 c1.1) (g5L.2 ⟨(jl0 [((a:Nat):Int)] w0 m2 (.e w0 m2 .z) rfl (bF.2 c1.1)),h⟩)
theorem R71:(bZ ((A+(if(a<b) then(B%(21:Int)) else(0:Int)))%(21:Int)))<21:=(aH.1 (jl0 [(((bZ ((A+(if(a<b) then(B%(21:Int)) else(0:Int)))%(21:Int))):Nat):Int),((A+(if(a<b) then(B%(21:Int)) else(0:Int)))%(21:Int))] (.a w0 m1) (.n 21) (.l (.a w1 m1) (.n 21) (.e w0 w1 .z)) rfl (Int.emod_lt_of_pos _ (by decide:(0:Int)<21)) (cC (jl0 [((A+(if(a<b) then(B%(21:Int)) else(0:Int)))%(21:Int))] m0 w0 (.l m0 w0 .z) rfl (g7S _ (by decide:(21:Int)≠0))))))
theorem R72:(A+B)%(21:Int)=(((bZ ((A+B)%(21:Int))):Nat):Int):=bX (jl [((A+B)%(21:Int)),(((bZ ((A+B)%(21:Int))):Nat):Int)] w0 w1 (.e w1 w0 .z) [1,-1] rfl (cC (jl0 [((A+B)%(21:Int))] m0 w0 (.l m0 w0 .z) rfl (g7S _ (by decide:(21:Int)≠0))))) (jl0 [(((bZ ((A+B)%(21:Int))):Nat):Int),((A+B)%(21:Int))] w0 w1 (.e w0 w1 .z) rfl (cC (jl0 [((A+B)%(21:Int))] m0 w0 (.l m0 w0 .z) rfl (g7S _ (by decide:(21:Int)≠0)))))
theorem R73(h:¬(c=b)):(a+1)+b≠(a+1)+c:=λhn=>gf0 [a,b,c] (.e (.a s0 v1) (.a s0 v2) (.l s2 v1 .z)) rfl hn (bH (gl [c,b,a] v0 v1 (.e (.a s2 v1) (.a s2 v0) .z) [1,0,1] rfl hn) h)
theorem R75:((a<b)/\(b<b))\/(((a=b)/\(b<a+1))\/((b=b)/\(a<a+1))):=(g3M ((a<b)/\(b<b))).elim .inl λc2=> .inr (((Rna c2)).elim (λc3=>(g3M ((a=b)/\(b<a+1))).elim .inl λc6=> .inr (⟨aJ (gl0 [b] v0 v0 .z rfl) (gl0 [b] v0 v0 .z rfl),gl0 [a] s0 s0 .z rfl⟩)) (λc4=>(g3M ((a=b)/\(b<a+1))).elim .inl λc8=> .inr (⟨aJ (gl0 [b] v0 v0 .z rfl) (gl0 [b] v0 v0 .z rfl),gl0 [a] s0 s0 .z rfl⟩)))
theorem R77:(0<a+b)↔((0<a)\/(0<b)):=⟨λc1=>(g3M (0<a)).elim .inl λc3=> .inr (gl0 [b,a] (.a n0 n1) v0 (.l (.a n0 n1) (.a v1 v0) (.l v1 n0 .z)) rfl c1 (cH.1 c3)),λc4=>(c4).elim (λc5=>gl0 [a,b] (.a n0 n1) (.a v0 v1) (.l (.a n0 n1) v0 .z) rfl c5) (λc6=>gl0 [a,b] (.a n0 n1) (.a v0 v1) (.l (.a n0 n1) v1 .z) rfl c6)⟩
theorem xZ(h:B=C+(D+(E+(F+(0:Int)))))(s:A<=D+(E+(F+(0:Int))))(t:A<=E+(F+(C+(0:Int))))(u:A<=F+(C+(D+(0:Int))))(v:A<=C+(D+(E+(0:Int)))):A*(4:Int)<=B*(3:Int):=jl [(A*(4:Int)),(B*(3:Int)),B,C,D,E,F,A] w0 w1 (.e w2 (.a w3 (.a w4 (.a w5 (.a w6 m0)))) (.l w7 (.a w4 (.a w5 (.a w6 m0))) (.l w7 (.a w5 (.a w6 (.a w3 m0))) (.l w7 (.a w6 (.a w3 (.a w4 m0))) (.l w7 (.a w3 (.a w4 (.a w5 m0))) (.e w0 (.m 4 w7) (.e w1 (.m 3 w2) .z))))))) [1,-3,1,1,1,1,1,-1] rfl h s t u v (g1Z _ _) (g1Z _ _)
theorem yA(h:B=C+(D+(E+(F+(G+(0:Int))))))(s:A<=D+(E+(F+(G+(0:Int)))))(t:A<=E+(F+(G+(C+(0:Int)))))(u:A<=F+(G+(C+(D+(0:Int)))))(v:A<=G+(C+(D+(E+(0:Int)))))(w:A<=C+(D+(E+(F+(0:Int))))):A*(5:Int)<=B*(4:Int):=jl [(A*(5:Int)),(B*(4:Int)),B,C,D,E,F,G,A] w0 w1 (.e w2 (.a w3 (.a w4 (.a w5 (.a w6 (.a w7 m0))))) (.l w8 (.a w4 (.a w5 (.a w6 (.a w7 m0)))) (.l w8 (.a w5 (.a w6 (.a w7 (.a w3 m0)))) (.l w8 (.a w6 (.a w7 (.a w3 (.a w4 m0)))) (.l w8 (.a w7 (.a w3 (.a w4 (.a w5 m0)))) (.l w8 (.a w3 (.a w4 (.a w5 (.a w6 m0)))) (.e w0 (.m 5 w8) (.e w1 (.m 4 w2) .z)))))))) [1,-4,1,1,1,1,1,1,-1] rfl h s t u v w (g1Z _ _) (g1Z _ _)
theorem yB(h:((0:Int)<=A)/\(A<=(4:Int)))(s:(0:Int)<=B):(0:Int)<=A+B:=jl0 [A,B] m0 (.a w0 w1) (.l m0 w0 (.l m0 w1 .z)) rfl h.1 s
theorem yC(h:a=b)(s:0=(min a b))(t:0<b):False:=(g1Y (a) (b)).elim (λc1=>gf [a,b,(min a b)] (.e v0 v1 (.e n0 v2 (.l (.a n0 n1) v1 (.e v2 v0 .z)))) [0,1,0,1,1,0,1] rfl h s t (g5D c1)) (λc2=>gf [(min a b),b] (.e n0 v0 (.l (.a n0 n1) v1 (.e v0 v1 .z))) [0,1,1,0,1] rfl s t (g7C c2))
theorem O4(h:(a=4)\/(a=5)):0<a:=(h).elim (λc1=>gl [a] (.a n0 n1) v0 (.e v0 (.n 4) .z) [1,0,1] rfl c1) (λc2=>gl [a] (.a n0 n1) v0 (.e v0 (.n 5) .z) [1,0,1] rfl c2)
theorem yD(h:(b=4)\/(b=5))(s:a<=b):a<=5:=(h).elim (λc1=>gl0 [a,b] v0 (.n 5) (.l v0 v1 (.e v1 (.n 4) .z)) rfl s c1) (λc2=>gl0 [a,b] v0 (.n 5) (.l v0 v1 (.e v1 (.n 5) .z)) rfl s c2)
theorem yE(h:(a=4)\/(a=5)):a<=100:=(h).elim (λc1=>gl0 [a] v0 (.n 100) (.e v0 (.n 4) .z) rfl c1) (λc2=>gl0 [a] v0 (.n 100) (.e v0 (.n 5) .z) rfl c2)
theorem yF(h:(b=4)\/(b=5))(s:a=b):a<=5:=(h).elim (λc1=>gl0 [a,b] v0 (.n 5) (.e v0 v1 (.e v1 (.n 4) .z)) rfl s c1) (λc2=>gl0 [a,b] v0 (.n 5) (.e v0 v1 (.e v1 (.n 5) .z)) rfl s c2)
theorem yG(h:(b=4)\/(b=5))(s:a=b):(a=4)\/(a=5):=(h).elim (λc1=> .inl (aJ (gl0 [a,b] v0 (.n 4) (.e v0 v1 (.e v1 (.n 4) .z)) rfl s c1) (gl [a,b] (.n 4) v0 (.e v0 v1 (.e v1 (.n 4) .z)) [1,0,1,0,1] rfl s c1))) (λc2=> .inr (aJ (gl0 [a,b] v0 (.n 5) (.e v0 v1 (.e v1 (.n 5) .z)) rfl s c2) (gl [a,b] (.n 5) v0 (.e v0 v1 (.e v1 (.n 5) .z)) [1,0,1,0,1] rfl s c2)))
theorem yH(h:(a=4)\/(a=5)):1<a:=(h).elim (λc1=>gl [a] (.a n1 n1) v0 (.e v0 (.n 4) .z) [1,0,1] rfl c1) (λc2=>gl [a] (.a n1 n1) v0 (.e v0 (.n 5) .z) [1,0,1] rfl c2)
theorem yI(h:a<c)(s:b<=e+f)(t:d=e)(u:f<=g)(v:bK g 100=true):(100*a)+b<(100*c)+(d+1):=gl [a,b,c,d,e,f,g] (.a (.a (.m 100 v0) v1) n1) (.a (.m 100 v2) s3) (.l s0 v2 (.l v1 (.a v4 v5) (.e v3 v4 (.l v5 v6 (.b v6 (.n 100) .z))))) [1,100,1,0,1] rfl h s t u v
theorem yJ(h:(d+1)+(6*e)<=c)(s:a<=f+g)(t:b<e)(u:d=f)(v:g<=i)(w:bK i 7=true):a+(6*b)<=c:=gl [a,b,c,d,e,f,g,i] (.a v0 (.m 6 v1)) v2 (.l (.a s3 (.m 6 v4)) v2 (.l v0 (.a v5 v6) (.l s1 v4 (.e v3 v5 (.l v6 v7 (.b v7 (.n 7) .z)))))) [1,1,1,6,0,1] rfl h s t u v w
theorem Xr(h:((F+G)+H)+I=E):((((A-1)+(B-1))+(C-1))+(D-1))+E=((((A+F)-1)+((B+G)-1))+((C+H)-1))+((D+I)-1):=bX (jl [A,B,C,D,E,F,G,H,I] (.a (.a (.a (.a (.s w0 m1) (.s w1 m1)) (.s w2 m1)) (.s w3 m1)) w4) (.a (.a (.a (.s (.a w0 w5) m1) (.s (.a w1 w6) m1)) (.s (.a w2 w7) m1)) (.s (.a w3 w8) m1)) (.e (.a (.a (.a w5 w6) w7) w8) w4 .z) [1,-1] rfl h) (jl0 [A,F,B,G,C,H,D,I,E] (.a (.a (.a (.s (.a w0 w1) m1) (.s (.a w2 w3) m1)) (.s (.a w4 w5) m1)) (.s (.a w6 w7) m1)) (.a (.a (.a (.a (.s w0 m1) (.s w2 m1)) (.s w4 m1)) (.s w6 m1)) w8) (.e (.a (.a (.a w1 w3) w5) w7) w8 .z) rfl h)
theorem yK:((2*((((a+1):Nat):Int)+1))-2)-1=1+(2*(a:Int)):=bX (jl0 [(a:Int)] (.s (.s (.m 2 (.a (.a w0 m1) m1)) m2) m1) (.a m1 (.m 2 w0)) .z rfl) (jl0 [(a:Int)] (.a m1 (.m 2 w0)) (.s (.s (.m 2 (.a (.a w0 m1) m1)) m2) m1) .z rfl)
theorem yL:(A+B)+C=A+(B+(1*C)):=bX (jl0 [A,B,C] (.a (.a w0 w1) w2) (.a w0 (.a w1 (.m 1 w2))) .z rfl) (jl0 [A,B,C] (.a w0 (.a w1 (.m 1 w2))) (.a (.a w0 w1) w2) .z rfl)
end
end Mine
namespace Mine
section
variable {a b c d m x:Nat}
theorem pa(a:Nat):(a+a) % 2=0:=by rw[<-Nat.two_mul];exact gAL 2 a
theorem pb(h: ¬a % 2=1):a % 2=0:=(Nat.mod_two_eq_zero_or_one a).resolve_right h
theorem pc(h:a % 2=1):(a+1) % 2=0:=by rw[g9U,h]
theorem pd(h:a % 2=c % 2):(a+b) % 2=(c+b) % 2:=by rw[g9U,h,<-g9U]
theorem pe(h:(a+1) % 2=0):0 < a:=g4B λz=>by rw[z] at h;exact absurd h (by decide)
theorem pg(h:(b+1) % 2=0)(e:a+1=b):a % 2=0:=by subst e;rw[<-g4N a 2];exact h
theorem pf(h:(a+1) % 2=0):(a - 1) % 2=0:=pg h (aC (pe h))
theorem ph(h:b<=5)(p:a % 2=0)(k:a<=b):a<=4:=g0X (bH (bR k h) λz=>by rw[z] at p;exact absurd p (by decide))
theorem pi1(h:(a+1) % 2=0)(k:a<=4):a=1\/a=3:=(by decide: ∀a < 5,(a+1) % 2=0->a=1\/a=3) a (g2W k) h
theorem pj(h1: ¬(a=d/\c=b))(h2: ¬(a=b/\c=d)):((a < b/\c < b)\/(a=b/\c < d)\/(c=b/\a < d))↔((a < b/\c < b)\/(a=b/\c < d+1)\/(c=b/\a < d+1)):=
 ⟨gDO (Or.imp (gCJ g1O) (gCJ g1O)),gDO (Or.imp (λh=>⟨h.1,bH (g0X h.2) λz=>h2 ⟨h.1,z⟩⟩) (λh=>⟨h.1,bH (g0X h.2) λz=>h1 ⟨z,h.1⟩⟩))⟩
theorem pl0(h:(m+1) % 2=(1+x) % 2):m % 2=(0+x) % 2:=by
 have:=pd (b:=1) h;rw[gCU 1 x,show m+1+1=m+2 from rfl,show x+1+1=x+2 from rfl,g4N,g4N] at this;rw[this,g1E]
theorem pl(h:a % 2=(1+x) % 2)(k:0 < a):(a - 1) % 2=(0+x) % 2:=pl0 (by rw[aC k];exact h)
theorem pm(h:a % 2=(0+x) % 2)(k:0 < a):(a - 1) % 2=(1+x) % 2:=by
 have e:(a - 1+1) % 2=(1+(1+x)) % 2:=by rw[aC k,h,<-g3O,gCU (1+1) x,g4N,g1E]
 have:=pl0 e;rwa [g1E] at this
theorem pn(h:a % 2=1):a=2*(a / 2)+1:=by have:=(gBK a 2).symm;rwa [h] at this
theorem po(z: ¬a=0)(h: ¬a % 2=1):a=2*(a / 2 - 1)+2:=by
 have e:=gBK a 2;rw[pb h,g5E] at e;cases q:a / 2 with
 | zero=>rw[q] at e;exact absurd e.symm z
 | succ k=>rw[q] at e;exact e.symm
theorem pq(h:2*a+1+1 < 2 ^ (b+1)):a+1 < 2 ^ b:=by
 rw[Nat.pow_succ'] at h;exact Nat.lt_of_mul_lt_mul_left (a:=2) h
theorem pr(h:2*a+2+1 < 2 ^ (b+1)):a+1 < 2 ^ b:=pq (Nat.lt_of_succ_lt h)
theorem ps(h:b < 4000)(k:a < b):a+1 < 2 ^ 12:=g5Z k (g8X h (by decide))
end
end Mine
namespace Mine
theorem bE{α β:Type}{o:Option α}{f:α->Option β}{b:β}{R:Prop}(h:(o >>= f)=some b)(k: ∀a,o=some a->f a=some b->R):R:=(g2M.mp h).elim λa z=>k a z.1 z.2
theorem bE'{α β:Type}{o:Option α}{f:α->Option β}{b:β}{R:Prop}(h:(o.bind f)=some b)(k: ∀a,o=some a->f a=some b->R):R:=bE h k
theorem bE2{α γ β:Type}{o:Option (α×γ)}{f:α×γ->Option β}{b:β}{R:Prop}(h:(o >>= f)=some b)(k: ∀a c,o=some (a,c)->f (a,c)=some b->R):R:=bE h λa=>k a.1 a.2
theorem yQ{α γ β:Type}{o:Option (α×γ)}{f:α×γ->Option β}{b:β}{R:Prop}(h:(o.bind f)=some b)(k: ∀a c,o=some (a,c)->f (a,c)=some b->R):R:=bE h λa=>k a.1 a.2
theorem bE3{α γ δ β:Type}{o:Option (α×γ×δ)}{f:α×γ×δ->Option β}{b:β}{R:Prop}(h:(o >>= f)=some b)(k: ∀a c d,o=some (a,c,d)->f (a,c,d)=some b->R):R:=bE h λa=>k a.1 a.2.1 a.2.2
theorem mE{α β:Type}{o:Option α}{f:α->β}{b:β}{R:Prop}(h:(o.map f)=some b)(k: ∀a,o=some a->f a=b->R):R:=(bP.mp h).elim λa z=>k a z.1 z.2
theorem oE{α β:Type}{o:Option α}{d r:β}{f:α->β}{P:Prop}(h:o.elim d f=r)(k0:d=r->P)(k1: ∀a,o=some a->f a=r->P):P:=by
 cases o with
 | none=>exact k0 h
 | some a=>exact k1 a rfl h
theorem iE2{α:Type}{c:Bool}{x y r:α}{P:Prop}(h:(if c=true then x else y)=r)(k:c=true->x=r->P)(k0:c=false->y=r->P):P:=by
 cases c
 ·exact k0 rfl h
 ·exact k rfl h
theorem nn{α:Type}{x:α}{R:Prop}(h:none=some x):R:=nomatch h
theorem bA{a b:Bool}{P:Prop}(h:(a && b)=true)(k:a=true->b=true->P):P:=(aV.1 h).elim k
theorem aE{α:Type}{o:Option α}{f:α->Bool}{P:Prop}(h:o.any f=true)(k: ∀a,o=some a->f a=true->P):P:=by
 cases o with
 | none=>nomatch h
 | some a=>exact k a rfl h
theorem iE{α:Type}{c:Bool}{x r:α}{P:Prop}(h:(if c=true then some x else none)=some r)(k:c=true->x=r->P):P:=iE2 h (λh e=>k h (aB e)) λ_ e=>nn e
theorem iA{α:Type}{c d:Bool}{x r:α}{P:Prop}(h:(if(c && d)=true then some x else none)=some r)(k:c=true->d=true->x=r->P):P:=iE h λh e=>(aV.1 h).elim λa b=>k a b e
theorem s1{α:Type}{a x:α}{P:α->Prop}(h:some a=some x)(k:P a):P x:=by cases h;exact k
theorem s2{α β:Type}{a x:α}{b y:β}{P:α->β->Prop}(h:some (a,b)=some (x,y))(k:P a b):P x y:=by cases h;exact k
theorem s3{α β γ:Type}{a x:α}{b y:β}{c z:γ}{P:α->β->γ->Prop}(h:some (a,b,c)=some (x,y,z))(k:P a b c):P x y z:=by cases h;exact k
theorem x02{p0 p1:Prop}{R:Prop}(h:p0/\p1)(k:p0->p1->R):R:=k h.1 h.2
theorem x03{p0 p1 p2:Prop}{R:Prop}(h:p0/\p1/\p2)(k:p0->p1->p2->R):R:=k h.1 h.2.1 h.2.2
theorem x04{p0 p1 p2 p3:Prop}{R:Prop}(h:p0/\p1/\p2/\p3)(k:p0->p1->p2->p3->R):R:=k h.1 h.2.1 h.2.2.1 h.2.2.2
theorem x05{p0 p1 p2 p3 p4:Prop}{R:Prop}(h:p0/\p1/\p2/\p3/\p4)(k:p0->p1->p2->p3->p4->R):R:=k h.1 h.2.1 h.2.2.1 h.2.2.2.1 h.2.2.2.2
theorem x06{p0 p1 p2 p3 p4 p5:Prop}{R:Prop}(h:p0/\p1/\p2/\p3/\p4/\p5)(k:p0->p1->p2->p3->p4->p5->R):R:=k h.1 h.2.1 h.2.2.1 h.2.2.2.1 h.2.2.2.2.1 h.2.2.2.2.2
theorem x08{p0 p1 p2 p3 p4 p5 p6 p7:Prop}{R:Prop}(h:p0/\p1/\p2/\p3/\p4/\p5/\p6/\p7)(k:p0->p1->p2->p3->p4->p5->p6->p7->R):R:=k h.1 h.2.1 h.2.2.1 h.2.2.2.1 h.2.2.2.2.1 h.2.2.2.2.2.1 h.2.2.2.2.2.2.1 h.2.2.2.2.2.2.2
theorem x11{α:Sort _}{p0:α->Prop}{R:Prop}(h: ∃a0,p0 a0)(k: ∀a0,p0 a0->R):R:=h.elim λa0 h=>k a0 h
theorem x12{α:Sort _}{p0 p1:α->Prop}{R:Prop}(h: ∃a0,p0 a0/\p1 a0)(k: ∀a0,p0 a0->p1 a0->R):R:=h.elim λa0 h=>k a0 h.1 h.2
theorem x13{α:Sort _}{p0 p1 p2:α->Prop}{R:Prop}(h: ∃a0,p0 a0/\p1 a0/\p2 a0)(k: ∀a0,p0 a0->p1 a0->p2 a0->R):R:=h.elim λa0 h=>k a0 h.1 h.2.1 h.2.2
theorem x14{α:Sort _}{p0 p1 p2 p3:α->Prop}{R:Prop}(h: ∃a0,p0 a0/\p1 a0/\p2 a0/\p3 a0)(k: ∀a0,p0 a0->p1 a0->p2 a0->p3 a0->R):R:=h.elim λa0 h=>k a0 h.1 h.2.1 h.2.2.1 h.2.2.2
theorem x15{α:Sort _}{p0 p1 p2 p3 p4:α->Prop}{R:Prop}(h: ∃a0,p0 a0/\p1 a0/\p2 a0/\p3 a0/\p4 a0)(k: ∀a0,p0 a0->p1 a0->p2 a0->p3 a0->p4 a0->R):R:=h.elim λa0 h=>k a0 h.1 h.2.1 h.2.2.1 h.2.2.2.1 h.2.2.2.2
theorem x17{α:Sort _}{p0 p1 p2 p3 p4 p5 p6:α->Prop}{R:Prop}(h: ∃a0,p0 a0/\p1 a0/\p2 a0/\p3 a0/\p4 a0/\p5 a0/\p6 a0)(k: ∀a0,p0 a0->p1 a0->p2 a0->p3 a0->p4 a0->p5 a0->p6 a0->R):R:=h.elim λa0 h=>k a0 h.1 h.2.1 h.2.2.1 h.2.2.2.1 h.2.2.2.2.1 h.2.2.2.2.2.1 h.2.2.2.2.2.2
theorem x18{α:Sort _}{p0 p1 p2 p3 p4 p5 p6 p7:α->Prop}{R:Prop}(h: ∃a0,p0 a0/\p1 a0/\p2 a0/\p3 a0/\p4 a0/\p5 a0/\p6 a0/\p7 a0)(k: ∀a0,p0 a0->p1 a0->p2 a0->p3 a0->p4 a0->p5 a0->p6 a0->p7 a0->R):R:=h.elim λa0 h=>k a0 h.1 h.2.1 h.2.2.1 h.2.2.2.1 h.2.2.2.2.1 h.2.2.2.2.2.1 h.2.2.2.2.2.2.1 h.2.2.2.2.2.2.2
theorem x21{α β:Sort _}{p0:α->β->Prop}{R:Prop}(h: ∃a0 a1,p0 a0 a1)(k: ∀a0 a1,p0 a0 a1->R):R:=h.elim λa0 h=>h.elim λa1 h=>k a0 a1 h
theorem x22{α β:Sort _}{p0 p1:α->β->Prop}{R:Prop}(h: ∃a0 a1,p0 a0 a1/\p1 a0 a1)(k: ∀a0 a1,p0 a0 a1->p1 a0 a1->R):R:=h.elim λa0 h=>h.elim λa1 h=>k a0 a1 h.1 h.2
theorem x23{α β:Sort _}{p0 p1 p2:α->β->Prop}{R:Prop}(h: ∃a0 a1,p0 a0 a1/\p1 a0 a1/\p2 a0 a1)(k: ∀a0 a1,p0 a0 a1->p1 a0 a1->p2 a0 a1->R):R:=h.elim λa0 h=>h.elim λa1 h=>k a0 a1 h.1 h.2.1 h.2.2
theorem x24{α β:Sort _}{p0 p1 p2 p3:α->β->Prop}{R:Prop}(h: ∃a0 a1,p0 a0 a1/\p1 a0 a1/\p2 a0 a1/\p3 a0 a1)(k: ∀a0 a1,p0 a0 a1->p1 a0 a1->p2 a0 a1->p3 a0 a1->R):R:=h.elim λa0 h=>h.elim λa1 h=>k a0 a1 h.1 h.2.1 h.2.2.1 h.2.2.2
theorem x25{α β:Sort _}{p0 p1 p2 p3 p4:α->β->Prop}{R:Prop}(h: ∃a0 a1,p0 a0 a1/\p1 a0 a1/\p2 a0 a1/\p3 a0 a1/\p4 a0 a1)(k: ∀a0 a1,p0 a0 a1->p1 a0 a1->p2 a0 a1->p3 a0 a1->p4 a0 a1->R):R:=h.elim λa0 h=>h.elim λa1 h=>k a0 a1 h.1 h.2.1 h.2.2.1 h.2.2.2.1 h.2.2.2.2
theorem x28{α β:Sort _}{p0 p1 p2 p3 p4 p5 p6 p7:α->β->Prop}{R:Prop}(h: ∃a0 a1,p0 a0 a1/\p1 a0 a1/\p2 a0 a1/\p3 a0 a1/\p4 a0 a1/\p5 a0 a1/\p6 a0 a1/\p7 a0 a1)(k: ∀a0 a1,p0 a0 a1->p1 a0 a1->p2 a0 a1->p3 a0 a1->p4 a0 a1->p5 a0 a1->p6 a0 a1->p7 a0 a1->R):R:=h.elim λa0 h=>h.elim λa1 h=>k a0 a1 h.1 h.2.1 h.2.2.1 h.2.2.2.1 h.2.2.2.2.1 h.2.2.2.2.2.1 h.2.2.2.2.2.2.1 h.2.2.2.2.2.2.2
theorem x31{α β γ:Sort _}{p0:α->β->γ->Prop}{R:Prop}(h: ∃a0 a1 a2,p0 a0 a1 a2)(k: ∀a0 a1 a2,p0 a0 a1 a2->R):R:=h.elim λa0 h=>h.elim λa1 h=>h.elim λa2 h=>k a0 a1 a2 h
theorem x32{α β γ:Sort _}{p0 p1:α->β->γ->Prop}{R:Prop}(h: ∃a0 a1 a2,p0 a0 a1 a2/\p1 a0 a1 a2)(k: ∀a0 a1 a2,p0 a0 a1 a2->p1 a0 a1 a2->R):R:=h.elim λa0 h=>h.elim λa1 h=>h.elim λa2 h=>k a0 a1 a2 h.1 h.2
theorem x33{α β γ:Sort _}{p0 p1 p2:α->β->γ->Prop}{R:Prop}(h: ∃a0 a1 a2,p0 a0 a1 a2/\p1 a0 a1 a2/\p2 a0 a1 a2)(k: ∀a0 a1 a2,p0 a0 a1 a2->p1 a0 a1 a2->p2 a0 a1 a2->R):R:=h.elim λa0 h=>h.elim λa1 h=>h.elim λa2 h=>k a0 a1 a2 h.1 h.2.1 h.2.2
theorem x34{α β γ:Sort _}{p0 p1 p2 p3:α->β->γ->Prop}{R:Prop}(h: ∃a0 a1 a2,p0 a0 a1 a2/\p1 a0 a1 a2/\p2 a0 a1 a2/\p3 a0 a1 a2)(k: ∀a0 a1 a2,p0 a0 a1 a2->p1 a0 a1 a2->p2 a0 a1 a2->p3 a0 a1 a2->R):R:=h.elim λa0 h=>h.elim λa1 h=>h.elim λa2 h=>k a0 a1 a2 h.1 h.2.1 h.2.2.1 h.2.2.2
theorem x35{α β γ:Sort _}{p0 p1 p2 p3 p4:α->β->γ->Prop}{R:Prop}(h: ∃a0 a1 a2,p0 a0 a1 a2/\p1 a0 a1 a2/\p2 a0 a1 a2/\p3 a0 a1 a2/\p4 a0 a1 a2)(k: ∀a0 a1 a2,p0 a0 a1 a2->p1 a0 a1 a2->p2 a0 a1 a2->p3 a0 a1 a2->p4 a0 a1 a2->R):R:=h.elim λa0 h=>h.elim λa1 h=>h.elim λa2 h=>k a0 a1 a2 h.1 h.2.1 h.2.2.1 h.2.2.2.1 h.2.2.2.2
theorem x36{α β γ:Sort _}{p0 p1 p2 p3 p4 p5:α->β->γ->Prop}{R:Prop}(h: ∃a0 a1 a2,p0 a0 a1 a2/\p1 a0 a1 a2/\p2 a0 a1 a2/\p3 a0 a1 a2/\p4 a0 a1 a2/\p5 a0 a1 a2)(k: ∀a0 a1 a2,p0 a0 a1 a2->p1 a0 a1 a2->p2 a0 a1 a2->p3 a0 a1 a2->p4 a0 a1 a2->p5 a0 a1 a2->R):R:=h.elim λa0 h=>h.elim λa1 h=>h.elim λa2 h=>k a0 a1 a2 h.1 h.2.1 h.2.2.1 h.2.2.2.1 h.2.2.2.2.1 h.2.2.2.2.2
theorem x38{α β γ:Sort _}{p0 p1 p2 p3 p4 p5 p6 p7:α->β->γ->Prop}{R:Prop}(h: ∃a0 a1 a2,p0 a0 a1 a2/\p1 a0 a1 a2/\p2 a0 a1 a2/\p3 a0 a1 a2/\p4 a0 a1 a2/\p5 a0 a1 a2/\p6 a0 a1 a2/\p7 a0 a1 a2)(k: ∀a0 a1 a2,p0 a0 a1 a2->p1 a0 a1 a2->p2 a0 a1 a2->p3 a0 a1 a2->p4 a0 a1 a2->p5 a0 a1 a2->p6 a0 a1 a2->p7 a0 a1 a2->R):R:=h.elim λa0 h=>h.elim λa1 h=>h.elim λa2 h=>k a0 a1 a2 h.1 h.2.1 h.2.2.1 h.2.2.2.1 h.2.2.2.2.1 h.2.2.2.2.2.1 h.2.2.2.2.2.2.1 h.2.2.2.2.2.2.2
theorem x41{α β γ δ:Sort _}{p0:α->β->γ->δ->Prop}{R:Prop}(h: ∃a0 a1 a2 a3,p0 a0 a1 a2 a3)(k: ∀a0 a1 a2 a3,p0 a0 a1 a2 a3->R):R:=h.elim λa0 h=>h.elim λa1 h=>h.elim λa2 h=>h.elim λa3 h=>k a0 a1 a2 a3 h
theorem x42{α β γ δ:Sort _}{p0 p1:α->β->γ->δ->Prop}{R:Prop}(h: ∃a0 a1 a2 a3,p0 a0 a1 a2 a3/\p1 a0 a1 a2 a3)(k: ∀a0 a1 a2 a3,p0 a0 a1 a2 a3->p1 a0 a1 a2 a3->R):R:=h.elim λa0 h=>h.elim λa1 h=>h.elim λa2 h=>h.elim λa3 h=>k a0 a1 a2 a3 h.1 h.2
theorem x44{α β γ δ:Sort _}{p0 p1 p2 p3:α->β->γ->δ->Prop}{R:Prop}(h: ∃a0 a1 a2 a3,p0 a0 a1 a2 a3/\p1 a0 a1 a2 a3/\p2 a0 a1 a2 a3/\p3 a0 a1 a2 a3)(k: ∀a0 a1 a2 a3,p0 a0 a1 a2 a3->p1 a0 a1 a2 a3->p2 a0 a1 a2 a3->p3 a0 a1 a2 a3->R):R:=h.elim λa0 h=>h.elim λa1 h=>h.elim λa2 h=>h.elim λa3 h=>k a0 a1 a2 a3 h.1 h.2.1 h.2.2.1 h.2.2.2
theorem x45{α β γ δ:Sort _}{p0 p1 p2 p3 p4:α->β->γ->δ->Prop}{R:Prop}(h: ∃a0 a1 a2 a3,p0 a0 a1 a2 a3/\p1 a0 a1 a2 a3/\p2 a0 a1 a2 a3/\p3 a0 a1 a2 a3/\p4 a0 a1 a2 a3)(k: ∀a0 a1 a2 a3,p0 a0 a1 a2 a3->p1 a0 a1 a2 a3->p2 a0 a1 a2 a3->p3 a0 a1 a2 a3->p4 a0 a1 a2 a3->R):R:=h.elim λa0 h=>h.elim λa1 h=>h.elim λa2 h=>h.elim λa3 h=>k a0 a1 a2 a3 h.1 h.2.1 h.2.2.1 h.2.2.2.1 h.2.2.2.2
theorem x46{α β γ δ:Sort _}{p0 p1 p2 p3 p4 p5:α->β->γ->δ->Prop}{R:Prop}(h: ∃a0 a1 a2 a3,p0 a0 a1 a2 a3/\p1 a0 a1 a2 a3/\p2 a0 a1 a2 a3/\p3 a0 a1 a2 a3/\p4 a0 a1 a2 a3/\p5 a0 a1 a2 a3)(k: ∀a0 a1 a2 a3,p0 a0 a1 a2 a3->p1 a0 a1 a2 a3->p2 a0 a1 a2 a3->p3 a0 a1 a2 a3->p4 a0 a1 a2 a3->p5 a0 a1 a2 a3->R):R:=h.elim λa0 h=>h.elim λa1 h=>h.elim λa2 h=>h.elim λa3 h=>k a0 a1 a2 a3 h.1 h.2.1 h.2.2.1 h.2.2.2.1 h.2.2.2.2.1 h.2.2.2.2.2
theorem x48{α β γ δ:Sort _}{p0 p1 p2 p3 p4 p5 p6 p7:α->β->γ->δ->Prop}{R:Prop}(h: ∃a0 a1 a2 a3,p0 a0 a1 a2 a3/\p1 a0 a1 a2 a3/\p2 a0 a1 a2 a3/\p3 a0 a1 a2 a3/\p4 a0 a1 a2 a3/\p5 a0 a1 a2 a3/\p6 a0 a1 a2 a3/\p7 a0 a1 a2 a3)(k: ∀a0 a1 a2 a3,p0 a0 a1 a2 a3->p1 a0 a1 a2 a3->p2 a0 a1 a2 a3->p3 a0 a1 a2 a3->p4 a0 a1 a2 a3->p5 a0 a1 a2 a3->p6 a0 a1 a2 a3->p7 a0 a1 a2 a3->R):R:=h.elim λa0 h=>h.elim λa1 h=>h.elim λa2 h=>h.elim λa3 h=>k a0 a1 a2 a3 h.1 h.2.1 h.2.2.1 h.2.2.2.1 h.2.2.2.2.1 h.2.2.2.2.2.1 h.2.2.2.2.2.2.1 h.2.2.2.2.2.2.2
theorem x51{α β γ δ ε:Sort _}{p0:α->β->γ->δ->ε->Prop}{R:Prop}(h: ∃a0 a1 a2 a3 a4,p0 a0 a1 a2 a3 a4)(k: ∀a0 a1 a2 a3 a4,p0 a0 a1 a2 a3 a4->R):R:=h.elim λa0 h=>h.elim λa1 h=>h.elim λa2 h=>h.elim λa3 h=>h.elim λa4 h=>k a0 a1 a2 a3 a4 h
theorem x52{α β γ δ ε:Sort _}{p0 p1:α->β->γ->δ->ε->Prop}{R:Prop}(h: ∃a0 a1 a2 a3 a4,p0 a0 a1 a2 a3 a4/\p1 a0 a1 a2 a3 a4)(k: ∀a0 a1 a2 a3 a4,p0 a0 a1 a2 a3 a4->p1 a0 a1 a2 a3 a4->R):R:=h.elim λa0 h=>h.elim λa1 h=>h.elim λa2 h=>h.elim λa3 h=>h.elim λa4 h=>k a0 a1 a2 a3 a4 h.1 h.2
theorem x57{α β γ δ ε:Sort _}{p0 p1 p2 p3 p4 p5 p6:α->β->γ->δ->ε->Prop}{R:Prop}(h: ∃a0 a1 a2 a3 a4,p0 a0 a1 a2 a3 a4/\p1 a0 a1 a2 a3 a4/\p2 a0 a1 a2 a3 a4/\p3 a0 a1 a2 a3 a4/\p4 a0 a1 a2 a3 a4/\p5 a0 a1 a2 a3 a4/\p6 a0 a1 a2 a3 a4)(k: ∀a0 a1 a2 a3 a4,p0 a0 a1 a2 a3 a4->p1 a0 a1 a2 a3 a4->p2 a0 a1 a2 a3 a4->p3 a0 a1 a2 a3 a4->p4 a0 a1 a2 a3 a4->p5 a0 a1 a2 a3 a4->p6 a0 a1 a2 a3 a4->R):R:=h.elim λa0 h=>h.elim λa1 h=>h.elim λa2 h=>h.elim λa3 h=>h.elim λa4 h=>k a0 a1 a2 a3 a4 h.1 h.2.1 h.2.2.1 h.2.2.2.1 h.2.2.2.2.1 h.2.2.2.2.2.1 h.2.2.2.2.2.2
theorem x62{α β γ δ ε ζ:Sort _}{p0 p1:α->β->γ->δ->ε->ζ->Prop}{R:Prop}(h: ∃a0 a1 a2 a3 a4 a5,p0 a0 a1 a2 a3 a4 a5/\p1 a0 a1 a2 a3 a4 a5)(k: ∀a0 a1 a2 a3 a4 a5,p0 a0 a1 a2 a3 a4 a5->p1 a0 a1 a2 a3 a4 a5->R):R:=h.elim λa0 h=>h.elim λa1 h=>h.elim λa2 h=>h.elim λa3 h=>h.elim λa4 h=>h.elim λa5 h=>k a0 a1 a2 a3 a4 a5 h.1 h.2
theorem x63{α β γ δ ε ζ:Sort _}{p0 p1 p2:α->β->γ->δ->ε->ζ->Prop}{R:Prop}(h: ∃a0 a1 a2 a3 a4 a5,p0 a0 a1 a2 a3 a4 a5/\p1 a0 a1 a2 a3 a4 a5/\p2 a0 a1 a2 a3 a4 a5)(k: ∀a0 a1 a2 a3 a4 a5,p0 a0 a1 a2 a3 a4 a5->p1 a0 a1 a2 a3 a4 a5->p2 a0 a1 a2 a3 a4 a5->R):R:=h.elim λa0 h=>h.elim λa1 h=>h.elim λa2 h=>h.elim λa3 h=>h.elim λa4 h=>h.elim λa5 h=>k a0 a1 a2 a3 a4 a5 h.1 h.2.1 h.2.2
theorem x64{α β γ δ ε ζ:Sort _}{p0 p1 p2 p3:α->β->γ->δ->ε->ζ->Prop}{R:Prop}(h: ∃a0 a1 a2 a3 a4 a5,p0 a0 a1 a2 a3 a4 a5/\p1 a0 a1 a2 a3 a4 a5/\p2 a0 a1 a2 a3 a4 a5/\p3 a0 a1 a2 a3 a4 a5)(k: ∀a0 a1 a2 a3 a4 a5,p0 a0 a1 a2 a3 a4 a5->p1 a0 a1 a2 a3 a4 a5->p2 a0 a1 a2 a3 a4 a5->p3 a0 a1 a2 a3 a4 a5->R):R:=h.elim λa0 h=>h.elim λa1 h=>h.elim λa2 h=>h.elim λa3 h=>h.elim λa4 h=>h.elim λa5 h=>k a0 a1 a2 a3 a4 a5 h.1 h.2.1 h.2.2.1 h.2.2.2
theorem x65{α β γ δ ε ζ:Sort _}{p0 p1 p2 p3 p4:α->β->γ->δ->ε->ζ->Prop}{R:Prop}(h: ∃a0 a1 a2 a3 a4 a5,p0 a0 a1 a2 a3 a4 a5/\p1 a0 a1 a2 a3 a4 a5/\p2 a0 a1 a2 a3 a4 a5/\p3 a0 a1 a2 a3 a4 a5/\p4 a0 a1 a2 a3 a4 a5)(k: ∀a0 a1 a2 a3 a4 a5,p0 a0 a1 a2 a3 a4 a5->p1 a0 a1 a2 a3 a4 a5->p2 a0 a1 a2 a3 a4 a5->p3 a0 a1 a2 a3 a4 a5->p4 a0 a1 a2 a3 a4 a5->R):R:=h.elim λa0 h=>h.elim λa1 h=>h.elim λa2 h=>h.elim λa3 h=>h.elim λa4 h=>h.elim λa5 h=>k a0 a1 a2 a3 a4 a5 h.1 h.2.1 h.2.2.1 h.2.2.2.1 h.2.2.2.2
theorem x73{α β γ δ ε ζ η:Sort _}{p0 p1 p2:α->β->γ->δ->ε->ζ->η->Prop}{R:Prop}(h: ∃a0 a1 a2 a3 a4 a5 a6,p0 a0 a1 a2 a3 a4 a5 a6/\p1 a0 a1 a2 a3 a4 a5 a6/\p2 a0 a1 a2 a3 a4 a5 a6)(k: ∀a0 a1 a2 a3 a4 a5 a6,p0 a0 a1 a2 a3 a4 a5 a6->p1 a0 a1 a2 a3 a4 a5 a6->p2 a0 a1 a2 a3 a4 a5 a6->R):R:=h.elim λa0 h=>h.elim λa1 h=>h.elim λa2 h=>h.elim λa3 h=>h.elim λa4 h=>h.elim λa5 h=>h.elim λa6 h=>k a0 a1 a2 a3 a4 a5 a6 h.1 h.2.1 h.2.2
theorem x76{α β γ δ ε ζ η:Sort _}{p0 p1 p2 p3 p4 p5:α->β->γ->δ->ε->ζ->η->Prop}{R:Prop}(h: ∃a0 a1 a2 a3 a4 a5 a6,p0 a0 a1 a2 a3 a4 a5 a6/\p1 a0 a1 a2 a3 a4 a5 a6/\p2 a0 a1 a2 a3 a4 a5 a6/\p3 a0 a1 a2 a3 a4 a5 a6/\p4 a0 a1 a2 a3 a4 a5 a6/\p5 a0 a1 a2 a3 a4 a5 a6)(k: ∀a0 a1 a2 a3 a4 a5 a6,p0 a0 a1 a2 a3 a4 a5 a6->p1 a0 a1 a2 a3 a4 a5 a6->p2 a0 a1 a2 a3 a4 a5 a6->p3 a0 a1 a2 a3 a4 a5 a6->p4 a0 a1 a2 a3 a4 a5 a6->p5 a0 a1 a2 a3 a4 a5 a6->R):R:=h.elim λa0 h=>h.elim λa1 h=>h.elim λa2 h=>h.elim λa3 h=>h.elim λa4 h=>h.elim λa5 h=>h.elim λa6 h=>k a0 a1 a2 a3 a4 a5 a6 h.1 h.2.1 h.2.2.1 h.2.2.2.1 h.2.2.2.2.1 h.2.2.2.2.2
theorem l1{α:Type}{n:Nat}: ∀{l:List α},l.length=n+1->∃a r,l=a::r/\r.length=n
 | a::r,h=>⟨a,r,rfl,gCS h⟩
theorem l2{α:Type}{l:List α}(h:l.length=2): ∃a b,l=[a,b]:=by
 refine x22 (l1 h) ?_;clear h;intro a r e h;subst e;refine x22 (l1 h) ?_;clear h;intro b s e h;subst e;exact⟨a,b,by rw[List.eq_nil_of_length_eq_zero h]⟩
theorem l3{α:Type}{l:List α}(h:l.length=3): ∃a b c,l=[a,b,c]:=by
 refine x22 (l1 h) ?_;clear h;intro a r e h;subst e;refine x21 (l2 h) ?_;intro b c e;subst e;exact⟨a,b,c,rfl⟩
theorem l4{α:Type}{l:List α}(h:l.length=4): ∃a b c d,l=[a,b,c,d]:=by
 refine x22 (l1 h) ?_;clear h;intro a r e h;subst e;refine x31 (l3 h) ?_;intro b c d e;subst e;exact⟨a,b,c,d,rfl⟩
theorem l5{α:Type}{l:List α}(h:l.length=5): ∃a b c d e,l=[a,b,c,d,e]:=by
 refine x22 (l1 h) ?_;clear h;intro a r e h;subst e;refine x41 (l4 h) ?_;intro b c d f e;subst e;exact⟨a,b,c,d,f,rfl⟩
theorem nf{R:Prop}(h:false=true):R:=nomatch h
section
variable {α:Type} {a b c:Nat} {l m:List α} {x y z:α}
theorem mm1: ∀j,j∈[a]->j∈[]\/a<=j:=λ_ h=> .inr (g4D (aK.1 h).symm)
theorem mm0{P:α->Prop}: ∀j,j∈([]:List α)->P j:=λ_ h=>absurd h aA
theorem mm4(h:x≠y):x∉[y]:=λk=>h (aK.1 k)
theorem mm6:l.length<=(l++[x]).length:=aP▸Nat.le_add_right _ _
theorem mm7:l.length < (l++[x]).length:=aP▸g1N _
theorem mm5:l.length<=(l++[x]++[y]).length:=bR mm6 mm6
theorem mmD(h:a < b):b∉[a]:=λk=>g5B h (aK.1 k)
theorem mmG:(l++[x]).length=l.length+1:=aP
theorem mmK: ∀j,j∈[x]->j∈[x,y]:=λ_ h=>aK.1 h▸ .head _
theorem mmL: ∀j,j∈[y]->j∈[x,y]:=λ_ h=> .tail _ h
theorem mmM: ∀j,j∈([]:List α)->j∈l:=mm0
theorem mmN:x∈l++[x]:=g3B _ (.head _)
theorem mmR{n:Nat}{β:Type}{f:Nat->β}:((aN n).map f).length=n:=(aO _).trans g2A
theorem mmS{a:Int}:0+a*1=a:=(g2N _).trans (g7R a)
theorem mmT[DecidableEq α]:decide (x=x)=true:=decide_eq_true rfl
theorem mmV{β:Type}{f:α->β}:(l.map f).length=l.length:=aO _
end
theorem vw{α:Type}{n i:Nat}{P:Prop}{f:n=i->Option α}{t:α}(h:(if h:n=i then f h else none)=some t)(k:n=i->P):P:=by
 by_cases hc:n=i
 ·exact k hc
 ·rw[dif_neg hc] at h;exact nn h
end Mine
open PySem PySem.W PySem.Calls PyProof.Rows
namespace Mine
theorem Np{α β:Type}{l:List α}{m:List β}{a:α}{b:β}(h:l.length=m.length):(l++[a]).length=(m++[b]).length:=by
 rw[aP,aP,h];rfl
theorem Jd{a b:String}(h:a≠b):Value.type a≠Value.type b:=λz=>h (Value.type.inj z)
inductive V where
 | none
 | bool (b:Bool)
 | int (n:Int)
 | str (s:Str)
 | tup (xs:List V)
 | lst (i:Nat)
 | hdr (i:Nat)
 | ro (ns:List Int)
 | imm (v:Value)
inductive O where
 | l (xs:List V)
 | d (l:Nat)
noncomputable abbrev HP:=List O
noncomputable def B8(x:Str):Prop:=x.cps.size<=1000/\∀c∈x.cps.toList,c < 128
structure Fx where
 prog:Program
 w:World
 K:g5H
 CH:cK
 n1:Nat
 kb: ∀a o,K.lookup a=some o->a < n1
 top: ∃a o,K.lookup a=some o/\a+1=n1
 nm:List Str
 nmN:nm.Nodup
variable (X:Fx)
mutual
noncomputable def Ab(Y:List cK)(h:Heap):V->Value->Prop
 | .none,v=>v= .none
 | .bool b,v=>v= .bool b
 | .int n,v=> ∃t,v= .int n t
 | .str s,v=> ∃t,v= .str s t/\B8 s
 | .tup xs,v=> ∃a vs n,v= .ref a/\h.get? a=some {cls:= .type "tuple",data:= .seq vs n}/\xs.length<=200/\VRels Y h xs vs.toList
 | .lst i,v=> ∃a,Y[i]? =some a/\v= .ref a
 | .hdr i,v=> ∃x a,Y[i]? =some a/\v= .ref x/\h.get? x=some {cls:= .ref X.CH,dict:=some a,data:= .plain}
 | .ro ns,v=> ∃a vs n,v= .ref a/\a < X.n1/\ns.length<=1000/\h.get? a=some {cls:= .type "list",data:= .seq vs n}/\IntsAre vs.toList ns
 | .imm u,v=>v=u
noncomputable def VRels(Y:List cK)(h:Heap):List V->List Value->Prop
 | [],vs=>vs=[]
 | x::xs,vs=> ∃v r,vs=v::r/\Ab Y h x v/\VRels Y h xs r
end
noncomputable def oN(Y:List cK)(h:Heap):O->cK->Prop
 | .l xs,a=> ∃vs n,xs.length<=200/\h.get? a=some {cls:= .type "list",data:= .seq vs n}/\VRels X Y h xs vs.toList
 | .d l,a=> ∃b hs t n,Y[l]? =some b/\h.get? a=some {cls:= .type "dict",data:= .dict #[⟨hs,.str (aM "_headers") t,.ref b⟩] n}
structure Inv(Y:List cK)(h:Heap)(hp:HP):Prop where
 kin:X.K.In h
 len:Y.length=hp.length
 nd:Y.Nodup
 ge: ∀a∈Y,X.n1<=a
 ob: ∀(i:Nat) (o:O) (a:cK),hp[i]? =some o->Y[i]? =some a->oN X Y h o a
noncomputable def Fk(X:Fx)(b:cK)(o:Obj):Prop:=(∃vs n,o={cls:= .type "tuple",data:= .seq vs n})\/(∃a,o={cls:= .ref X.CH,dict:=some a,data:= .plain})\/b < X.n1
structure Ac(W:List cK)(Y:List cK)(h:Heap)(Y':List cK)(h':Heap)(hp':HP):Prop where
 pre: ∃τ,Y'=Y++τ/\∀a∈τ,h.get? a=none
 inv:Inv X Y' h' hp'
 keep: ∀b o,h.get? b=some o->b∉Y->b∉W->h'.get? b=some o
 alive: ∀b o,h.get? b=some o->∃o',h'.get? b=some o'
 vr: ∀v rv,Ab X Y h v rv->Ab X Y' h' v rv
variable {X}
theorem getElem?_append_of_some{α:Type}{l r:List α}{i:Nat}{a:α}(h:l[i]? =some a):(l++r)[i]? =some a:=by
 refine x11 (aF.mp h) ?_;intro hl e;rw[bT hl];exact h
theorem Inv.notin{Y:List cK}{h:Heap}{hp:HP}(I:Inv X Y h hp){b:cK}{o:Obj}(e:h.get? b=some o)
  (hl:o.cls≠ .type "list") (hd:o.cls≠ .type "dict"):b∉Y:=by
 intro hm;obtain⟨i,hi,rfl⟩:=g0O hm;have hi':i < hp.length:=I.len▸hi;have:=I.ob i hp[i] Y[i] (aD hi') (aD hi);clear I hm;cases hq:hp[i] with
 | l xs=>
  rw[hq] at this;refine x23 this ?_;clear this;intro vs n _ g _;clear hq;rw[g] at e;cases e;exact hl rfl
 | d l=>
  rw[hq] at this;refine x42 this ?_;clear this;intro b hs t n _ g;clear hq;rw[g] at e;cases e;exact hd rfl
theorem Inv.low{Y:List cK}{h:Heap}{hp:HP}(I:Inv X Y h hp){b:cK}(hb:b < X.n1):b∉Y:=
 λhm=>absurd (I.ge b hm) (g4M.mpr hb)
mutual
theorem D6{Y Y':List cK}{h h':Heap}(hs: ∀(i:Nat) a,Y[i]? =some a->Y'[i]? =some a)
  (hk: ∀b o,h.get? b=some o->Fk X b o->h'.get? b=some o):
  ∀(v:V) (rv:Value),Ab X Y h v rv->Ab X Y' h' v rv
 | .none,_,e=>e
 | .bool _,_,e=>e
 | .int _,_,e=>e
 | .str _,_,e=>e
 | .tup xs,rv,e=>by
  dsimp only[Ab] at e ⊢;refine x34 e ?_;clear e;intro a vs n z3 g l r;subst z3;exact⟨a,vs,n,rfl,hk _ _ g (.inl ⟨_,_,rfl⟩),l,vrels_still hs hk xs _ r⟩
 | .lst i,_,e=>by
  dsimp only[Ab] at e ⊢;refine x12 e ?_;clear e;intro a g e;exact⟨a,hs _ _ g,e⟩
 | .hdr i,_,e=>by
  dsimp only[Ab] at e ⊢;refine x23 e ?_;clear e;intro x a g e f;exact⟨x,a,hs _ _ g,e,hk _ _ f (.inr (.inl ⟨_,rfl⟩))⟩
 | .ro ns,_,e=>by
  dsimp only[Ab] at e ⊢;refine x35 e ?_;clear e;intro a vs n e l b g r;exact⟨a,vs,n,e,l,b,hk _ _ g (.inr (.inr l)),r⟩
 | .imm _,_,e=>e
theorem vrels_still{Y Y':List cK}{h h':Heap}(hs: ∀(i:Nat) a,Y[i]? =some a->Y'[i]? =some a)
  (hk: ∀b o,h.get? b=some o->Fk X b o->h'.get? b=some o):
  ∀(v:List V) (rv:List Value),VRels X Y h v rv->VRels X Y' h' v rv
 | [],_,e=>e
 | x::xs,rv,e=>by
  dsimp only[VRels] at e ⊢;refine x23 e ?_;clear e;intro v r z2 p q;subst z2;exact⟨v,r,rfl,D6 hs hk x v p,vrels_still hs hk xs r q⟩
end
theorem Ac.vrs{W Y h Y' h' hp'}(S:Ac X W Y h Y' h' hp'): ∀(v:List V) (rv:List Value),VRels X Y h v rv->VRels X Y' h' v rv
 | [],_,e=>e
 | x::xs,rv,e=>by
  dsimp only[VRels] at e ⊢;refine x23 e ?_;clear e;intro v r z2 p q;subst z2;exact⟨v,r,rfl,S.vr x v p,S.vrs xs r q⟩
theorem Eo{h h':Heap}(al: ∀b o,h.get? b=some o->∃o',h'.get? b=some o'){a:cK}(e:h'.get? a=none):h.get? a=none:=by
 cases q:h.get? a with
 | none=>rfl
 | some o=>refine x11 (al a o q) ?_;intro o' g;rw[e] at g;cases g
theorem Ac.refl{Y h hp}(W:List cK)(I:Inv X Y h hp):Ac X W Y h Y h hp:=
 ⟨⟨[],by simp,by simp⟩,I,λ_ _ e _ _=>e,λ_ o e=>⟨o,e⟩,λ_ _ e=>e⟩
theorem Ac.trans{W Y h Y₁ h₁ hp₁ Y₂ h₂ hp₂}(S:Ac X W Y h Y₁ h₁ hp₁)(T:Ac X W Y₁ h₁ Y₂ h₂ hp₂):Ac X W Y h Y₂ h₂ hp₂:=by
 refine x12 S.pre ?_;intro τ e q;refine x12 T.pre ?_;intro τ' e' q';refine⟨⟨τ++τ',by rw[e',e,g2C],λa ha=> ?_⟩,T.inv,λb o g hn hw=> ?_,λb o g=>(S.alive b o g).elim λo' g'=>T.alive b o' g',λv rv x=>T.vr _ _ (S.vr _ _ x)⟩
 ·clear T e e';rcases aY.mp ha with ha|ha
  ·exact q a ha
  ·exact Eo S.alive (q' a ha)
 ·refine T.keep b o (S.keep b o g hn hw) ?_ hw
  rw[e];intro hm;clear S T e e' q' hw;rcases aY.mp hm with hm|hm
  ·exact hn hm
  ·clear hn;rw[q b hm] at g;cases g
theorem Ac.mono{W W' Y h Y' h' hp'}(S:Ac X W Y h Y' h' hp')(hw: ∀b∈W,b∈W'):Ac X W' Y h Y' h' hp':=
 ⟨S.pre,S.inv,λb o g hn hb=>S.keep b o g hn λx=>hb (hw b x),S.alive,S.vr⟩
theorem Ac.at{W Y h Y' h' hp'}(S:Ac X W Y h Y' h' hp'){i:Nat}{a:cK}(e:Y[i]? =some a):Y'[i]? =some a:=by
 refine x12 S.pre ?_;intro τ z1 _;subst z1;exact getElem?_append_of_some e
theorem Ac.ext{Y h hp h'}(I:Inv X Y h hp)(hk: ∀b o,h.get? b=some o->h'.get? b=some o):Ac X [] Y h Y h' hp:=by
 have vr: ∀v rv,Ab X Y h v rv->Ab X Y h' v rv:=D6 (λ_ _ e=>e) (λb o e _=>hk b o e);have vrs: ∀v rv,VRels X Y h v rv->VRels X Y h' v rv:=vrels_still (λ_ _ e=>e) (λb o e _=>hk b o e);refine⟨⟨[],by simp,by simp⟩,⟨I.kin.keeps hk,I.len,I.nd,I.ge,λi o a e1 e2=> ?_⟩,λb o e _ _=>hk b o e,λb o e=>⟨o,hk b o e⟩,vr⟩;have:=I.ob i o a e1 e2;clear I vr e1 e2;cases o with
 | l xs=>
  refine x23 this ?_;clear this;intro vs n bd g r;exact⟨vs,n,bd,hk _ _ g,vrs _ _ r⟩
 | d l=>
  refine x42 this ?_;clear this;intro b hs t n e g;exact⟨b,hs,t,n,e,hk _ _ g⟩
theorem Ac.push{Y h hp}(I:Inv X Y h hp)(o:Obj):Ac X [] Y h Y (h.push o) hp:=
 Ac.ext I (λ_ _ e=>bS _ e)
theorem Ac.newList{Y h hp}{vs:Array Value}{xs:List V}{n:Nat}(I:Inv X Y h hp)(hn:X.n1<=h.objs.size)(bd:xs.length<=200)(r:VRels X Y h xs vs.toList):
  Ac X [] Y h (Y++[h.objs.size]) (h.push {cls:= .type "list",data:= .seq vs n}) (hp++[.l xs]):=by
 have hk: ∀b o,h.get? b=some o->(h.push {cls:= .type "list",data:= .seq vs n}).get? b=some o:=λ_ _ e=>bS _ e;have hs: ∀(i:Nat) a,Y[i]? =some a->(Y++[h.objs.size])[i]? =some a:=λi a e=>getElem?_append_of_some e;have vr:=D6 (X:=X) hs (λb o e _=>hk b o e);have vrs:=vrels_still (X:=X) hs (λb o e _=>hk b o e);have lt: ∀a∈Y,a < h.objs.size:=by
  intro a hm;clear hn bd r hk vr vrs;obtain⟨i,hi,rfl⟩:=g0O hm;have hi':i < hp.length:=I.len▸hi;have:=I.ob i hp[i] Y[i] (aD hi') (aD hi);clear I hm;cases hq:hp[i] with
  | l xs=>rw[hq] at this;refine x23 this ?_;clear this;intro vs n _ g _;exact g1T g
  | d l=>rw[hq] at this;refine x42 this ?_;clear this;intro b hs t n _ g;exact g1T g
 refine⟨⟨[h.objs.size],rfl,λa ha=>by rw[aK.mp ha];exact g0E (bJ _)⟩,⟨I.kin.keeps hk,Np I.len,?_,?_,λi o a e1 e2=> ?_⟩,λb o e _ _=>hk b o e,λb o e=>⟨o,hk b o e⟩,vr⟩
 ·rw[g2T]
  refine⟨I.nd,by simp,λa ha b hb=> ?_⟩;rw[aK.mp hb];exact g1Q (lt a ha)
 ·intro a ha
  clear bd r hk hs vr vrs lt;rcases aY.mp ha with ha|ha
  ·exact I.ge a ha
  ·rw[aK.mp ha];exact hn
 ·clear vr lt;by_cases hi:i < hp.length
  ·rw[bT hi] at e1
   rw[bT (I.len▸hi)] at e2;have:=I.ob i o a e1 e2;clear I hn e1 e2 hi;cases o with
   | l xs=>
    refine x23 this ?_;clear this;intro vs n bd g r;exact⟨vs,n,bd,hk _ _ g,vrs _ _ r⟩
   | d l=>
    refine x42 this ?_;clear this;intro b hs' t n e g;exact⟨b,hs',t,n,hs _ _ e,hk _ _ g⟩
  ·have hi:=g4T hi
   rw[cI hi] at e1;rw[cI (I.len▸hi),I.len] at e2;refine x11 (aF.mp e1) ?_;intro hlt e;have hz:i - hp.length=0:=by simp at hlt;exact Q1 hlt
   rw[hz] at e1 e2;clear I hn hk hs hi hlt e hz;cases e1;cases e2;exact⟨vs,n,bd,g0K _ rfl,vrs _ _ r⟩
theorem Ac.setList{Y h hp h'}{i:Nat}{a:cK}{xs:List V}{vs:Array Value}{n:Nat}(I:Inv X Y h hp)(ea:Y[i]? =some a)
  (hs:g7V a h h') (g:h'.get? a=some {cls:= .type "list",data:= .seq vs n}) (bd:xs.length<=200) (r:VRels X Y h xs vs.toList):
  Ac X [] Y h Y h' (hp.set i (.l xs)):=by
 have ham:a∈Y:=aU ea;have hk: ∀b o,h.get? b=some o->b≠a->h'.get? b=some o:=λb o e hb=>(hs.2 b hb).trans e;have hk': ∀b o,h.get? b=some o->Fk X b o->h'.get? b=some o:=by
  intro b o e hc;refine hk b o e λhb=> ?_;clear ea hs g bd r hk;subst hb;rcases hc with ⟨_,_,hc⟩|⟨_,hc⟩|hc
  ·exact I.notin e (by rw[hc];exact Jd (by decide)) (by rw[hc];exact Jd (by decide)) ham
  ·exact I.notin e (by rw[hc];simp) (by rw[hc];simp) ham
  ·exact I.low hc ham
 have vr:=D6 (X:=X) (Y:=Y) (Y':=Y) (λ_ _ e=>e) hk';have vrs:=vrels_still (X:=X) (Y:=Y) (Y':=Y) (λ_ _ e=>e) hk';refine⟨⟨[],by simp,by simp⟩,⟨λb o e=>hk b o (I.kin b o e) λhb=> ?_,by simp[I.len],I.nd,I.ge,λj o c e1 e2=> ?_⟩,λb o e hb _=>hk b o e λq=>hb (q▸ham),λb o e=> ?_,vr⟩
 ·clear ea hs g bd r hk hk' vr vrs;subst hb;exact I.low (X.kb _ _ e) ham
 ·clear hs ham hk' vr;by_cases hj:i=j
  ·clear hk;subst hj
   rw[ea] at e2;cases e2;have hl:i < hp.length:=I.len▸(aF.mp ea).1;rw[bW hl] at e1;clear I ea hl;cases e1;exact⟨vs,n,bd,g,vrs _ _ r⟩
  ·rw[aZ hj] at e1
   have hca:c≠a:=by
    clear g bd r hk vrs e1;intro hca;subst hca;exact hj ((g6F (aF.mp ea).1 I.nd).mp (ea.trans e2.symm))
   have:=I.ob j o c e1 e2;clear I ea e1 e2 hj;cases o with
   | l xs=>
    refine x23 this ?_;clear this;intro vs n bd g r;exact⟨vs,n,bd,hk _ _ g hca,vrs _ _ r⟩
   | d l=>
    refine x42 this ?_;clear this;intro b hs' t n e g;exact⟨b,hs',t,n,e,hk _ _ g hca⟩
 ·clear I ea hs bd r ham hk' vr vrs;by_cases hb:b=a
  ·clear hk e;subst hb;exact⟨_,g⟩
  ·exact⟨o,hk b o e hb⟩
theorem Inv.big{Y h hp}(I:Inv X Y h hp):X.n1<=h.objs.size:=by
 refine x22 X.top ?_;intro a o e q;rw[<-q];exact g1T (I.kin a o e)
theorem Ac.drop{W W' Y h Y' h' hp'}(S:Ac X W' Y h Y' h' hp')(hw: ∀b∈W',b∈W\/h.get? b=none):Ac X W Y h Y' h' hp':=
 ⟨S.pre,S.inv,λb o g hn hb=>S.keep b o g hn λx=>(hw b x).elim hb λq=>absurd (q.symm.trans g) (by simp),S.alive,S.vr⟩
theorem Ac.soft{Y h hp h' c o o'}(I:Inv X Y h hp)(hn:c∉Y)(hc:X.n1<=c)(ho:h.get? c=some o)(h1: ∀vs n,o.data≠ .seq vs n)(h2:o.data≠ .plain)(ho':h'.get? c=some o')
  (hk: ∀b o,b≠c->h.get? b=some o->h'.get? b=some o):Ac X [c] Y h Y h' hp:=by
 have hk': ∀b o,h.get? b=some o->Fk X b o->h'.get? b=some o:=by
  intro b q e s;refine hk b q (λhb=> ?_) e;clear I ho' hk;subst hb;rw[ho] at e;clear ho;cases e;rcases s with ⟨_,_,s⟩|⟨_,s⟩|s
  ·exact h1 _ _ (by rw[s])
  ·exact h2 (by rw[s])
  ·exact absurd s (cH.mpr hc)
 have vr:=D6 (X:=X) (Y:=Y) (Y':=Y) (λ_ _ e=>e) hk';have vrs:=vrels_still (X:=X) (Y:=Y) (Y':=Y) (λ_ _ e=>e) hk';refine⟨⟨[],by simp,by simp⟩,⟨λb q e=>hk b q (λhb=> ?_) (I.kin b q e),I.len,I.nd,I.ge,λi q a e1 e2=> ?_⟩,λb q e _ hb=>hk b q (λz=>hb (by rw[z];exact bN ..)) e,λb q e=> ?_,vr⟩
 ·exact absurd (X.kb _ _ e) (cH.mpr (by rw[hb];exact hc))
 ·have hne:a≠c:=λz=>hn (z▸aU e2)
  have:=I.ob i q a e1 e2;clear I hn hc ho h1 h2 ho' hk' vr e1 e2;cases q with
  | l xs=>
   refine x23 this ?_;clear this;intro vs n bd g r;exact⟨vs,n,bd,hk _ _ hne g,vrs _ _ r⟩
  | d l=>
   refine x42 this ?_;clear this;intro b hs t n e g;exact⟨b,hs,t,n,e,hk _ _ hne g⟩
 ·clear I hn hc ho h1 h2 hk' vr vrs;by_cases hb:b=c
  ·clear hk e;subst hb;exact⟨_,ho'⟩
  ·exact⟨q,hk b q hb e⟩
end Mine
open PySem PySem.W
namespace Mine
inductive Bop where|add|sub|mul|mod|shr
inductive Cop where|eq|ne|lt|le|gt|ge|is_|isnot|in_|notin
inductive Mth where|append|pop|remove|lower|index|join|getall|addh|items
set_option genCtorIdx false
inductive T where
 | one (x:Nat)
 | many (xs:List Nat)
mutual
inductive X where
 | k (v:V)
 | var (x:Nat)
 | bin (op:Bop) (a b:X)
 | cmp (op:Cop) (a b:X)
 | land (xs:List X)
 | lor (xs:List X)
 | lnot (a:X)
 | ife (c a b:X)
 | list (xs:List X)
 | tup (xs:List X)
 | idx (a i:X)
 | slc (a:X) (lo hi:Option X)
 | app (f:Value) (xs:List X)
 | met (m:Mth) (o:X) (xs:List X)
 | hds (o:X)
 | conv (o e:X)
 | lenset (a:X)
 | lrange (xs:List X)
 | comp (loc:List Nat) (elt:X) (gens:List G)
inductive G where
 | g (t:T) (it:It) (ifs:List X)
inductive It where
 | rng (xs:List X)
 | ex (e:X)
end
inductive S where
 | assign (t:T) (e:X)
 | assign2 (x y:Nat) (e:X)
 | setidx (o i e:X)
 | setall (o e:X)
 | aug (x:Nat) (op:Bop) (e:X)
 | expr (e:X)
 | for_ (t:T) (it:It) (body:List S)
 | while_ (c:X) (body:List S)
 | if_ (c:X) (a b:List S)
 | ret (e:X)
 | del (o i:X)
 | brk
 | cont
inductive Fl where
 | next|brk|cont
 | ret (v:V)
noncomputable abbrev Rho:=List (Nat×V)
noncomputable def rget:Rho->Nat->Option V
 | [],_=>none
 | (j,v)::r,i=>match aW i j with
  | true=>some v
  | false=>rget r i
noncomputable def rset:Rho->Nat->V->Rho
 | [],i,v=>[(i,v)]
 | (j,u)::r,i,v=>match aW i j with
  | true=>(i,v)::r
  | false=>(j,u)::rset r i v
noncomputable def Av(loc:List Nat):Rho->Rho
 | []=>[]
 | (j,v)::r=>match loc.any λi=>aW i j with
  | true=>Av loc r
  | false=>(j,v)::Av loc r
inductive Itr where
 | rng (cur step:Int) (left:Nat)
 | lst (i n:Nat)
 | str (s:List Nat)
noncomputable def chars(s:Str):List Nat:=s.cps.toList
noncomputable def Aj(l:List Nat):Str:=⟨l.toArray⟩
noncomputable def Bb:List Nat->List Nat->Bool
 | [],[]=>true
 | a::as,b::bs=>match aW a b with
  | true=>Bb as bs
  | false=>false
 | _,_=>false
noncomputable def Fr:List Nat->List Nat->Bool
 | [],[]=>false
 | [],_::_=>true
 | _::_,[]=>false
 | a::as,b::bs=>match aW a b with
  | true=>Fr as bs
  | false=>g6N a b
noncomputable def Ap(a b:Int):Bool:=match a,b with
 | .ofNat a,.ofNat b=>aW a b
 | .negSucc a,.negSucc b=>aW a b
 | _,_=>false
noncomputable def plain:Nat->V->Bool
 | _,.none=>true
 | _,.int _=>true
 | _,.str _=>true
 | n+1,.tup xs=>xs.all (plain n)
 | _,_=>false
mutual
noncomputable def eqB:V->V->Bool
 | .none,.none=>true
 | .int a,.int b=>Ap a b
 | .str a,.str b=>Bb (chars a) (chars b)
 | .tup a,.tup b=>eqBs a b
 | _,_=>false
noncomputable def eqBs:List V->List V->Bool
 | [],[]=>true
 | a::as,b::bs=>eqB a b && eqBs as bs
 | _,_=>false
end
noncomputable def peq(a b:V):Option Bool:=if plain 3 a && plain 3 b then some (eqB a b) else none
noncomputable def lget(hp:HP)(i:Nat):Option (List V):=match hp[i]? with
 | some (.l xs)=>some xs
 | _=>none
noncomputable def vL:V->Option Nat
 | .lst i=>some i
 | _=>none
noncomputable def vS:V->Option Str
 | .str s=>some s
 | _=>none
noncomputable def vI:V->Option Int
 | .int i=>some i
 | _=>none
noncomputable def vT:V->Option (List V)
 | .tup xs=>some xs
 | _=>none
noncomputable def Lu:V->Option (List Int)
 | .ro ns=>some ns
 | _=>none
noncomputable def veq(hp:HP)(a b:V):Option Bool:=(vL a).elim (peq a b) λi=>(vL b).elim (peq a b) λj=>(lget hp i).bind λx=>(lget hp j).bind λy=>if x.all (plain 3) && y.all (plain 3) then some (eqBs x y) else none
noncomputable def intsV:List V->Option (List Int)
 | []=>some []
 | .int n::r=>(intsV r).map (n:: ·)
 | _=>none
noncomputable def E3:List V->Option (List Str)
 | []=>some []
 | .str n::r=>(E3 r).map (n:: ·)
 | _=>none
noncomputable def Bz(eq lt:V->V->Option Bool):List V->List V->Option Bool
 | [],[]=>some false
 | [],_::_=>some true
 | _::_,[]=>some false
 | a::as,b::bs=>match eq a b with
  | none=>none
  | some true=>Bz eq lt as bs
  | some false=>lt a b
noncomputable def Hc(f:Int->Int->Bool)(a b:V):Option Bool:=(vI a).bind λm=>(vI b).bind λn=>some (f m n)
noncomputable def lt0:V->V->Option Bool:=Hc λm n=>decide (m < n)
noncomputable def Pe(lt:V->V->Option Bool)(f:List V->List V->Option Bool)(a b:V):Option Bool:=(vT a).elim (lt a b) λx=>(vT b).elim (lt a b) (f x)
noncomputable def lt1:V->V->Option Bool:=Pe lt0 (Bz peq lt0)
noncomputable def lt2(hp:HP)(a b:V):Option Bool:=(vL a).elim (lt1 a b) λi=>(vL b).elim (lt1 a b) λj=>(lget hp i).bind λx=>(lget hp j).bind λy=>Bz peq lt1 x y
noncomputable def vlt(hp:HP):V->V->Option Bool:=Pe lt0 (Bz (veq hp) (lt2 hp))
noncomputable def A9{α:Type}(xs:List α)(n:Int):Option α:=
 if 0<=n then xs[n.toNat]? else if 0<=n+xs.length then xs[(n+xs.length).toNat]? else none
noncomputable def fit(n:Int):Bool:=decide (-(2 ^ 62)<=n) && decide (n < 2 ^ 62)
noncomputable def alloc(hp:HP)(xs:List V):Option (V×HP):=if xs.length<=200 then some (.lst hp.length,hp++[.l xs]) else none
noncomputable def Xu(o k:V)(hp:HP):Option (V×HP):=(vI k).bind λn=>match vL o with
 | some j=>(lget hp j).bind λxs=>(A9 xs n).bind λv=>some (v,hp)
 | none=>match vT o with
  | some xs=>if 0<=n then(xs[n.toNat]?).map (·,hp) else none
  | none=>match Lu o with
   | some ns=>if 0<=n then(ns[n.toNat]?).map λm=>(.int m,hp) else none
   | none=>(vS o).bind λs=>(A9 (chars s) n).map λc=>(.str (Aj [c]),hp)
noncomputable def O6(a b:V)(hp:HP):Option (V×HP):=match vI a with
 | some m=>(vI b).map λn=>(.int (m+n),hp)
 | none=>match vS a with
  | some s=>(vS b).bind λt=>if(chars s).length+(chars t).length<=100 then some (.str (Aj (chars s++chars t)),hp) else none
  | none=>(vL a).bind λi=>(vL b).bind λj=>(lget hp i).bind λx=>(lget hp j).bind λy=>alloc hp (x++y)
noncomputable def Hm(a b:V)(f:Int->Int->Option (V×HP)):Option (V×HP):=(vI a).bind λm=>(vI b).bind λn=>f m n
noncomputable def B7(op:Bop)(a b:V)(hp:HP):Option (V×HP):=match op with
 | .add=>O6 a b hp
 | .sub=>Hm a b λm n=>some (.int (m - n),hp)
 | .mul=>Hm a b λm n=>if fit m && fit n then some (.int (m*n),hp) else none
 | .mod=>Hm a b λm n=>if 0 < n then some (.int (m % n),hp) else none
 | .shr=>Hm a b λm n=>if 0<=m && Ap n 1 && fit m then some (.int (m / 2),hp) else none
noncomputable def Ho(hp:HP)(a b:V):Option Bool:=(vL b).bind λi=>(lget hp i).bind λxs=>if xs.all (plain 3) && plain 3 a then some (xs.any λx=>eqB x a) else none
noncomputable def Je:V->Bool
 | .none=>true
 | _=>false
noncomputable def Bd(op:Cop)(a b:V)(hp:HP):Option Bool:=match op with
 | .eq=>veq hp a b
 | .ne=>(veq hp a b).map (!·)
 | .lt=>vlt hp a b
 | .le=>Hc (λm n=>decide (m<=n)) a b
 | .gt=>Hc (λm n=>decide (m > n)) a b
 | .ge=>Hc (λm n=>decide (m≥n)) a b
 | .in_=>Ho hp a b
 | .notin=>(Ho hp a b).map (!·)
 | .is_=>none
 | .isnot=>if Je b then(if Je a then some false else(vS a).map λ_=>true) else none
noncomputable def truthy(hp:HP):V->Option Bool
 | .bool b=>some b
 | .int n=>some (!Ap n 0)
 | .none=>some false
 | .str s=>some (!(chars s).isEmpty)
 | .lst i=>(lget hp i).map (!·.isEmpty)
 | _=>none
noncomputable def H1(v:V):Option (Option Int):=if Je v then some none else(vI v).map some
noncomputable def slice{α:Type}(xs:List α)(lo hi:V):Option (List α):=(H1 lo).bind λp=>(H1 hi).bind λq=>some ((xs.drop (p.elim 0 (clipAt xs.length))).take (q.elim xs.length (clipAt xs.length) - p.elim 0 (clipAt xs.length)))
noncomputable def C0(c:Nat):Nat:=if 65<=c && c<=90 then c+32 else c
noncomputable def Dm(c:Nat):Bool:=(65<=c && c<=90)||(97<=c && c<=122)
noncomputable def D4{α:Type}(lt:α->α->Bool)(x:α):List α->List α
 | []=>[x]
 | y::r=>if lt x y then x::y::r else y::D4 lt x r
noncomputable def isort{α:Type}(lt:α->α->Bool)(xs:List α):List α:=xs.foldl (λr x=>D4 lt x r) []
noncomputable def as1{α:Type}:List α->Option α
 | [v]=>some v
 | _=>none
noncomputable def as2:List V->Option (V×V)
 | [u,v]=>some (u,v)
 | _=>none
noncomputable def Fy(v:V):Option (List Nat×List Nat):=(vT v).bind λl=>(as2 l).bind λp=>(vS p.1).bind λa=>(vS p.2).bind λb=>some (chars a,chars b)
noncomputable def ltPair(a b:List Nat×List Nat):Bool:=if Bb a.1 b.1 then Fr a.2 b.2 else Fr a.1 b.1
noncomputable def Be(p:List Nat×List Nat):V:= .tup [.str (Aj p.1),.str (Aj p.2)]
noncomputable def Eg(xs:List V):Option (List V):=(intsV xs).elim ((xs.mapM Fy).map λps=>(isort ltPair ps).map Be) λns=>some ((isort (λa b=>decide (a < b)) ns).map .int)
noncomputable def C6:Int->List Int->Int
 | m,[]=>m
 | m,a::r=>C6 (if a < m then a else m) r
noncomputable def Bk(ns:List Int):List Int:=ns.foldl (λacc k=>if acc.any (λb=>Ap b k) then acc else acc++[k]) []
noncomputable def zG:List Int->Option Int
 | []=>none
 | a::r=>some (C6 a r)
noncomputable def asL(l:List V):Option Nat:=(as1 l).bind vL
noncomputable def asS(l:List V):Option Str:=(as1 l).bind vS
noncomputable def yP(l:List V):Option (List Int):=(as1 l).bind Lu
noncomputable def yO(l:List V):Option (Int×Int):=(as2 l).bind λp=>(vI p.1).bind λa=>(vI p.2).bind λb=>some (a,b)
noncomputable def yR(args:List V)(hp:HP):Option (V×HP):=(asL args).elim ((asS args).elim ((yP args).bind λns=>some (.int ns.length,hp)) λs=>some (.int (chars s).length,hp)) λi=>(lget hp i).bind λxs=>some (.int xs.length,hp)
noncomputable def yS(args:List V)(hp:HP):Option (V×HP):=(yO args).elim ((asL args).bind λi=>(lget hp i).bind λxs=>(intsV xs).bind λns=>(zG ns).bind λm=>some (.int m,hp)) λp=>some (.int (if p.2 < p.1 then p.2 else p.1),hp)
noncomputable def yT(args:List V)(hp:HP):Option (V×HP):=(asL args).bind λi=>(lget hp i).bind λxs=>(intsV xs).bind λns=>if ns.all (λn=>fit (n*1000)) then some (.int ns.sum,hp) else none
noncomputable def Zq(args:List V)(hp:HP):Option (V×HP):=(asL args).bind λi=>(lget hp i).bind λxs=>if 2<=xs.length && xs.length < 64 then(Eg xs).bind (alloc hp) else none
noncomputable def Nl(id:String)(args:List V)(hp:HP):Option (V×HP):=if id="len" then yR args hp else if id="min" then yS args hp else if id="sum" then yT args hp else if id="sorted" then Zq args hp else none
noncomputable def builtin(f:Value)(args:List V)(hp:HP):Option (V×HP):=match f with
 | .builtin id=>Nl id args hp
 | _=>none
noncomputable def dS(o:V)(args:List V)(hp:HP):Option (V×HP):=(vL o).bind λi=>(as1 args).bind λv=>(lget hp i).bind λxs=>if xs.length < 200 then some (.none,hp.set i (.l (xs++[v]))) else none
noncomputable def zE(o:V)(args:List V)(hp:HP):Option (V×HP):=(vL o).bind λi=>if args.isEmpty then(lget hp i).bind λxs=>xs.getLast?.bind λv=>some (v,hp.set i (.l xs.dropLast)) else none
noncomputable def dT(o:V)(args:List V)(hp:HP):Option (V×HP):=(vL o).bind λi=>(asS args).bind λs=>(lget hp i).bind λxs=>(E3 xs).bind λss=>(ss.findIdx? λt=>Bb (chars t) (chars s)).bind λk=>some (.none,hp.set i (.l (xs.eraseIdx k)))
noncomputable def Yo(o:V)(args:List V)(hp:HP):Option (V×HP):=(vS o).bind λs=>if args.isEmpty then some (.str (Aj ((chars s).map C0)),hp) else none
noncomputable def Yn(o:V)(args:List V)(hp:HP):Option (V×HP):=(vS o).bind λs=>(asS args).bind λt=>if Bb (chars s) [97,98,99,100,101] then(as1 (chars t)).bind λc=>if bK 97 c && bK c 101 then some (.int (c - 97:Nat),hp) else none else none
noncomputable def AZ(o:V)(args:List V)(hp:HP):Option (V×HP):=(vS o).bind λ_=>(asL args).bind λi=>(lget hp i).bind λxs=>(asS xs).bind λs=>some (.str s,hp)
noncomputable def C1(m:Mth)(o:V)(args:List V)(hp:HP):Option (V×HP):=match m with
 | .append=>dS o args hp
 | .pop=>zE o args hp
 | .remove=>dT o args hp
 | .lower=>Yo o args hp
 | .index=>Yn o args hp
 | .join=>AZ o args hp
 | _=>none
noncomputable def Gq(hp:HP)(v:V):Option Itr:=(vL v).elim ((vS v).bind λs=>some (.str (chars s))) λi=>(lget hp i).bind λ_=>some (.lst i 0)
noncomputable def rangeSize(a b c:Int):Nat:=if c=1 then(b - a).toNat else if a < b then((b - a - 1) / c+1).toNat else 0
noncomputable def eE:List Int->Option Itr
 | [b]=>if fit b then some (.rng 0 1 (rangeSize 0 b 1)) else none
 | [a,b]=>if fit a && fit b then some (.rng a 1 (rangeSize a b 1)) else none
 | [a,b,c]=>if fit a && fit b && decide (0 < c) && decide (c < 1000) then some (.rng a c (rangeSize a b c)) else none
 | _=>none
noncomputable def B5(vs:List V):Option Itr:=(intsV vs).bind eE
noncomputable def Ca(hp:HP):Itr->Option (Option (V×Itr))
 | .rng _ _ 0=>some none
 | .rng a c (n+1)=>some (some (.int a,.rng (a+c) c n))
 | .lst i n=>do
  match (<-lget hp i)[n]? with
  | some v=>some (some (v,.lst i (n+1)))
  | none=>some none
 | .str []=>some none
 | .str (c::r)=>some (some (.str (Aj [c]),.str r))
noncomputable def B3(a c:Int):Nat->List V
 | 0=>[]
 | n+1=> .int a::B3 (a+c) c n
noncomputable def bindT:T->V->Rho->Option Rho
 | .one x,v,U=>some (rset U x v)
 | .many xs,.tup vs,U=>if xs.length==vs.length then some ((xs.zip vs).foldl (λr p=>rset r p.1 p.2) U) else none
 | _,_,_=>none
structure Fn where
 params:List Nat
 body:List S
structure Ag where
 ft:cK->Option Fn
 ext:cK->List V->HP->Option (V×HP)
 mt:Mth->Option cK
 cv:Bool
structure R where
 ev:Nat->X->Rho->HP->Option (V×HP)
 tr:Nat->X->Rho->HP->Option (Bool×HP)
 evs:Nat->List X->Rho->HP->Option (List V×HP)
 itr:Nat->It->Rho->HP->Option (Itr×HP)
 ex:Nat->List S->Rho->HP->Option (Fl×Rho×HP)
 wl:Nat->X->List S->Rho->HP->Option (Fl×Rho×HP)
 fl:Nat->T->Itr->List S->Rho->HP->Option (Fl×Rho×HP)
 cl:Nat->X->T->List X->List G->Itr->Nat->Rho->HP->Option (Rho×HP)
 call:Nat->cK->List V->HP->Option (V×HP)
noncomputable def Hg(r:R)(d:Nat)(o:Option X)(U:Rho)(hp:HP):Option (V×HP):=match o with
 | none=>some (.none,hp)
 | some x=>r.ev d x U hp
variable (e0:Ag)
noncomputable def I7(r:R)(d:Nat)(U:Rho):List X->HP->Option (V×HP)
 | [],_=>none
 | [x],hp=>r.ev d x U hp
 | x::y::l,hp=>do
  let (v,hp) <-r.ev d x U hp
  if <-truthy hp v then I7 r d U (y::l) hp else return (v,hp)
noncomputable def Hf(r:R)(d:Nat)(U:Rho):List X->HP->Option (V×HP)
 | [],_=>none
 | [x],hp=>r.ev d x U hp
 | x::y::l,hp=>do
  let (v,hp) <-r.ev d x U hp
  if <-truthy hp v then return (v,hp) else Hf r d U (y::l) hp
noncomputable def Dj(r:R)(d:Nat)(U:Rho):List X->HP->Option (Bool×HP)
 | [],hp=>some (true,hp)
 | x::l,hp=>do
  let (b,hp) <-r.tr d x U hp
  if b then Dj r d U l hp else return (false,hp)
noncomputable def Gi(r:R)(d:Nat)(U:Rho):List X->HP->Option (Bool×HP)
 | [],hp=>some (false,hp)
 | x::l,hp=>do
  let (b,hp) <-r.tr d x U hp
  if b then return (true,hp) else Gi r d U l hp
noncomputable def evF(r:R)(d:Nat)(x:X)(U:Rho)(hp:HP):Option (V×HP):=match x with
 | .k v=>some (v,hp)
 | .var x=>(rget U x).map (·,hp)
 | .bin op a b=>do
  let (u,hp) <-r.ev d a U hp;let (v,hp) <-r.ev d b U hp
  B7 op u v hp
 | .cmp op a b=>do
  let (u,hp) <-r.ev d a U hp;let (v,hp) <-r.ev d b U hp
  return (.bool (<-Bd op u v hp),hp)
 | .land xs=>I7 r d U xs hp
 | .lor xs=>Hf r d U xs hp
 | .lnot a=>do
  let (v,hp) <-r.ev d a U hp
  return (.bool (!(<-truthy hp v)),hp)
 | .ife c a b=>do
  let (t,hp) <-r.tr d c U hp
  if t then r.ev d a U hp else r.ev d b U hp
 | .list xs=>do
  let (vs,hp) <-r.evs d xs U hp
  alloc hp vs
 | .tup xs=>do
  let (vs,hp) <-r.evs d xs U hp
  if vs.length<=200 then return (.tup vs,hp) else none
 | .idx a i=>do
  let (o,hp) <-r.ev d a U hp;let (k,hp) <-r.ev d i U hp
  Xu o k hp
 | .slc a lo hi=>do
  let (o,hp) <-r.ev d a U hp;let (l,hp) <-Hg r d lo U hp;let (h,hp) <-Hg r d hi U hp
  match o with
  | .lst j=>do alloc hp (<-slice (<-lget hp j) l h)
  | .str s=>(slice (chars s) l h).map λc=>(.str (Aj c),hp)
  | _=>none
 | .app f xs=>do
  let (vs,hp) <-r.evs d xs U hp
  match f with
  | .ref a=>r.call d a vs hp
  | f=>builtin f vs hp
 | .met m o xs=>do
  let (ov,hp) <-r.ev d o U hp
  match ov with
  | .hdr i=>match hp[i]?,m with
   | some (.d _),.getall|some (.d _),.addh|some (.d _),.items=>do
    let (vs,hp) <-r.evs d xs U hp
    r.call d (<-e0.mt m) (ov::vs) hp
   | _,_=>none
  | .lst i=>do
   let _ <-lget hp i;let (vs,hp) <-r.evs d xs U hp
   C1 m ov vs hp
  | .str _=>do
   let (vs,hp) <-r.evs d xs U hp
   C1 m ov vs hp
  | _=>none
 | .hds o=>do
  let (ov,hp) <-r.ev d o U hp
  match ov with
  | .hdr i=>match hp[i]? with
   | some (.d l)=>some (.lst l,hp)
   | _=>none
  | _=>none
 | .conv o e=>do
  let (ov,hp1) <-r.ev d o U hp
  match ov with
  | .hdr i=>match hp1[i]? with
   | some (.d _)=>do
    let (v,hp2) <-r.ev d e U hp1
    match v,hp2[i]? with
    | .str s,some (.d _)=>if e0.cv && decide (1<=d) && (chars s).all Dm && decide ((chars s).length=1) then some (.str s,hp2) else none
    | _,_=>none
   | _=>none
  | _=>none
 | .lenset a=>do
  let (v,hp) <-r.ev d a U hp
  match v with
  | .lst i=>do
   let ns <-intsV (<-lget hp i)
   if ns.length<=20 then return (.int (Bk ns).length,hp) else none
  | _=>none
 | .lrange xs=>do
  let (vs,hp) <-r.evs d xs U hp
  match B5 vs with
  | some (.rng a c n)=>if n<=200 then alloc hp (B3 a c n) else none
  | _=>none
 | .comp loc elt gens=>match gens with
  | .g t it ifs::rest=>do
   let (j,hp) <-r.itr d it U hp;let acc:=hp.length;let (_,hp) <-r.cl d elt t ifs rest j acc (Av loc U) (hp++[.l []])
   return (.lst acc,hp)
  | []=>none
noncomputable def trF(r:R)(d:Nat)(x:X)(U:Rho)(hp:HP):Option (Bool×HP):=match x with
 | .lnot a=>do
  let (b,hp) <-r.tr d a U hp
  return (!b,hp)
 | .land xs=>Dj r d U xs hp
 | .lor xs=>Gi r d U xs hp
 | .cmp op a b=>do
  let (u,hp) <-r.ev d a U hp;let (v,hp) <-r.ev d b U hp
  return (<-Bd op u v hp,hp)
 | .ife .. =>none
 | x=>do
  let (v,hp) <-r.ev d x U hp
  return (<-truthy hp v,hp)
noncomputable def evsF(r:R)(d:Nat):List X->Rho->HP->Option (List V×HP)
 | [],_,hp=>some ([],hp)
 | x::l,U,hp=>do
  let (v,hp) <-r.ev d x U hp;let (vs,hp) <-r.evs d l U hp
  return (v::vs,hp)
noncomputable def Xv(r:R)(d:Nat)(it:It)(U:Rho)(hp:HP):Option (Itr×HP):=match it with
 | .rng xs=>do
  let (vs,hp) <-r.evs d xs U hp
  return (<-B5 vs,hp)
 | .ex e=>do
  let (v,hp) <-r.ev d e U hp
  return (<-Gq hp v,hp)
noncomputable def clF(r:R)(d:Nat)(elt:X)(t:T)(ifs:List X)(rest:List G)(j:Itr)(acc:Nat)(U:Rho)(hp:HP):Option (Rho×HP):=do
 match <-Ca hp j with
 | none=>return (U,hp)
 | some (v,j)=>
  let U <-bindT t v U;let (ok,hp) <-Dj r d U ifs hp
  if ok then
   match rest with
   | .g t' it' ifs'::rest'=>do
    let (j',hp) <-r.itr d it' U hp;let (U,hp) <-r.cl d elt t' ifs' rest' j' acc U hp
    r.cl d elt t ifs rest j acc U hp
   | []=>do
    let (v,hp) <-r.ev d elt U hp;let xs <-lget hp acc
    if xs.length < 200 then r.cl d elt t ifs rest j acc U (hp.set acc (.l (xs++[v]))) else none
  else r.cl d elt t ifs rest j acc U hp
noncomputable def ex1(r:R)(d:Nat)(st:S)(U:Rho)(hp:HP):Option (Fl×Rho×HP):=match st with
 | .assign t e=>do
  let (v,hp) <-r.ev d e U hp
  return (.next,<-bindT t v U,hp)
 | .assign2 x y e=>do
  let (v,hp) <-r.ev d e U hp
  return (.next,rset (rset U x v) y v,hp)
 | .setidx o i e=>do
  let (v,hp) <-r.ev d e U hp;let (ov,hp) <-r.ev d o U hp;let (iv,hp) <-r.ev d i U hp
  (vL ov).bind λj=>(vI iv).bind λn=>(lget hp j).bind λxs=>if 0<=n && n < xs.length then some (.next,U,hp.set j (.l (xs.set n.toNat v))) else none
 | .setall o e=>do
  let (v,hp) <-r.ev d e U hp;let (ov,hp) <-r.ev d o U hp
  (vL ov).bind λj=>(vL v).bind λk=>(lget hp j).bind λ_=>(lget hp k).bind λys=>if j==k then none else some (.next,U,hp.set j (.l ys))
 | .aug x op e=>do
  let u <-rget U x;let (v,hp) <-r.ev d e U hp
  (vI u).bind λm=>(vI v).bind λn=>(B7 op (.int m) (.int n) hp).bind λw=>some (.next,rset U x w.1,w.2)
 | .expr e=>do
  let (v,hp) <-r.ev d e U hp
  match v with
  | .none=>return (.next,U,hp)
  | _=>none
 | .for_ t it body=>do
  let (j,hp) <-r.itr d it U hp
  r.fl d t j body U hp
 | .while_ c body=>r.wl d c body U hp
 | .if_ c a b=>do
  let (t,hp) <-r.tr d c U hp
  if t then r.ex d a U hp else r.ex d b U hp
 | .ret e=>do
  let (v,hp) <-r.ev d e U hp
  return (.ret v,U,hp)
 | .del o i=>do
  let (ov,hp) <-r.ev d o U hp;let (iv,hp) <-r.ev d i U hp
  match ov with
  | .hdr k=>match hp[k]? with
   | some (.d _)=>do
    let (v,hp) <-r.call d (<-e0.mt .remove) [ov,iv] hp
    match v with
    | .none=>return (.next,U,hp)
    | _=>none
   | _=>none
  | _=>none
 | .brk=>some (.brk,U,hp)
 | .cont=>some (.cont,U,hp)
noncomputable def exF(r:R)(d:Nat):List S->Rho->HP->Option (Fl×Rho×HP)
 | [],U,hp=>some (.next,U,hp)
 | st::l,U,hp=>do
  let (f,U,hp) <-ex1 e0 r d st U hp
  match f with
  | .next=>r.ex d l U hp
  | f=>return (f,U,hp)
noncomputable def wlF(r:R)(d:Nat)(c:X)(body:List S)(U:Rho)(hp:HP):Option (Fl×Rho×HP):=do
 let (t,hp) <-r.tr d c U hp
 if t then
  let (f,U,hp) <-r.ex d body U hp
  match f with
  | .next| .cont=>r.wl d c body U hp
  | .brk=>return (.next,U,hp)
  | .ret v=>return (.ret v,U,hp)
 else return (.next,U,hp)
noncomputable def flF(r:R)(d:Nat)(t:T)(j:Itr)(body:List S)(U:Rho)(hp:HP):Option (Fl×Rho×HP):=do
 match <-Ca hp j with
 | none=>return (.next,U,hp)
 | some (v,j)=>
  let U <-bindT t v U;let (f,U,hp) <-r.ex d body U hp
  match f with
  | .next| .cont=>r.fl d t j body U hp
  | .brk=>return (.next,U,hp)
  | .ret v=>return (.ret v,U,hp)
noncomputable def callF(r:R)(d:Nat)(a:cK)(vs:List V)(hp:HP):Option (V×HP):=
 match e0.ext a vs hp with
 | some x=>if 3<=d then some x else none
 | none=>match e0.ft a with
  | none=>none
  | some fn=>match d with
   | 0=>none
   | d+1=>if fn.params.length==vs.length then do
     let (f,_,hp) <-r.ex d fn.body (fn.params.zip vs) hp
     match f with
     | .ret v=>return (v,hp)
     | .next=>return (.none,hp)
     | _=>none
    else none
noncomputable def Df:R:=⟨λ_ _ _ _=>none,λ_ _ _ _=>none,λ_ _ _ _=>none,λ_ _ _ _=>none,λ_ _ _ _=>none,λ_ _ _ _ _=>none,λ_ _ _ _ _ _=>none,λ_ _ _ _ _ _ _ _ _=>none,λ_ _ _ _=>none⟩
noncomputable def Hp(r:R):R:=⟨evF e0 r,trF r,evsF r,Xv r,exF e0 r,wlF r,flF r,clF r,callF e0 r⟩
noncomputable def Ae:Nat->R
 | 0=>Df
 | n+1=>Hp e0 (Ae n)
end Mine
namespace Mine
structure Tab where
 tab:List Str
 gl:List (Str×V)
noncomputable def Cw(l:List Str)(n:Str)(i:Nat):Option Nat:=match l with
 | []=>none
 | m::r=>if m=n then some i else Cw r n (i+1)
noncomputable abbrev Sc:=List (Str×NameKind)
variable (tb:Tab)
noncomputable def Ao(sc:Sc)(n:Str):Option X:=if n="__debug__" then none else match sc.lookup n with
 | some .local=>(Cw tb.tab n 0).map .var
 | some .cell=>(Cw tb.tab n 0).map .var
 | some .free=>(Cw tb.tab n 0).map .var
 | some .globalImplicit=>(tb.gl.lookup n).map .k
 | _=>none
noncomputable def Ci(own:Bool)(sc:Sc)(n:Str):Option Nat:=match sc.lookup n with
 | some .local=>Cw tb.tab n 0
 | some .cell=>if own then Cw tb.tab n 0 else none
 | _=>none
noncomputable def cOp:Operator->Option Bop
 | .Add=>some .add
 | .Sub=>some .sub
 | .Mult=>some .mul
 | .Mod=>some .mod
 | .RShift=>some .shr
 | _=>none
noncomputable def Lp:CmpOp->Option Cop
 | .Eq=>some .eq
 | .NotEq=>some .ne
 | .Lt=>some .lt
 | .LtE=>some .le
 | .Gt=>some .gt
 | .GtE=>some .ge
 | .In=>some .in_
 | .NotIn=>some .notin
 | .IsNot=>some .isnot
 | _=>none
noncomputable def O8(n:Str):Option Mth:=
 if n="append" then some .append
 else if n="pop" then some .pop
 else if n="remove" then some .remove
 else if n="lower" then some .lower
 else if n="index" then some .index
 else if n="join" then some .join
 else if n="get_all" then some .getall
 else if n="add_header" then some .addh
 else if n="items" then some .items
 else none
noncomputable def Hz:List Nat->Bool
 | []=>true
 | a::r=> !(r.any λb=>aW a b) && Hz r
noncomputable def Ar{α:Type}(b:Bool)(o:Option α):Option α:=match b with
 | true=>o
 | false=>none
noncomputable def one{α:Type}:List α->Option α
 | [a]=>some a
 | _=>none
noncomputable def two{α:Type}:List α->Option (α×α)
 | [a,b]=>some (a,b)
 | _=>none
noncomputable def Cu(e:Expr):Option (Str×Pos):=if h:e.ctorIdx=23 then g6D e h λx p=>some (x,p) else none
noncomputable def Go(e:Expr):Option (List Expr):=if h:e.ctorIdx=25 then g5P e h λl _ _=>some l else none
noncomputable def Ft(e:Expr):Option (Expr×Str×Pos):=if h:e.ctorIdx=20 then gBG e h λo n p=>some (o,n,p) else none
noncomputable def Gl(e:Expr):Option (Expr×Expr):=if h:e.ctorIdx=21 then gBF e h λo i _=>some (o,i) else none
noncomputable def Gv(e:Expr):Option (Option Expr×Option Expr×Option Expr):=if h:e.ctorIdx=26 then gDM e h λa b c _=>some (a,b,c) else none
noncomputable def X5:X->Option Value
 | .k (.imm g)=>some g
 | _=>none
noncomputable def Hq(own:Bool)(sc:Sc)(e:Expr):Option Nat:=(Cu e).bind λn=>Ci tb own sc n.1
noncomputable def cT(own:Bool)(sc:Sc)(e:Expr):Option T:=match Cu e with
 | some n=>(Ci tb own sc n.1).map .one
 | none=>(Go e).bind λes=>(g7H (m:=Option) (Hq tb own sc) es).bind λxs=>Ar (Hz xs) (some (.many xs))
noncomputable def Hv(sc:Sc)(s:Scope):Bool:=s.kind== .function && !s.isGenerator && !s.isCoroutine && s.names.all λx=>
 (match x.2 with
  | .local=>s.names.lookup x.1==some .local
  | .free=>sc.lookup x.1==some .cell||sc.lookup x.1==some .free
  | .globalImplicit=>true
  | _=>false) && s.names.lookup x.1==some x.2
noncomputable def Cs(sc:Sc)(names:Sc):Sc:=names.map fun(n,k)=>if(k==NameKind.free && sc.lookup n==some .cell) then(n,.cell) else(n,k)
noncomputable def He(names:Sc):List Nat:=names.filterMap λx=>if x.2== .local then Cw tb.tab x.1 0 else none
noncomputable def Bh(sc:Sc)(n:Str):Bool:=sc.lookup n==some .globalImplicit
noncomputable def Gb(sc:Sc)(m:Str):List Expr->Bool
 | [.Call (.Name n _) _ [] _]=>n=m && Bh sc n
 | _=>false
noncomputable def J6(sc:Sc):Expr->Bool
 | .Call (.Name n _) _ [] _=>n="range" && Bh sc n
 | _=>false
noncomputable def Jr(e:Expr):Bool:=aW e.ctorIdx 8
noncomputable def C2(e:Expr):Bool:=aW e.ctorIdx 16
noncomputable def Ig(e:Expr):Bool:=(Gv e).any λt=>t.1.isNone && t.2.1.isNone && t.2.2.isNone
noncomputable def El(e:Expr):Bool:=(Gv e).any λt=>t.2.2.isNone
noncomputable def J8:List Keyword->List Expr->Bool
 | [⟨some kn,.Constant (.bool _) _ _,_⟩],[_]=>kn="name"
 | _,_=>false
noncomputable def mkN(sc:Sc)(n:Str)(args:List Expr)(axs:Option (List X))(inn:Option (List X)):Option X:=
 match decide (n="len") && Bh sc n && Gb sc "set" args with
 | true=>(inn.bind one).map .lenset
 | false=>match decide (n="list") && Bh sc n with
  | true=>Ar (Gb sc "range" args) (inn.map .lrange)
  | false=>(Ao tb sc n).bind λc=>(X5 c).bind λg=>axs.bind λxs=>Ar (decide (args.length+2<=28)) (some (.app g xs))
noncomputable def mkA(n:Str)(apos pos:Pos)(args:List Expr)(kws:List Keyword)(fo:Option X)(axs:Option (List X)):Option X:=Ar (apos.endLine==pos.line) (match kws.isEmpty with
 | true=>(O8 n).bind λm=>fo.bind λox=>axs.bind λxs=>Ar (decide (args.length+2<=28)) (some (.met m ox xs))
 | false=>Ar (J8 kws args && decide (n="_convert_string_type")) (fo.bind λox=>(axs.bind one).map λx=> .conv ox x))
noncomputable def Gs(sc:Sc)(f:Expr)(args:List Expr)(kws:List Keyword)(pos:Pos)(fo:Option X)(axs:Option (List X))(inn:Option (List X)):Option X:=
 match Cu f with
 | some n=>Ar kws.isEmpty (mkN tb sc n.1 args axs inn)
 | none=>(Ft f).bind λt=>mkA t.2.1 t.2.2 pos args kws fo axs
noncomputable def P3:Const->Option V
 | .int i=>some (.int i)
 | .str s=>Ar (decide (s.cps.size<=100) && s.cps.toList.all (λc=>g6N c 128)) (some (.str s))
 | .none=>some .none
 | .bool b=>some (.bool b)
 | _=>none
noncomputable def X7:BoolOp->List X->X
 | .And,xs=> .land xs
 | .Or,xs=> .lor xs
noncomputable def Su:Const->Option Int
 | .int i=>some i
 | _=>none
noncomputable def Lq(e:Expr):Option Int:=if h:e.ctorIdx=19 then g4O e h λc _ _=>Su c else none
mutual
noncomputable def cX(sc:Sc):Expr->Option X
 | .Constant c _ _=>(P3 c).map .k
 | .Name n _=>Ao tb sc n
 | .BoolOp op vs _=>(cXs sc vs).map (X7 op)
 | .BinOp l op r _=>(cOp op).bind λo=>(cX sc l).bind λa=>(cX sc r).map λb=> .bin o a b
 | .UnaryOp op e _=>match op with
  | .Not=>(cX sc e).map .lnot
  | .USub=>(Lq e).map λi=> .k (.int (-i))
  | _=>none
 | .IfExp c a b _=>(cX sc c).bind λc=>(cX sc a).bind λa=>(cX sc b).map λb=> .ife c a b
 | .List es _=>(cXs sc es).map .list
 | .Tuple es _ _=>(cXs sc es).map .tup
 | .Compare l ops rs _=>(cX sc l).bind λa=>(cXs sc rs).bind λbs=>(one ops).bind λop=>(one rs).bind λr=>(one bs).bind λb=>(Lp op).bind λo=>Ar (!behindInMarks op r) (some (.cmp o a b))
 | .Subscript v s _=>(cX sc v).bind λa=>match El s with
  | true=>(cSl sc s).map λp=> .slc a p.1 p.2
  | false=>(cX sc s).map λi=> .idx a i
 | .Attribute o n _=>Ar (decide (n="_headers") && !C2 o) ((cX sc o).map .hds)
 | .Call f args kws pos=>Gs tb sc f args kws pos (cFo sc f) (cXs sc args) (cIn sc args)
 | .ListComp elt gens s _=>Ar (Hv sc s) ((cGs sc (Cs sc s.names) gens).bind λgs=>(cX (Cs sc s.names) elt).map λe=> .comp (He tb s.names) e gs)
 | _=>none
noncomputable def cXs(sc:Sc):List Expr->Option (List X)
 | []=>some []
 | e::r=>(cX sc e).bind λx=>(cXs sc r).map λxs=>x::xs
noncomputable def cO(sc:Sc):Option Expr->Option (Option X)
 | none=>some none
 | some e=>(cX sc e).map some
noncomputable def cSl(sc:Sc):Expr->Option (Option X×Option X)
 | .Slice lo hi _ _=>(cO sc lo).bind λl=>(cO sc hi).map λh=>(l,h)
 | _=>none
noncomputable def cFo(sc:Sc):Expr->Option X
 | .Attribute o _ _=>Ar (!C2 o) (cX sc o)
 | _=>none
noncomputable def cIn(sc:Sc):List Expr->Option (List X)
 | e::_=>cIn1 sc e
 | []=>none
noncomputable def cIn1(sc:Sc):Expr->Option (List X)
 | .Call _ args _ _=>cXs sc args
 | _=>none
noncomputable def cGs(out sc:Sc):List Comprehension->Option (List G)
 | []=>some []
 | ⟨t,it,ifs,a⟩::r=>(cIt out it).bind λi=>(cT tb false sc t).bind λt=>(cXs sc ifs).bind λifs=>Ar (a==0) ((cGs sc sc r).map λgs=> .g t i ifs::gs)
noncomputable def cIt(sc:Sc):Expr->Option It
 | .Call f args kws p=>match J6 sc (.Call f args kws p) with
  | true=>(cXs sc args).map It.rng
  | false=>(Gs tb sc f args kws p (cFo sc f) (cXs sc args) (cIn sc args)).map It.ex
 | .Name n _=>(Ao tb sc n).map It.ex
 | .Attribute o n _=>Ar (decide (n="_headers") && !C2 o) ((cX sc o).map λx=> .ex (.hds x))
 | .Constant c _ _=>match c with
  | .str s=>Ar (decide (s.cps.size<=100) && s.cps.toList.all (λc=>g6N c 128)) (some (.ex (.k (.str s))))
  | _=>none
 | _=>none
end
noncomputable def Tu(sc:Sc)(l m:List Expr):Bool:=(two l).any λp=>(two m).any λq=>(Cu p.1).any λa=>(Cu p.2).any λb=>(Cu q.1).any λc=>(Cu q.2).any λ_=>c.1 != aM "__debug__" && a.1 != b.1 && sc.lookup a.1==some .local && sc.lookup b.1==some .local && a.2.line==b.2.line
noncomputable def Jv(sc:Sc)(t e:Expr):Bool:=match Go t with
 | none=>true
 | some ts=>match Go e with
  | none=> !Jr e
  | some vs=>Tu sc ts vs
noncomputable def O7:Operator->Option Bop
 | .Add=>some .add
 | .Sub=>some .sub
 | _=>none
noncomputable def cN(sc:Sc)(e:Expr):Option Nat:=(Cu e).bind λn=>Ci tb true sc n.1
mutual
noncomputable def cS(sc:Sc):Stmt->Option S
 | .Expr e _=>Ar (!Jr e) ((cX tb sc e).map .expr)
 | .Break _=>some .brk
 | .Continue _=>some .cont
 | .Return v _=>match v with
  | some e=>(cX tb sc e).map .ret
  | none=>some (.ret (.k .none))
 | .Assign ts v _=>match one ts with
  | some t=>match Gl t with
   | some p=>match Ig p.2 with
    | true=>(cX tb sc p.1).bind λa=>(cX tb sc v).map λe=> .setall a e
    | false=>Ar (!El p.2) ((cX tb sc p.1).bind λa=>(cX tb sc p.2).bind λj=>(cX tb sc v).map λe=> .setidx a j e)
   | none=>Ar (Jv sc t v) ((cT tb true sc t).bind λt=>(cX tb sc v).map λe=> .assign t e)
  | none=>(two ts).bind λp=>(cN tb sc p.1).bind λx=>(cN tb sc p.2).bind λy=>(cX tb sc v).map λe=> .assign2 x y e
 | .AugAssign t op v _=>(cN tb sc t).bind λx=>(O7 op).bind λo=>(cX tb sc v).map λe=> .aug x o e
 | .Delete ts _=>(one ts).bind λt=>(Gl t).bind λp=>(cX tb sc p.1).bind λa=>(cX tb sc p.2).map λj=> .del a j
 | .If c a b _=>(cX tb sc c).bind λc=>(cSs sc a).bind λa=>(cSs sc b).map λb=> .if_ c a b
 | .While c body orelse _=>Ar orelse.isEmpty ((cX tb sc c).bind λc=>(cSs sc body).map λb=> .while_ c b)
 | .For t it body orelse _=>Ar orelse.isEmpty ((cT tb true sc t).bind λt=>(cIt tb sc it).bind λi=>(cSs sc body).map λb=> .for_ t i b)
 | _=>none
noncomputable def cSs(sc:Sc):List Stmt->Option (List S)
 | []=>some []
 | s::r=>(cS sc s).bind λx=>(cSs sc r).map λxs=>x::xs
end
end Mine
namespace Mine
theorem gE{α:Type}{b:Bool}{o:Option α}{x:α}{R:Prop}(h:Ar b o=some x)(k:b=true->o=some x->R):R:=by
 cases b with
 | true=>exact k rfl h
 | false=>exact nn h
theorem one_inv{α:Type}{l:List α}{a:α}(h:one l=some a):l=[a]:=by
 cases l with
 | nil=>exact nn h
 | cons b r=>cases r with
  | nil=>exact s1 (P:=λa=>[b]=[a]) h rfl
  | cons _ _=>exact nn h
theorem two_inv{α:Type}{l:List α}{p:α×α}(h:two l=some p):l=[p.1,p.2]:=by
 cases l with
 | nil=>exact nn h
 | cons b r=>cases r with
  | nil=>exact nn h
  | cons c r=>cases r with
   | nil=>exact s1 (P:=λp=>[b,c]=[p.1,p.2]) h rfl
   | cons _ _=>exact nn h
theorem nameOf_inv{e:Expr}{t:Str×Pos}(h:Cu e=some t):e= .Name t.1 t.2:=
 g6D (motive_1:=λe=>Cu e=some t->e= .Name t.1 t.2) e (vw h id) (λa b h=>s1 (P:=λt:Str×Pos=>Expr.Name a b= .Name t.1 t.2) h rfl) h
theorem Oe{e:Expr}{t:List Expr}(h:Go e=some t): ∃k p,e= .Tuple t k p:=
 g5P (motive_1:=λe=>Go e=some t->∃k p,e= .Tuple t k p) e (vw h id) (λa b c h=>s1 (P:=λt=> ∃k p,Expr.Tuple a b c= .Tuple t k p) h ⟨b,c,rfl⟩) h
theorem asAttr_inv{e:Expr}{t:Expr×Str×Pos}(h:Ft e=some t):e= .Attribute t.1 t.2.1 t.2.2:=
 gBG (motive_1:=λe=>Ft e=some t->e= .Attribute t.1 t.2.1 t.2.2) e (vw h id) (λa b c h=>s1 (P:=λt:Expr×Str×Pos=>Expr.Attribute a b c= .Attribute t.1 t.2.1 t.2.2) h rfl) h
theorem T0{e:Expr}{t:Expr×Expr}(h:Gl e=some t): ∃p,e= .Subscript t.1 t.2 p:=
 gBF (motive_1:=λe=>Gl e=some t->∃p,e= .Subscript t.1 t.2 p) e (vw h id) (λa b c h=>s1 (P:=λt:Expr×Expr=> ∃p,Expr.Subscript a b c= .Subscript t.1 t.2 p) h ⟨c,rfl⟩) h
theorem Vf{e:Expr}{t:Option Expr×Option Expr×Option Expr}(h:Gv e=some t): ∃p,e= .Slice t.1 t.2.1 t.2.2 p:=
 gDM (motive_1:=λe=>Gv e=some t->∃p,e= .Slice t.1 t.2.1 t.2.2 p) e (vw h id) (λa b c d h=>s1 (P:=λt:Option Expr×Option Expr×Option Expr=> ∃p,Expr.Slice a b c d= .Slice t.1 t.2.1 t.2.2 p) h ⟨d,rfl⟩) h
theorem eZ{e:Expr}{n:Int}(h:Lq e=some n): ∃k p,e= .Constant (.int n) k p:=by
 refine g4O (motive_1:=λe=>Lq e=some n->∃k p,e= .Constant (.int n) k p) e (vw h id) (λc k p h=> ?_) h;replace h:Su c=some n:=h;cases c <;> first|exact nn h|exact s1 (P:=λn=> ∃k p,_=Expr.Constant (.int n) k p) h ⟨_,_,rfl⟩
set_option tactic.hygienic true in
theorem asImm_inv{x:X}{g:Value}(h:X5 x=some g):x= .k (.imm g):=by
 cases x <;> first|exact nn h|skip
 rename_i v;cases v <;> first|exact nn h|exact s1 (P:=λg=>_=X.k (.imm g)) h rfl
theorem isEmpty_inv{α:Type}{l:List α}(h:l.isEmpty=true):l=[]:=by
 cases l with
 | nil=>rfl
 | cons _ _=>exact nf h
variable {X:Fx}
theorem rget_rset(U:Rho)(i:Nat)(v:V)(k:Nat):rget (rset U i v) k=if k=i then some v else rget U k:=by
 induction U with
 | nil=>
  dsimp only[rset,rget];cases h:aW k i with
  | true=>have:=aR h;simp[this]
  | false=>have:=g0U h;simp[this,rget]
 | cons p r ih=>
  obtain⟨j,u⟩:=p;dsimp only[rset];cases h:aW i j with
  | true=>
   have:=aR h;clear ih h;subst this;dsimp only[rget];cases q:aW k i with
   | true=>have:=aR q;simp[this]
   | false=>have:=g0U q;simp[this]
  | false=>
   have:=g0U h;dsimp only[rget];rw[ih];clear ih h;cases q:aW k j with
   | true=>
    have q:=aR q;subst q;simp[g0F this]
   | false=>rfl
set_option tactic.hygienic true in
theorem jP{l:List Str}{n:Str}{i k:Nat}(h:Cw l n i=some k): ∃j,k=i+j/\l[j]? =some n:=by
 induction l generalizing i with
 | nil=>exact nn h
 | cons m r ih=>
  dsimp only[Cw] at h;split at h
  ·clear ih;cases h;rename_i e;subst e;exact⟨0,rfl,rfl⟩
  ·refine x12 (ih h) ?_;intro j e q
   exact⟨j+1,Q2 e.symm,by simpa using q⟩
theorem J5{l:List Str}{n:Str}{k:Nat}(h:Cw l n 0=some k):l[k]? =some n:=by
 refine x12 (jP h) ?_;intro j e q;clear h;simp at e;subst e;exact q
structure Nm(X:Fx)(Y:List cK)(h:Heap)(env:Env)(m:Str->Option Value)(x:Str)(v:V):Prop where
 loc:env.kindOf x=some .local->∃rv,m x=some rv/\Ab X Y h v rv
 cel:(env.kindOf x=some .cell\/env.kindOf x=some .free)->∃c rv,env.cells.lookup x=some c/\h.IsCell c (some rv)/\Ab X Y h v rv
structure Ak(X:Fx)(Y:List cK)(env:Env)(U:Rho)(h:Heap):Prop where
 kind:env.scope.kind= .function
 glo:env.globals=g0M
 blt:env.builtins=g4W
 vals: ∃m,h.Ns env.locals m/\∀i v x,rget U i=some v->X.nm[i]? =some x->Nm X Y h env m x v
 nin:env.locals∉Y
 low:X.n1<=env.locals
 cel: ∀p∈env.cells,(∃v,h.IsCell p.2 v)/\X.n1<=p.2
 apart: ∀x y c,env.cells.lookup x=some c->env.cells.lookup y=some c->x=y
 has: ∀x,(env.kindOf x=some .cell\/env.kindOf x=some .free)->∃c,env.cells.lookup x=some c
set_option tactic.hygienic true in
theorem Dc{l:List (Str×cK)}{x:Str}{c:cK}(h:l.lookup x=some c):(x,c)∈l:=by
 induction l with
 | nil=>exact nn h
 | cons p r ih=>
  obtain⟨n,a⟩:=p;simp only[bO] at h;split at h
  ·clear ih;rename_i q;cases h;rw[beq_iff_eq.mp q];exact bN ..
  ·exact aX _ (ih h)
theorem Inv.notcell{Y:List cK}{h:Heap}{hp:HP}(I:Inv X Y h hp){c:cK}{v:Option Value}(e:h.IsCell c v):c∉Y:=by
 refine x12 e ?_;clear e;intro o ho hd;intro hm;obtain⟨i,hi,rfl⟩:=g0O hm;have hi':i < hp.length:=I.len▸hi;have:=I.ob i hp[i] Y[i] (aD hi') (aD hi);clear I hm;cases hq:hp[i] with
 | l xs=>
  rw[hq] at this;refine x23 this ?_;clear this;intro vs n _ g _;clear hq;rw[g] at ho;cases ho;cases hd
 | d l=>
  rw[hq] at this;refine x42 this ?_;clear this;intro b hs t n _ g;clear hq;rw[g] at ho;cases ho;cases hd
theorem Ac.notin'{W Y h Y' h' hp'}(S:Ac X W Y h Y' h' hp'){b:cK}{o:Obj}(hb:h.get? b=some o)(hn:b∉Y):b∉Y':=by
 refine x12 S.pre ?_;intro τ e q;rw[e];intro hm;clear S e;rcases aY.mp hm with hm|hm
 ·exact hn hm
 ·rw[q b hm] at hb;exact nn hb
theorem Ak.step{W Y h hp Y' h' hp' env U}(F:Ak X Y env U h)(I:Inv X Y h hp)(S:Ac X W Y h Y' h' hp')
  (hl:env.locals∉W) (hc: ∀p∈env.cells,p.2∉W):Ak X Y' env U h':=by
 refine x12 F.vals ?_;intro m hn hv;have nins:env.locals∉Y':=by
  refine x32 (id hn) ?_;intro o es ep ho r;exact S.notin' ho F.nin
 have kc: ∀p∈env.cells,∀v,h.IsCell p.2 v->h'.IsCell p.2 v:=by
  intro p e v q;have hni:=I.notcell q;refine x12 q ?_;clear q;intro o ho hd;exact⟨o,S.keep p.2 o ho hni (hc p e),hd⟩
 refine⟨F.kind,F.glo,F.blt,⟨m,?_,λi v x e ex=> ?_⟩,nins,F.low,λp e=> ?_,F.apart,F.has⟩
 ·refine x32 hn ?_;clear hn;intro o es ep ho r
  exact⟨o,es,ep,S.keep _ o ho F.nin hl,r⟩
 ·have q:=hv i v x e ex
  refine⟨λk=> ?_,λk=> ?_⟩
  ·refine x12 (q.loc k) ?_;intro rv e1 r
   exact⟨rv,e1,S.vr _ _ r⟩
  ·refine x23 (q.cel k) ?_;intro c rv e1 e2 r
   exact⟨c,rv,e1,kc (x,c) (Dc e1) _ e2,S.vr _ _ r⟩
 ·clear I S hl hc hn hv nins;obtain⟨⟨v,q⟩,l⟩:=F.cel p e
  exact⟨⟨v,kc p e v q⟩,l⟩
theorem Ak.ev{Y h hp Y' h' hp' env U}(F:Ak X Y env U h)(I:Inv X Y h hp)(S:Ac X [] Y h Y' h' hp'):Ak X Y' env U h':=
 F.step I S (aA) (by simp)
structure Ew(A:Around)(d:Nat):Prop where
 handled:A.handled=none
 depth:A.depth+8*d+16 < g6B
 units:A.units+32*d+256 < g8H
noncomputable abbrev mdl(X:Fx):Model:=gBA X.prog X.w
structure Ah(X:Fx)(A:Around)(d:Nat)(Y:List cK)(s:Shared)(hp:HP):Prop where
 room:Ew A d
 inv:Inv X Y s.heap hp
theorem Ah.step{A d Y s hp W Y' h' hp' tk}(H:Ah X A d Y s hp)(S:Ac X W Y s.heap Y' h' hp'):Ah X A d Y' {s with heap:=h',toks:=tk} hp':=
 ⟨H.room,S.inv⟩
theorem Ah.big{A d Y s hp}(H:Ah X A d Y s hp):X.n1<=s.heap.objs.size:=H.inv.big
noncomputable def Bl(X:Fx)(Y:List cK)(s:Shared)(hp':HP)(v:V)(Q:Value->Shared->Prop):Prop:=
 ∀Y' h' tk rv,Ac X [] Y s.heap Y' h' hp'->Ab X Y' h' v rv->Q rv {s with heap:=h',toks:=tk}
noncomputable def Ad(X:Fx)(d:Nat)(t:Sem Value)(env:Env)(U:Rho)(hp:HP)(v:V)(hp':HP):Prop:=
 ∀(A:Around) (Y:List cK) (s:Shared) (Q E:Value->Shared->Prop),Ah X A d Y s hp->Ak X Y env U s.heap->
  Bl X Y s hp' v Q->cA (mdl X) A t Q E s
noncomputable def Bn(X:Fx)(d:Nat)(t:Sem Bool)(env:Env)(U:Rho)(hp:HP)(b:Bool)(hp':HP):Prop:=
 ∀(A:Around) (Y:List cK) (s:Shared) (Q:Bool->Shared->Prop) (E:Value->Shared->Prop),Ah X A d Y s hp->Ak X Y env U s.heap->
  (∀Y' h' tk,Ac X [] Y s.heap Y' h' hp'->Q b {s with heap:=h',toks:=tk})->cA (mdl X) A t Q E s
noncomputable def Bj(X:Fx)(d:Nat)(t:Sem (List Value))(env:Env)(U:Rho)(hp:HP)(vs:List V)(hp':HP):Prop:=
 ∀(A:Around) (Y:List cK) (s:Shared) (Q:List Value->Shared->Prop) (E:Value->Shared->Prop),Ah X A d Y s hp->Ak X Y env U s.heap->
  (∀Y' h' tk rvs,Ac X [] Y s.heap Y' h' hp'->VRels X Y' h' vs rvs->Q rvs {s with heap:=h',toks:=tk})->cA (mdl X) A t Q E s
noncomputable def Ai(X:Fx)(d:Nat)(f:List Value->Sem Value)(us:List V)(hp:HP)(v:V)(hp':HP):Prop:=
 ∀(A:Around) (Y:List cK) (s:Shared) (rvs:List Value) (Q E:Value->Shared->Prop),Ah X A d Y s hp->VRels X Y s.heap us rvs->
  Bl X Y s hp' v Q->cA (mdl X) A (f rvs) Q E s
noncomputable def Pz(X:Fx)(d:Nat)(f:List Value->Sem Bool)(us:List V)(hp:HP)(b:Bool):Prop:=
 ∀(A:Around) (Y:List cK) (s:Shared) (rvs:List Value) (Q:Bool->Shared->Prop) (E:Value->Shared->Prop),Ah X A d Y s hp->VRels X Y s.heap us rvs->
  (∀Y' h' tk,Ac X [] Y s.heap Y' h' hp->Q b {s with heap:=h',toks:=tk})->cA (mdl X) A (f rvs) Q E s
theorem Bv{Y h u rvs}(r:VRels X Y h [u] rvs): ∃a,rvs=[a]/\Ab X Y h u a:=by
 dsimp only[VRels] at r;refine x23 r ?_;clear r;intro a r z2 p q;subst z2;subst q;exact⟨a,rfl,p⟩
theorem Bq{Y h u v rvs}(r:VRels X Y h [u,v] rvs): ∃a b,rvs=[a,b]/\Ab X Y h u a/\Ab X Y h v b:=by
 dsimp only[VRels] at r;refine x23 r ?_;clear r;intro a r z2 p q;subst z2;refine x12 (Bv q) ?_;intro b z1 q';subst z1;exact⟨a,b,rfl,p,q'⟩
theorem Ev{Y h u a}(p:Ab X Y h u a):VRels X Y h [u] [a]:=by
 dsimp only[VRels];exact⟨a,[],rfl,p,rfl⟩
theorem vrels_cons'{Y h u a us as}(p:Ab X Y h u a)(q:VRels X Y h us as):VRels X Y h (u::us) (a::as):=by
 dsimp only[VRels];exact⟨a,as,rfl,p,q⟩
theorem D7{Y h u v a b}(p:Ab X Y h u a)(q:Ab X Y h v b):VRels X Y h [u,v] [a,b]:=vrels_cons' p (Ev q)
theorem Bl.now{Y s hp v Q rv}{A:Around}{d:Nat}(P:Bl X Y s hp v Q)(H:Ah X A d Y s hp)(r:Ab X Y s.heap v rv)(tk:Nat):Q rv {s with toks:=tk}:=
 P Y s.heap tk rv (Ac.refl _ H.inv) r
theorem Ad.bin{d l r op pos env U hp u hp1 v hp2 w hp3}(a:Ad X d (eval l env) env U hp u hp1)(b:Ad X d (eval r env) env U hp1 v hp2)
  (o:Ai X d (λvs=>match vs with|[x,y]=>binaryOp op x y|_=>pure .none) [u,v] hp2 w hp3):Ad X d (eval (.BinOp l op r pos) env) env U hp w hp3:=by
 intro A Y s Q E H F P;refine wpAny_BinOp (a A Y s _ _ H F λY1 h1 t1 ru S1 r1=>b A Y1 _ _ _ (H.step S1) (F.ev H.inv S1) λY2 h2 t2 rv S2 r2=> ?_);exact o A Y2 _ [ru,rv] _ _ ((H.step S1).step S2) (D7 (S2.vr _ _ r1) r2) λY3 h3 t3 rw S3 r3=>P Y3 h3 t3 rw ((S1.trans S2).trans S3) r3
theorem Ad.cmp{d l r op pos env U hp u hp1 v hp2 w hp3}(a:Ad X d (eval l env) env U hp u hp1)(b:Ad X d (eval r env) env U hp1 v hp2)(hm:g9Q op r=false)
  (o:Ai X d (λvs=>match vs with|[x,y]=>g4V op x y|_=>pure .none) [u,v] hp2 w hp3):Ad X d (eval (.Compare l [op] [r] pos) env) env U hp w hp3:=by
 intro A Y s Q E H F P;refine wpAny_Compare1 (hm:=hm) (a A Y s _ _ H F λY1 h1 t1 ru S1 r1=>b A Y1 _ _ _ (H.step S1) (F.ev H.inv S1) λY2 h2 t2 rv S2 r2=> ?_);exact o A Y2 _ [ru,rv] _ _ ((H.step S1).step S2) (D7 (S2.vr _ _ r1) r2) λY3 h3 t3 rw S3 r3=>P Y3 h3 t3 rw ((S1.trans S2).trans S3) r3
theorem Bn.cmp{d l r op pos env U hp u hp1 v hp2 b hp3 whole}(a:Ad X d (eval l env) env U hp u hp1)(b':Ad X d (eval r env) env U hp1 v hp2)(hm:g9Q op r=false)
  (o:Ai X d (λvs=>match vs with|[x,y]=>g4V op x y|_=>pure .none) [u,v] hp2 (.bool b) hp3):Bn X d (isTrue (.Compare l [op] [r] pos) env whole) env U hp b hp3:=by
 intro A Y s Q E H F P;refine wpAny_isTrue_Compare1 (hm:=hm) (a A Y s _ _ H F λY1 h1 t1 ru S1 r1=>b' A Y1 _ _ _ (H.step S1) (F.ev H.inv S1) λY2 h2 t2 rv S2 r2=> ?_);refine o A Y2 _ [ru,rv] _ _ ((H.step S1).step S2) (D7 (S2.vr _ _ r1) r2) λY3 h3 t3 rw S3 r3=> ?_;dsimp only[Ab] at r3;clear a b' hm o H F r1 r2;subst r3;exact g7K (P Y3 h3 t3 ((S1.trans S2).trans S3))
theorem Ad.un{d x op pos env U hp u hp1 w hp3}(a:Ad X d (eval x env) env U hp u hp1)
  (o:Ai X d (λvs=>match vs with|[x]=>unaryOp op x|_=>pure .none) [u] hp1 w hp3):Ad X d (eval (.UnaryOp op x pos) env) env U hp w hp3:=by
 intro A Y s Q E H F P;refine wpAny_UnaryOp (a A Y s _ _ H F λY1 h1 t1 ru S1 r1=> ?_);exact o A Y1 _ [ru] _ _ (H.step S1) (Ev r1) λY3 h3 t3 rw S3 r3=>P Y3 h3 t3 rw (S1.trans S3) r3
theorem Bn.notT{d x pos env U hp b hp1 whole}(a:Bn X d (isTrue x env (eval x env)) env U hp b hp1):Bn X d (isTrue (.UnaryOp .Not x pos) env whole) env U hp (!b) hp1:=by
 intro A Y s Q E H F P;exact wpAny_isTrue_Not (a A Y s _ _ H F λY1 h1 t1 S1=>P Y1 h1 t1 S1)
theorem Bn.val{d e env U hp u hp1 b}(a:Ad X d (eval e env) env U hp u hp1)(o:Pz X d (λvs=>match vs with|[x]=>PySem.truthy x|_=>pure false) [u] hp1 b)
  (he:isTrue e env (eval e env)=(do let v <-eval e env;gAZ e.pos;gBC [v] (PySem.truthy v))):Bn X d (isTrue e env (eval e env)) env U hp b hp1:=by
 intro A Y s Q E H F P;refine gBR (he:=he) (a A Y s _ _ H F λY1 h1 t1 ru S1 r1=> ?_);exact o A Y1 _ [ru] _ _ (H.step S1) (Ev r1) λY2 h2 t2 S2=>P Y2 h2 t2 (S1.trans S2)
theorem Ad.ife{d c a b pos env U hp t hp1 w hp2}(x:Bn X d (isTrue c env (eval c env)) env U hp t hp1)
  (y:Ad X d (if t then eval a env else eval b env) env U hp1 w hp2):Ad X d (eval (.IfExp c a b pos) env) env U hp w hp2:=by
 intro A Y s Q E H F P;refine wpAny_IfExp (x A Y s _ _ H F λY1 h1 t1 S1=> ?_);have:=y A Y1 {s with heap:=h1,toks:=t1} Q E (H.step S1) (F.ev H.inv S1) λY2 h2 t2 rv S2 r2=>P Y2 h2 t2 rv (S1.trans S2) r2;clear x y H F P S1;cases t <;> exact this
end Mine
set_option maxRecDepth 4000
namespace Mine
variable {X:Fx}
set_option tactic.hygienic true in
theorem Fb{hp:HP}{i:Nat}{xs:List V}(h:lget hp i=some xs):hp[i]? =some (.l xs):=by
 dsimp only[lget] at h;split at h
 ·rename_i ys e;cases h;exact e
 ·exact nn h
theorem Aw{Y h hp i rv xs}(I:Inv X Y h hp)(r:Ab X Y h (.lst i) rv)(g:lget hp i=some xs):
  ∃a vs n,rv= .ref a/\Y[i]? =some a/\xs.length<=200/\h.get? a=some {cls:= .type "list",data:= .seq vs n}/\VRels X Y h xs vs.toList:=by
 dsimp only[Ab] at r;refine x12 r ?_;clear r;intro a e z2;subst z2;refine x23 (I.ob i _ a (Fb g) e) ?_;intro vs n bd q r;exact⟨a,vs,n,rfl,e,bd,q,r⟩
theorem isList_of{h:Heap}{a:cK}{vs:Array Value}{n:Nat}(g:h.get? a=some {cls:= .type "list",data:= .seq vs n}):h.IsList a vs:=⟨_,g,rfl,n,rfl⟩
theorem A7{Y h}: ∀{xs:List V} {vs:List Value},VRels X Y h xs vs->vs.length=xs.length
 | [],_,e=>by dsimp only[VRels] at e;subst e;rfl
 | x::xs,_,e=>by
  dsimp only[VRels] at e;refine x23 e ?_;clear e;intro v r z2 _ q;subst z2;simp[A7 q]
theorem Fe{Y h}: ∀{xs:List V} {vs:List Value} {i:Nat} {x:V},VRels X Y h xs vs->xs[i]? =some x->∃v,vs[i]? =some v/\Ab X Y h x v
 | [],_,_,_,_,e=>by contradiction
 | y::xs,_,i,x,r,e=>by
  dsimp only[VRels] at r;refine x23 r ?_;clear r;intro v r z2 p q;subst z2;cases i with
  | zero=>simp at e;subst e;exact⟨v,rfl,p⟩
  | succ i=>simpa using Fe q (by simpa using e)
theorem Og{Y h}: ∀{xs ys:List V} {vs ws:List Value},VRels X Y h xs vs->VRels X Y h ys ws->VRels X Y h (xs++ys) (vs++ws)
 | [],_,_,_,r,q=>by dsimp only[VRels] at r;subst r;exact q
 | x::xs,ys,_,ws,r,q=>by
  dsimp only[VRels] at r;refine x23 r ?_;clear r;intro v r z2 p q';subst z2;exact vrels_cons' p (Og q' q)
theorem Up{Y h}: ∀{xs:List V} {vs:List Value} {x:V} {v:Value} (i:Nat),VRels X Y h xs vs->Ab X Y h x v->VRels X Y h (xs.set i x) (vs.set i v)
 | [],_,_,_,_,r,_=>by dsimp only[VRels] at r;subst r;rfl
 | y::xs,_,x,v,i,r,q=>by
  dsimp only[VRels] at r;refine x23 r ?_;clear r;intro u r z2 p q';subst z2;cases i with
  | zero=>exact vrels_cons' q q'
  | succ i=>exact vrels_cons' p (Up i q' q)
theorem Vd{Y h}: ∀{xs:List V} {vs:List Value} (i:Nat),VRels X Y h xs vs->VRels X Y h (xs.take i) (vs.take i)
 | [],_,_,r=>by dsimp only[VRels] at r;subst r;simp[VRels]
 | y::xs,_,i,r=>by
  dsimp only[VRels] at r;refine x23 r ?_;clear r;intro u r z2 p q;subst z2;cases i with
  | zero=>rfl
  | succ i=>exact vrels_cons' p (Vd i q)
theorem Vc{Y h}: ∀{xs:List V} {vs:List Value} (i:Nat),VRels X Y h xs vs->VRels X Y h (xs.drop i) (vs.drop i)
 | [],_,_,r=>by dsimp only[VRels] at r;subst r;simp[VRels]
 | y::xs,_,i,r=>by
  cases i with
  | zero=>exact r
  | succ i=>
   dsimp only[VRels] at r;refine x23 r ?_;clear r;intro u r z2 p q;subst z2;exact Vc i q
theorem Vq{Y h}: ∀{xs:List V} {vs:List Value} (i:Nat),VRels X Y h xs vs->VRels X Y h (xs.eraseIdx i) (vs.eraseIdx i)
 | [],_,_,r=>by dsimp only[VRels] at r;subst r;rfl
 | y::xs,_,i,r=>by
  dsimp only[VRels] at r;refine x23 r ?_;clear r;intro u r z2 p q;subst z2;cases i with
  | zero=>exact q
  | succ i=>exact vrels_cons' p (Vq i q)
noncomputable def op2(op:Operator)(vs:List Value):Sem Value:=match vs with
 | [x,y]=>binaryOp op x y
 | _=>pure .none
section
variable {d:Nat} {hp:HP}
theorem Bl.int{Y s n Q}{A:Around}(P:Bl X Y s hp (.int n) Q)(H:Ah X A d Y s hp)(t tk:Nat):Q (.int n t) {s with toks:=tk}:=
 P.now H (by dsimp only[Ab];exact⟨t,rfl⟩) tk
theorem Bl.bool{Y s b Q}{A:Around}(P:Bl X Y s hp (.bool b) Q)(H:Ah X A d Y s hp)(tk:Nat):Q (.bool b) {s with toks:=tk}:=
 P.now H (rfl) tk
theorem Bl.str{Y s x Q}{A:Around}(P:Bl X Y s hp (.str x) Q)(H:Ah X A d Y s hp)(hx:B8 x)(t tk:Nat):Q (.str x t) {s with toks:=tk}:=
 P.now H (by dsimp only[Ab];exact⟨t,rfl,hx⟩) tk
theorem fL{n:Int}(h:fit n=true):Builtin.Int.intBits n<=64:=by
 dsimp only[fit] at h;simp only[aI,decide_eq_true_eq] at h;exact intBits_le_64 (R1 h) (R2 h)
set_option tactic.hygienic true in
theorem Bl.newList{Y s hp hp' v Q}{A:Around}{xs:List V}{vs:Array Value}{n:Nat}(P:Bl X Y s hp' v Q)(H:Ah X A d Y s hp)(e:Mine.alloc hp xs=some (v,hp'))(r:VRels X Y s.heap xs vs.toList)(tk:Nat):
  Q (.ref s.heap.objs.size) {s with heap:=s.heap.push {cls:= .type "list",data:= .seq vs n},toks:=tk}:=by
 dsimp only[Mine.alloc] at e;split at e
 ·rename_i bd
  cases e;refine P _ _ tk _ (Ac.newList H.inv H.big bd r) ?_;dsimp only[Ab];refine⟨s.heap.objs.size,?_,rfl⟩;rw[<-H.inv.len];exact cF
 ·exact nn e
theorem mR{i j xs ys w hp'}(hi:lget hp i=some xs)(hj:lget hp j=some ys)(hw:Mine.alloc hp (xs++ys)=some (w,hp')):
  Ai X d (op2 .Add) [.lst i,.lst j] hp w hp':=by
 intro A Y s rvs Q E H r P;refine x23 (Bq r) ?_;intro a b z2 ra rb;subst z2;clear r;refine x35 (Aw H.inv ra hi) ?_;intro a vs n z3 ea ba ga qa;subst z3;clear hi ea ra;refine x35 (Aw H.inv rb hj) ?_;intro b ws m z3 eb bb gb qb;subst z3;have hs:vs.size+ws.size<=sizeLine:=by
  have:=A7 qa;have:=A7 qb;simp only[g0G] at*;rw[g0Q];exact Q3 ‹_› this ba bb rfl
 refine concat_meets ⟨_,ga,rfl⟩ ⟨_,gb,rfl⟩ noFill_list_add seq_list_add PySem.F.slot_list_add PySem.F.entry_list_add (PySem.F.args_list_add_2 _ _) (list_addW a b vs ws n m none none #[] #[] hs) ⟨ga,gb,?_⟩;exact P.newList H hw (by simpa using Og qa qb) s.toks
theorem D5(x:Str):(chars x).length=x.cps.size:=by dsimp only[chars];simp
theorem Hx{op:Operator}{m n k:Int}
  (h: ∀(A:Around) (s:Shared) (t u:Tok) (Q E:Value->Shared->Prop),Q (.int k s.toks) {s with toks:=s.toks+1}->cA (mdl X) A (binaryOp op (.int m t) (.int n u)) Q E s):
  Ai X d (op2 op) [.int m,.int n] hp (.int k) hp:=by
 intro A Y s rvs Q E H r R;refine x23 (Bq r) ?_;intro a b z2 ra rb;subst z2;dsimp only[Ab] at ra rb;clear r;refine x11 ra ?_;clear ra;intro t z1;subst z1;refine x11 rb ?_;clear rb;intro u z1;subst z1;exact h A s t u Q E (R.int H _ _)
theorem nP(x y:Str):Aj (chars x++chars y)=x++y:=by
 dsimp only[Aj,chars];show _=Str.mk (x.cps++y.cps);congr 1;apply g9Z;simp
theorem vI_inv{v:V}{i:Int}(h:vI v=some i):v= .int i:=by
 cases v <;> first|exact nn h|exact s1 (P:=λi=>V.int _= .int i) h rfl
theorem vS_inv{v:V}{i:Str}(h:vS v=some i):v= .str i:=by
 cases v <;> first|exact nn h|exact s1 (P:=λi=>V.str _= .str i) h rfl
theorem vL_inv{v:V}{i:Nat}(h:vL v=some i):v= .lst i:=by
 cases v <;> first|exact nn h|exact s1 (P:=λi=>V.lst _= .lst i) h rfl
theorem vT_inv{v:V}{i:List V}(h:vT v=some i):v= .tup i:=by
 cases v <;> first|exact nn h|exact s1 (P:=λi=>V.tup _= .tup i) h rfl
theorem vRo_inv{v:V}{i:List Int}(h:Lu v=some i):v= .ro i:=by
 cases v <;> first|exact nn h|exact s1 (P:=λi=>V.ro _= .ro i) h rfl
noncomputable def Iw:V->Option Nat
 | .hdr i=>some i
 | _=>none
theorem asHd_inv{v:V}{i:Nat}(h:Iw v=some i):v= .hdr i:=by
 cases v <;> first|exact nn h|exact s1 (P:=λi=>V.hdr _= .hdr i) h rfl
theorem Yr{m n:Int}:B7 .mul (.int m) (.int n) hp=if fit m && fit n then some (.int (m*n),hp) else none:=rfl
theorem Yw{b:Int}:B5 [.int b]=if fit b then some (.rng 0 1 (Mine.rangeSize 0 b 1)) else none:=rfl
theorem Yx{a b:Int}:B5 [.int a,.int b]=if fit a && fit b then some (.rng a 1 (Mine.rangeSize a b 1)) else none:=rfl
theorem Yz{a b c:Int}:B5 [.int a,.int b,.int c]=if fit a && fit b && decide (0 < c) && decide (c < 1000) then some (.rng a c (Mine.rangeSize a b c)) else none:=rfl
noncomputable def X1:Bop->Operator
 | .add=> .Add
 | .sub=> .Sub
 | .mul=> .Mult
 | .mod=> .Mod
 | .shr=> .RShift
theorem Zv{op:Operator}{o:Bop}(h:cOp op=some o):op=X1 o:=by
 cases op <;> first|exact nn h|exact s1 (P:=λo=>_=X1 o) h rfl
theorem Zr{n:Int}(h:Ap n 1=true):n=1:=by
 cases n with
 | ofNat a=>exact congrArg Int.ofNat (aR h)
 | negSucc a=>exact nf h
set_option tactic.hygienic true in
theorem eI{x y:Str}(hf:(chars x).length+(chars y).length<=100):Ai X d (op2 .Add) [.str x,.str y] hp (.str (Aj (chars x++chars y))) hp:=by
 intro A Y s rvs Q E H r R;refine x23 (Bq r) ?_;intro a b z2 ra rb;subst z2;dsimp only[Ab] at ra rb;clear r;refine x12 ra ?_;clear ra;intro t z1 sa;subst z1;refine x12 rb ?_;clear rb;intro u z1 sb;subst z1;refine PySem.P.add_str ?_;rw[D5,D5] at hf;rw[nP] at R;have hl:B8 (x++y):=by
  refine⟨?_,λc hc=> ?_⟩
  ·show (x.cps++y.cps).size<=1000
   rw[Array.size_append];exact bR hf (aT rfl)
  ·have hc:c∈(x.cps++y.cps).toList:=hc
   rw[Array.toList_append,aY] at hc;exact hc.elim (sa.2 c) (sb.2 c)
 clear sa sb hf;split
 ·rename_i h0
  have:x++y=y:=by
   show Str.mk (x.cps++y.cps)=y;rw[g6H (xs:=x.cps) (beq_iff_eq.mp h0)];simp
  rw[this] at R hl;exact R.str H hl u s.toks
 ·split
  ·rename_i h0
   have:x++y=x:=by
    show Str.mk (x.cps++y.cps)=x;rw[g6H (xs:=y.cps) (beq_iff_eq.mp h0)];rfl
   rw[this] at R hl;exact R.str H hl t s.toks
  ·refine⟨?_,R.str H hl _ _⟩
   rw[g0Q];exact bR hl.1 (aT rfl)
set_option tactic.hygienic true in
theorem eD{u v w hp'}(e:O6 u v hp=some (w,hp')):Ai X d (op2 .Add) [u,v] hp w hp':=by
 dsimp only[O6] at e;cases h:vI u with
 | some m=>
  rw[h] at e;refine mE e ?_;clear e;intro n h2 e;rw[vI_inv h,vI_inv h2];cases e;exact Hx λA s t u Q E q=>P.add_int q
 | none=>
  rw[h] at e;clear h;dsimp only at e;cases h:vS u with
  | some x=>
   rw[h] at e;refine bE' e ?_;clear e;intro y h2 e;rw[vS_inv h,vS_inv h2];split at e
   ·rename_i hf
    cases e;exact eI hf
   ·exact nn e
  | none=>
   rw[h] at e;clear h;refine bE' e ?_;clear e;intro i h e;refine bE' e ?_;clear e;intro j h2 e;refine bE' e ?_;clear e;intro xs hi e;refine bE' e ?_;clear e;intro ys hj e;rw[vL_inv h,vL_inv h2];exact mR hi hj e
theorem Kf{op u v w hp'}{f:Int->Int->Option (V×HP)}(e:Hm u v f=some (w,hp'))(k: ∀m n,f m n=some (w,hp')->Ai X d (op2 op) [.int m,.int n] hp w hp'):Ai X d (op2 op) [u,v] hp w hp':=by
 refine bE' e ?_;clear e;intro m h e;refine bE' e ?_;clear e;intro n h2 e;rw[vI_inv h,vI_inv h2];exact k m n e
set_option tactic.hygienic true in
theorem eY{op o u v w hp'}(ho:cOp op=some o)(e:B7 o u v hp=some (w,hp')):Ai X d (op2 op) [u,v] hp w hp':=by
 rw[Zv ho];clear ho;cases o
 ·exact eD e
 ·exact Kf e λm n e=>s2 e (Hx λA s t u Q E q=>P.sub_int q)
 ·refine Kf e λm n e=> ?_
  split at e
  ·rename_i hf
   exact s2 e (Hx λA s t u Q E q=>P.mul_int q (.of_left (fL (aV.mp hf).1)))
  ·exact nn e
 ·refine Kf e λm n e=> ?_
  split at e
  ·rename_i hf
   refine s2 e (Hx λA s t u Q E q=>IsLeap.wpAny_mod_int (Q4 hf) ?_);rw[Int.fmod_eq_emod_of_nonneg _ (Q5 hf)];exact q
  ·exact nn e
 ·refine Kf e λm n e=> ?_
  split at e
  ·rename_i hf
   simp only[aI,decide_eq_true_eq] at hf;refine s2 e ?_;rw[Zr hf.1.2];refine Hx λA s t u Q E q=>rshift_int (by decide) ?_;rw[show (2:Int) ^ (1:Int).toNat=2 from rfl,Int.fdiv_eq_ediv_of_nonneg _ (by decide)];exact q
  ·exact nn e
end
end Mine
open PySem PySem.W PySem.Calls PyProof.Rows PySem.Spec
namespace Mine
variable {X:Fx}
mutual
noncomputable def toP:V->PyData
 | .int n=> .int n
 | .str s=> .str s
 | .tup xs=> .tuple (toPs xs)
 | _=> .none
noncomputable def toPs:List V->List PyData
 | []=>[]
 | x::xs=>toP x::toPs xs
end
theorem strOk_of{s:Str}(h:B8 s):PyData.strOk s=true:=by
 dsimp only[PyData.strOk];rw[Array.all_eq_true];intro i hi;have:=h.2 s.cps[i] (by simp);simp;exact Q6 this rfl
theorem Oc{n:Nat}{P:V->Prop}(k0:P .none)(k1: ∀i,P (.int i))(k2: ∀s,P (.str s))(k3: ∀m xs,n=m+1->xs.all (plain m)=true->P (.tup xs)): ∀v,plain n v=true->P v:=by
 intro v h;cases n <;> cases v <;> first|exact k0|exact k1 _|exact k2 _|exact k3 _ _ rfl h|exact nf h
theorem Jy{f:V->Bool}{x:V}{xs:List V}{P:Prop}(h:(x::xs).all f=true)(k:f x=true->xs.all f=true->P):P:=(aV.1 h).elim k
noncomputable def Jh(X:Fx)(Y:List cK)(h:Heap)(n:Nat)(v:V):Prop:= ∀rv,Ab X Y h v rv->(∃as,Reads h rv (toP v) as)/\(toP v).canLay0=true/\(toP v).depth<=n
theorem Ui{Y h n}(ih: ∀v,plain n v=true->Jh X Y h n v): ∀(xs:List V) (vs:List Value),xs.all (plain n)=true->VRels X Y h xs vs->(∃as,ReadsAll h vs (toPs xs) as)/\gCD (toPs xs)=true/\g8I (toPs xs)<=n:=by
 intro xs;induction xs with
 | nil=>
  intro vs _ r;exact gBY (show vs=[] from r)▸⟨⟨_,.nil⟩,rfl,cL _⟩
 | cons x xs hi=>
  intro vs e r;dsimp only[VRels] at r;refine x23 r ?_;clear r;intro v r z2 p q;subst z2;refine Jy e λe1 e2=> ?_;clear e;obtain⟨⟨as,ra⟩,la,da⟩:=ih x e1 v p;clear ih p e1;obtain⟨⟨bs,rb⟩,lb,db⟩:=hi r e2 q;exact⟨⟨_,.cons ra rb⟩,aV.2 ⟨la,lb⟩,Q7 da db⟩
theorem G6{Y h}: ∀(n:Nat) (v:V),plain n v=true->Jh X Y h n v:=by
 have go: ∀n,(∀m,n=m+1->∀v,plain m v=true->Jh X Y h m v)->∀v,plain n v=true->Jh X Y h n v:=by
  intro n ih;refine Oc (λrv r=> ?_) (λi rv r=> ?_) (λs rv r=> ?_) (λm xs e q rv r=> ?_) <;> dsimp only[Ab] at r
  ·subst r;exact⟨⟨_,.none⟩,rfl,cL _⟩
  ·refine x11 r ?_;clear r;intro t z1;subst z1;exact⟨⟨_,.int _ _⟩,rfl,cL _⟩
  ·refine x12 r ?_;clear r;intro t z1 hs;subst z1;exact⟨⟨_,.str _ _⟩,strOk_of hs,cL _⟩
  ·refine x34 r ?_;clear r;intro a vs k z3 g _ p;subst z3
   replace ih:=ih m e;subst e;obtain⟨⟨as,ra⟩,la,da⟩:=Ui ih xs _ q p;exact⟨⟨_,reads_tuple_at g rfl rfl ra⟩,la,Q8 da⟩
 intro n;induction n with
 | zero=>exact go 0 λm h=>nomatch h
 | succ n ih=>exact go _ λm h=>by cases h;exact ih
theorem Il{Y h}(n:Nat): ∀(xs:List V) (vs:List Value),xs.all (plain n)=true->VRels X Y h xs vs->(∃as,ReadsAll h vs (toPs xs) as)/\gCD (toPs xs)=true/\g8I (toPs xs)<=n:=
 Ui (G6 n)
theorem Ha: ∀a b:List Nat,Bb a b=decide (a=b)
 | [],[]=>by rfl
 | [],_::_=>by rfl
 | _::_,[]=>by rfl
 | a::as,b::bs=>by
  dsimp only[Bb];cases h:aW a b with
  | true=>
   have:=aR h;clear h;subst this;exact(Ha as bs).trans (decide_eq_decide.2 ⟨λh=>h▸rfl,λh=>(g3K h).2⟩)
  | false=>exact(decide_eq_false λh'=>g0U h (g3K h').1).symm
theorem M8{a b:Nat}{α:Type}{f:Nat->α}(i: ∀x y,f x=f y->x=y)[DecidableEq α]:aW a b=decide (f a=f b):=by
 cases h:aW a b with
 | true=>rw[aR h,decide_eq_true rfl]
 | false=>exact(decide_eq_false λe=>g0U h (i _ _ e)).symm
theorem beqInt_eq(a b:Int):Ap a b=decide (a=b):=by
 cases a with
 | ofNat a=>cases b with
  | ofNat b=>exact M8 (f:=Int.ofNat) λ_ _=>Int.ofNat.inj
  | negSucc b=>exact(decide_eq_false λh=>nomatch h).symm
 | negSucc a=>cases b with
  | ofNat b=>exact(decide_eq_false λh=>nomatch h).symm
  | negSucc b=>exact M8 (f:=Int.negSucc) λ_ _=>Int.negSucc.inj
theorem Nn(x y:Str):(chars x=chars y)↔x=y:=by
 constructor
 ·intro h
  have:x.cps=y.cps:=g9Z h;clear h;cases x;cases y;simp at this;rw[this]
 ·intro h;rw[h]
theorem kT(x y:Str):decide (x=y)=Bb (chars x) (chars y):=(decide_eq_decide.2 (Nn x y).symm).trans (Ha _ _).symm
noncomputable def Lf(v w:V):Prop:=g5S (toP v) (toP w)=eqB v w
theorem Mv{n m:Nat}(ih: ∀v,plain n v=true->∀w,plain m w=true->Lf v w): ∀(xs ys:List V),xs.all (plain n)=true->ys.all (plain m)=true->PyData.eqvAll (toPs xs) (toPs ys)=eqBs xs ys
 | [],[],_,_=>by rfl
 | [],_::_,_,_=>by rfl
 | _::_,[],_,_=>by rfl
 | x::xs,y::ys,e1,e2=>Jy e1 λe1 f1=>Jy e2 λe2 f2=>(congr (congrArg and (ih x e1 y e2)) (Mv ih xs ys f1 f2):)
theorem Xs: ∀(n m:Nat) (v:V),plain n v=true->∀w,plain m w=true->Lf v w:=by
 have go: ∀n m,(∀k j,n=k+1->m=j+1->∀v,plain k v=true->∀w,plain j w=true->Lf v w)->∀v,plain n v=true->∀w,plain m w=true->Lf v w:=by
  intro n m ih;refine Oc ?_ (λi=> ?_) (λs=> ?_) (λk xs e q=> ?_) <;> refine Oc ?_ (λi'=> ?_) (λs'=> ?_) (λk' ys e' q'=> ?_);all_goals first|rfl|exact(beqInt_eq _ _).symm|exact kT _ _|exact Mv (ih k k' e e') xs ys q q'
 intro n;induction n with
 | zero=>exact λm=>go 0 m λk j h=>nomatch h
 | succ n ih=>exact λm=>go _ m λk j h h'=>by cases h;exact ih j
theorem Mg(n:Nat)(a b:V)(m:Nat)(h:plain n a=true)(h':plain m b=true):g5S (toP a) (toP b)=eqB a b:=Xs n m a h b h'
theorem Rj(n m:Nat): ∀(xs ys:List V),xs.all (plain n)=true->ys.all (plain m)=true->PyData.eqvAll (toPs xs) (toPs ys)=eqBs xs ys:=Mv (Xs n m)
end Mine
open PySem PySem.W PySem.Calls PyProof.Rows PySem.Spec PySem.Builtin
namespace Mine
variable {X:Fx}
noncomputable def yW(op:CmpOp)(vs:List Value):Sem Value:=match vs with
 | [x,y]=>g4V op x y
 | _=>pure .none
noncomputable def EqC(X:Fx)(B:Nat)(hp:HP)(eq:V->V->Option Bool):Prop:=
 ∀(A:Around) (Y:List cK) (s:Shared) (u v:V) (ru rv:Value) (c:Bool) (Q:Bool->Shared->Prop) (E:Value->Shared->Prop),A.units+B < g8H->Inv X Y s.heap hp->
  Ab X Y s.heap u ru->Ab X Y s.heap v rv->eq u v=some c->Q c s->cA (mdl X) A (eqBool ru rv) Q E s
noncomputable def LtC(X:Fx)(B:Nat)(hp:HP)(lt:V->V->Option Bool):Prop:=
 ∀(A:Around) (Y:List cK) (s:Shared) (u v:V) (ru rv:Value) (c:Bool) (Q E:Value->Shared->Prop),A.units+B < g8H->Inv X Y s.heap hp->
  Ab X Y s.heap u ru->Ab X Y s.heap v rv->lt u v=some c->Q (.bool c) s->cA (mdl X) A (richCompare .Lt ru rv) Q E s
theorem R7{u v:V}{c:Bool}{P:Prop}(e:peq u v=some c)(k:plain 3 u=true->plain 3 v=true->eqB u v=c->P):P:=iA e k
theorem Sh{hp:HP}{u v:V}{c:Bool}{P:Prop}(e:veq hp u v=some c)(k0:peq u v=some c->P)
  (k: ∀i j a b,u= .lst i->v= .lst j->lget hp i=some a->lget hp j=some b->a.all (plain 3)=true->b.all (plain 3)=true->eqBs a b=c->P):P:=
 oE e k0 λi hi e=>oE e k0 λj hj e=>bE' e λa ha e=>bE' e λb hb e=>iA e (k i j a b (vL_inv hi) (vL_inv hj) ha hb)
theorem Mu(hp:HP):EqC X 70 hp peq:=by
 intro A Y s u v ru rv c Q E hu I ru' rv' e q;clear I;refine R7 e λh1 h2 e=> ?_;obtain⟨⟨as,ra⟩,la,da⟩:=G6 3 u h1 ru ru';clear ru';obtain⟨⟨bs,rb⟩,lb,db⟩:=G6 3 v h2 rv rv';refine PySem.SeqAt.eqBoolOverData X.prog X.w A E s ru rv (toP u) (toP v) as bs Q ra rb la lb ?_ ?_
 ·have:=g1K (toP u).depth (toP v).depth;exact Q9 hu this da rfl
 ·rw[Mg 3 u v 3 h1 h2,e];exact q
theorem Z5(hp:HP):EqC X 70 hp (veq hp):=by
 intro A Y s u v ru rv c Q E hu I ru' rv' e q;refine Sh e (λe=>Mu hp A Y s u v ru rv c Q E hu I ru' rv' e q) λi j a b z1 z2 ha hb h1 h2 ee=> ?_;clear e;subst z1;subst z2;refine x35 (Aw I ru' ha) ?_;intro x vs n z3 _ _ ga qa;subst z3;clear ha ru';refine x35 (Aw I rv' hb) ?_;intro y ws m z3 _ _ gb qb;subst z3;clear I hb rv';obtain⟨⟨as,ra⟩,la,da⟩:=Il 3 a _ h1 qa;clear qa;obtain⟨⟨bs,rb⟩,lb,db⟩:=Il 3 b _ h2 qb;refine PySem.SeqAt.eqBoolOverData X.prog X.w A E s _ _ (.list (toPs a)) (.list (toPs b)) _ _ Q (reads_list_at ga rfl rfl ra) (reads_list_at gb rfl rfl rb) la lb ?_ ?_
 ·have:=g1K (PyData.list (toPs a)).depth (PyData.list (toPs b)).depth
  simp only[PyData.depth] at*;exact Q10 hu this da rfl
 ·simp only[g5S];rw[Rj 3 3 a b h1 h2,ee];exact q
theorem Km{B B':Nat}{hp lt}(h:LtC X B hp lt)(hb:B<=B'):LtC X B' hp lt:=
 λA Y s u v ru rv c Q E hu I r1 r2 e q=>h A Y s u v ru rv c Q E (Q11 hu hb) I r1 r2 e q
theorem Sx{B B':Nat}{hp eq}(h:EqC X B hp eq)(hb:B<=B'):EqC X B' hp eq:=
 λA Y s u v ru rv c Q E hu I r1 r2 e q=>h A Y s u v ru rv c Q E (Q11 hu hb) I r1 r2 e q
theorem Mq{Y:List cK}{h:Heap}{u:V}{ru:Value}{m:Int}(e:vI u=some m)(r:Ab X Y h u ru): ∃t,ru= .int m t:=by
 rw[vI_inv e] at r;exact r
theorem Ke{Y:List cK}{h:Heap}{f:Int->Int->Bool}{u v:V}{ru rv:Value}{c:Bool}{P:Prop}(e:Hc f u v=some c)(r1:Ab X Y h u ru)(r2:Ab X Y h v rv)
  (k: ∀m n t t',ru= .int m t->rv= .int n t'->f m n=c->P):P:=
 bE' e λm hm e=>bE' e λn hn e=>x11 (Mq hm r1) λt z1=>x11 (Mq hn r2) λt' z2=>k m n t t' z1 z2 (aB e)
theorem M6(hp:HP):LtC X 0 hp lt0:=by
 intro A Y s u v ru rv c Q E hu I r1 r2 e q;refine Ke e r1 r2 λm n t t' z1 z2 z=> ?_;subst z1;subst z2;subst z;exact PySem.P.lt_int q
set_option tactic.hygienic true in
theorem Tw{A:Around}{Y:List cK}{s:Shared}{hp:HP}{B:Nat}{eq lt:V->V->Option Bool}{E:Value->Shared->Prop}(he:EqC X B hp eq)(hl:LtC X B hp lt)(hu:A.units+B < g8H)(I:Inv X Y s.heap hp)
  (body:Value×Value->Option PySem.Fin×Unit->Sem (ForInStep (Option PySem.Fin×Unit)))
  (hbody: ∀x y st,body (x,y) st=(do
   let c <-eqBool x y
   if(!c)=true then do
     rule "tuple.compare.by-the-first-pair-that-differs"
     let r <-richCompare .Lt x y;let f <-ret r
     pure (ForInStep.done (some f,()))
    else pure (ForInStep.yield (none,())))):
  ∀(us vs:List V) (xs ys:List Value) (c:Bool) (Q:Option PySem.Fin×Unit->Shared->Prop),VRels X Y s.heap us xs->VRels X Y s.heap vs ys->Bz eq lt us vs=some c->
   Q (some (.done (.ret (.bool c))),()) s->(c=decide (xs.length < ys.length)->Q (none,()) s)->
   cA (mdl X) A (forIn (xs.zip ys) ((none,()):Option PySem.Fin×Unit) body) Q E s
 | [],vs,xs,ys,c,Q,r1,r2,e,q1,q2=>by
  clear he hl hu I hbody q1;dsimp only[VRels] at r1;subst r1;rw[List.zip_nil_left,g7W];have:=A7 r2;clear r2;cases vs with
  | nil=>dsimp only[Bz] at e;cases e;exact aQ (q2 (by simp[this]))
  | cons v vs=>dsimp only[Bz] at e;cases e;exact aQ (q2 (by simp[this]))
 | u::us,[],xs,ys,c,Q,r1,r2,e,q1,q2=>by
  clear he hl hu I hbody r1 q1;dsimp only[VRels] at r2;subst r2;rw[List.zip_nil_right,g7W];dsimp only[Bz] at e;cases e;exact aQ (q2 (rfl))
 | u::us,v::vs,xs,ys,c,Q,r1,r2,e,q1,q2=>by
  dsimp only[VRels] at r1 r2;refine x23 r1 ?_;clear r1;intro x xs z2 p1 r1;subst z2;refine x23 r2 ?_;clear r2;intro y ys z2 p2 r2;subst z2;rw[List.zip_cons_cons,g3R,hbody];dsimp only[Bz] at e;split at e
  ·exact nn e
  ·rename_i hq
   refine aG (aG (he A Y s u v x y true _ _ hu I p1 p2 hq ?_));rw[if_neg (by exact bD)];refine aQ ?_;refine Tw he hl hu I body hbody us vs xs ys c Q r1 r2 e q1 λh=>q2 ?_;simpa using h
  ·rename_i hq
   refine aG (aG (he A Y s u v x y false _ _ hu I p1 p2 hq ?_));rw[if_pos (by rfl)];refine aG (g5R (aG (hl A Y s u v x y c _ _ hu I p1 p2 e ?_)));exact aG (aQ (aQ (aQ q1)))
theorem Rw{B:Nat}{hp:HP}{eq lt l0:V->V->Option Bool}(he:EqC X B hp eq)(hl:LtC X B hp lt)(hB:1<=B)(h0:LtC X B hp l0):LtC X (B+1) hp (Pe l0 (Bz eq lt)):=by
 intro A Y s u v ru rv c Q E hu I r1 r2 e q;have k0:l0 u v=some c->cA (mdl X) A (richCompare .Lt ru rv) Q E s:=λe=>h0 A Y s u v ru rv c Q E (Q14 hu) I r1 r2 e q;refine oE e k0 λus z1 e=>oE e k0 λvs z2 e=> ?_;replace z1:=vT_inv z1;replace z2:=vT_inv z2;subst z1;subst z2;clear k0 h0
 ·dsimp only[Ab] at r1 r2
  refine x34 r1 ?_;clear r1;intro a xs n z3 ga _ r1;subst z3;refine x34 r2 ?_;clear r2;intro b ys m z3 gb _ r2;subst z3;refine g8D (T:="tuple") ⟨_,ga,rfl⟩ ⟨_,gb,rfl⟩ PySem.F.slot_tuple_lt ?_ (Q12 hu);refine g5F PySem.F.slot_tuple_lt ⟨_,ga,rfl⟩ PySem.F.entry_tuple_lt ?_ (PySem.F.args_tuple_lt_2 _ _);delta Builtin.«tuple.__lt__»;refine aG (m:=slotArgs "__lt__" 1 _) (aQ ?_);refine aG (m:=isInstance (.ref b) (.type "tuple")) (wpAny_isInstance ⟨_,gb,rfl⟩ isSubtype_tuple_tuple ?_);rw[if_neg (by exact bD)];refine aG (gBQ ga rfl (aG (gBQ gb rfl (aG ?_))));refine Tw he hl (by show A.units+1+B < g8H;exact Q13 hu) I _ (λx y st=>rfl) us vs _ _ c _ r1 r2 e ?_ λh=> ?_
  ·exact aQ ⟨_,rfl,(by simp),q⟩
  ·refine aQ ⟨_,rfl,?_,?_⟩
   ·show Value.bool _≠_;simp
   ·show Q (.bool (decide (xs.size < ys.size))) s
    simp only[g0G] at h;rw[<-h];exact q
theorem Rv(hp:HP):LtC X 71 hp lt1:=Rw (Mu hp) (Km (M6 hp) (Q15)) (Q16 rfl) (Km (M6 hp) (Q15))
set_option tactic.hygienic true in
theorem jZ{Y:List cK}{s:Shared}{hp:HP}{B:Nat}{eq lt:V->V->Option Bool}(he:EqC X B hp eq)(hl:LtC X B hp lt)(I:Inv X Y s.heap hp)
  {a b:cK} {xs ys:Array Value} {n m:Nat} (ga:s.heap.get? a=some {cls:= .type "list",data:= .seq xs n}) (gb:s.heap.get? b=some {cls:= .type "list",data:= .seq ys m}):
  ∀(us vs:List V) (i:Nat) (A:Around) (c:Bool) (R:gBT->Shared->Prop),A.units+1+B < g8H->VRels X Y s.heap us (xs.toList.drop i)->VRels X Y s.heap vs (ys.toList.drop i)->i<=xs.size->i<=ys.size->Bz eq lt us vs=some c->
   R (.ok (.ret (.bool c))) s->cA (mdl X) A.in1 (Builtin.«list.__eq__.loop» ⟨[.ref a,.ref b,rawInt i,rawInt 0],[]⟩) (λfin s'=>match fin with| .done f=>R (.ok f) s'| .again c'=>c'.quiet=true/\g7M (mdl X) A c' R s') (λe s'=>R (.error e) s') s:=by
 intro us;induction us with
 | nil=>
  intro vs i A c R hu r1 r2 h1 h2 e q;dsimp only[VRels] at r1;have l1:xs.size=i:=by have:=g5G.mp r1;simp at this;exact Q17 this h1
  have l2:=A7 r2;simp at l2;have hi1:xs[((i:Nat):Int).toNat]? =none:=by simp;exact Q18 l1
  clear he hl I r1 r2;obtain⟨hp',g,d,tk,os⟩:=s
  wp_walk using PySem.AutoSeq1.wpAny_loadPart' ga,PySem.AutoSeq1.wpAny_loadPart' gb
  rw[hi1]
  wp_walk using PySem.AutoSeq1.wpAny_loadPart' ga,PySem.AutoSeq1.wpAny_loadPart' gb
  show R (.ok (.ret (.bool (decide (xs.size < ys.size))))) _;clear hi1 ga gb;cases vs with
  | nil=>
   dsimp only[Bz] at e;cases e;have:decide (xs.size < ys.size)=false:=by simp at l2;simp;exact Q19 l2 l1
   rw[this];exact q
  | cons v vs=>
   dsimp only[Bz] at e;cases e;have:decide (xs.size < ys.size)=true:=by simp at l2;simp;exact Q20 l1 l2 h2
   rw[this];exact q
 | cons u us ih=>
  intro vs i A c R hu r1 r2 h1 h2 e q;have lu:=A7 r1;have l2:=A7 r2;dsimp only[VRels] at r1;refine x23 r1 ?_;clear r1;intro x r e1 p1 r1;have hlt:i < xs.size:=by simp at lu;exact Q21 h1 lu
  have hi1:xs[((i:Nat):Int).toNat]? =some x:=by
   have:(xs.toList.drop i)[0]? =some x:=by rw[e1];rfl
   simpa using this
  have r1':VRels X Y s.heap us (xs.toList.drop (i+1)):=by
   have:xs.toList.drop (i+1)=r:=by rw[<-g2Y,e1];rfl
   rw[this];exact r1
  clear e1 r1;cases vs with
  | nil=>
   clear he hl I ih p1 r1' r2;dsimp only[Bz] at e;cases e;have hi2:ys[((i:Nat):Int).toNat]? =none:=by simp at l2 ⊢;exact Q22 l2
   obtain⟨hp',g,d,tk,os⟩:=s
   wp_walk using PySem.AutoSeq1.wpAny_loadPart' ga,PySem.AutoSeq1.wpAny_loadPart' gb
   rw[hi1,hi2]
   wp_walk using PySem.AutoSeq1.wpAny_loadPart' ga,PySem.AutoSeq1.wpAny_loadPart' gb
   show R (.ok (.ret (.bool (decide (xs.size < ys.size))))) _;have:decide (xs.size < ys.size)=false:=by simp at l2;simp;exact Q23 l2 hlt
   rw[this];exact q
  | cons v vs=>
   dsimp only[VRels] at r2;refine x23 r2 ?_;clear r2;intro y r' e2 p2 r2;have hlt2:i < ys.size:=by simp at l2;exact Q21 h2 l2
   have hi2:ys[((i:Nat):Int).toNat]? =some y:=by
    have:(ys.toList.drop i)[0]? =some y:=by rw[e2];rfl
    simpa using this
   have r2':VRels X Y s.heap vs (ys.toList.drop (i+1)):=by
    have:ys.toList.drop (i+1)=r':=by rw[<-g2Y,e2];rfl
    rw[this];exact r2
   have hc:((i:Int)+1)=((i+1:Nat):Int):=by push_cast;rfl
   dsimp only[Bz] at e;clear e2 r2;split at e
   ·exact nn e
   ·rename_i hq
    have IH:=ih vs (i+1) A c R hu r1' r2' (Q24 hlt) (Q24 hlt2) e q;clear hl ih q r1' r2' e;obtain⟨hp',g,d,tk,os⟩:=s
    wp_walk using PySem.AutoSeq1.wpAny_loadPart' ga,PySem.AutoSeq1.wpAny_loadPart' gb
    rw[hi1,hi2];refine aG (he A.in1 Y _ u v x y true _ _ (by show A.units+1+B < g8H;exact Q25 hu) I p1 p2 hq ?_)
    wp_walk
    rw[hc];exact⟨plainId_quiet PySem.MeetsSeq3.plain_eq_loop _,gDH PySem.MeetsSeq3.entry_eq_loop (by
     rw[gAR PySem.MeetsSeq3.plain_eq_loop _];exact IH)⟩
   ·rename_i hq
    clear ih r1' r2';obtain⟨hp',g,d,tk,os⟩:=s
    wp_walk using PySem.AutoSeq1.wpAny_loadPart' ga,PySem.AutoSeq1.wpAny_loadPart' gb
    rw[hi1,hi2];refine aG (he A.in1 Y _ u v x y false _ _ (by show A.units+1+B < g8H;exact Q25 hu) I p1 p2 hq ?_)
    wp_walk using PySem.AutoSeq1.wpAny_loadPart' ga,PySem.AutoSeq1.wpAny_loadPart' gb
    rw[hi1,hi2];refine aG (hl A.in1 Y _ u v x y c _ _ (by show A.units+1+B < g8H;exact Q25 hu) I p1 p2 e ?_);exact aQ q
theorem dQ(hp:HP):LtC X 73 hp (lt2 hp):=by
 intro A Y s u v ru rv c Q E hu I r1 r2 e q;have k0:lt1 u v=some c->cA (mdl X) A (richCompare .Lt ru rv) Q E s:=λe=>Km (Rv hp) (Q27 rfl) A Y s _ _ ru rv c Q E hu I r1 r2 e q;refine oE e k0 λi z1 e=>oE e k0 λj z2 e=>bE' e λus ha e=>bE' e λvs hb ee=> ?_;clear e k0;replace z1:=vL_inv z1;replace z2:=vL_inv z2;subst z1;subst z2
 ··refine x35 (Aw I r1 ha) ?_;intro a xs n z3 _ _ ga qa;subst z3
   clear ha r1;refine x35 (Aw I r2 hb) ?_;intro b ys m z3 _ _ gb qb;subst z3;refine g8D (T:="list") ⟨_,ga,rfl⟩ ⟨_,gb,rfl⟩ PySem.F.slot_list_lt ?_ (Q26 hu);refine g9E (codeAny_call_builtin PySem.F.slot_list_lt.plain PySem.F.entry_list_lt (PySem.F.slot_list_lt.check _ _ _ _ _ _ _ _ ⟨_,ga,rfl⟩ (PySem.F.args_list_lt_2 _ _) ?_));clear hb r2;have L:=jZ (Sx (B':=71) (Mu hp) (Q27 rfl)) (Rv hp) I ga gb us vs 0 A c (λr s'=>match r with| .ok (.ret v)=>v≠ .notImplemented/\Q v s'| .ok _=>False| .error e=>E e s') (Q28 hu rfl) (by assumption) (by assumption) (Q15) (Q15) ee ⟨by simp,q⟩;clear hu I q ee qa qb;obtain⟨hp',g,d,tk,os⟩:=s;have f3:=PySem.AutoSeq1.sub_list_list
   wp_walk using PySem.AutoSeq1.wpAny_loadPart' ga,PySem.AutoSeq1.wpAny_loadPart' gb
   exact⟨plainId_quiet PySem.MeetsSeq3.plain_eq_loop _,gDH PySem.MeetsSeq3.entry_eq_loop (by
     rw[gAR PySem.MeetsSeq3.plain_eq_loop _];exact L)⟩
theorem dR(hp:HP):LtC X 74 hp (vlt hp):=Rw (B:=73) (Sx (Z5 hp) (Q27 rfl)) (dQ hp) (Q16 rfl) (Km (M6 hp) (Q15))
theorem Of{v:V}(h:Je v=true):v= .none:=by
 cases v <;> first|rfl|exact nf h
theorem Qs{u:V}(h:plain 3 u=true): ∀ys:List V,ys.all (plain 3)=true->((toPs ys).any λy=>g5S y (toP u))=ys.any λx=>eqB x u
 | [],_=>rfl
 | y::ys,e=>Jy e λe f=>(congr (congrArg or (Mg 3 y u 3 e h)) (Qs h ys f):)
theorem Sr{d:Nat}{hp:HP}{op o u v b}(ho:Lp op=some o)(e:Bd o u v hp=some b):Ai X d (yW op) [u,v] hp (.bool b) hp:=by
 intro A Y s rvs Q E H r R;refine x23 (Bq r) ?_;intro ru rv z2 r1 r2;subst z2;have hu:A.units+200 < g8H:=by have:=H.room.units;exact Q29 this rfl
 have hq: ∀tk,Q (.bool b) {s with toks:=tk}:=λtk=>R.bool H tk;have qn:Q (.bool b) s:=hq s.toks;have eqn: ∀c,veq hp u v=some c->(Q (.bool c) s->cA (mdl X) A (g4V .Eq ru rv) Q E s)/\(Q (.bool (!c)) s->cA (mdl X) A (g4V .NotEq ru rv) Q E s):=by
  intro c e;clear ho R r hq qn;have key: ∃du dv as bs,Reads s.heap ru du as/\Reads s.heap rv dv bs/\PySem.SeqAt.shaped du=true/\PySem.SeqAt.shaped dv=true/\g5S du dv=c:=by
   refine Sh e (λe=>R7 e λh1 h2 e=> ?_) λi j a b z1 z2 ha hb h1 h2 ee=> ?_
   ·obtain⟨⟨as,ra⟩,la,da⟩:=G6 3 u h1 ru r1
    clear H r1;obtain⟨⟨bs,rb⟩,lb,db⟩:=G6 3 v h2 rv r2;exact⟨_,_,_,_,ra,rb,aV.2 ⟨la,decide_eq_true (Q31 da rfl)⟩,aV.2 ⟨lb,decide_eq_true (Q31 db rfl)⟩,(Mg 3 u v 3 h1 h2).trans e⟩
   ·clear e;subst z1;subst z2
    refine x35 (Aw H.inv r1 ha) ?_;intro x vs n z3 _ _ ga qa;subst z3;clear ha r1;refine x35 (Aw H.inv r2 hb) ?_;intro y ws m z3 _ _ gb qb;subst z3;clear H hb r2;obtain⟨⟨as,ra⟩,la,da⟩:=Il 3 a _ h1 qa;clear qa;obtain⟨⟨bs,rb⟩,lb,db⟩:=Il 3 b _ h2 qb;exact⟨_,_,_,_,reads_list_at ga rfl rfl ra,reads_list_at gb rfl rfl rb,aV.2 ⟨la,decide_eq_true (Q30 da rfl)⟩,aV.2 ⟨lb,decide_eq_true (Q30 db rfl)⟩,(Rj 3 3 a b h1 h2).trans ee⟩
  refine x45 key ?_;clear key;intro du dv as bs ra rb sa sb ee;exact⟨λq=>eq_dataH ra rb sa sb (Q32 hu rfl) (by rw[ee];exact q),λq=>ne_dataH ra rb sa sb (Q32 hu rfl) (by rw[ee];exact q)⟩
 have mem: ∀c,Ho hp u v=some c->(Q (.bool c) s->cA (mdl X) A (g4V .In ru rv) Q E s)/\(Q (.bool (!c)) s->cA (mdl X) A (g4V .NotIn ru rv) Q E s):=by
  intro c e;clear ho R r hq qn eqn;refine bE' e λj z e=>bE' e λxs hx e=>iA e λh1 h2 ee=> ?_;clear e;replace z:=vL_inv z;subst z;refine x35 (Aw H.inv r2 hx) ?_;intro y ws m z3 _ _ gb qb;subst z3;clear H hx r2;obtain⟨⟨bs,rb⟩,lb,db⟩:=Il 3 xs _ h1 qb;clear qb;obtain⟨⟨as,ra⟩,la,da⟩:=G6 3 u h2 ru r1;have ee:((toPs xs).any λy=>g5S y (toP u))=c:=(Qs h2 xs h1).trans ee;have hd:=g0D (g8I (toPs xs)) (toP u).depth;exact⟨λq=>PySem.SeqAt.in_list_reads (reads_list_at gb rfl rfl rb) ra lb la (Q33 hu hd da rfl) (by rw[ee];exact q),
   λq=>PySem.SeqAt.notIn_list_reads (reads_list_at gb rfl rfl rb) ra lb la (Q33 hu hd da rfl) (by rw[ee];exact q)⟩
 show cA _ _ (g4V op ru rv) _ _ _;clear R r hq;cases op <;> (first|exact nn ho|cases ho)
 ·exact(eqn b e).1 qn
 ·exact mE (o:=veq hp u v) e λc ec z=>(eqn c ec).2 (z▸qn)
 ·exact dR hp A Y s u v ru rv b Q E (Q32 hu rfl) H.inv r1 r2 e qn
 ·refine Ke e r1 r2 λm n t t' z1 z2 z=> ?_
  subst z1;subst z2;subst z;exact PySem.P.le_int qn
 ·refine Ke e r1 r2 λm n t t' z1 z2 z=> ?_
  subst z1;subst z2;subst z;exact PySem.P.gt_int qn
 ·refine Ke e r1 r2 λm n t t' z1 z2 z=> ?_
  subst z1;subst z2;subst z;exact PySem.P.ge_int qn
 ·clear H hu eqn mem
  refine iE2 e (λh e=> ?_) λ_ e=>nn e;replace h:=Of h;subst h;replace r2:rv= .none:=r2;subst r2;refine iE2 e (λh e=> ?_) λ_ e=>mE e λx h z=> ?_
  ·replace h:=Of h;subst h;replace r1:ru= .none:=r1;subst r1
   cases e;exact gCK rfl qn
  ·replace h:=vS_inv h;subst h;subst z
   refine x12 r1 ?_;intro t z1 _;subst z1;exact wpAny_isNot_other rfl (λh=>nomatch h) qn
 ·exact(mem b e).1 qn
 ·exact mE (o:=Ho hp u v) e λc ec z=>(mem c ec).2 (z▸qn)
end Mine
namespace Mine
variable {X:Fx} {d:Nat} {hp:HP}
noncomputable def zI(vs:List Value):Sem Bool:=match vs with
 | [x]=>PySem.truthy x
 | _=>pure false
theorem nT{xs:List V}{vs:List Value}{Y h}(r:VRels X Y h xs vs):vs.isEmpty=xs.isEmpty:=by
 cases xs with
 | nil=>rw[show vs=[] from r];rfl
 | cons=>cases vs with
  | nil=>exact x23 r λ_ _ h _ _=>nomatch h
  | cons=>rfl
set_option tactic.hygienic true in
theorem Ij{v b}(e:Mine.truthy hp v=some b):Pz X d zI [v] hp b:=by
 intro A Y s rvs Q E H r R;refine x12 (Bv r) ?_;intro a z1 ra;subst z1;have R': ∀tk,Q b {s with toks:=tk}:=λtk=>R Y s.heap tk (Ac.refl _ H.inv);show cA _ _ (PySem.truthy a) _ _ _;clear R r;cases v <;> first|exact nn e|skip
 ·clear H;cases e
  dsimp only[Ab] at ra;subst ra;exact truthy_none (R' s.toks)
 ·clear H;cases e
  dsimp only[Ab] at ra;subst ra;exact g7K (R' s.toks)
 ·clear H;cases e
  dsimp only[Ab] at ra;refine x11 ra ?_;clear ra;intro t z1;subst z1;refine PySem.P.truthy_int ?_;rename_i n;have:(n != 0)= !(Ap n 0):=by rw[beqInt_eq];rfl
  rw[this];exact R' s.toks
 ·clear H;cases e
  dsimp only[Ab] at ra;refine x12 ra ?_;clear ra;intro t z1 hs;subst z1;rename_i x;have hl:x.length=x.cps.size:=rfl;refine PySem.P.truthy_str (by rw[hl];have:=hs.1;exact Q34 this) ?_;have:((x.length:Int) != 0)= !(chars x).isEmpty:=by
   rw[hl,<-D5];clear R' hs;cases chars x <;> simp;exact Q35
  rw[this];exact R' _
 ·refine mE (o:=lget hp _) e λxs hx z2=> ?_;subst z2
  clear e;refine x35 (Aw H.inv ra hx) ?_;intro a vs n z3 _ bd ga qa;subst z3;have hl:=A7 qa;simp only[g0G] at hl;refine wpAny_truthy_list (isList_of ga) (Q36 hl bd) ?_;have:(!vs.isEmpty)= !xs.isEmpty:=by
   rw[<-nT qa];simp
  rw[this];exact R' _
noncomputable def zN(slice:Expr)(o i:Value):Prop:= ∃ops,subscripted slice false o i=operate ops (gDD o i)
set_option tactic.hygienic true in
theorem eJ{slice:Expr}{o i:Value}:zN slice o i:=by
 cases slice <;> first|exact⟨[o,i],rfl⟩|skip
 rename_i lo hi st p;cases st with
 | none=>exact⟨[i,o],rfl⟩
 | some _=>exact⟨[o,i],rfl⟩
theorem G1{A:Around}{s:Shared}{value slice:Expr}{o i:Value}{T id:String}{Q E:Value->Shared->Prop}(hT:s.TypeIs o T)
  (hl:typeLookup (.type T) "__getitem__"=pure (some (.builtin id))) (h:cA (mdl X) A (gDD o i) Q E s):cA (mdl X) A (g5T value slice o i) Q E s:=by
 unfold g5T;refine aG ?_;rw[getitemInPython_of_ne hT.not_modules];refine aG (gDB hT hl ?_);refine aQ (aG ?_);have fin: ∀ops,cA (mdl X) A (operate ops (gDD o i)) (λr s₃=>cA (mdl X) A (letTemporaryGo value o r >>= λ_=>pure r) Q E s₃) E s:=
  λops=>wpAny_operating (g1M h (λr s₃ h₃=>aG (wpAny_letTemporaryGo (aQ h₃))) λ_ _ x=>x)
 refine x11 (eJ (slice:=slice) (o:=o) (i:=i)) ?_;intro ops e;rw[e];exact fin ops
theorem Ad.sub{a i pos env U u hp1 v hp2 w hp3}(x:Ad X d (eval a env) env U hp u hp1)(y:Ad X d (eval i env) env U hp1 v hp2)
  (o:Ai X d (λvs=>match vs with|[p,q]=>g5T a i p q|_=>pure .none) [u,v] hp2 w hp3):Ad X d (eval (.Subscript a i pos) env) env U hp w hp3:=by
 intro A Y s Q E H F P;refine Subscript_ (x A Y s _ _ H F λY1 h1 t1 ru S1 r1=>y A Y1 _ _ _ (H.step S1) (F.ev H.inv S1) λY2 h2 t2 rv S2 r2=> ?_);exact o A Y2 _ [ru,rv] _ _ ((H.step S1).step S2) (D7 (S2.vr _ _ r1) r2) λY3 h3 t3 rw S3 r3=>P Y3 h3 t3 rw ((S1.trans S2).trans S3) r3
theorem R6{s:Str}(hs:B8 s){c:Nat}(hc:c∈chars s):B8 (Aj [c]):=
 ⟨by show ([c]:List Nat).toArray.size<=1000;exact g0L _,λe he=>by
  have:e∈[c]:=by assumption
  rw[aK.mp this];exact hs.2 c hc⟩
set_option tactic.hygienic true in
theorem CO{a i u v w}(e:Xu u v hp=some (w,hp')):hp'=hp/\Ai X d (λvs=>match vs with|[p,q]=>g5T a i p q|_=>pure .none) [u,v] hp w hp:=by
 refine bE' e ?_;clear e;intro n hk e;cases vI_inv hk;clear hk;cases h:vL u with
 | some j=>
  rw[h] at e;cases vL_inv h;clear h;simp only[g8Q,g2M,Option.pure_def,Option.some.injEq,g5U] at e;obtain⟨xs,hx,x,hg,rfl,rfl⟩:=e;refine⟨rfl,λA Y s rvs Q E H r R=> ?_⟩;refine x23 (Bq r) ?_;intro p q z2 rp rq;subst z2;clear r;refine x35 (Aw H.inv rp hx) ?_;intro a vs k z3 _ bd ga qa;subst z3;clear hx rp;dsimp only[Ab] at rq;refine x11 rq ?_;clear rq;intro t z1;subst z1;have hl:=A7 qa;simp only[g0G] at hl;have hT:s.TypeIs (.ref a) "list":=⟨_,ga,rfl⟩;refine G1 hT g6L ?_;dsimp only[A9] at hg;clear hT;split at hg
  ·rename_i h0
   refine x12 (Fe qa hg) ?_;intro y hy ry;have hlt:=(aF.mp hg).1;exact gBS (isList_of ga) h0 (Q37 hlt bd) (by simpa using hy) (R.now H ry s.toks)
  ·split at hg
   ·rename_i h0 h1
    refine x12 (Fe qa hg) ?_;intro y hy ry;refine wpAny_getItem_list_neg (isList_of ga) (Q38 (g2Z.1 h0)) (Q39 h1 hl) (Q40 h1 bd) ?_ (R.now H ry s.toks);rw[<-hl] at hy;simpa using hy
   ·exact nn hg
 | none=>
 rw[h] at e;clear h;dsimp only at e;cases h:vT u with
 | some xs=>
  rw[h] at e;cases vT_inv h;clear h;dsimp only at e;split at e
  ·rename_i h0
   replace e:=bP.mp e;refine x12 e ?_;clear e;intro y hy e;cases e;refine⟨rfl,λA Y s rvs Q E H r R=> ?_⟩;refine x23 (Bq r) ?_;intro p q z2 rp rq;subst z2;dsimp only[Ab] at rp rq;clear r;refine x34 rp ?_;clear rp;intro a vs k z3 ga bd qa;subst z3;refine x11 rq ?_;clear rq;intro t z1;subst z1;have hl:=A7 qa;simp only[g0G] at hl;refine x12 (Fe qa hy) ?_;intro z hz rz;have hlt:=(aF.mp hy).1;have hT:s.TypeIs (.ref a) "tuple":=⟨_,ga,rfl⟩;refine G1 hT PySem.F.slot_tuple_getitem.lookup ?_;refine getItem_tuple (j:=n.toNat) ⟨_,ga,rfl,_,rfl⟩ (Q41 h0) (Q37 hlt bd) ?_ (by simpa using hz) (R.now H rz s.toks);exact seqIndex_of h0 (by rw[hl];exact(gCX h0).1 hlt)
  ·exact nn e
 | none=>
 rw[h] at e;clear h;dsimp only at e;cases h:Lu u with
 | some ns=>
  rw[h] at e;cases vRo_inv h;clear h;dsimp only at e;split at e
  ·rename_i h0
   replace e:=bP.mp e;refine x12 e ?_;clear e;intro y hy e;cases e;refine⟨rfl,λA Y s rvs Q E H r R=> ?_⟩;refine x23 (Bq r) ?_;intro p q z2 rp rq;subst z2;dsimp only[Ab] at rp rq;clear r;refine x35 rp ?_;clear rp;intro a vs k z3 _ bd ga qa;subst z3;refine x11 rq ?_;clear rq;intro t z1;subst z1;refine x11 (qa.get n.toNat y hy) ?_;intro t' ht';have hlt:=(aF.mp hy).1;have hT:s.TypeIs (.ref a) "list":=⟨_,ga,rfl⟩;refine G1 hT g6L ?_;exact gBS (isList_of ga) h0 (Q42 hlt bd) (by simpa using ht') (R.int H _ _)
  ·exact nn e
 | none=>
  rw[h] at e;clear h;dsimp only at e;refine bE' e ?_;clear e;intro x h e;cases vS_inv h;clear h;replace e:=bP.mp e;refine x12 e ?_;clear e;intro c hc e;cases e;refine⟨rfl,λA Y s rvs Q E H r R=> ?_⟩;refine x23 (Bq r) ?_;intro p q z2 rp rq;subst z2;dsimp only[Ab] at rp rq;clear r;refine x12 rp ?_;clear rp;intro t z1 hs;subst z1;refine x11 rq ?_;clear rq;intro t' z1;subst z1;have hsz:=hs.1;refine G1 (typeIs_str s x t) PySem.F.slot_str_getitem.lookup ?_;dsimp only[A9] at hc;have fin: ∀j:Nat,(chars x)[j]? =some c->seqIndex? n x.length=some j->(decide (n < -(2 ^ 63:Int))||decide (n≥2 ^ 63))=false->cA (mdl X) A (gDD (.str x t) (.int n t')) Q E s:=by
   intro j hj hq hr;refine PySem.P.getItem_str hr (c:=c) ?_ ?_
   ·rw[hq];show x.cps[j]? =some c
    dsimp only[chars] at hj;simpa using hj
   ·exact R.str H (R6 hs (aU hj)) _ _
  clear H R hs;split at hc
  ·rename_i h0
   have hlt:=(aF.mp hc).1;rw[D5] at hlt;refine fin n.toNat hc ?_ (by simp;exact Q43 h0 hlt hsz);exact seqIndex_of h0 ((gCX h0).1 hlt)
  ·split at hc
   ·rename_i h0 h1
    rw[D5] at h1 hc;have hlt:=(aF.mp hc).1;rw[D5] at hlt;refine fin _ hc ?_ (by simp;exact Q44 h1 (g2Z.1 h0) hsz);exact PySem.MeetsSeq.seqIndex_neg (g2Z.1 h0) h1
   ·exact nn hc
end Mine
namespace Mine
variable {X:Fx} {d:Nat} {hp:HP}
theorem Vb{α:Type}{xs ys:List α}{lo hi:V}(h:Mine.slice xs lo hi=some ys):
  ∃p q,H1 lo=some p/\H1 hi=some q/\ys=(xs.drop (p.elim 0 (clipAt xs.length))).take (q.elim xs.length (clipAt xs.length) - p.elim 0 (clipAt xs.length)):=
 bE' h λp hp h=>bE' h λq hq h=>⟨p,q,hp,hq,(aB h).symm⟩
theorem Ko{Y h v rv p}(r:Ab X Y h v rv)(hp:H1 v=some p):IsPart rv p/\∃o:Option (Int×Tok),rv=partValue o/\o.map (·.1)=p:=by
 refine iE2 hp (λh e=> ?_) λ_ e=>mE e λi h e=> ?_
 ·replace h:=Of h;subst h;cases e;replace r:rv= .none:=r;subst r;exact⟨.none,none,rfl,rfl⟩
 ·refine x11 (Mq h r) λt z=> ?_;subst z;subst e;exact⟨.int _ _,some (_,t),rfl,rfl⟩
theorem Ra{n:Nat}{i:Int}:clipAt n i<=n:=Int.toNat_le.2 (Int.max_le.2 ⟨bG n,Int.min_le_right _ _⟩)
theorem Se{l u:Option Int}{n:Nat}:g8J l u 1 n=g7L ((l.elim 0 (clipAt n):Nat):Int) ((u.elim n (clipAt n):Nat):Int) 1:=by
 cases l with
 | none=>cases u with
  | none=>rfl
  | some i=>exact congrArg (λx=>g7L 0 x 1) (g8G n i).symm
 | some j=>cases u with
  | none=>exact congrArg (λx=>g7L x n 1) (g8G n j).symm
  | some i=>exact(congr (congrArg (λx y=>g7L x y 1) (g8G n j)) (g8G n i)).symm
theorem oD(x:Str)(l u:Option Int):(g8J l u 1 x.length).filterMap (x.cps[·]?)=((chars x).drop (l.elim 0 (clipAt x.length))).take (u.elim x.length (clipAt x.length) - l.elim 0 (clipAt x.length)):=by
 rw[Se,sliceRange_one,pick_run];rfl
noncomputable def Pd(hp:HP)(o l h:V):Option (V×HP):=match o with
 | .lst j=>do Mine.alloc hp (<-Mine.slice (<-lget hp j) l h)
 | .str s=>(Mine.slice (chars s) l h).map λc=>(.str (Aj c),hp)
 | _=>none
theorem lA{x:Str}{l:List Nat}(hx:B8 x)(hl:l.length<=(chars x).length)(hm: ∀c∈l,c∈chars x):B8 (Aj l):=
 ⟨by show l.toArray.size<=1000;rw[g2S];rw[D5] at hl;have:=hx.1;exact Q45 hl this,λc hc=>hx.2 c (hm c (by simpa[Aj] using hc))⟩
set_option tactic.hygienic true in
theorem Zh{a i o l h w hp'}(e:Pd hp o l h=some (w,hp'))(A:Around)(Y:List cK)(s:Shared)(ro rl rh:Value)(Q E:Value->Shared->Prop)(H:Ah X A d Y s hp)
  (r1:Ab X Y s.heap o ro) (r2:Ab X Y s.heap l rl) (r3:Ab X Y s.heap h rh) (R:Bl X Y s hp' w Q):
  cA (mdl X) A (g5T a i ro (.ref s.heap.objs.size)) Q E {s with heap:=s.heap.push {cls:= .type "slice",data:= .fields #[rl,rh,.none]}}:=by
 have S1:=Ac.push H.inv {cls:= .type "slice",data:= .fields #[rl,rh,.none]};have hsl:(s.heap.push {cls:= .type "slice",data:= .fields #[rl,rh,.none]}).IsSliceOf s.heap.objs.size rl rh .none:=gBU _ _ _ _;dsimp only[Pd] at e;split at e
 ·rename_i j
  simp only[g8Q,g2M] at e;obtain⟨xs,hx,ys,hs,ea⟩:=e;refine x23 (Vb hs) ?_;intro p q hp' hq z4;subst z4;clear hs;obtain⟨b,vs,n,rfl,_,bd,ga,qa⟩:=Aw S1.inv (S1.vr _ _ r1) hx;have hl:=A7 qa;simp only[g0G] at hl;have hT:({s with heap:=s.heap.push {cls:= .type "slice",data:= .fields #[rl,rh,.none]}}:Shared).TypeIs (.ref b) "list":=⟨_,ga,rfl⟩;refine G1 hT g6L ?_;refine wpAny_getItem_list_slice (isList_of ga) hsl (Ko r2 hp').1 (Ko r3 hq).1 .none (by simp) ?_ (by rw[g0Q];exact Q46 hl bd rfl);refine Bl.newList (s:={s with heap:=s.heap.push {cls:= .type "slice",data:= .fields #[rl,rh,.none]}}) (hp:=hp) (v:=w) ?_ (H.step S1 (tk:=s.toks)) ea ?_ s.toks
  ·intro Y2 h2 t2 rv S2 r2
   exact R Y2 h2 t2 rv (S1.trans S2) r2
  ·rw[slicePick_plain,hl]
   exact Vd _ (Vc _ qa)
 ·rename_i x
  replace e:=bP.mp e;refine x12 e ?_;clear e;intro ys hs e;clear H hsl;cases e;refine x23 (Vb hs) ?_;intro p q hp' hq z4;subst z4;dsimp only[Ab] at r1;clear hs;refine x12 r1 ?_;clear r1;intro t z1 hx;subst z1;obtain⟨_,ol,rfl,el⟩:=Ko r2 hp';clear hp' r2;obtain⟨_,oh,rfl,eh⟩:=Ko r3 hq;refine G1 (typeIs_str _ x t) PySem.F.slot_str_getitem.lookup ?_;refine wpAny_getItem_str_slice (l:=ol) (u:=oh) (st:=none) ⟨_,g0K _ rfl,rfl,rfl⟩ rfl ?_;have hok:B8 (Aj ((chars x).drop (p.elim 0 (clipAt (chars x).length))|>.take (q.elim (chars x).length (clipAt (chars x).length) - p.elim 0 (clipAt (chars x).length)))):=by
   refine lA hx ?_ λc hc=> ?_
   ·rw[g6U,gAN];exact Q47
   ·exact List.mem_of_mem_drop (g8Y hc)
  have pk:(g6K x ol oh none).filterMap (x.cps[·]?)=((chars x).drop (p.elim 0 (clipAt (chars x).length))).take (q.elim (chars x).length (clipAt (chars x).length) - p.elim 0 (clipAt (chars x).length)):=by
   dsimp only[g6K];rw[el,eh];have:=oD x p q;have hlen:x.length=(chars x).length:=(D5 x).symm;rw[<-hlen];exact this
  have R': ∀t' tk,Q (.str (Aj ((chars x).drop (p.elim 0 (clipAt (chars x).length))|>.take (q.elim (chars x).length (clipAt (chars x).length) - p.elim 0 (clipAt (chars x).length)))) t') {s with heap:=s.heap.push {cls:= .type "slice",data:= .fields #[partValue ol,partValue oh,.none]},toks:=tk}:=λt' tk=>
   R Y _ tk _ S1 (by dsimp only[Ab];exact⟨t',rfl,hok⟩)
  dsimp only[sliceMade];clear hq R hx r3 S1;split
  ·rename_i hc
   have e2:Aj ((chars x).drop (p.elim 0 (clipAt (chars x).length))|>.take (q.elim (chars x).length (clipAt (chars x).length) - p.elim 0 (clipAt (chars x).length)))=x:=by
    rw[<-pk];have hlen:(g6K x ol oh none).length=x.length:=by
     rw[aI] at hc;exact beq_iff_eq.mp hc.2
    have h0:(g6K x ol oh none)=g7L (((p.elim 0 (clipAt x.length):Nat)):Int) ((q.elim x.length (clipAt x.length):Nat):Int) 1:=by
     dsimp only[g6K];rw[el,eh];exact Se
    rw[h0,sliceRange_one] at hlen;rw[h0,sliceRange_one,pick_run];simp only[aO,g2A] at hlen;have hle:q.elim x.length (clipAt x.length)<=x.length:=by
     clear el eh hok pk R' hc h0;cases q with
     | none=>exact bJ _
     | some i=>exact Ra
    have hz:p.elim 0 (clipAt x.length)=0:=by
     have hx0:x.length=0\/0 < x.length:=gAB _;clear el eh hok pk R' hc h0;rcases hx0 with hx0|hx0
     ·cases p with
      | none=>rfl
      | some i=>exact Nat.le_zero.1 (hx0▸Ra)
     ·exact R12 hlen hle hx0
    have:q.elim x.length (clipAt x.length) - p.elim 0 (clipAt x.length)=x.length:=hlen;rw[this,hz,gBM];have:x.cps.toList.take x.length=x.cps.toList:=g2R (by show x.cps.toList.length<=x.cps.size;exact bJ _);rw[this];rfl
   have:=R' t s.toks;rw[e2] at this;exact this
  ·refine⟨?_,?_⟩
   ·rw[pk]
    rw[g0Q];have:=hok.1;show (Aj _).cps.size<=_;exact Q31 this rfl
   ·rw[pk]
    exact R' _ _
 ·exact nn e
noncomputable def Gj(X:Fx)(d:Nat)(e:Option Expr)(env:Env)(U:Rho)(hp:HP)(v:V)(hp':HP):Prop:=Ad X d (evalPart e env) env U hp v hp'
theorem Ad.slc{a lo hi p pos env U o hp1 l hp2 h hp3 w hp4}(x:Ad X d (eval a env) env U hp o hp1)(y:Gj X d lo env U hp1 l hp2)(z:Gj X d hi env U hp2 h hp3)
  (e:Pd hp3 o l h=some (w,hp4)):Ad X d (eval (.Subscript a (.Slice lo hi none p) pos) env) env U hp w hp4:=by
 intro A Y s Q E H F P;refine Subscript_ (x A Y s _ _ H F λY1 h1 t1 ro S1 r1=> ?_);refine wpAny_Slice (y A Y1 _ _ _ (H.step S1) (F.ev H.inv S1) λY2 h2 t2 rl S2 r2=> ?_);refine z A Y2 _ _ _ ((H.step S1).step S2) ((F.ev H.inv S1).ev S1.inv S2) λY3 h3 t3 rh S3 r3=> ?_;refine aQ ?_;refine Zh (s:={s with heap:=h3,toks:=t3}) e A Y3 ro rl rh Q E (((H.step S1).step S2).step S3) (S3.vr _ _ (S2.vr _ _ r1)) (S3.vr _ _ r2) r3 ?_;intro Y4 h4 t4 rw S4 r4;exact P Y4 h4 t4 rw (((S1.trans S2).trans S3).trans S4) r4
theorem Gj.none{env U}:Gj X d none env U hp .none hp:=by
 intro A Y s Q E H F P;rw[evalPart_none];exact aQ (P.now H (rfl) s.toks)
theorem Ad.list{es pos env U vs hp1 w hp2}(x:Bj X d (g2L (g3F pos (cM es env))) env U hp vs hp1)(e:Mine.alloc hp1 vs=some (w,hp2)):
  Ad X d (eval (.List es pos) env) env U hp w hp2:=by
 intro A Y s Q E H F P;show cA _ _ (do gAZ pos;newList (<-g2L (g3F pos (cM es env)))) _ _ _;refine aG (g1J (aG (x A Y s _ _ H F λY1 h1 t1 rvs S1 r1=> ?_)));have hl:=A7 r1;clear x F;have bd:vs.length<=200:=by dsimp only[Mine.alloc] at e;split at e;assumption;exact nn e
 refine g6Z ?_ (by rw[g0Q];exact Q46 hl bd rfl);refine Bl.newList (s:={s with heap:=h1,toks:=t1}) (hp:=hp1) (v:=w) (λY2 h2 t2 rv S2 r2=>P Y2 h2 t2 rv (S1.trans S2) r2) (H.step S1) e (by simpa using r1) t1
theorem Ac.vrtup{Y:List cK}{s:Shared}{xs:List V}{rvs:List Value}(I:Inv X Y s.heap hp)(r:VRels X Y s.heap xs rvs)(bd:xs.length<=200):
  Ab X Y (s.heap.push {cls:= .type "tuple",data:= .seq rvs.toArray}) (.tup xs) (.ref s.heap.objs.size):=by
 have S:=Ac.push I {cls:= .type "tuple",data:= .seq rvs.toArray};dsimp only[Ab];exact⟨s.heap.objs.size,rvs.toArray,0,rfl,g0K _ rfl,bd,by simpa using S.vrs _ _ r⟩
theorem Ad.tup{es k pos env U vs hp1}(x:Bj X d (g2L (g3F pos (cM es env))) env U hp vs hp1)(bd:vs.length<=200):
  Ad X d (eval (.Tuple es k pos) env) env U hp (.tup vs) hp1:=by
 intro A Y s Q E H F P;show cA _ _ (do gAZ pos;newTuple (<-g2L (g3F pos (cM es env)))) _ _ _;refine aG (g1J (aG (x A Y s _ _ H F λY1 h1 t1 rvs S1 r1=> ?_)));have hl:=A7 r1;refine gDU ?_ (by rw[g0Q];exact Q46 hl bd rfl);exact P Y1 _ t1 _ (S1.trans (Ac.push S1.inv _)) (Ac.vrtup (s:={s with heap:=h1,toks:=t1}) S1.inv r1 bd)
theorem Bj.nil{env U}:Bj X d (g2L []) env U hp [] hp:=by
 intro A Y s Q E H F P;exact g7Z (P Y s.heap s.toks [] (Ac.refl _ H.inv) (rfl))
theorem Bj.cons{t rest env U v hp1 vs hp2}(x:Ad X d t env U hp v hp1)(y:Bj X d (g2L rest) env U hp1 vs hp2):Bj X d (g2L ((false,t)::rest)) env U hp (v::vs) hp2:=by
 intro A Y s Q E H F P;refine g7B (x A Y s _ _ H F λY1 h1 t1 rv S1 r1=> ?_);exact y A Y1 _ _ _ (H.step S1) (F.ev H.inv S1) λY2 h2 t2 rvs S2 r2=>P Y2 h2 t2 _ (S1.trans S2) (vrels_cons' (S2.vr _ _ r1) r2)
theorem Ad.cint{i k pos env U}:Ad X d (eval (.Constant (.int i) k pos) env) env U hp (.int i) hp:=by
 intro A Y s Q E H F P;exact wpAny_Constant_int (P.int H _ _)
theorem Ad.cstr{x k pos env U}(hx:B8 x):Ad X d (eval (.Constant (.str x) k pos) env) env U hp (.str x) hp:=by
 intro A Y s Q E H F P;exact Constant_str (P.str H hx _ _)
theorem Ad.cnone{k pos env U}:Ad X d (eval (.Constant .none k pos) env) env U hp .none hp:=by
 intro A Y s Q E H F P;exact wpAny_Constant_none (P.now H (rfl) s.toks)
theorem Ad.cbool{b k pos env U}:Ad X d (eval (.Constant (.bool b) k pos) env) env U hp (.bool b) hp:=by
 intro A Y s Q E H F P;exact g6I (P.now H (rfl) s.toks)
theorem Ru{env U i v}(e:rget U i=some v){x:Str}(hx:X.nm[i]? =some x)(hk:env.kindOf x=some .local\/env.kindOf x=some .cell\/env.kindOf x=some .free)(hd:x≠"__classdict__"):Ad X d (loadName env x) env U hp v hp:=by
 intro A Y s Q E H F P;refine x12 F.vals ?_;intro m hn hv;have q:=hv i v x e hx;clear e hx hv;rcases hk with k|k|k
 ·refine x12 (q.loc k) ?_;intro rv e1 r
  exact gAQ F.kind k hn e1 (P.now H r s.toks)
 ·refine x23 (q.cel (.inl k)) ?_;intro c rv e1 e2 r
  exact wpAny_loadName_cell F.kind k e1 e2 (P.now H r s.toks)
 ·refine x23 (q.cel (.inr k)) ?_;intro c rv e1 e2 r
  exact wpAny_loadName_free F.kind k e1 e2 (P.now H r s.toks) (if_neg ‹_›)
end Mine
namespace Mine
variable {X:Fx} {d:Nat} {hp:HP}
structure A0(X:Fx)(tb:Tab):Prop where
 tab:tb.tab=X.nm
 cd: ∀x∈X.nm,x≠"__classdict__"
 glob: ∀x v,tb.gl.lookup x=some v->∀(Y:List cK) (h:Heap),X.K.In h->
  ∃rv,(nsIn X.K g0M x=some (some rv)\/(nsIn X.K g0M x=some none/\nsIn X.K g4W x=some (some rv)))/\Ab X Y h v rv
theorem gB{tb:Tab}(T:A0 X tb){env U x v}(hk:env.kindOf x=some .globalImplicit)(e:tb.gl.lookup x=some v):
  Ad X d (loadName env x) env U hp v hp:=by
 intro A Y s Q E H F P;refine ks_loadName_global F.kind hk ?_;refine x12 (T.glob x v e Y s.heap H.inv.kin) ?_;intro rv q r;unfold loadGlobal;rw[F.glo,F.blt];clear T hk e F;rcases q with q|⟨q1,q2⟩
 ·refine aG ((gDJ H.inv.kin q).here ?_)
  exact aQ (P.now H r s.toks)
 ·refine aG ((gDJ H.inv.kin q1).here ?_)
  refine aG ((gDJ H.inv.kin q2).here ?_);exact aQ (P.now H r s.toks)
theorem T9{tb:Tab}{sc:Sc}{n:Str}{x:Mine.X}{P:Prop}(h:Ao tb sc n=some x)(kv:n≠"__debug__"->(sc.lookup n=some .local\/sc.lookup n=some .cell\/sc.lookup n=some .free)->∀i,Cw tb.tab n 0=some i-> .var i=x->P)
  (kg:n≠"__debug__"->sc.lookup n=some .globalImplicit->∀v,tb.gl.lookup n=some v-> .k v=x->P):P:=by
 unfold Ao at h;by_cases hd:n="__debug__"
 ·rw[if_pos hd] at h;exact nn h
 ·rw[if_neg hd] at h
  cases hk:sc.lookup n with
  | none=>rw[hk] at h;exact nn h
  | some k=>
   rw[hk] at h;cases k <;> first|exact nn h|exact mE h (kv hd (hk▸ .inl rfl))|exact mE h (kv hd (hk▸ .inr (.inl rfl)))|exact mE h (kv hd (hk▸ .inr (.inr rfl)))|exact mE h (kg hd hk)
theorem Dq{tb:Tab}(T:A0 X tb){e0:Ag}{r:R}{env U x xx pos v hp'}(hc:Ao tb env.scope.names x=some xx)(e:evF e0 r d xx U hp=some (v,hp')):
  Ad X d (eval (.Name x pos) env) env U hp v hp':=by
 intro A Y s Q E H F P;refine T9 hc (λhd hk i hi hx=> ?_) λhd hk u hu hx=> ?_
 ·refine gBZ ?_ (if_neg hd)
  subst hx;have e:(rget U i).map (·,hp)=some (v,hp'):=e;refine mE e ?_;clear e;intro u hu e;cases e;have at_:=J5 hi;rw[T.tab] at at_;exact Ru hu at_ hk (T.cd _ (aU at_)) A Y s Q E H F P
 ·refine gBZ ?_ (if_neg hd)
  subst hx;have e:some (u,hp)=some (v,hp'):=e;cases e;exact gB T hk hu A Y s Q E H F P
noncomputable def EvS(X:Fx)(tb:Tab)(r:R):Prop:= ∀d e x env U hp v hp',cX tb env.scope.names e=some x->r.ev d x U hp=some (v,hp')->Ad X d (eval e env) env U hp v hp'
noncomputable def TrS(X:Fx)(tb:Tab)(r:R):Prop:= ∀d e x env U hp b hp',cX tb env.scope.names e=some x->r.tr d x U hp=some (b,hp')->Bn X d (isTrue e env (eval e env)) env U hp b hp'
noncomputable def Dd(X:Fx)(tb:Tab)(r:R):Prop:= ∀d es xs env U hp vs hp' pos,cXs tb env.scope.names es=some xs->r.evs d xs U hp=some (vs,hp')->
 Bj X d (g2L (g3F pos (cM es env))) env U hp vs hp'
theorem CI{tb:Tab}{r:R}(h1:EvS X tb r)(h2:Dd X tb r): ∀d es xs env U hp vs hp' pos,cXs tb env.scope.names es=some xs->evsF r d xs U hp=some (vs,hp')->
  Bj X d (g2L (g3F pos (cM es env))) env U hp vs hp':=by
 intro d es xs env U hp vs hp' pos hc e;cases es with
 | nil=>
  clear h1 h2;dsimp only[cXs] at hc;cases hc;dsimp only[evsF] at e;cases e;exact Bj.nil
 | cons a as=>
  dsimp only[cXs] at hc;refine bE' hc ?_;clear hc;intro x hx hc;refine mE hc ?_;clear hc;intro xs hxs hc;subst hc;dsimp only[evsF] at e;refine bE2 e ?_;clear e;intro u hp1 e1 e;refine bE2 e ?_;clear e;intro us hp2 e2 e;cases e;have ha:cM (a::as) env=(false,eval a env)::cM as env:=by
   clear h1 h2 hxs e1 e2;(first|exact nn a|cases a) <;> first|rfl|(dsimp only[cX] at hx;(first|exact nn hx|cases hx))
  rw[ha];exact Bj.cons (h1 _ _ _ _ _ _ _ _ hx e1) (h2 _ _ _ _ _ _ _ _ pos hxs e2)
theorem fY{tb:Tab}{r:R}(h1:EvS X tb r){env U}: ∀{es xs pos hp v hp'},cXs tb env.scope.names es=some xs->I7 r d U xs hp=some (v,hp')->
  Ad X d (eval (.BoolOp .And es pos) env) env U hp v hp':=by
 intro es;induction es with
 | nil=>intro xs pos hp v hp' hc e;dsimp only[cXs] at hc;(first|exact nn hc|cases hc);(first|exact nn e|cases e)
 | cons a as ih=>
  intro xs pos hp v hp' hc e;dsimp only[cXs] at hc;refine bE' hc ?_;clear hc;intro x hx hc;refine mE hc ?_;clear hc;intro xs hxs hc;subst hc;cases as with
  | nil=>
   clear ih;dsimp only[cXs] at hxs;cases hxs;have e:r.ev d x U hp=some (v,hp'):=e;intro A Y s Q E H F P;exact BoolOp_one (h1 _ _ _ _ _ _ _ _ hx e A Y s Q E H F P)
  | cons b bs=>
   cases xs with
   | nil=>
    dsimp only[cXs] at hxs;refine bE' hxs ?_;clear hxs;intro _ _ hxs;refine mE hxs ?_;clear hxs;intro _ _ hxs;clear h1 hx ih e;cases hxs
   | cons y ys=>
    dsimp only[I7] at e;refine bE2 e ?_;clear e;intro u hp1 e1 e;refine bE e ?_;clear e;intro t e2 e;intro A Y s Q E H F P;refine BoolOp_and (h1 _ _ _ _ _ _ _ _ hx e1 A Y s _ _ H F λY1 h1' t1 ru S1 r1=> ?_);refine Ij e2 A Y1 {s with heap:=h1',toks:=t1} [ru] _ _ (H.step S1) (Ev r1) λY2 h2 t2 S2=> ?_;cases t with
    | true=>exact ih hxs e A Y2 _ _ _ ((H.step S1).step S2) (F.ev H.inv (S1.trans S2)) λY3 h3 t3 rv S3 r3=>P Y3 h3 t3 rv ((S1.trans S2).trans S3) r3
    | false=>cases e;exact P Y2 h2 t2 ru (S1.trans S2) (S2.vr _ _ r1)
theorem dM{tb:Tab}{r:R}(h1:EvS X tb r){env U}: ∀{es xs pos hp v hp'},cXs tb env.scope.names es=some xs->Hf r d U xs hp=some (v,hp')->
  Ad X d (eval (.BoolOp .Or es pos) env) env U hp v hp':=by
 intro es;induction es with
 | nil=>intro xs pos hp v hp' hc e;dsimp only[cXs] at hc;(first|exact nn hc|cases hc);(first|exact nn e|cases e)
 | cons a as ih=>
  intro xs pos hp v hp' hc e;dsimp only[cXs] at hc;refine bE' hc ?_;clear hc;intro x hx hc;refine mE hc ?_;clear hc;intro xs hxs hc;subst hc;cases as with
  | nil=>
   clear ih;dsimp only[cXs] at hxs;cases hxs;have e:r.ev d x U hp=some (v,hp'):=e;intro A Y s Q E H F P;exact BoolOp_one (h1 _ _ _ _ _ _ _ _ hx e A Y s Q E H F P)
  | cons b bs=>
   cases xs with
   | nil=>
    dsimp only[cXs] at hxs;refine bE' hxs ?_;clear hxs;intro _ _ hxs;refine mE hxs ?_;clear hxs;intro _ _ hxs;clear h1 hx ih e;cases hxs
   | cons y ys=>
    dsimp only[Hf] at e;refine bE2 e ?_;clear e;intro u hp1 e1 e;refine bE e ?_;clear e;intro t e2 e;intro A Y s Q E H F P;refine BoolOp_or (h1 _ _ _ _ _ _ _ _ hx e1 A Y s _ _ H F λY1 h1' t1 ru S1 r1=> ?_);refine Ij e2 A Y1 {s with heap:=h1',toks:=t1} [ru] _ _ (H.step S1) (Ev r1) λY2 h2 t2 S2=> ?_;cases t with
    | false=>exact ih hxs e A Y2 _ _ _ ((H.step S1).step S2) (F.ev H.inv (S1.trans S2)) λY3 h3 t3 rv S3 r3=>P Y3 h3 t3 rv ((S1.trans S2).trans S3) r3
    | true=>cases e;exact P Y2 h2 t2 ru (S1.trans S2) (S2.vr _ _ r1)
theorem fX{tb:Tab}{r:R}(h1:TrS X tb r){env U}: ∀{es xs hp b hp'},cXs tb env.scope.names es=some xs->Dj r d U xs hp=some (b,hp')->
  Bn X d (allTrue .And es env) env U hp b hp':=by
 intro es;induction es with
 | nil=>
  clear h1;intro xs hp b hp' hc e;dsimp only[cXs] at hc;cases hc;dsimp only[Dj] at e;cases e;intro A Y s Q E H F P;exact wpAny_allTrue_And_nil (P Y s.heap s.toks (Ac.refl _ H.inv))
 | cons a as ih=>
  intro xs hp b hp' hc e;dsimp only[cXs] at hc;refine bE' hc ?_;clear hc;intro x hx hc;refine mE hc ?_;clear hc;intro xs hxs hc;subst hc;dsimp only[Dj] at e;refine bE2 e ?_;clear e;intro u hp1 e1 e;intro A Y s Q E H F P;refine wpAny_allTrue_And_cons (h1 _ _ _ _ _ _ _ _ hx e1 A Y s _ _ H F λY1 h1' t1 S1=> ?_);cases u with
  | true=>exact ih hxs e A Y1 _ _ _ (H.step S1) (F.ev H.inv S1) λY3 h3 t3 S3=>P Y3 h3 t3 (S1.trans S3)
  | false=>cases e;exact P Y1 h1' t1 S1
theorem dL{tb:Tab}{r:R}(h1:TrS X tb r){env U}: ∀{es xs hp b hp'},cXs tb env.scope.names es=some xs->Gi r d U xs hp=some (b,hp')->
  Bn X d (allTrue .Or es env) env U hp b hp':=by
 intro es;induction es with
 | nil=>
  clear h1;intro xs hp b hp' hc e;dsimp only[cXs] at hc;cases hc;dsimp only[Gi] at e;cases e;intro A Y s Q E H F P;exact wpAny_allTrue_Or_nil (P Y s.heap s.toks (Ac.refl _ H.inv))
 | cons a as ih=>
  intro xs hp b hp' hc e;dsimp only[cXs] at hc;refine bE' hc ?_;clear hc;intro x hx hc;refine mE hc ?_;clear hc;intro xs hxs hc;subst hc;dsimp only[Gi] at e;refine bE2 e ?_;clear e;intro u hp1 e1 e;intro A Y s Q E H F P;refine wpAny_allTrue_Or_cons (h1 _ _ _ _ _ _ _ _ hx e1 A Y s _ _ H F λY1 h1' t1 S1=> ?_);cases u with
  | false=>exact ih hxs e A Y1 _ _ _ (H.step S1) (F.ev H.inv S1) λY3 h3 t3 S3=>P Y3 h3 t3 (S1.trans S3)
  | true=>cases e;exact P Y1 h1' t1 S1
end Mine
namespace Mine
variable {X:Fx} {d:Nat} {hp:HP}
noncomputable abbrev Bt(id:String):List Value->Sem Value:=λrvs=>call (.builtin id) rvs []
noncomputable abbrev Fp(T:String):List Value->Sem Value:=λrvs=>call (.type T) rvs []
theorem Bl.kept{Y s v Q h' rv}(P:Bl X Y s hp v Q){A:Around}(H:Ah X A d Y s hp)(hk: ∀b o,s.heap.get? b=some o->h'.get? b=some o)(r: ∀Y h,Ab X Y h v rv)(tk:Nat):
  Q rv {s with heap:=h',toks:=tk}:=P Y h' tk rv (Ac.ext H.inv hk) (r _ _)
theorem Gd{Y h n t}:Ab X Y h (.int n) (.int n t):=by dsimp only[Ab];exact⟨t,rfl⟩
set_option tactic.hygienic true in
theorem Ku{Y h}: ∀{xs:List V} {vs:List Value} {ns:List Int},intsV xs=some ns->VRels X Y h xs vs->IntsAre vs ns:=by
 intro xs;induction xs with
 | nil=>intro vs ns e r;dsimp only[VRels] at r;subst r;cases e;exact .nil
 | cons x xs ih=>
  intro vs ns e r;dsimp only[VRels] at r;refine x23 r ?_;clear r;intro v q z2 p r;subst z2
  (first|exact nn x|cases x) <;> dsimp only[intsV] at e <;> try (first|exact nn e|cases e)
  rename_i n;refine mE e ?_;clear e;intro ms hm e;subst e;dsimp only[Ab] at p;refine x11 p ?_;clear p;intro t z1;subst z1;exact .cons n t (ih hm r)
theorem M4{h:Heap}{a:cK}{vs:Array Value}{n:Nat}(g:h.get? a=some {cls:= .type "list",data:= .seq vs n}):h.IsList a vs.toList.toArray:=by
 rw[g2E];exact isList_of g
theorem lW{i:Nat}{xs:List V}(e:lget hp i=some xs):Ai X d (Bt "len") [.lst i] hp (.int xs.length) hp:=by
 intro A Y s rvs Q E H r P;refine x12 (Bv r) ?_;intro p z1 rp;subst z1;clear r;refine x35 (Aw H.inv rp e) ?_;intro a vs n z3 hs bd g rs;subst z3;have hl:=A7 rs;have hl':vs.size=xs.length:=by simpa using hl
 refine gBH (isList_of g) (Q36 hl' bd) ?_;rw[hl'];exact P.int H _ _
theorem lX{x:Str}:Ai X d (Bt "len") [.str x] hp (.int (chars x).length) hp:=by
 intro A Y s rvs Q E H r P;refine x12 (Bv r) ?_;intro p z1 rp;subst z1;dsimp only[Ab] at rp;clear r;refine x12 rp ?_;clear rp;intro t z1 hx;subst z1;have:x.length=x.cps.size:=rfl;have:=hx.1;refine len_str (Q48 ‹_› this) ?_;rw[D5] at P;exact P.int H _ _
theorem jX{ns:List Int}:Ai X d (Bt "len") [.ro ns] hp (.int ns.length) hp:=by
 intro A Y s rvs Q E H r P;refine x12 (Bv r) ?_;intro p z1 rp;subst z1;dsimp only[Ab] at rp;clear r;refine x35 rp ?_;clear rp;intro a vs n z3 _ bd g q;subst z3;have hl:=q.length;have hl':vs.size=ns.length:=by simpa using hl
 refine gBH (isList_of g) (Q49 hl' bd) ?_;rw[hl'];exact P.int H _ _
set_option tactic.hygienic true in
theorem dX{a b:Int}:Ai X d (Bt "min") [.int a,.int b] hp (.int (if b < a then b else a)) hp:=by
 intro A Y s rvs Q E H r P;refine x23 (Bq r) ?_;intro p q z2 rp rq;subst z2;dsimp only[Ab] at rp rq;clear r;refine x11 rp ?_;clear rp;intro t z1;subst z1;refine x11 rq ?_;clear rq;intro u z1;subst z1;refine min_two_ints H.room.handled λh' tk hk=> ?_;split
 ·rename_i c;rw[if_pos c] at P;exact P.kept H hk (λ_ _=>Gd) tk
 ·rename_i c;rw[if_neg c] at P;exact P.kept H hk (λ_ _=>Gd) tk
set_option tactic.hygienic true in
theorem kE: ∀(l:List Int) (m:Int),C6 m l∈m::l/\∀a∈m::l,C6 m l<=a:=by
 intro l;induction l with
 | nil=>intro m;exact⟨bN ..,λa h=>by rw[aK.mp h];exact g3X _⟩
 | cons x l ih=>
  intro m;dsimp only[C6];split
  ·rename_i c
   refine x02 (ih x) ?_;intro h1 h2;refine⟨aX _ h1,λa h=> ?_⟩;clear ih h1;rcases bM.mp h with rfl|h
   ·have:=h2 x (bN ..);exact Q50 this c
   ·exact h2 a h
  ·rename_i c
   refine x02 (ih m) ?_;intro h1 h2;refine⟨?_,λa h=> ?_⟩
   ·clear ih c h2;rcases bM.mp h1 with h1|h1
    ·rw[h1];exact bN ..
    ·exact aX _ (aX _ h1)
   ·clear ih h1;rcases bM.mp h with rfl|h
    ·exact h2 _ (bN ..)
    ·rcases bM.mp h with rfl|h
     ·have:=h2 m (bN ..);exact Q51 this (g1U.1 c)
     ·exact h2 a (aX _ h)
theorem Yp{i:Nat}{xs:List V}{a:Int}{l:List Int}(e:lget hp i=some xs)(e2:intsV xs=some (a::l)):Ai X d (Bt "min") [.lst i] hp (.int (C6 a l)) hp:=by
 intro A Y s rvs Q E H r P;refine x12 (Bv r) ?_;intro p z1 rp;subst z1;clear r;refine x35 (Aw H.inv rp e) ?_;intro ad vs n z3 hs bd g rs;subst z3;have hi:=Ku e2 rs;refine x11 hi.allInts.items ?_;intro ys ey;have hns:a::l=ys.toList.map (·.1):=by rw[<-hi.numsOf,<-nums_intItems,<-ey]
 have hsz:0 < ys.size:=by
  have:=congrArg g2K hns;simp at this;exact Q52 this.symm
 have hl:=M4 g;rw[ey] at hl;refine min_intList H.room.handled hl hsz λv h' tk hv hk=> ?_;clear e e2 hs g rs rp hi ey hl;refine x11 (intItems_at hv) ?_;intro t z1;subst z1;refine x02 (argBest_lt (g9O ys) (ys.size - 1)) ?_;intro h1 h2;have m1:g9O ys (argBest (λi j=>decide (g9O ys i < g9O ys j)) (ys.size - 1))∈a::l:=by
  rw[hns,numAt_eq];exact getD_mem (by rw[aO,g0G];exact Q53 h1 hsz)
 refine x02 (kE l a) ?_;intro m2 m3;have m4: ∀x∈a::l,g9O ys (argBest (λi j=>decide (g9O ys i < g9O ys j)) (ys.size - 1))<=x:=by
  intro x hx;rw[hns] at hx;clear H P hns hk hv m1 m2 m3;refine x12 (mem_getD hx) ?_;intro j hj z2;subst z2;rw[aO,g0G] at hj;rw[<-numAt_eq];exact h2 j (Q54 hj)
 have:g9O ys (argBest (λi j=>decide (g9O ys i < g9O ys j)) (ys.size - 1))=C6 a l:=bX (m4 _ m2) (m3 _ m1);rw[this];exact P.kept H hk (λ_ _=>Gd) tk
theorem Zj{i:Nat}{xs:List V}{ns:List Int}(e:lget hp i=some xs)(e2:intsV xs=some ns):Ai X d (Bt "sum") [.lst i] hp (.int ns.sum) hp:=by
 intro A Y s rvs Q E H r P;refine x12 (Bv r) ?_;intro p z1 rp;subst z1;clear r;refine x35 (Aw H.inv rp e) ?_;intro ad vs n z3 hs bd g rs;subst z3;have hi:=Ku e2 rs;refine x11 hi.allInts.items ?_;intro ys ey;have hns:ns=ys.toList.map (·.1):=by rw[<-hi.numsOf,<-nums_intItems,<-ey]
 have hl:=M4 g;rw[ey] at hl;refine sum_intListG H.room.handled hl λh' tk t' hk=> ?_;have:preSum (g9O ys) ys.size=ns.sum:=by
  rw[preSum_eq,hns];congr 1;exact g2R (g4D mmV)
 rw[this];exact P.kept H hk (λ_ _=>Gd) tk
theorem Fq{α:Type}{l:List α}{i:Nat}{d:α}(h:i < l.length):l[i]? =some (l.getD i d):=by simp[h]
theorem Uv{α:Type}(l:List α)(d:α):(aN l.length).map (λi=>l.getD i d)=l:=by
 apply g4R
 ·rw[aO,g2A]
 ·intro i h1 h2
  rw[g3G,g5X];exact aB ((Fq h2).symm.trans (aD h2))
theorem Qt{α:Type}{p:Array Nat}{i:Nat}{f:Nat->α}(h:i < p.size):(p.toList.map f)[i]? =some (f p[i]):=by simp[h]
theorem Nj{p:Array Nat}{i:Nat}(h:i < p.size):p.getD i 0=p[i]:=by simp[gDA,h]
theorem Sw(ns:List Int):Bk ns=firstMet (λi=>ns.getD i 0) ns.length:=by
 have e:=Uv ns 0;dsimp only[firstMet,Bk];rw[e];congr 1;funext acc k;dsimp only[step_dedup];congr 1;congr 1;congr 1;funext b;rw[beqInt_eq];clear e;by_cases h:b=k <;> rfl
set_option tactic.hygienic true in
theorem Oq{a b c:Int}(hc:0 < c):g0T a b c=(rangeSize a b c:Nat):=by
 dsimp only[g0T,rangeSize];rw[if_pos hc];split
 ·rename_i h
  split
  ·rename_i h1
   subst h1;rw[Int.ediv_one];exact Q55 h
  ·have:0<=(b - a - 1) / c:=gBO (Q56 h) (Q5 hc)
   exact Q57 this
 ·rename_i h
  split
  ·exact R13 h
  ·rfl
theorem fl_of{n:Int}(h: -(2 ^ 63)<=n/\n < 2 ^ 63):g8K n=true:=aV.2 ⟨decide_eq_true h.1,decide_eq_true h.2⟩
theorem Rl{n:Int}(h:fit n=true): -(2 ^ 62)<=n/\n < 2 ^ 62:=(aV.1 h).imp of_decide_eq_true of_decide_eq_true
theorem fl_fit{n:Int}(h: -(2 ^ 62)<=n/\n < 2 ^ 62):g8K n=true:=fl_of ⟨g3E (by decide) h.1,g9C h.2 (by decide)⟩
theorem Nw{a b c:Int}(ha:fit a=true)(hb:fit b=true)(hc:0 < c)(hc':c < 1000):g6M a b c=true:=by
 have A:=Rl ha;have B:=Rl hb;clear ha hb;have R: -(2 ^ 63)<=g0T a b c/\g0T a b c < 2 ^ 63:=by
  dsimp only[g0T];rw[if_pos hc];split
  ·have h1:=gBO (a:=b - a - 1) (b:=c) (Q56 ‹_›) (Q5 hc)
   have h2:(b - a - 1) / c<=b - a - 1:=Int.ediv_le_self _ (Q56 ‹_›);have h3:b - a < 2 ^ 62 - -(2 ^ 62):=Int.sub_lt_sub_of_lt_of_le B.2 A.1;exact⟨g3E (by decide) (Int.add_nonneg h1 (by decide)),Int.lt_of_lt_of_le (gAI (Int.add_le_of_le_sub_right h2) h3) (by decide)⟩
  ·exact⟨by decide,by decide⟩
 refine aV.2 ⟨aV.2 ⟨aV.2 ⟨aV.2 ⟨fl_fit A,fl_fit B⟩,fl_of ⟨g3E (by decide) (gCY hc),g9C hc' (by decide)⟩⟩,fl_of R⟩,(g9L ..).2 (.inr ?_)⟩;rw[if_pos hc];exact fl_of ⟨g3E (by decide) (g5N B.1 (Int.le_sub_one_of_lt hc)),g9C (Int.add_lt_add B.2 (gAI (Int.sub_le_self c (by decide)) hc')) (by decide)⟩
end Mine
namespace Mine
variable {X:Fx} {d:Nat} {hp:HP}
theorem BL{c:Int}(h:0 < c)(h':c < 1000):c.natAbs < 1073741824:=g8X (Int.ofNat_lt.1 (by rw[Int.natAbs_of_nonneg (gCY h)];exact h':((c.natAbs:Nat):Int) < ((1000:Nat):Int))) (by decide)
theorem Ac.newAt{Y h hp h' a}{vs:Array Value}{xs:List V}{n:Nat}(I:Inv X Y h hp)(hk: ∀b o,h.get? b=some o->h'.get? b=some o)(ha:h.get? a=none)(hn:X.n1<=a)
  (g:h'.get? a=some {cls:= .type "list",data:= .seq vs n}) (bd:xs.length<=200) (r:VRels X (Y++[a]) h' xs vs.toList):
  Ac X [] Y h (Y++[a]) h' (hp++[.l xs]):=by
 have hs: ∀(i:Nat) b,Y[i]? =some b->(Y++[a])[i]? =some b:=λi b e=>getElem?_append_of_some e;have vr:=D6 (X:=X) hs (λb o e _=>hk b o e);have vrs:=vrels_still (X:=X) hs (λb o e _=>hk b o e);have ne: ∀b∈Y,b≠a:=by
  intro b hm he;clear hk hn bd r vr vrs;subst he;obtain⟨i,hi,rfl⟩:=g0O hm;have hi':i < hp.length:=I.len▸hi;have:=I.ob i hp[i] Y[i] (aD hi') (aD hi);clear I hm;cases hq:hp[i] with
  | l xs=>rw[hq] at this;refine x23 this ?_;clear this;intro vs n _ g _;rw[ha] at g;exact nn g
  | d l=>rw[hq] at this;refine x42 this ?_;clear this;intro b hs t n _ g;rw[ha] at g;exact nn g
 refine⟨⟨[a],rfl,λb hb=>by rw[aK.mp hb];exact ha⟩,⟨I.kin.keeps hk,Np I.len,?_,?_,λi o b e1 e2=> ?_⟩,λb o e _ _=>hk b o e,λb o e=>⟨o,hk b o e⟩,vr⟩
 ·rw[g2T]
  refine⟨I.nd,by simp,λx hx b hb=> ?_⟩;rw[aK.mp hb];exact ne x hx
 ·intro b hb
  clear hk ha g bd r hs vr vrs ne;rcases aY.mp hb with hb|hb
  ·exact I.ge b hb
  ·rw[aK.mp hb];exact hn
 ·clear ha vr ne;by_cases hi:i < hp.length
  ·rw[bT hi] at e1
   rw[bT (I.len▸hi)] at e2;have:=I.ob i o b e1 e2;clear I hn e1 e2 hi;cases o with
   | l xs=>
    refine x23 this ?_;clear this;intro vs n bd g r;exact⟨vs,n,bd,hk _ _ g,vrs _ _ r⟩
   | d l=>
    refine x42 this ?_;clear this;intro b hs' t n e g;exact⟨b,hs',t,n,hs _ _ e,hk _ _ g⟩
  ·have hi:=g4T hi
   rw[cI hi] at e1;rw[cI (I.len▸hi),I.len] at e2;refine x11 (aF.mp e1) ?_;intro hlt e;have hz:i - hp.length=0:=by simp at hlt;exact Q1 hlt
   rw[hz] at e1 e2;clear I hk hn hs vrs hi hlt e hz;cases e1;cases e2;exact⟨vs,n,bd,g,r⟩
set_option tactic.hygienic true in
theorem Bl.newAt{Y s hp hp' v Q h' a}{A:Around}{xs:List V}{vs:Array Value}{n:Nat}(P:Bl X Y s hp' v Q)(H:Ah X A d Y s hp)(e:Mine.alloc hp xs=some (v,hp'))
  (hk: ∀b o,s.heap.get? b=some o->h'.get? b=some o) (ha:s.heap.objs.size<=a)
  (g:h'.get? a=some {cls:= .type "list",data:= .seq vs n}) (r:VRels X (Y++[a]) h' xs vs.toList) (tk:Nat):Q (.ref a) {s with heap:=h',toks:=tk}:=by
 unfold Mine.alloc at e;split at e
 ·rename_i bd
  cases e;refine P (Y++[a]) h' tk (.ref a) (Ac.newAt H.inv hk (g0E ha) (bR H.big ha) g bd r) ?_;dsimp only[Ab];exact⟨a,by rw[<-H.inv.len];exact cF,rfl⟩
 ·exact nn e
theorem mP{Y h}: ∀{vs:List Value} {ns:List Int},IntsAre vs ns->VRels X Y h (ns.map V.int) vs:=by
 intro vs ns i;induction i with
 | nil=>rfl
 | cons n t _ ih=>exact vrels_cons' Gd ih
section
variable {α:Type} {lt:α->α->Bool}
theorem insertBy_perm(x:α): ∀l:List α,(D4 lt x l).Perm (x::l)
 | []=> .refl _
 | y::r=>by
  dsimp only[D4];split
  ·exact .refl _
  ·exact((insertBy_perm x r).cons y).trans (.swap x y r)
theorem Vw: ∀(l acc:List α),(l.foldl (λr x=>D4 lt x r) acc).Perm (acc++l)
 | [],acc=>by simp
 | x::l,acc=>by
  refine(Vw l (D4 lt x acc)).trans ?_;refine(((insertBy_perm x acc)).append_right l).trans ?_;exact(gAM (l₁:=acc) (a:=x) (l₂:=l)).symm
theorem Kz(l:List α):(isort lt l).Perm l:=by have h:=Vw (lt:=lt) l [];simpa[isort] using h
set_option tactic.hygienic true in
theorem insertBy_sorted(tr: ∀a b c,lt b a=false->lt c b=false->lt c a=false)(asym: ∀a b,lt a b=true->lt b a=false)(x:α):
  ∀l:List α,l.Pairwise (λa b=>lt b a=false)->(D4 lt x l).Pairwise (λa b=>lt b a=false)
 | [],_=>by dsimp only[D4];simp
 | y::r,h=>by
  dsimp only[D4];refine x02 (g5V.mp h) ?_;intro h1 h2;split
  ·rename_i c
   refine g5V.mpr ⟨λz hz=> ?_,h⟩;clear h h2;rcases bM.mp hz with rfl|hz
   ·exact asym _ _ c
   ·exact tr _ _ _ (asym _ _ c) (h1 z hz)
  ·rename_i c
   refine g5V.mpr ⟨λz hz=> ?_,insertBy_sorted tr asym x r h2⟩;clear tr asym h h2;rcases bM.mp ((insertBy_perm x r).mem_iff.mp hz) with rfl|hz
   ·simpa using c
   ·exact h1 z hz
theorem Vy(tr: ∀a b c,lt b a=false->lt c b=false->lt c a=false)(asym: ∀a b,lt a b=true->lt b a=false):
  ∀(l acc:List α),acc.Pairwise (λa b=>lt b a=false)->(l.foldl (λr x=>D4 lt x r) acc).Pairwise (λa b=>lt b a=false)
 | [],_,h=>h
 | x::l,acc,h=>Vy tr asym l _ (insertBy_sorted tr asym x acc h)
theorem Vs(tr: ∀a b c,lt b a=false->lt c b=false->lt c a=false)(asym: ∀a b,lt a b=true->lt b a=false)(l:List α):
  (isort lt l).Pairwise (λa b=>lt b a=false):=Vy tr asym l [] List.Pairwise.nil
theorem Tb(tr: ∀a b c,lt b a=false->lt c b=false->lt c a=false)(asym: ∀a b,lt a b=true->lt b a=false)(tot: ∀a b,lt a b=false->lt b a=false->a=b){l l':List α}
  (p:l'.Perm l) (s:l'.Pairwise (λa b=>lt b a=false)):l'=isort lt l:=
 List.Perm.eq_of_pairwise (le:=λa b=>lt b a=false) (λa b _ _ h1 h2=>tot a b h2 h1) s (Vs tr asym l) (p.trans (Kz l).symm)
end
theorem Ux{ns ns':List Int}(p:ns'.Perm ns)(s:ns'.Pairwise (· <= ·)):ns'=isort (λa b=>decide (a < b)) ns:=
 Tb (λa b c h1 h2=>by simp at h1 h2 ⊢;exact Q51 h1 h2) (λa b h=>by simp at h ⊢;exact Q59 h) (λa b h1 h2=>by simp at h1 h2;exact Q60 h2 h1) p (s.imp λh=>by simpa using h)
theorem kY{i:Nat}{xs:List V}{ns:List Int}{w hp'}(e:lget hp i=some xs)(e2:intsV xs=some ns)(h64:xs.length < 64)
  (ea:Mine.alloc hp ((isort (λa b=>decide (a < b)) ns).map V.int)=some (w,hp')):Ai X d (Bt "sorted") [.lst i] hp w hp':=by
 intro A Y s rvs Q E H r P;refine x12 (Bv r) ?_;intro p z1 rp;subst z1;clear r;refine x35 (Aw H.inv rp e) ?_;intro ad vs n z3 hs bd g rs;subst z3;have hi:=Ku e2 rs;have hl:=A7 rs;refine sorted_ints (M4 g) hi (Q61 hl h64) λout ns' hi' hp' ho=> ?_;rw[<-Ux hp' ho] at ea;refine x11 (sortedAll_at s.heap vs.toList out) ?_;intro k gk;exact P.newAt (h':=sortedAll s.heap vs.toList out) H ea (λ_ _=>sortedAll_old) (g5Q _) gk (mP hi') s.toks
theorem nD{a c:Int}: ∀{n:Nat} {acc:List Value} {j:Nat},acc.length=n->(∀(i:Nat) (v:Value),acc[i]? =some v->∃t,v= .int (a+((j+i:Nat):Int)*c) t)->∀{Y h},VRels X Y h (B3 (a+(j:Int)*c) c n) acc:=by
 intro n;induction n with
 | zero=>intro acc j hl _ Y h;dsimp only[B3,VRels];exact g0R.mp hl
 | succ n ih=>
  intro acc j hl ha Y h;cases acc with
  | nil=>contradiction
  | cons x r=>
   obtain⟨t,rfl⟩:=ha 0 x (rfl);dsimp only[B3];refine vrels_cons' (by simpa using Gd) ?_;have:=ih (acc:=r) (j:=j+1) (by simpa using hl) (λi v e=>by
    clear ih;obtain⟨t,q⟩:=ha (i+1) v (by simpa using e);exact⟨t,by rw[q];congr 2;congr 1;exact Q62⟩) (Y:=Y) (h:=h)
   have e:a+(j:Int)*c+c=a+((j+1:Nat):Int)*c:=by rw[g3W,g7T];exact yL
   rw[e];exact this
theorem intsV_inv: ∀{vs:List V} {ns:List Int},intsV vs=some ns->vs=ns.map .int:=by
 intro vs;induction vs with
 | nil=>intro ns h;exact s1 (P:=λns=>[]=g7E V.int ns) h rfl
 | cons v r ih=>
  intro ns h;cases v <;> first|exact nn h|skip
  refine mE h ?_;clear h;intro l e h;rw[ih e,<-h];rfl
theorem Vl{vs:List V}{j:Itr}(e:B5 vs=some j): ∃cur step left,j= .rng cur step left:=by
 refine bE' e ?_;clear e;intro ns hn e;clear hn;have key: ∀{c:Prop} [Decidable c] {a b:Int} {n:Nat},(if c then some (Itr.rng a b n) else none)=some j->∃cur step left,j= .rng cur step left:=by
  intro c _ a b n e;split at e
  ·exact⟨a,b,n,(aB e).symm⟩
  ·exact nn e
 cases ns with
 | nil=>exact nn e
 | cons a l=>cases l with
 | nil=>exact key e
 | cons b l=>cases l with
 | nil=>exact key e
 | cons c l=>cases l with
 | nil=>exact key e
 | cons _ _=>exact nn e
set_option tactic.hygienic true in
theorem To{vs:List V}{cur step:Int}{left:Nat}(e:B5 vs=some (.rng cur step left))(A:Around)(Y:List cK)(s:Shared)(rvs:List Value)(Q E:Value->Shared->Prop)(H:Ah X A d Y s hp)
  (r:VRels X Y s.heap vs rvs) (P: ∀b r t u v h' tk,(∀b o,s.heap.get? b=some o->h'.get? b=some o)->IsRange h' r cur b step t u v->g6M cur b step=true->g0T cur b step=left->
   Q (.ref r) {s with heap:=h',toks:=tk}):cA (mdl X) A (Fp "range" rvs) Q E s:=by
 refine bE' e ?_;clear e;intro ns hn e;cases intsV_inv hn;clear hn H;cases ns with
 | nil=>exact nn e
 | cons a l=>cases l with
 | nil=>
  replace e:(if fit a then some (Itr.rng 0 1 (Mine.rangeSize 0 a 1)) else none)=some (.rng cur step left):=e;split at e
  ·rename_i hb
   cases e;refine x12 (Bv r) ?_;intro p z1 rp;subst z1;dsimp only[Ab] at rp;clear r;refine x11 rp ?_;clear rp;intro t z1;subst z1;exact call_range_1 (P _ _ _ _ _ _ _ (λ_ _ e=>bS _ e) (gBE ..) (Nw (rfl) hb (by decide) (by decide)) (Oq (by decide)))
  ·exact nn e
 | cons b l=>cases l with
 | nil=>
  replace e:(if fit a && fit b then some (Itr.rng a 1 (Mine.rangeSize a b 1)) else none)=some (.rng cur step left):=e;split at e
  ·rename_i hb
   cases e;refine x23 (Bq r) ?_;intro p q z2 rp rq;subst z2;dsimp only[Ab] at rp rq;clear r;refine x11 rp ?_;clear rp;intro t z1;subst z1;refine x11 rq ?_;clear rq;intro u z1;subst z1;simp only[aI] at hb;exact call_range_2 (P b _ _ _ _ _ _ (λ_ _ e=>bS _ e) (gBE ..) (Nw hb.1 hb.2 (by decide) (by decide)) (Oq (by decide)))
  ·exact nn e
 | cons c l=>cases l with
 | cons _ _=>exact nn e
 | nil=>
  replace e:(if fit a && fit b && decide (0 < c) && decide (c < 1000) then some (Itr.rng a c (Mine.rangeSize a b c)) else none)=some (.rng cur step left):=e;split at e
  ·rename_i hb
   cases e;refine x23 r ?_;clear r;intro p r' z2 rp r2;subst z2;refine x23 (Bq r2) ?_;intro q q2 z2 rq rq2;subst z2;dsimp only[Ab] at rp rq rq2;clear r2;refine x11 rp ?_;clear rp;intro t z1;subst z1;refine x11 rq ?_;clear rq;intro u z1;subst z1;refine x11 rq2 ?_;clear rq2;intro v z1;subst z1;simp only[aI,decide_eq_true_eq] at hb;have h1:=hb.1.1.1;have h2:=hb.1.1.2;refine call_range_3 (Int.ne_of_gt hb.1.2) (P b _ _ _ _ _ _ (λ_ _ e=>bS _ e) (gBE ..) (Nw h1 h2 hb.1.2 hb.2) (Oq hb.1.2)) (Or.inl ?_);exact PyProof.noPylong_small (BL hb.1.2 hb.2)
  ·exact nn e
theorem nQ{vs:List V}{cur step:Int}{left:Nat}{w hp'}(e:B5 vs=some (.rng cur step left))(hn:left<=200)(ea:Mine.alloc hp (B3 cur step left)=some (w,hp'))(A:Around)(Y:List cK)(s:Shared)(b:Int)(r:cK)(t u v:Tok)(Q E:Value->Shared->Prop)(H:Ah X A d Y s hp)
  (hr:IsRange s.heap r cur b step t u v) (hs:g6M cur b step=true) (hz:g0T cur b step=left) (P:Bl X Y s hp' w Q):cA (mdl X) A (Fp "list" [.ref r]) Q E s:=by
 refine call_list_range H.room.handled hr hs hz (bR hn (by decide)) λh' tk acc' c' hk hg hi=> ?_;refine P.newAt H ea hk (bJ _) hg ?_ tk;have:=nD (X:=X) (a:=cur) (c:=step) (n:=left) (acc:=acc'.toList) (j:=0) (by simpa using hi.1) (λi v e=>by
  clear hn ea H hr hs hz P hk hg;obtain⟨t,q⟩:=hi.2 i v (by simpa using e);exact⟨t,by rw[q];simp⟩) (Y:=Y++[s.heap.objs.size]) (h:=h')
 simpa using this
theorem Zd{i:Nat}{xs:List V}{ns:List Int}(e:lget hp i=some xs)(e2:intsV xs=some ns)(hn:ns.length<=20)(A:Around)(Y:List cK)(s:Shared)(rv:Value)(Q E:Value->Shared->Prop)(H:Ah X A d Y s hp)
  (r:Ab X Y s.heap (.lst i) rv) (P: ∀a h' tk,(∀b o,s.heap.get? b=some o->h'.get? b=some o)->(∃S,h'.SetOf (intKind X.prog X.w) a S (Bk ns).length)->Q (.ref a) {s with heap:=h',toks:=tk}):
  cA (mdl X) A (Fp "set" [rv]) Q E s:=by
 refine x35 (Aw H.inv r e) ?_;intro ad vs n z3 hs bd g rs;subst z3;have hi:=Ku e2 rs;have hl:=hi.length;have hl':vs.size=ns.length:=by simpa using hl
 refine call_set_list H.room.handled (isList_of g) hi (by have:scanBound≥100:=(aT rfl);exact Q63 hl' hn this rfl) λh' tk hS hk=> ?_;rw[hl',<-Sw] at hS;exact P _ h' tk (λb o e=>hk b o (g1T e) e) ⟨_,hS⟩
theorem jY{Y:List cK}{s:Shared}{A:Around}{a:cK}{S n}{Q E:Value->Shared->Prop}(hS:s.heap.SetOf (intKind X.prog X.w) a S n)(hn:n<=1000)(H:Ah X A d Y s hp)(P:Bl X Y s hp (.int n) Q):
  cA (mdl X) A (Bt "len" [.ref a]) Q E s:=by
 refine x48 hS ?_;clear hS;intro o es ep t ho hx hd _ _ _ hf z11;subst z11;exact call_len_set ho hx hd hf (Q64 hn) (P.int H _ _)
end Mine
namespace Mine
variable {X:Fx} {d:Nat} {hp:HP}
theorem Jk{o:Expr}{name:Str}{env:Env}(h:C2 o=false):attributeBase o name env (eval o env)=eval o env:=by
 cases o <;> first|rfl|cases h
theorem nZ{α:Type}{xs:List α}{v:α}(h:xs.getLast? =some v):xs=xs.dropLast++[v]:=by
 cases xs with
 | nil=>exact nn h
 | cons a l=>
  rw[List.getLast?_eq_some_getLast (g0J _ _)] at h;cases h;exact(g3J (g0J _ _)).symm
theorem nO{Y h}: ∀{xs ys:List V} {vs:List Value},VRels X Y h (xs++ys) vs->∃p q,vs=p++q/\VRels X Y h xs p/\VRels X Y h ys q:=by
 intro xs;induction xs with
 | nil=>intro ys vs r;exact⟨[],vs,rfl,rfl,r⟩
 | cons x xs ih=>
  intro ys vs r;have r:VRels X Y h (x::(xs++ys)) vs:=r;dsimp only[VRels] at r;obtain⟨v,q,rfl,p,r⟩:=r;obtain⟨p',q',rfl,r1,r2⟩:=ih r;exact⟨v::p',q',rfl,vrels_cons' p r1,r2⟩
theorem append_ok{i:Nat}{xs:List V}{v:V}(e:lget hp i=some xs)(bd:xs.length < 200):Ai X d (Bt "list.append") [.lst i,v] hp .none (hp.set i (.l (xs++[v]))):=by
 intro A Y s rvs Q E H r P;refine x23 (Bq r) ?_;intro p q z2 rp rq;subst z2;clear r;refine x35 (Aw H.inv rp e) ?_;intro a vs n z3 hs _ g rs;subst z3;have hl:=A7 rs;have hl':vs.size=xs.length:=by simpa using hl
 refine g9G PySem.F.slot_list_append ⟨_,g,rfl⟩ PySem.F.entry_list_append (PySem.F.args_list_append_2 _ _) (PySem.AutoListH.list_append_list_val_0 a vs n q (by rw[g0Q];exact Q65 hl' bd rfl)) ⟨g,?_⟩;have u:=PySem.IsL.update (h:=s.heap) g (λx=>x.push q);refine P Y _ s.toks .none (Ac.setList H.inv hs (g1D ..) u (by simp;exact Q66 bd rfl) ?_) (rfl);simpa using Og rs (Ev rq)
theorem pop_ok{i:Nat}{xs:List V}{v:V}(e:lget hp i=some xs)(el:xs.getLast? =some v):Ai X d (Bt "list.pop") [.lst i] hp v (hp.set i (.l xs.dropLast)):=by
 intro A Y s rvs Q E H r P;refine x12 (Bv r) ?_;intro p z1 rp;subst z1;clear r;refine x35 (Aw H.inv rp e) ?_;intro a vs n z3 hs bd g rs;subst z3;have hl:=A7 rs;have hl':vs.size=xs.length:=by simpa using hl
 have sp:=nZ el;have hpos:0 < xs.length:=by rw[sp];simp
 rw[sp] at rs;refine x23 (nO rs) ?_;intro p q epq r1 r2;clear e el rs rp sp;refine x12 (Bv r2) ?_;intro y z1 ry;subst z1;have ev:vs=(p++[y]).toArray:=by rw[<-epq,g2E]
 clear epq r2;subst ev;refine g9G PySem.F.slot_list_pop ⟨_,g,rfl⟩ PySem.F.entry_list_pop (PySem.F.args_list_pop_1 _) (PySem.MeetsSeq.list_pop_last a _ n y (by rw[g2S,aP,List.getElem?_toArray];exact cF) (by rw[g0Q];exact Q46 hl' bd rfl)) ⟨g,?_⟩;have u:=PySem.IsL.update (h:=s.heap) g (λx=>x.eraseIdxIfInBounds ((p++[y]).toArray.size - 1));have hd:xs.dropLast.length<=200:=by simp;exact Q31 bd rfl
 have S:=Ac.setList H.inv hs (g1D ..) u hd ?_
 ·exact P Y _ s.toks y S (S.vr _ _ ry)
 ·have:((p++[y]).toArray.eraseIdxIfInBounds ((p++[y]).toArray.size - 1)).toList=p:=by
   simp[g6A,List.eraseIdx_append_of_length_le]
  rw[this];exact r1
set_option tactic.hygienic true in
theorem iN{Y h}: ∀{xs:List V} {vs:List Value} {ss:List Str},E3 xs=some ss->VRels X Y h xs vs->vs.length=ss.length/\∀(i:Nat) (x:Str),ss[i]? =some x->∃t,vs[i]? =some (.str x t):=by
 intro xs;induction xs with
 | nil=>intro vs ns e r;dsimp only[VRels] at r;subst r;cases e;exact⟨rfl,λi x h=>by contradiction⟩
 | cons x xs ih=>
  intro vs ns e r;dsimp only[VRels] at r;refine x23 r ?_;clear r;intro v q z2 p r;subst z2
  (first|exact nn x|cases x) <;> dsimp only[E3] at e <;> try (first|exact nn e|cases e)
  rename_i n;refine mE e ?_;clear e;intro ms hm e;subst e;dsimp only[Ab] at p;refine x12 p ?_;clear p;intro t z1 _;subst z1;refine x02 (ih hm r) ?_;intro h1 h2;refine⟨congrArg _ ‹_›,λi x hx=> ?_⟩;clear ih r hm h1;cases i with
  | zero=>simp at hx;subst hx;exact⟨t,rfl⟩
  | succ i=>simpa using h2 i x (by simpa using hx)
noncomputable def BD(x:Str):Value->Bool
 | .str y _=>decide (y=x)
 | _=>false
theorem Md{vs:Array Value}{j:Nat}{w:Value}(hj:j < vs.size)(h:vs.toList[j]? =some w):vs[j]=w:=by simpa[hj] using h
theorem remove_ok{i:Nat}{xs:List V}{ss:List Str}{x:Str}{k:Nat}(e:lget hp i=some xs)(e2:E3 xs=some ss)(ek:ss.findIdx? (λt=>Bb (chars t) (chars x))=some k):
  Ai X d (Bt "list.remove") [.lst i,.str x] hp .none (hp.set i (.l (xs.eraseIdx k))):=by
 intro A Y s rvs Q E H r P;refine x23 (Bq r) ?_;intro p q z2 rp rq;subst z2;clear r;refine x35 (Aw H.inv rp e) ?_;intro a vs n z3 hs bd g rs;subst z3;dsimp only[Ab] at rq;clear e rp;refine x12 rq ?_;clear rq;intro t z1 hx;subst z1;have hl:=A7 rs;have hl':vs.size=xs.length:=by simpa using hl
 refine x02 (iN e2 rs) ?_;intro h1 h2;have h1':vs.size=ss.length:=by simpa using h1
 refine x12 (List.findIdx?_eq_some_iff_getElem.mp ek) ?_;intro k1 k2 k3;have seqD: ∀a b:Str,Bb (chars a) (chars b)=decide (a=b):=λa b=>by rw[Ha];exact decide_eq_decide.mpr (by rw[Nn])
 refine g9G PySem.F.slot_list_remove ⟨_,g,rfl⟩ PySem.F.entry_list_remove (PySem.F.args_list_remove_2 _ _)
  (PySem.MeetsSeq.list_remove a vs n (.str x t) (BD x) (λy hy=> ?_) k (Q67 k1 hl' h1.symm hl.symm) ?_ (λm hm hmk=> ?_) (by rw[g0Q];exact Q46 hl' bd rfl)) ⟨g,?_⟩
 ·clear e2 ek H P hs g rs hx k2 k3 seqD;obtain⟨j,hj,rfl⟩:=Array.mem_iff_getElem.mp hy
  clear hy;have hjs:=Q67 hj h1.symm hl' hl;obtain⟨u,hu⟩:=h2 j ss[j] (aD hjs);have:vs[j]= .str ss[j] u:=Md hj hu;rw[this];intro prog w A E s Q hq;exact g7Y hq
 ·clear e2 ek H P hs g rs hx k3;obtain⟨u,hu⟩:=h2 k ss[k] (aD (Q24 k1))
  have hk:k < vs.size:=Q67 k1 hl' h1.symm hl.symm;have:vs[k]= .str ss[k] u:=Md hk hu;rw[this];rw[seqD] at k2;assumption
 ·clear e2 ek H P hs g rs hx k2;have hms:=Q68 hmk k1
  obtain⟨u,hu⟩:=h2 m ss[m] (aD hms);have:vs[m]= .str ss[m] u:=Md hm hu;rw[this];have:=k3 m hmk;rw[seqD] at this;exact Bool.eq_false_iff.2 this
 ·have u:=PySem.IsL.update (h:=s.heap) g (λy=>y.eraseIdxIfInBounds k)
  refine P Y _ s.toks .none (Ac.setList H.inv hs (g1D ..) u (by have:=List.length_eraseIdx_le xs k;exact Q45 this bd) ?_) (rfl);have:(vs.eraseIdxIfInBounds k).toList=vs.toList.eraseIdx k:=by simp[g6A]
  rw[this];exact Vq k rs
theorem oB: ∀c,c < 128->gDK c=[C0 c]:=by
 have: ∀c:Fin 128,gDK c=[C0 c]:=by decide+kernel
 exact λc h=>this ⟨c,h⟩
theorem gF{x:Str}(h:B8 x):Txt.lower x=Aj ((chars x).map C0):=by
 have e:(x.cps.mapIdx λi _=>(gDL x.cps i).toArray)=x.cps.map λc=> #[C0 c]:=by
  apply Array.ext
  ·simp
  ·intro i h1 h2
   simp only[Array.size_mapIdx] at h1;have hc:=h.2 x.cps[i] (by simp);simp only[Array.getElem_mapIdx,Array.getElem_map];dsimp only[gDL];rw[g7U h1];have:(x.cps[i]==0x3A3)=false:=by simp;exact Q69 hc rfl
   simp[this,oB _ hc]
 dsimp only[Txt.lower,placed];rw[e];dsimp only[Aj,chars];congr 1;apply Array.toList_inj.mp;simp[Array.toList_flatten,cB,Function.comp_def];clear h e;induction x.cps.toList with
 | nil=>rfl
 | cons a l ih=>exact congrArg _ ‹_›
set_option tactic.hygienic true in
theorem lower_ok{x:Str}:Ai X d (Bt "str.lower") [.str x] hp (.str (Aj ((chars x).map C0))) hp:=by
 intro A Y s rvs Q E H r P;refine x12 (Bv r) ?_;intro p z1 rp;subst z1;dsimp only[Ab] at rp;clear r;refine x12 rp ?_;clear rp;intro t z1 hx;subst z1;have hn:=hx.1;have:x.length=x.cps.size:=rfl;have e:=gF hx;have ok:B8 (Aj ((chars x).map C0)):=by
  refine⟨by simp[Aj,chars];exact hx.1,λc hc=> ?_⟩;simp[Aj,chars] at hc;clear H P e;refine x12 hc ?_;clear hc;intro b hb z2;subst z2;have:=hx.2 b (by simpa using hb);clear hx hb;dsimp only[C0];split
  ·rename_i hc;simp at hc;exact Q70 hc.2 rfl
  ·exact Q24 this
 refine SCL.lower (Q46 this hn rfl) λ_=> ?_;rw[e];exact P.str H ok _ _
theorem fS{x y:Str}{c:Nat}(hx:chars x=[97,98,99,100,101])(hy:chars y=[c])(h1:97<=c)(h2:c<=101):Ai X d (Bt "str.index") [.str x,.str y] hp (.int (c - 97:Nat)) hp:=by
 intro A Y s rvs Q E H r P;refine x23 (Bq r) ?_;intro p q z2 rp rq;subst z2;dsimp only[Ab] at rp rq;clear r;refine x12 rp ?_;clear rp;intro t z1 _;subst z1;refine x12 rq ?_;clear rq;intro u z1 _;subst z1;have ex:x=Aj [97,98,99,100,101]:=by rw[<-hx];rfl
 have ey:y=Aj [c]:=by rw[<-hy];rfl
 clear hx hy;subst ex;subst ey;have hc:c=97\/c=98\/c=99\/c=100\/c=101:=R16 h1 h2;refine SC.index (i:=c - 97) (rest:=[]) ?_ (P.int H _ _);clear H P;rcases hc with rfl|rfl|rfl|rfl|rfl <;> decide+kernel
theorem join_ok{x y:Str}{i:Nat}(e:lget hp i=some [.str y]):Ai X d (Bt "str.join") [.str x,.lst i] hp (.str y) hp:=by
 intro A Y s rvs Q E H r P;refine x23 (Bq r) ?_;intro p q z2 rp rq;subst z2;clear r;refine x35 (Aw H.inv rq e) ?_;intro a vs n z3 hs bd g rs;subst z3;dsimp only[Ab] at rp;clear e hs rq;refine x12 rp ?_;clear rp;intro t z1 hx;subst z1;refine x12 (Bv rs) ?_;intro v hv rv;dsimp only[Ab] at rv;clear rs;refine x12 rv ?_;clear rv;intro u z1 hy;subst z1;have ev:vs=(strValues [(y,u)]).toArray:=by rw[<-g2E (xs:=vs),hv];rfl
 clear hv;subst ev;refine g9G PySem.F.slot_str_join (typeIs_str s x t) PySem.F.entry_str_join (PySem.F.args_str_join_2 _ _) (meets_str_join_list x t a [(y,u)] ?_) ⟨isList_of g,?_⟩
 ·have h1:=hx.1
  have h2:=hy.1;have e1:x.length=x.cps.size:=rfl;have e2:y.length=y.cps.size:=rfl;simp[Builtin.Str.tooLong];rw[g0Q];exact Q3 e2 e1 h2 h1 rfl
 ·exact P.str H hy u _
end Mine
namespace Mine
variable {X:Fx} {d:Nat} {hp:HP}
noncomputable def Fi(X:Fx)(r:R):Prop:= ∀d a vs hp v hp',r.call d a vs hp=some (v,hp')->g3C X.K (.ref a)=true/\Ai X d (λrvs=>call (.ref a) rvs []) vs hp v hp'
theorem Kx{tb:Tab}{sc:Sc}{env:Env}{pos:Pos}: ∀{es xs},cXs tb sc es=some xs->cM es env=es.map (λe=>(false,eval e env)):=by
 intro es;induction es with
 | nil=>intro xs _;rfl
 | cons a as ih=>
  intro xs hc;dsimp only[cXs] at hc;refine bE' hc ?_;clear hc;intro x hx hc;refine mE hc ?_;clear hc;intro ys hys hc;have ha:cM (a::as) env=(false,eval a env)::cM as env:=by
   (first|exact nn a|cases a) <;> first|rfl|(dsimp only[cX] at hx;(first|exact nn hx|cases hx))
  rw[ha,ih hys];rfl
theorem Hb{es:List Expr}{env:Env}{pos:Pos}(h:cM es env=es.map (λe=>(false,eval e env))):g3F pos (cM es env)=es.map (λe=>(false,eval e env)):=by
 rw[h];unfold g3F;rw[cB];rfl
theorem Ol{M:Model}{A:Around}{E:Value->Shared->Prop}{s:Shared}{f:Value}{ts:List (Sem Value)}{Q:Args->Shared->Prop}(h:cA M A (g2L (ts.map λt=>(false,t))) (λvs s'=>Q ⟨vs,[]⟩ s') E s):
  cA M A (evalArgs f true (ts.map λt=>(false,t)) []) Q E s:=by
 cases ts with
 | cons t ts=>exact evalArgs_plain h
 | nil=>
  unfold evalArgs;show cA M A (g2L [] >>= _) Q E s;refine aG (g1M h (λvs s' h'=>aG (aQ ?_)) λ_ _ x=>x);refine g0S ?_;exact aG (aQ (aG (aQ (aQ h'))))
theorem iR{es:List Expr}{env:Env}:es.map (λe=>((false,eval e env):Bool×Sem Value))=(es.map (λe=>eval e env)).map λt=>(false,t):=by rw[cB];rfl
noncomputable def Ni(X:Fx)(f:Value):Prop:=g3C X.K f=true\/(∃id,f= .builtin id)\/∃T,f= .type T
theorem Hj{A:Around}{E:Value->Shared->Prop}{s:Shared}{f:Value}{first:List Value}{es:List Expr}{env:Env}{pos:Pos}{Q:Value->Shared->Prop}(hk:Ni X f)(hs:cM es env=es.map (λe=>(false,eval e env)))
  (h:cA (mdl X) A (g2L (g3F pos (cM es env))) (λvs s₁=>X.K.In s₁.heap/\cA (mdl X) A (call f (first++vs) []) Q E s₁) E s):
  cA (mdl X) A (callWith pos f first (g3F pos (cM es env)) []) Q E s:=by
 rw[Hb hs,iR] at h ⊢;have hpl:((es.map (λe=>eval e env)).map λt=>((false,t):Bool×Sem Value)).any (·.1)=false:=gAH.2 λx hx=>(bI.1 hx).elim λ_ z=>z.2▸bD;rcases hk with hk|⟨id,rfl⟩|⟨T,rfl⟩
 ·exact callWith_of (by rw[hpl];rfl) (keeps_K hk) (Ol h)
 ·exact callWith_builtin hpl (Ol (g1M h (λ_ _ x=>x.2) λ_ _ x=>x))
 ·exact PyProof.Rows.callWith_type hpl (Ol (g1M h (λ_ _ x=>x.2) λ_ _ x=>x))
theorem Ad.call{tb:Tab}{f:Value}{n np pos env U es xs vs hp1 w hp2}(T:A0 X tb)(hn:Ao tb env.scope.names n=some (.k (.imm f)))(hk:Ni X f)(hc:cXs tb env.scope.names es=some xs)
  (x:Bj X d (g2L (g3F pos (cM es env))) env U hp vs hp1) (o:Ai X d (λrvs=>PySem.call f rvs []) vs hp1 w hp2):Ad X d (eval (.Call (.Name n np) es [] pos) env) env U hp w hp2:=by
 intro A Y s Q E H F P;refine gCM (Dq T (e0:=⟨λ_=>none,λ_ _ _=>none,λ_=>none,false⟩) (r:=Df) hn rfl A Y s _ _ H F λY1 h1 t1 rv S1 r1=> ?_);dsimp only[Ab] at r1;subst r1;refine Hj hk (Kx (pos:=pos) hc) (x A Y1 _ _ _ (H.step S1) (F.ev H.inv S1) λY2 h2 t2 rvs S2 r2=>⟨S2.inv.kin,?_⟩);exact o A Y2 _ rvs _ _ ((H.step S1).step S2) r2 λY3 h3 t3 rw S3 r3=>P Y3 h3 t3 rw ((S1.trans S2).trans S3) r3
theorem Hr{α:Type}{l:List α}{v}(h:as1 l=some v):l=[v]:=by
 rcases l with _|⟨v,_|⟨u,r⟩⟩
 ·exact nn h
 ·exact congrArg (λv=>[v]) (aB h)
 ·exact nn h
theorem as2_of{l:List V}{p}(h:as2 l=some p):l=[p.1,p.2]:=by
 rcases l with _|⟨v,_|⟨u,_|⟨w,r⟩⟩⟩
 ·exact nn h
 ·exact nn h
 ·exact congrArg (λp:V×V=>[p.1,p.2]) (aB h)
 ·exact nn h
theorem Ht{vs:List V}{i}(h:asL vs=some i):vs=[.lst i]:=bE' h λv hv h=>(Hr hv).trans (congrArg (λv=>[v]) (vL_inv h))
theorem Jj{vs:List V}{i}(h:asS vs=some i):vs=[.str i]:=bE' h λv hv h=>(Hr hv).trans (congrArg (λv=>[v]) (vS_inv h))
set_option tactic.hygienic true in
theorem lL{f:Value}{vs:List V}{w:V}{hp':HP}(hsort: ∀i xs ps w hp',lget hp i=some xs->intsV xs=none->xs.mapM Fy=some ps->2<=xs.length->xs.length < 64->Mine.alloc hp ((isort ltPair ps).map Be)=some (w,hp')->Ai X d (Bt "sorted") [.lst i] hp w hp')
  (e:builtin f vs hp=some (w,hp')): ∃id,f= .builtin id/\Ai X d (Bt id) vs hp w hp':=by
 cases f <;> try exact nn e
 rename_i id;replace e:Nl id vs hp=some (w,hp'):=e;dsimp only[Nl] at e;split at e
 ·rename_i hid;subst hid;clear hsort
  refine⟨_,rfl,oE e (λe=>oE e (λe=>bE' e λns hv e=> ?_) λs hv e=> ?_) λi hv e=>bE' e λxs h1 e=> ?_⟩
  ·rw[bE' hv λv hv h=>(Hr hv).trans (congrArg (λv=>[v]) (vRo_inv h))];exact s2 e jX
  ·rw[Jj hv];exact s2 e lX
  ·rw[Ht hv];exact s2 e (lW h1)
 ·split at e
  ·rename_i hid;subst hid;clear hsort
   refine⟨_,rfl,oE e (λe=>bE' e λi hv e=>bE' e λxs h1 e=>bE' e λns h2 e=>bE' e λm h3 e=> ?_) λp hv e=> ?_⟩
   ·rw[Ht hv]
    cases ns with
    | nil=>exact nn h3
    | cons a l=>cases h3;exact s2 e (Yp h1 h2)
   ·rw[bE' hv λq hq h=>bE' h λa ha h=>bE' h λb hb h=>(as2_of hq).trans (s1 (P:=λp:Int×Int=>[q.1,q.2]=[.int p.1,.int p.2]) h (by rw[vI_inv ha,vI_inv hb]))]
    exact s2 e dX
  ·split at e
   ·rename_i hid;subst hid;clear hsort
    refine⟨_,rfl,bE' e λi hv e=>bE' e λxs h1 e=>bE' e λns h2 e=>iE e λhb e=> ?_⟩;rw[Ht hv];cases e;exact Zj h1 h2
   ·split at e
    ·rename_i hid;subst hid
     refine⟨_,rfl,bE' e λi hv e=>bE' e λxs h1 e=>iE2 e (λhb e=>bE' e λys h2 e=> ?_) λ_ e=>nn e⟩;rw[Ht hv];simp only[aI,decide_eq_true_eq] at hb;cases hns:intsV xs with
     | some ns=>
      rw[Eg,hns] at h2;cases h2;exact kY h1 hns hb.2 e
     | none=>
      rw[Eg,hns] at h2;refine mE h2 ?_;intro ps h3 h2;subst h2;exact hsort _ _ _ _ _ h1 hns h3 hb.1 hb.2 e
    ·exact nn e
noncomputable def Da:Mth->Str
 | .append=>"append"
 | .pop=>"pop"
 | .remove=>"remove"
 | .lower=>"lower"
 | .index=>"index"
 | .join=>"join"
 | .getall=>"get_all"
 | .addh=>"add_header"
 | .items=>"items"
theorem jI{n:Str}{m:Mth}(h:O8 n=some m):n=Da m:=by
 dsimp only[O8] at h
 repeat' split at h
 all_goals first|((first|exact nn h|cases h);assumption)|(first|exact nn h|cases h)
structure Mb(X:Fx)(d:Nat)(m:Mth)(ov:V)(vs:List V)(hp:HP)(w:V)(hp':HP)(T id:String):Prop where
 pa:PlainAttrs T
 slot:Slot T (Da m) id
 ty:typeOf (.builtin id)=pure (.type "method_descriptor")
 op:Ai X d (Bt id) (ov::vs) hp w hp'
set_option tactic.hygienic true in
theorem method_ok{m:Mth}{ov:V}{vs:List V}{w:V}{hp':HP}(e:C1 m ov vs hp=some (w,hp')):
  (∃i id,ov= .lst i/\Mb X d m ov vs hp w hp' "list" id)\/(∃x id,ov= .str x/\Mb X d m ov vs hp w hp' "str" id):=by
 cases m <;> try exact nn e
 ·refine bE' e λi ho e=>bE' e λv hv e=>bE' e λxs h1 e=> ?_
  rw[vL_inv ho,Hr hv];replace e:(if xs.length < 200 then some (V.none,hp.set i (.l (xs++[v]))) else none)=some (w,hp'):=e;split at e
  ·rename_i hb
   cases e;exact .inl ⟨_,_,rfl,PySem.F.plainAttrs_list,PySem.F.slot_list_append,PySem.F.type_list_append,append_ok h1 hb⟩
  ·exact nn e
 ·refine bE' e λi ho e=>iE2 e (λha e=>bE' e λxs h1 e=>bE' e λv hv e=> ?_) λ_ e=>nn e
  rw[vL_inv ho,cJ.1 ha];cases e;exact .inl ⟨_,_,rfl,PySem.F.plainAttrs_list,PySem.F.slot_list_pop,PySem.F.type_list_pop,pop_ok h1 hv⟩
 ·refine bE' e λi ho e=>bE' e λv hv e=>bE' e λxs h1 e=>bE' e λss h2 e=>bE' e λk hk e=> ?_
  rw[vL_inv ho,Jj hv];cases e;exact .inl ⟨_,_,rfl,PySem.F.plainAttrs_list,PySem.F.slot_list_remove,PySem.F.type_list_remove,remove_ok h1 h2 hk⟩
 ·refine bE' e λi ho e=>iE e λha e=> ?_
  rw[vS_inv ho,cJ.1 ha];cases e;exact .inr ⟨_,_,rfl,PySem.F.plainAttrs_str,PySem.F.slot_str_lower,PySem.F.type_str_lower,lower_ok⟩
 ·refine bE' e λs ho e=>bE' e λu hv e=>iE2 e (λh1 e=>bE' e λc h2 e=>iA e λhb hb2 e=> ?_) λ_ e=>nn e
  rw[vS_inv ho,Jj hv];cases e;refine .inr ⟨_,_,rfl,PySem.F.plainAttrs_str,PySem.F.slot_str_index,PySem.F.type_str_index,fS ?_ (Hr h2) (aT hb) (aT hb2)⟩;rw[Ha] at h1;exact of_decide_eq_true h1
 ·refine bE' e λs ho e=>bE' e λi hv e=>bE' e λxs h1 e=>bE' e λu hu e=> ?_
  rw[vS_inv ho,Ht hv];cases e;rw[Jj hu] at h1;exact .inr ⟨_,_,rfl,PySem.F.plainAttrs_str,PySem.F.slot_str_join,PySem.F.type_str_join,join_ok h1⟩
end Mine
namespace Mine
variable {X:Fx} {d:Nat} {hp:HP}
theorem Nx{M:Model}{A:Around}{E:Value->Shared->Prop}{s:Shared}{env:Env}{o:Expr}{name:Str}{apos pos:Pos}{args:List Expr}{Q:Value->Shared->Prop}(hb:C2 o=false)(hs:cM args env=args.map (λe=>(false,eval e env)))
  (hlen:args.length+2<=28) (hline:(apos.endLine==pos.line)=true)
  (h:cA M A (eval o env) (λov s₁=> ∀pl,cA M A (getMethod ov name pl) (λfp s₂=>cA M A (callWith pos fp.1 fp.2 (g3F pos (cM args env)) []) Q E s₂) E s₁) E s):
  cA M A (eval (.Call (.Attribute o name apos) args [] pos) env) Q E s:=by
 rw[arm_eval_Call,Jk hb];refine aG (g1M h (λov s₁ h₁=> ?_) λ_ _ e=>e);refine aG (g1J ?_);have hform:g6C (args.length+([]:List Keyword).length) (g3F pos (cM args env)) (backToKw pos (gBB [] env))=true:=by
  rw[Hb hs];dsimp only[g6C];have:args.length < 30:=Q71 hlen rfl;exact aV.2 ⟨aV.2 ⟨bB.2 λx hx=>(bI.1 hx).elim λ_ z=>z.2▸rfl,rfl⟩,decide_eq_true this⟩
 have hpos:g7A true o env apos pos=pure pos:=by dsimp only[g7A];exact if_pos ‹_›
 dsimp only[methodCall];rw[hform];refine aG (g0S (g1M (h₁ _) (λfp s₂ h₂=> ?_) λ_ _ e=>e));exact aG (g8E hpos h₂)
theorem Ad.methB{m:Mth}{T id:String}{n o apos es pos env U ov hp1 vs hp2 w hp3}(hn:n=Da m)(hb:C2 o=false)(hline:(apos.endLine==pos.line)=true)(hlen:es.length+2<=28)(hs:cM es env=es.map (λe=>(false,eval e env)))
  (x:Ad X d (eval o env) env U hp ov hp1) (y:Bj X d (g2L (g3F pos (cM es env))) env U hp1 vs hp2) (mo:Mb X d m ov vs hp2 w hp3 T id)
  (hT: ∀Y (s:Shared) rv,Inv X Y s.heap hp1->Ab X Y s.heap ov rv->s.TypeIs rv T/\∀a,rv= .ref a->∃ob,s.heap.get? a=some ob/\ob.dict=none):
  Ad X d (eval (.Call (.Attribute o n apos) es [] pos) env) env U hp w hp3:=by
 intro A Y s Q E H F P;subst hn;refine Nx hb hs hlen hline (x A Y s _ _ H F λY1 h1 t1 ro S1 r1 pl=> ?_);refine x02 (hT Y1 {s with heap:=h1,toks:=t1} ro S1.inv r1) ?_;intro ty hd;refine gCA ty mo.pa mo.slot mo.ty hd ?_;refine Hj (.inr (.inl ⟨_,rfl⟩)) hs (y A Y1 _ _ _ (H.step S1) (F.ev H.inv S1) λY2 h2 t2 rvs S2 r2=>⟨S2.inv.kin,?_⟩);exact mo.op A Y2 _ (ro::rvs) _ _ ((H.step S1).step S2) (vrels_cons' (S2.vr _ _ r1) r2) λY3 h3 t3 rw S3 r3=>P Y3 h3 t3 rw ((S1.trans S2).trans S3) r3
theorem gG{i:Nat}(hi: ∃xs,lget hp i=some xs): ∀Y (s:Shared) rv,Inv X Y s.heap hp->Ab X Y s.heap (.lst i) rv->s.TypeIs rv "list"/\∀a,rv= .ref a->∃ob,s.heap.get? a=some ob/\ob.dict=none:=by
 intro Y s rv I r;refine x11 hi ?_;clear hi;intro xs e;refine x35 (Aw I r e) ?_;intro a vs n z3 hs bd g rs;subst z3;exact⟨⟨_,g,rfl⟩,λb hb=>by cases hb;exact⟨_,g,rfl⟩⟩
theorem iM{x:Str}: ∀Y (s:Shared) rv,Inv X Y s.heap hp->Ab X Y s.heap (.str x) rv->s.TypeIs rv "str"/\∀a,rv= .ref a->∃ob,s.heap.get? a=some ob/\ob.dict=none:=by
 intro Y s rv I r;dsimp only[Ab] at r;refine x12 r ?_;clear r;intro t z1 _;subst z1;exact⟨typeIs_str s x t,λa h=>by cases h⟩
structure Ot(X:Fx)(e0:Ag):Prop where
 ga:g3I X.K (.ref X.CH) "__getattribute__"=some (some (.builtin "object.__getattribute__"))
 noga:g3I X.K (.ref X.CH) "__getattr__"=some none
 meth: ∀m a,e0.mt m=some a->m≠ .remove->g3I X.K (.ref X.CH) (Da m)=some (some (.ref a))/\g6P X.K (.ref a)=some (.type "function")
 dict:g8W X.K X.CH=true
 attr:g3I X.K (.ref X.CH) "_headers"=some none
theorem gI{m:Mth}:Da m≠aM "_headers":=by cases m <;> decide
theorem Kd{Y:List cK}{s:Shared}{i l:Nat}{rv:Value}(I:Inv X Y s.heap hp)(r:Ab X Y s.heap (.hdr i) rv)(hi:hp[i]? =some (.d l)):
  ∃x a b hs t n,rv= .ref x/\Y[l]? =some b/\Y[i]? =some a/\InstAt s.heap x {cls:= .ref X.CH,dict:=some a,data:= .plain} X.CH (some {cls:= .type "dict",data:= .dict #[⟨hs,.str (aM "_headers") t,.ref b⟩] n}):=by
 dsimp only[Ab] at r;refine x23 r ?_;clear r;intro x a ea z3 g;subst z3;refine x42 (I.ob i _ a hi ea) ?_;intro b hs t n eb gb;exact⟨x,a,b,hs,t,n,rfl,eb,ea,⟨g,rfl,rfl,gb⟩⟩
theorem Ad.methH{e0:Ag}(HK:Ot X e0){m:Mth}{g:cK}{n o apos es pos env U i l hp1 vs hp2 w hp3}(hn:n=Da m)(hm:e0.mt m=some g)(hr:m≠ .remove)(hb:C2 o=false)(hline:(apos.endLine==pos.line)=true)(hlen:es.length+2<=28)(hs:cM es env=es.map (λe=>(false,eval e env)))
  (x:Ad X d (eval o env) env U hp (.hdr i) hp1) (hl:hp1[i]? =some (.d l)) (y:Bj X d (g2L (g3F pos (cM es env))) env U hp1 vs hp2) (hk:g3C X.K (.ref g)=true) (mo:Ai X d (λrvs=>PySem.call (.ref g) rvs []) (.hdr i::vs) hp2 w hp3):
  Ad X d (eval (.Call (.Attribute o n apos) es [] pos) env) env U hp w hp3:=by
 intro A Y s Q E H F P;subst hn;refine Nx hb hs hlen hline (x A Y s _ _ H F λY1 h1 t1 ro S1 r1 pl=> ?_);refine x64 (Kd (s:={s with heap:=h1,toks:=t1}) S1.inv r1 hl) ?_;intro xa a b hsh t k z6 _ _ I;subst z6;refine x02 (HK.meth m g hm hr) ?_;intro q1 q2;refine method_fn (s:={s with heap:=h1,toks:=t1}) S1.inv.kin I HK.ga HK.noga q1 q2 ?_ ?_
 ·dsimp only[shadowIn,lookIn]
  have:g5A (.str (aM "_headers") t) (Da m)=false:=by
   dsimp only[g5A];simpa using λh=>gI (m:=m) h.symm
  simp[this,DictEntry.refKey]
 refine Hj (.inl hk) hs (y A Y1 _ _ _ (H.step S1) (F.ev H.inv S1) λY2 h2 t2 rvs S2 r2=>⟨S2.inv.kin,?_⟩);exact mo A Y2 _ (.ref xa::rvs) _ _ ((H.step S1).step S2) (vrels_cons' (S2.vr _ _ r1) r2) λY3 h3 t3 rw S3 r3=>P Y3 h3 t3 rw ((S1.trans S2).trans S3) r3
theorem Ad.hds{e0:Ag}(HK:Ot X e0){o pos env U i l hp1}(hb:C2 o=false)(x:Ad X d (eval o env) env U hp (.hdr i) hp1)(hl:hp1[i]? =some (.d l)):Ad X d (eval (.Attribute o "_headers" pos) env) env U hp (.lst l) hp1:=by
 intro A Y s Q E H F P;refine Attribute_any_ (x A Y s _ _ H F λY1 h1 t1 ro S1 r1=> ?_) (he:=by
  show (attributeBase o "_headers" env (eval o env) >>= _)=_;rw[Jk hb])
 refine x64 (Kd (s:={s with heap:=h1,toks:=t1}) S1.inv r1 hl) ?_;intro xa a b hsh t k z6 eb _ I;subst z6;refine get_value (s:={s with heap:=h1,toks:=t1}) (v:= .ref b) S1.inv.kin I HK.ga (findObj_own HK.dict HK.attr rfl ?_) rfl ?_
 ·dsimp only[lookIn]
  have:g5A (.str (aM "_headers") t) "_headers"=true:=by
   dsimp only[g5A];rfl
  rfl
 ·exact P Y1 h1 _ (.ref b) S1 (by dsimp only[Ab];exact⟨b,eb,rfl⟩)
end Mine
namespace Mine
variable {X:Fx} {d:Nat} {hp:HP}
structure A3(X:Fx)(tb:Tab)(e0:Ag):Prop where
 tab:A0 X tb
 hd:Ot X e0
 len:tb.gl.lookup (aM "len")=some (V.imm (.builtin "len"))
 set:tb.gl.lookup (aM "set")=some (V.imm (.type "set"))
 list:tb.gl.lookup (aM "list")=some (V.imm (.type "list"))
 range:tb.gl.lookup (aM "range")=some (V.imm (.type "range"))
 srt: ∀d hp i xs ps w hp',lget hp i=some xs->intsV xs=none->xs.mapM Fy=some ps->2<=xs.length->xs.length < 64->Mine.alloc hp ((isort ltPair ps).map Be)=some (w,hp')->Ai X d (Bt "sorted") [.lst i] hp w hp'
 cvt:e0.cv=true->∃a,g3I X.K (.ref X.CH) "_convert_string_type"=some (some (.ref a))/\g6P X.K (.ref a)=some (.type "function")/\g3C X.K (.ref a)=true/\
  ∀d hp i l x b,1<=d->hp[i]? =some (O.d l)->(chars x).all Dm=true->(chars x).length=1->Ai X d (λrvs=>call (.ref a) rvs [("name",.bool b)]) [.hdr i,.str x] hp (.str x) hp
theorem Ms{tb:Tab}{sc:Sc}{es:List Expr}{x:Mine.X}(h:cXs tb sc es=some [x]): ∃e,es=[e]/\cX tb sc e=some x:=by
 cases es with
 | nil=>dsimp only[cXs] at h;cases h
 | cons a as=>
  dsimp only[cXs] at h;refine bE' h ?_;clear h;intro y hy h;refine mE h ?_;clear h;intro ys hys h;cases h;cases as with
  | nil=>exact⟨a,rfl,hy⟩
  | cons b bs=>
   dsimp only[cXs] at hys;refine bE' hys ?_;clear hys;intro _ _ hys;refine mE hys ?_;clear hys;intro _ _ hys;cases hys
theorem Sd{e:Expr}{env:Env}{tb:Tab}{sc:Sc}{x:Mine.X}(h:cX tb sc e=some x):cM [e] env=[(false,eval e env)]:=by
 (first|exact nn e|cases e) <;> first|rfl|(dsimp only[cX] at h;(first|exact nn h|cases h))
theorem oA{tb:Tab}{sc:Sc}{n:Str}{v:V}(h:Bh sc n=true)(hd:n≠aM "__debug__")(hv:tb.gl.lookup n=some v):Ao tb sc n=some (.k v):=by
 dsimp only[Bh] at h;have h:=beq_iff_eq.mp h;dsimp only[Ao];rw[if_neg hd,h];show (tb.gl.lookup n).map Mine.X.k=_;rw[hv];rfl
theorem cV{tb:Tab}{e0:Ag}(Z:A3 X tb e0){n np env U f}(h:Bh env.scope.names n=true)(hd:n≠aM "__debug__")(hv:tb.gl.lookup n=some (.imm f)):Ad X d (eval (.Name n np) env) env U hp (.imm f) hp:=
 Dq Z.tab (e0:=e0) (r:=Df) (oA h hd hv) rfl
theorem H9{tb:Tab}{e0:Ag}(Z:A3 X tb e0){n np env U f es pos}(h:Bh env.scope.names n=true)(hd:n≠aM "__debug__")(hv:tb.gl.lookup n=some (.imm f))(hk:Ni X f)(hs:cM es env=es.map (λe=>(false,eval e env))){A:Around}{Y:List cK}{s:Shared}{Q E:Value->Shared->Prop}(H:Ah X A d Y s hp)(F:Ak X Y env U s.heap)
  (P: ∀Y1 h1 t1,Ac X [] Y s.heap Y1 h1 hp->cA (mdl X) A (g2L (g3F pos (cM es env))) (λvs s'=>X.K.In s'.heap/\cA (mdl X) A (call f vs []) Q E s') E {s with heap:=h1,toks:=t1}):
  cA (mdl X) A (eval (.Call (.Name n np) es [] pos) env) Q E s:=by
 refine gCM (cV Z h hd hv A Y s _ _ H F λY1 h1 t1 rv S1 r1=> ?_);dsimp only[Ab] at r1;subst r1;exact Hj (first:=[]) hk hs (P Y1 h1 t1 S1)
set_option tactic.hygienic true in
theorem Vr{sc:Sc}{m:Str}{es:List Expr}(h:Gb sc m es=true): ∃np args p,es=[.Call (.Name m np) args [] p]/\Bh sc m=true:=by
 cases es with
 | nil=>exact nf h
 | cons e r=>
  cases e <;> first|exact nf h|skip
  rename_i f args k p;cases f <;> first|exact nf h|skip
  rename_i n np;cases k with
  | cons _ _=>exact nf h
  | nil=>cases r with
   | cons _ _=>exact nf h
   | nil=>
    replace h:(decide (n=m) && Bh sc n)=true:=h;rw[aI,decide_eq_true_eq] at h;exact h.1▸⟨_,_,_,rfl,h.2⟩
set_option tactic.hygienic true in
theorem mU{sc:Sc}{f:Expr}{args:List Expr}{k:List Keyword}{p:Pos}(h:J6 sc (.Call f args k p)=true): ∃np,f= .Name "range" np/\k=[]/\Bh sc "range"=true:=by
 cases f <;> first|exact nf h|skip
 rename_i n np;cases k with
 | cons _ _=>exact nf h
 | nil=>
  replace h:(decide (n="range") && Bh sc n)=true:=h;rw[aI,decide_eq_true_eq] at h;exact h.1▸⟨np,rfl,rfl,h.2⟩
theorem dI{tb:Tab}{e0:Ag}(Z:A3 X tb e0){np np2 p2 pos env U e i xs ns hp1}(h1:Bh env.scope.names "len"=true)(h2:Bh env.scope.names "set"=true)(hn:cM [e] env=[(false,eval e env)])
  (x:Ad X d (eval e env) env U hp (.lst i) hp1) (e1:lget hp1 i=some xs) (e2:intsV xs=some ns) (hl:ns.length<=20):
  Ad X d (eval (.Call (.Name "len" np) [.Call (.Name "set" np2) [e] [] p2] [] pos) env) env U hp (.int (Bk ns).length) hp1:=by
 intro A Y s Q E H F P;refine H9 Z h1 (by decide) Z.len (.inr (.inl ⟨_,rfl⟩)) rfl H F λY1 h1' t1 S1=> ?_;rw[Hb rfl];refine g7B ?_;refine H9 Z h2 (by decide) Z.set (.inr (.inr ⟨_,rfl⟩)) hn (H.step S1) (F.ev H.inv S1) λY2 h2' t2 S2=> ?_;rw[Hb hn];refine g7B (x A Y2 _ _ _ ((H.step S1).step S2) ((F.ev H.inv S1).ev S1.inv S2) λY3 h3 t3 rv S3 r3=>g7Z ⟨S3.inv.kin,?_⟩);refine Zd (s:={s with heap:=h3,toks:=t3}) e1 e2 hl A Y3 rv _ _ (((H.step S1).step S2).step S3) r3 λa h4 t4 hk hS=> ?_;have S4:=Ac.ext S3.inv hk;refine g7Z ⟨S4.inv.kin,?_⟩;refine x11 hS ?_;clear hS;intro S hS;have hb:(Bk ns).length<=1000:=by
  rw[Sw];have:=firstMet_length_le (λi=>ns.getD i 0) ns.length;exact Q72 this hl rfl
 refine jY (s:={s with heap:=h4,toks:=t4}) hS hb ⟨H.room,S4.inv⟩ λY5 h5 t5 rw S5 r5=> ?_;exact P Y5 h5 t5 rw ((((S1.trans S2).trans S3).trans S4).trans S5) r5
theorem dO{tb:Tab}{e0:Ag}(Z:A3 X tb e0){np np2 p2 pos env U es vs hp1 cur step left w hp2}(h1:Bh env.scope.names "list"=true)(h2:Bh env.scope.names "range"=true)(hn:cM es env=es.map (λe=>(false,eval e env)))
  (x:Bj X d (g2L (g3F p2 (cM es env))) env U hp vs hp1) (e1:B5 vs=some (.rng cur step left)) (hl:left<=200) (ea:Mine.alloc hp1 (B3 cur step left)=some (w,hp2)):
  Ad X d (eval (.Call (.Name "list" np) [.Call (.Name "range" np2) es [] p2] [] pos) env) env U hp w hp2:=by
 intro A Y s Q E H F P;refine H9 Z h1 (by decide) Z.list (.inr (.inr ⟨_,rfl⟩)) rfl H F λY1 h1' t1 S1=> ?_;rw[Hb rfl];refine g7B ?_;refine H9 Z h2 (by decide) Z.range (.inr (.inr ⟨_,rfl⟩)) hn (H.step S1) (F.ev H.inv S1) λY2 h2' t2 S2=> ?_;refine x A Y2 _ _ _ ((H.step S1).step S2) ((F.ev H.inv S1).ev S1.inv S2) λY3 h3 t3 rvs S3 r3=>⟨S3.inv.kin,?_⟩;refine To (s:={s with heap:=h3,toks:=t3}) e1 A Y3 rvs _ _ (((H.step S1).step S2).step S3) r3 λb r t u v h4 t4 hk hr hs hz=> ?_;have S4:=Ac.ext S3.inv hk;refine g7Z ⟨S4.inv.kin,?_⟩;refine nQ (s:={s with heap:=h4,toks:=t4}) e1 hl ea A Y3 b r t u v _ _ ⟨H.room,S4.inv⟩ hr hs hz λY5 h5 t5 rw S5 r5=> ?_;exact P Y5 h5 t5 rw ((((S1.trans S2).trans S3).trans S4).trans S5) r5
theorem Ai.mono{f g:List Value->Sem Value}{us v hp'}(o:Ai X d f us hp v hp')(e: ∀rvs,f rvs=g rvs):Ai X d g us hp v hp':=by
 intro A Y s rvs Q E H r P;rw[<-e];exact o A Y s rvs Q E H r P
theorem mQ{M:Model}{A:Around}{E:Value->Shared->Prop}{s:Shared}{env:Env}{o e:Expr}{name kn:Str}{b:Bool}{kc:Nat}{kp kp2 apos pos:Pos}{Q:Value->Shared->Prop}(hb:C2 o=false)(hs:cM [e] env=[(false,eval e env)])
  (hline:(apos.endLine==pos.line)=true)
  (h:cA M A (eval o env) (λov s₁=> ∀pl,cA M A (getMethod ov name pl) (λfp s₂=>cA M A (callWith pos fp.1 fp.2 (g3F pos (cM [e] env)) (backToKw pos (gBB [⟨some kn,.Constant (.bool b) kc kp,kp2⟩] env))) Q E s₂) E s₁) E s):
  cA M A (eval (.Call (.Attribute o name apos) [e] [⟨some kn,.Constant (.bool b) kc kp,kp2⟩] pos) env) Q E s:=by
 rw[arm_eval_Call,Jk hb];refine aG (g1M h (λov s₁ h₁=> ?_) λ_ _ e=>e);refine aG (g1J ?_);have hform:g6C ([e].length+([⟨some kn,.Constant (.bool b) kc kp,kp2⟩]:List Keyword).length) (g3F pos (cM [e] env)) (backToKw pos (gBB [⟨some kn,.Constant (.bool b) kc kp,kp2⟩] env))=true:=by
  rw[hs];dsimp only[g6C];rfl
 have hpos:g7A true o env apos pos=pure pos:=by dsimp only[g7A];exact if_pos ‹_›
 dsimp only[methodCall];rw[hform];refine aG (g0S (g1M (h₁ _) (λfp s₂ h₂=> ?_) λ_ _ e=>e));exact aG (g8E hpos h₂)
set_option tactic.hygienic true in
theorem nA{k:List Keyword}{es:List Expr}(h:J8 k es=true): ∃b kc kp p,k=[⟨some "name",.Constant (.bool b) kc kp,p⟩]:=by
 cases k with
 | nil=>exact nf h
 | cons w r=>
  obtain⟨o,e,p⟩:=w;cases o with
  | none=>exact nf h
  | some kn=>
   cases e <;> first|exact nf h|skip
   rename_i c kc kp;cases c <;> first|exact nf h|skip
   rename_i b;cases r with
   | cons _ _=>exact nf h
   | nil=>cases es with
    | nil=>exact nf h
    | cons _ r=>cases r with
     | cons _ _=>exact nf h
     | nil=>exact of_decide_eq_true (show decide (kn="name")=true from h)▸⟨b,kc,kp,p,rfl⟩
theorem zS{tb:Tab}{e0:Ag}(Z:A3 X tb e0){n o apos args kws pos env U i l hp1 e x hp2}(hn:n=aM "_convert_string_type")(hk:J8 kws args=true)(hb:C2 o=false)(hline:(apos.endLine==pos.line)=true)
  (hargs:args=[e]) (hs:cM [e] env=[(false,eval e env)]) (xo:Ad X d (eval o env) env U hp (.hdr i) hp1) (hl:hp1[i]? =some (.d l)) {l2:Nat} (hl2:hp2[i]? =some (.d l2)) (y:Ad X d (eval e env) env U hp1 (.str x) hp2) (hcv:e0.cv=true) (hd1:1<=d) (hpl:(chars x).all Dm=true) (hc:(chars x).length=1):
  Ad X d (eval (.Call (.Attribute o n apos) args kws pos) env) env U hp (.str x) hp2:=by
 subst hargs hn;refine x41 (nA hk) ?_;clear hk;intro b kc kp kp2 hk;subst hk;intro A Y s Q E H F P;refine mQ hb hs hline (xo A Y s _ _ H F λY1 h1 t1 ro S1 r1 pl=> ?_);refine x64 (Kd (s:={s with heap:=h1,toks:=t1}) S1.inv r1 hl) ?_;intro xa a bb hsh t k z6 _ _ I;subst z6;refine x14 (Z.cvt hcv) ?_;intro g q1 q2 q3 q4;refine method_fn (s:={s with heap:=h1,toks:=t1}) S1.inv.kin I Z.hd.ga Z.hd.noga q1 q2 ?_ ?_
 ·dsimp only[shadowIn,lookIn]
  have:g5A (.str (aM "_headers") t) (aM "_convert_string_type")=false:=by
   dsimp only[g5A];rfl
  rfl
 refine callWith_KW (h₀:=h1) S1.inv.kin q3 rfl ?_ (by rw[hs];rfl) hs;rw[hs];refine g7B (y A Y1 _ _ _ (H.step S1) (F.ev H.inv S1) λY2 h2 t2 rx S2 r2=>g7Z ?_);refine wpAny_evalAll_cons ?_;refine aG (g6I (aG (g1J (aQ (wpAny_evalAll_nil ⟨S2.inv.kin,?_⟩)))));exact q4 d hp2 i l2 x _ hd1 hl2 hpl hc A Y2 {s with heap:=h2,toks:=t2} [.ref xa,rx] _ _ ⟨H.room,S2.inv⟩ (D7 (S2.vr _ _ r1) r2) λY3 h3 t3 rw S3 r3=>P Y3 h3 t3 rw ((S1.trans S2).trans S3) r3
end Mine
namespace Mine
variable {X:Fx} {d:Nat} {hp:HP}
theorem H0{b:Bool}(h:(!b)=true):b=false:=by
 cases b with
 | false=>rfl
 | true=>exact nf h
section
variable {tb:Tab} {e0:Ag} {r:R} {pos:Pos} {env:Env} {U:Rho} {v:V} {hp':HP} {args:List Expr} {xx:Mine.X}
set_option tactic.hygienic true in
theorem dH(Z:A3 X tb e0)(hE:EvS X tb r){np:Pos}{x:Mine.X}(h2:Bh env.scope.names "len"=true)(h3:Gb env.scope.names "set" args=true)(hc:(cIn tb env.scope.names args).bind one=some x)
  (e:evF e0 r d (.lenset x) U hp=some (v,hp')):Ad X d (eval (.Call (.Name "len" np) args [] pos) env) env U hp v hp':=by
 refine x32 (Vr h3) ?_;clear h3;intro np2 args2 p2 z3 h4;subst z3;refine bE' hc ?_;clear hc;intro l hx hc;cases one_inv hc;clear hc;have hx:cXs tb env.scope.names args2=some [x]:=hx;refine x12 (Ms hx) ?_;clear hx;intro e2 z1 he2;subst z1;refine bE2 e ?_;clear e;intro u hp1 e1 e;cases h:vL u with
 | none=>cases u <;> first|exact nn e|exact nn h.symm
 | some i=>
  cases vL_inv h;clear h;refine bE e ?_;clear e;intro xs h5 e;refine bE e ?_;clear e;intro ns h6 e;split at e
  ·rename_i h7
   cases e;exact dI Z h2 h4 (Sd he2) (hE _ _ _ _ _ _ _ _ he2 e1) h5 h6 h7
  ·exact nn e
set_option tactic.hygienic true in
theorem dN(Z:A3 X tb e0)(hV:Dd X tb r){np:Pos}{xs:List Mine.X}(h2:Bh env.scope.names "list"=true)(h3:Gb env.scope.names "range" args=true)(hx:cIn tb env.scope.names args=some xs)
  (e:evF e0 r d (.lrange xs) U hp=some (v,hp')):Ad X d (eval (.Call (.Name "list" np) args [] pos) env) env U hp v hp':=by
 refine x32 (Vr h3) ?_;clear h3;intro np2 args2 p2 z3 h4;subst z3;have hx:cXs tb env.scope.names args2=some xs:=hx;refine bE2 e ?_;clear e;intro us hp1 e1 e;dsimp only at e;cases q:B5 us with
 | none=>rw[q] at e;exact nn e
 | some j=>
  refine x31 (Vl q) ?_;intro a c n z;subst z;rw[q] at e;dsimp only at e;split at e
  ·rename_i h7
   exact dO Z h2 h4 (Kx (pos:=pos) hx) (hV _ _ _ _ _ _ _ _ _ hx e1) q h7 e
  ·exact nn e
theorem yN(Z:A3 X tb e0)(hV:Dd X tb r)(hC:Fi X r){n:Str}{np:Pos}{g:Value}{xs:List Mine.X}(hg:Ao tb env.scope.names n=some (.k (.imm g)))(hx:cXs tb env.scope.names args=some xs)
  (e:evF e0 r d (.app g xs) U hp=some (v,hp')):Ad X d (eval (.Call (.Name n np) args [] pos) env) env U hp v hp':=by
 refine bE2 e ?_;clear e;intro us hp1 e1 e;have y:=hV _ _ _ _ _ _ _ _ pos hx e1;clear e1;cases g with
 | ref a=>
  refine x02 (hC _ _ _ _ _ _ e) ?_;intro k1 k2;exact Ad.call Z.tab hg (.inl k1) hx y k2
 | builtin id=>
  refine x12 (lL (d:=d) (λi xs ps w hp'=>Z.srt d hp1 i xs ps w hp') e) ?_;intro id' q1 q2;cases q1;exact Ad.call Z.tab hg (.inr (.inl ⟨_,rfl⟩)) hx y q2
 | _=>exact nn e
set_option tactic.hygienic true in
theorem zF(Z:A3 X tb e0)(hE:EvS X tb r)(hV:Dd X tb r)(hC:Fi X r){o:Expr}{n:Str}{apos:Pos}{m:Mth}{ox:Mine.X}{xs:List Mine.X}(hn:n=Da m)(hb:C2 o=false)(hline:(apos.endLine==pos.line)=true)(hlen:args.length+2<=28)
  (ho:cX tb env.scope.names o=some ox) (hx:cXs tb env.scope.names args=some xs) (e:evF e0 r d (.met m ox xs) U hp=some (v,hp')):Ad X d (eval (.Call (.Attribute o n apos) args [] pos) env) env U hp v hp':=by
 have hs:=Kx (pos:=pos) (env:=env) hx;refine bE2 e ?_;clear e;intro ov hp1 e1 e;have xo:=hE _ _ _ _ _ _ _ _ ho e1;clear ho e1 hE
 (first|exact nn ov|cases ov) <;> try (first|exact nn e|cases e)
 ·clear hC
  refine bE2 e ?_;clear e;intro vs hp2 e2 e;have y:=hV _ _ _ _ _ _ _ _ pos hx e2;clear hx e2 hV;rcases method_ok (d:=d) e with ⟨i,id,q,mo⟩|⟨x',id,q,mo⟩
  ·cases q
  ·exact Ad.methB hn hb hline hlen hs xo y mo iM
 ·clear hC
  refine bE e ?_;clear e;intro ys e3 e;refine bE2 e ?_;clear e;intro vs hp2 e2 e;have y:=hV _ _ _ _ _ _ _ _ pos hx e2;clear hx e2 hV;rcases method_ok (d:=d) e with ⟨i,id,q,mo⟩|⟨x',id,q,mo⟩
  ·exact Ad.methB hn hb hline hlen hs xo y mo (gG ⟨_,e3⟩)
  ·cases q
 ·rename_i i
  dsimp only at e;cases hq:hp1[i]? with
  | none=>rw[hq] at e;clear hn;(first|exact nn m|cases m) <;> (first|exact nn e|cases e)
  | some ob=>cases ob with
   | l _=>rw[hq] at e;clear hn;(first|exact nn m|cases m) <;> (first|exact nn e|cases e)
   | d l=>
    rw[hq] at e;have key:m≠ .remove->(r.evs d xs U hp1 >>= λp=>e0.mt m >>= λg=>r.call d g (V.hdr i::p.1) p.2)=some (v,hp')->Ad X d (eval (.Call (.Attribute o n apos) args [] pos) env) env U hp v hp':=by
     intro hr e;refine bE2 e ?_;clear e;intro vs hp2 e2 e;refine bE e ?_;clear e;intro g e3 e;refine x02 (hC _ _ _ _ _ _ e) ?_;intro k1 k2;exact Ad.methH Z.hd hn e3 hr hb hline hlen hs xo hq (hV _ _ _ _ _ _ _ _ pos hx e2) k1 k2
    clear xo hs hx hn hC hV Z
    (first|exact nn m|cases m) <;> first|((first|exact nn e|cases e);done)|exact key (λh=>nomatch h) e
set_option tactic.hygienic true in
theorem zR(Z:A3 X tb e0)(hE:EvS X tb r){o:Expr}{n:Str}{apos:Pos}{kws:List Keyword}{ox x:Mine.X}(hk:J8 kws args=true)(hn:n="_convert_string_type")(hb:C2 o=false)(hline:(apos.endLine==pos.line)=true)
  (ho:cX tb env.scope.names o=some ox) (hx:cXs tb env.scope.names args=some [x]) (e:evF e0 r d (.conv ox x) U hp=some (v,hp')):Ad X d (eval (.Call (.Attribute o n apos) args kws pos) env) env U hp v hp':=by
 refine x12 (Ms hx) ?_;clear hx;intro e1' z1 he1;subst z1;refine bE2 e ?_;clear e;intro ov hp1 e1 e;have xo:=hE _ _ _ _ _ _ _ _ ho e1;clear e1 ho;cases h:Iw ov with
 | none=>cases ov <;> first|exact nn e|exact nn h.symm
 | some i=>
 cases asHd_inv h;clear h;dsimp only at e;cases hl:hp1[i]? with
 | none=>rw[hl] at e;exact nn e
 | some ob=>cases ob with
  | l _=>rw[hl] at e;exact nn e
  | d l=>
   rw[hl] at e;refine bE2 e ?_;clear e;intro u hp2 e2 e;have y:=hE _ _ _ _ _ _ _ _ he1 e2;clear e2;dsimp only at e;cases h:vS u with
   | none=>cases u <;> first|exact nn e|exact nn h.symm
   | some s=>
   cases vS_inv h;clear h;cases hl2:hp2[i]? with
   | none=>rw[hl2] at e;exact nn e
   | some ob=>cases ob with
    | l _=>rw[hl2] at e;exact nn e
    | d l2=>
     rw[hl2] at e;dsimp only at e;split at e
     ·rename_i hq
      simp only[aI,decide_eq_true_eq] at hq;cases e;exact zS Z hn hk hb hline rfl (Sd he1) xo hl hl2 y hq.1.1.1 hq.1.1.2 hq.1.2 hq.2
     ·exact nn e
theorem BA(Z:A3 X tb e0)(hE:EvS X tb r)(hV:Dd X tb r)(hC:Fi X r){n:Str}{np:Pos}(hc:mkN tb env.scope.names n args (cXs tb env.scope.names args) (cIn tb env.scope.names args)=some xx)(e:evF e0 r d xx U hp=some (v,hp')):
  Ad X d (eval (.Call (.Name n np) args [] pos) env) env U hp v hp':=by
 dsimp only[mkN] at hc;cases h1:decide (n="len") && Bh env.scope.names n && Gb env.scope.names "set" args with
 | true=>
  rw[h1] at hc;rw[aI,aI,decide_eq_true_eq] at h1;refine mE hc ?_;clear hc;intro x hx hc;subst hc;cases h1.1.1;exact dH Z hE h1.1.2 h1.2 hx e
 | false=>
  rw[h1] at hc;clear h1;dsimp only at hc;cases h1:decide (n="list") && Bh env.scope.names n with
  | true=>
   rw[h1] at hc;rw[aI,decide_eq_true_eq] at h1;refine gE hc ?_;clear hc;intro h3 hc;refine mE hc ?_;clear hc;intro xs hx hc;subst hc;cases h1.1;exact dN Z hV h1.2 h3 hx e
  | false=>
   rw[h1] at hc;clear h1;refine bE' hc ?_;clear hc;intro c hg hc;refine bE' hc ?_;clear hc;intro g hi hc;cases asImm_inv hi;clear hi;refine bE' hc ?_;clear hc;intro xs hx hc;refine gE hc ?_;clear hc;intro _ hc;cases hc;exact yN Z hV hC hg hx e
theorem zO(Z:A3 X tb e0)(hE:EvS X tb r)(hV:Dd X tb r)(hC:Fi X r){o:Expr}{n:Str}{apos:Pos}{kws:List Keyword}(hc:mkA n apos pos args kws (cFo tb env.scope.names (.Attribute o n apos)) (cXs tb env.scope.names args)=some xx)(e:evF e0 r d xx U hp=some (v,hp')):
  Ad X d (eval (.Call (.Attribute o n apos) args kws pos) env) env U hp v hp':=by
 refine gE hc ?_;clear hc;intro hline hc;cases hk:kws.isEmpty with
 | true=>
  rw[hk] at hc;cases isEmpty_inv hk;clear hk;refine bE' hc ?_;clear hc;intro m hm hc;refine bE' hc ?_;clear hc;intro ox ho hc;refine bE' hc ?_;clear hc;intro xs hx hc;refine gE hc ?_;clear hc;intro hlen hc;cases hc;refine gE ho ?_;clear ho;intro hb ho;exact zF Z hE hV hC (jI hm) (H0 hb) hline (of_decide_eq_true hlen) ho hx e
 | false=>
  rw[hk] at hc;clear hk;refine gE hc ?_;clear hc;intro hk hc;rw[aI,decide_eq_true_eq] at hk;refine bE' hc ?_;clear hc;intro ox ho hc;refine mE hc ?_;clear hc;intro x hx hc;subst hc;refine bE' hx ?_;clear hx;intro l hx hl;cases one_inv hl;clear hl;refine gE ho ?_;clear ho;intro hb ho;exact zR Z hE hk.1 hk.2 (H0 hb) hline ho hx e
end
theorem zP{tb:Tab}{e0:Ag}{r:R}(Z:A3 X tb e0)(hE:EvS X tb r)(hV:Dd X tb r)(hC:Fi X r){f args kws pos env U xx v hp'}
  (hc:Gs tb env.scope.names f args kws pos (cFo tb env.scope.names f) (cXs tb env.scope.names args) (cIn tb env.scope.names args)=some xx) (e:evF e0 r d xx U hp=some (v,hp')):
  Ad X d (eval (.Call f args kws pos) env) env U hp v hp':=by
 dsimp only[Gs] at hc;cases hf:Cu f with
 | some n=>
  rw[hf] at hc;cases nameOf_inv hf;clear hf;refine gE hc ?_;clear hc;intro hk hc;cases isEmpty_inv hk;clear hk;exact BA Z hE hV hC hc e
 | none=>
  rw[hf] at hc;clear hf;refine bE' hc ?_;clear hc;intro t ht hc;cases asAttr_inv ht;clear ht;exact zO Z hE hV hC hc e
end Mine
namespace Mine
variable {X:Fx} {d:Nat} {hp:HP}
noncomputable def X3(X:Fx)(tb:Tab)(e0:Ag)(r:R):Prop:= ∀d elt gens s pos env U hp v hp' gs ex,Hv env.scope.names s=true->cGs tb env.scope.names (Cs env.scope.names s.names) gens=some gs->cX tb (Cs env.scope.names s.names) elt=some ex->evF e0 r d (.comp (He tb s.names) ex gs) U hp=some (v,hp')->
 Ad X d (eval (.ListComp elt gens s pos) env) env U hp v hp'
theorem iL{s:Str}(h:(decide (s.cps.size<=100) && s.cps.toList.all (λc=>g6N c 128))=true):B8 s:=by
 simp only[aI,decide_eq_true_eq,bB] at h;exact⟨Q31 h.1 rfl,λc hc=>by simpa[Nat.blt_eq] using h.2 c hc⟩
theorem Pm{tb:Tab}{r:R}(hE:EvS X tb r){env U}{a:Option Expr}{x:Option Mine.X}{v hp'}(hc:cO tb env.scope.names a=some x)(e:Hg r d x U hp=some (v,hp')):Gj X d a env U hp v hp':=by
 cases a with
 | none=>dsimp only[cO] at hc;cases hc;dsimp only[Hg] at e;cases e;exact Gj.none
 | some a=>
  dsimp only[cO] at hc;refine mE hc ?_;clear hc;intro y hy hc;subst hc;intro A Y s Q E H F P;rw[evalPart_some];exact hE _ _ _ _ _ _ _ _ hy e A Y s Q E H F P
section
variable {tb:Tab} {e0:Ag} {r:R} {env:Env} {U:Rho} {v:V} {hp':HP} {x:Mine.X} {pos:Pos}
theorem Z6{c:Const}{k:Nat}(hc:(P3 c).map Mine.X.k=some x)(q:evF e0 r d x U hp=some (v,hp')):Ad X d (eval (.Constant c k pos) env) env U hp v hp':=by
 refine mE hc ?_;clear hc;intro u hc z;subst z;refine s2 (show some (u,hp)=some (v,hp') from q) ?_;clear q;cases c <;> first|exact nn hc|skip
 ·exact s1 (P:=λu=>Ad X d _ env U hp u hp) hc Ad.cnone
 ·exact s1 (P:=λu=>Ad X d _ env U hp u hp) hc Ad.cbool
 ·exact s1 (P:=λu=>Ad X d _ env U hp u hp) hc Ad.cint
 ·refine gE hc ?_;clear hc;intro hs hc
  exact s1 (P:=λu=>Ad X d _ env U hp u hp) hc (Ad.cstr (iL hs))
theorem CF(hE:EvS X tb r){op:BoolOp}{vs:List Expr}(hc:(cXs tb env.scope.names vs).map (X7 op)=some x)(q:evF e0 r d x U hp=some (v,hp')):Ad X d (eval (.BoolOp op vs pos) env) env U hp v hp':=by
 refine mE hc ?_;clear hc;intro xs hx z;subst z;cases op with
 | And=>exact fY hE hx q
 | Or=>exact dM hE hx q
theorem zZ(hE:EvS X tb r){e:Expr}(hc:(cX tb env.scope.names e).map .lnot=some x)(q:evF e0 r d x U hp=some (v,hp')):Ad X d (eval (.UnaryOp .Not e pos) env) env U hp v hp':=by
 refine mE hc ?_;clear hc;intro a ha z;subst z;refine bE2 q ?_;clear q;intro u hp1 e1 q;refine bE q ?_;clear q;intro b e2 q;refine s2 q ?_;clear q;refine Ad.un (hE _ _ _ _ _ _ _ _ ha e1) ?_;intro A Y s rvs Q E H r P;clear hE ha e1;refine x12 (Bv r) ?_;intro p z1 rp;subst z1;refine not_value (Ij e2 A Y s [p] _ _ H (Ev rp) λY2 h2 t2 S2=> ?_);exact P Y2 h2 t2 _ S2 (rfl)
theorem zY{e:Expr}(hc:(Lq e).map (λi=>Mine.X.k (.int (-i)))=some x)(q:evF e0 r d x U hp=some (v,hp')):Ad X d (eval (.UnaryOp .USub e pos) env) env U hp v hp':=by
 refine mE hc ?_;clear hc;intro i hi z;subst z;refine x21 (eZ hi) ?_;clear hi;intro k p z;subst z;cases q;refine Ad.un (u:= .int i) Ad.cint ?_;intro A Y s rvs Q E H r P;refine x12 (Bv r) ?_;intro p z1 rp;subst z1;dsimp only[Ab] at rp;clear r;refine x11 rp ?_;clear rp;intro t z1;subst z1;exact PySem.P.neg_int (P.int H _ _)
theorem yX(hE:EvS X tb r)(hT:TrS X tb r){c a b:Expr}(hc:((cX tb env.scope.names c).bind λc=>(cX tb env.scope.names a).bind λa=>(cX tb env.scope.names b).map λb=> .ife c a b)=some x)(q:evF e0 r d x U hp=some (v,hp')):Ad X d (eval (.IfExp c a b pos) env) env U hp v hp':=by
 refine bE' hc ?_;clear hc;intro c' hc' hc;refine bE' hc ?_;clear hc;intro a' ha hc;refine mE hc ?_;clear hc;intro b' hb z;subst z;refine bE2 q ?_;clear q;intro t hp1 e1 q;refine Ad.ife (hT _ _ _ _ _ _ _ _ hc' e1) ?_;clear hT hc' e1;cases t with
 | true=>exact hE _ _ _ _ _ _ _ _ ha q
 | false=>exact hE _ _ _ _ _ _ _ _ hb q
set_option tactic.hygienic true in
theorem AB(hV:Dd X tb r){es:List Expr}{k:Nat}(hc:(cXs tb env.scope.names es).map .tup=some x)(q:evF e0 r d x U hp=some (v,hp')):Ad X d (eval (.Tuple es k pos) env) env U hp v hp':=by
 refine mE hc ?_;clear hc;intro xs hx z;subst z;refine bE2 q ?_;clear q;intro vs hp1 e1 q;dsimp only at q;split at q
 ·rename_i bd;cases q;exact Ad.tup (hV _ _ _ _ _ _ _ _ _ hx e1) bd
 ·exact nn q
noncomputable def V0(tb:Tab)(sc:Sc)(l:Expr)(ops:List CmpOp)(rs:List Expr):Option Mine.X:=(cX tb sc l).bind λa=>(cXs tb sc rs).bind λbs=>(one ops).bind λop=>(one rs).bind λr=>(one bs).bind λb=>(Lp op).bind λo=>Ar (!behindInMarks op r) (some (.cmp o a b))
theorem Rc{sc:Sc}{l:Expr}{ops:List CmpOp}{rs:List Expr}(hc:V0 tb sc l ops rs=some x){R:Prop}(k: ∀a op rr b o,ops=[op]->rs=[rr]->cX tb sc l=some a->cX tb sc rr=some b->Lp op=some o->g9Q op rr=false->x= .cmp o a b->R):R:=by
 refine bE' hc ?_;clear hc;intro a ha hc;refine bE' hc ?_;clear hc;intro bs hb hc;refine bE' hc ?_;clear hc;intro op h1 hc;refine bE' hc ?_;clear hc;intro rr h2 hc;refine bE' hc ?_;clear hc;intro b h3 hc;refine bE' hc ?_;clear hc;intro o ho hc;refine gE hc ?_;clear hc;intro hm hc;rw[one_inv h3] at hb;refine x12 (Ms hb) ?_;intro e' h4 hb;rw[one_inv h2] at h4;cases h4;exact k a op rr b o (one_inv h1) (one_inv h2) ha hb ho (H0 hm) (aB hc).symm
theorem zV(hE:EvS X tb r){l:Expr}{ops:List CmpOp}{rs:List Expr}(hc:V0 tb env.scope.names l ops rs=some x)(q:evF e0 r d x U hp=some (v,hp')):Ad X d (eval (.Compare l ops rs pos) env) env U hp v hp':=by
 refine Rc hc ?_;clear hc;intro a op rr b o z1 z2 ha hb ho hm z3;subst z1;subst z2;subst z3;refine bE2 q ?_;clear q;intro u hp1 e1 q;refine bE2 q ?_;clear q;intro w hp2 e2 q;refine bE q ?_;clear q;intro t e3 q;refine s2 q ?_;clear q;exact Ad.cmp (hE _ _ _ _ _ _ _ _ ha e1) (hE _ _ _ _ _ _ _ _ hb e2) hm (Sr ho e3)
theorem Qv{sc:Sc}{lo hi st:Option Expr}{p:Pos}{t:Option Mine.X×Option Mine.X}(h:cSl tb sc (.Slice lo hi st p)=some t):cO tb sc lo=some t.1/\cO tb sc hi=some t.2:=by
 refine bE' h ?_;clear h;intro l hl h;refine mE h ?_;clear h;intro u hu z;subst z;exact⟨hl,hu⟩
theorem mV{e:Expr}(h:El e=true): ∃lo hi p,e= .Slice lo hi none p:=by
 cases hs:Gv e with
 | none=>unfold El at h;rw[hs] at h;exact nf h
 | some t=>
  refine x11 (Vf hs) ?_;intro p z;unfold El at h;rw[hs] at h;clear hs;obtain⟨lo,hi,st⟩:=t;cases st with
  | none=>exact⟨lo,hi,p,z⟩
  | some _=>exact nf h
theorem AA(hE:EvS X tb r){a s:Expr}(hc:((cX tb env.scope.names a).bind λa=>match El s with
  | true=>(cSl tb env.scope.names s).map λp=> .slc a p.1 p.2
  | false=>(cX tb env.scope.names s).map λi=> .idx a i)=some x) (q:evF e0 r d x U hp=some (v,hp')):Ad X d (eval (.Subscript a s pos) env) env U hp v hp':=by
 refine bE' hc ?_;clear hc;intro a' ha hc;cases hs:El s with
 | true=>
  rw[hs] at hc;refine x31 (mV hs) ?_;clear hs;intro lo hi p z;subst z;refine mE hc ?_;clear hc;intro p hp' z;subst z;refine bE2 q ?_;clear q;intro o hp1 e1 q;refine bE2 q ?_;clear q;intro lv hp2 e2 q;refine bE2 q ?_;clear q;intro hv hp3 e3 q;exact Ad.slc (hE _ _ _ _ _ _ _ _ ha e1) (Pm hE (Qv hp').1 e2) (Pm hE (Qv hp').2 e3) q
 | false=>
  rw[hs] at hc;clear hs;refine mE hc ?_;clear hc;intro i hi z;subst z;refine bE2 q ?_;clear q;intro o hp1 e1 q;refine bE2 q ?_;clear q;intro k hp2 e2 q;refine x02 (CO (a:=a) (i:=s) (X:=X) (d:=d) q) ?_;intro q1 q2;clear q;subst q1;exact Ad.sub (hE _ _ _ _ _ _ _ _ ha e1) (hE _ _ _ _ _ _ _ _ hi e2) q2
theorem zW(Z:A3 X tb e0)(hE:EvS X tb r){o:Expr}{n:Str}(hc:Ar (decide (n="_headers") && !C2 o) ((cX tb env.scope.names o).map .hds)=some x)(q:evF e0 r d x U hp=some (v,hp')):Ad X d (eval (.Attribute o n pos) env) env U hp v hp':=by
 refine gE hc ?_;clear hc;intro hn hc;rw[aI,decide_eq_true_eq] at hn;cases hn.1;refine mE hc ?_;clear hc;intro a ha z;subst z;refine bE2 q ?_;clear q;intro ov hp1 e1 q;cases h:Iw ov with
 | none=>cases ov <;> first|exact nn q|exact nn h.symm
 | some i=>
  cases asHd_inv h;clear h;dsimp only at q;cases hl:hp1[i]? with
  | none=>rw[hl] at q;exact nn q
  | some ob=>cases ob with
   | l _=>rw[hl] at q;exact nn q
   | d l=>
    rw[hl] at q;refine s2 (show some (V.lst l,hp1)=some (v,hp') from q) ?_;clear q;exact Ad.hds Z.hd (H0 hn.2) (hE _ _ _ _ _ _ _ _ ha e1) hl
end
set_option tactic.hygienic true in
theorem AC{tb:Tab}{e0:Ag}{r:R}(Z:A3 X tb e0)(hE:EvS X tb r)(hT:TrS X tb r)(hV:Dd X tb r)(hC:Fi X r)(hM:X3 X tb e0 r):
  ∀d e x env U hp v hp',cX tb env.scope.names e=some x->evF e0 r d x U hp=some (v,hp')->Ad X d (eval e env) env U hp v hp':=by
 intro d e x env U hp v hp' hc q;cases e <;> first|exact nn hc|skip
 case Constant c k pos=>exact Z6 hc q
 case Name n pos=>exact Dq Z.tab hc q
 case BoolOp op vs pos=>exact CF hE hc q
 case BinOp l op rr pos=>
  refine bE' hc ?_;clear hc;intro o ho hc;refine bE' hc ?_;clear hc;intro a ha hc;refine mE hc ?_;clear hc;intro b hb hc;clear Z hT hV hC hM;subst hc;refine bE2 q ?_;clear q;intro u hp1 e1 q;refine bE2 q ?_;clear q;intro w hp2 e2 q;exact Ad.bin (hE _ _ _ _ _ _ _ _ ha e1) (hE _ _ _ _ _ _ _ _ hb e2) (eY ho q)
 case UnaryOp op e pos=>
  clear Z hT hV hC hM;cases op <;> first|exact nn hc|exact zZ hE hc q|exact zY hc q
 case IfExp c a b pos=>exact yX hE hT hc q
 case List es pos=>
  refine mE hc ?_;clear hc;intro xs hx hc;clear Z hE hT hC hM;subst hc;refine bE2 q ?_;clear q;intro vs hp1 e1 q;exact Ad.list (hV _ _ _ _ _ _ _ _ _ hx e1) q
 case Tuple es k pos=>exact AB hV hc q
 case Compare l ops rs pos=>exact zV hE hc q
 case Subscript v s pos=>exact AA hE hc q
 case Attribute o n pos=>exact zW Z hE hc q
 case Call f args kws pos=>exact zP Z hE hV hC hc q
 case ListComp elt gens s pos=>
  refine gE hc ?_;clear hc;intro ok hc;refine bE' hc ?_;clear hc;intro gs hg hc;refine mE hc ?_;clear hc;intro e he hc;clear Z hE hT hV hC;subst hc;exact hM _ _ _ _ _ _ _ _ _ _ _ _ ok hg he q
noncomputable def I5:Mine.X->Bool
 | .lenset _| .lrange _| .app _ _| .met _ _ _| .conv _ _=>true
 | _=>false
theorem kH{tb:Tab}{sc:Sc}{n args axs inn x}(hc:mkN tb sc n args axs inn=some x):I5 x=true:=by
 dsimp only[mkN] at hc;cases h:decide (n="len") && Bh sc n && Gb sc "set" args with
 | true=>rw[h] at hc;refine mE hc ?_;intro _ _ z;subst z;rfl
 | false=>
  rw[h] at hc;clear h;dsimp only at hc;cases h:decide (n="list") && Bh sc n with
  | true=>rw[h] at hc;refine gE hc ?_;intro _ hc;refine mE hc ?_;intro _ _ z;subst z;rfl
  | false=>
   rw[h] at hc;clear h;refine bE' hc ?_;clear hc;intro _ _ hc;refine bE' hc ?_;clear hc;intro _ _ hc;refine bE' hc ?_;clear hc;intro _ _ hc;refine gE hc ?_;clear hc;intro _ hc;cases hc;rfl
theorem kF{n apos pos args kws fo axs x}(hc:mkA n apos pos args kws fo axs=some x):I5 x=true:=by
 refine gE hc ?_;clear hc;intro _ hc;cases h:kws.isEmpty with
 | true=>
  rw[h] at hc;clear h;refine bE' hc ?_;clear hc;intro _ _ hc;refine bE' hc ?_;clear hc;intro _ _ hc;refine bE' hc ?_;clear hc;intro _ _ hc;refine gE hc ?_;clear hc;intro _ hc;cases hc;rfl
 | false=>
  rw[h] at hc;clear h;refine gE hc ?_;clear hc;intro _ hc;refine bE' hc ?_;clear hc;intro _ _ hc;refine mE hc ?_;clear hc;intro _ _ z;subst z;rfl
theorem nS{tb:Tab}{sc:Sc}{f args kws pos fo axs inn x}(hc:Gs tb sc f args kws pos fo axs inn=some x):I5 x=true:=by
 dsimp only[Gs] at hc;cases h:Cu f with
 | some n=>rw[h] at hc;refine gE hc ?_;clear hc;intro _ hc;exact kH hc
 | none=>rw[h] at hc;clear h;refine bE' hc ?_;clear hc;intro _ _ hc;exact kF hc
theorem BU{r:R}{x U b hp'}(h:I5 x=true)(q:trF r d x U hp=some (b,hp')):(do let (v,hp) <-r.ev d x U hp;return (<-Mine.truthy hp v,hp))=some (b,hp'):=by
 cases x <;> first|(cases h;done)|exact q
theorem Du{tb:Tab}{r:R}(hE:EvS X tb r){e:Expr}{x:Mine.X}{env:Env}{U:Rho}{b:Bool}{hp':HP}(hc:cX tb env.scope.names e=some x)(he:isTrue e env (eval e env)=(do let v <-eval e env;gAZ e.pos;gBC [v] (PySem.truthy v)))
  (q:(do let (v,hp) <-r.ev d x U hp;return (<-Mine.truthy hp v,hp))=some (b,hp')):Bn X d (isTrue e env (eval e env)) env U hp b hp':=by
 refine bE2 q ?_;clear q;intro u hp1 e1 q;refine bE q ?_;clear q;intro t e2 q;refine s2 q ?_;clear q;exact Bn.val (hE _ _ _ _ _ _ _ _ hc e1) (Ij e2) he
noncomputable def Qh:Mine.X->Bool
 | .lnot _| .land _| .lor _| .cmp _ _ _| .ife _ _ _=>false
 | _=>true
theorem Er{r:R}{x U b hp'}(h:Qh x=true)(q:trF r d x U hp=some (b,hp')):(do let (v,hp) <-r.ev d x U hp;return (<-Mine.truthy hp v,hp))=some (b,hp'):=by
 cases x <;> first|exact nf h|exact q
theorem mS{tb:Tab}{sc:Sc}{n:Str}{x:Mine.X}(hc:Ao tb sc n=some x):Qh x=true:=T9 hc (λ_ _ _ _ z=>z▸rfl) λ_ _ _ _ z=>z▸rfl
set_option tactic.hygienic true in
theorem BF{tb:Tab}{e0:Ag}{r:R}(Z:A3 X tb e0)(hE:EvS X tb r)(hT:TrS X tb r):
  ∀d e x env U hp b hp',cX tb env.scope.names e=some x->trF r d x U hp=some (b,hp')->Bn X d (isTrue e env (eval e env)) env U hp b hp':=by
 intro d e x env U hp b hp' hc q;clear Z;cases e <;> first|exact nn hc|skip
 case Constant c k pos=>exact Du hE hc rfl (Er (mE hc λ_ _ z=>z▸rfl) q)
 case Name n pos=>exact Du hE hc rfl (Er (mS hc) q)
 case BoolOp op vs pos=>
  refine mE hc ?_;clear hc;intro xs hx z;subst z;intro A Y s Q E H F P;refine wpAny_isTrue_BoolOp ?_;cases op with
  | And=>exact fX hT hx q A Y s Q E H F P
  | Or=>exact dL hT hx q A Y s Q E H F P
 case BinOp l op rr pos=>exact Du hE hc rfl (Er (bE' hc λ_ _ hc=>bE' hc λ_ _ hc=>mE hc λ_ _ z=>z▸rfl) q)
 case UnaryOp op e pos=>
  cases op <;> first|exact nn hc|skip
  ·refine mE hc ?_;clear hc;intro a ha z;subst z
   refine bE2 q ?_;clear q;intro u hp1 e1 q;refine s2 q ?_;clear q;exact Bn.notT (hT _ _ _ _ _ _ _ _ ha e1)
  ·exact Du hE hc rfl (Er (mE hc λ_ _ z=>z▸rfl) q)
 case IfExp c a b pos=>
  refine bE' hc ?_;clear hc;intro c' hc' hc;refine bE' hc ?_;clear hc;intro a' ha hc;refine mE hc ?_;clear hc;intro b' hb z;subst z;exact nn q
 case List es pos=>exact Du hE hc rfl (Er (mE hc λ_ _ z=>z▸rfl) q)
 case Tuple es k pos=>exact Du hE hc rfl (Er (mE hc λ_ _ z=>z▸rfl) q)
 case Compare l ops rs pos=>
  refine Rc hc ?_;clear hc;intro a op rr b o z1 z2 ha hb ho hm z3;subst z1;subst z2;subst z3;refine bE2 q ?_;clear q;intro u hp1 e1 q;refine bE2 q ?_;clear q;intro w hp2 e2 q;refine bE q ?_;clear q;intro t e3 q;refine s2 q ?_;clear q;exact Bn.cmp (hE _ _ _ _ _ _ _ _ ha e1) (hE _ _ _ _ _ _ _ _ hb e2) hm (Sr ho e3)
 case Subscript a s pos=>
  refine Du hE hc rfl (Er (bE' hc λa' _ hc=> ?_) q);clear q hE hT;cases hs:El s with
  | true=>rw[hs] at hc;exact mE hc λ_ _ z=>z▸rfl
  | false=>rw[hs] at hc;exact mE hc λ_ _ z=>z▸rfl
 case Attribute o n pos=>exact Du hE hc rfl (Er (gE hc λ_ hc=>mE hc λ_ _ z=>z▸rfl) q)
 case Call f args kws pos=>exact Du hE hc rfl (BU (nS hc) q)
 case ListComp elt gens s pos=>exact Du hE hc rfl (Er (gE hc λ_ hc=>bE' hc λ_ _ hc=>mE hc λ_ _ z=>z▸rfl) q)
end Mine
namespace Mine
variable {X:Fx} {d:Nat} {hp:HP}
noncomputable def Wof(env:Env):List cK:=env.locals::(if env.func.isSome then env.cells.map (·.2) else [])
theorem iV{env:Env}{x:Str}{c:cK}(hf:env.func.isSome=true)(h:env.cells.lookup x=some c):c∈Wof env:=by
 unfold Wof;rw[if_pos hf];exact aX _ (bI.mpr ⟨_,Dc h,rfl⟩)
noncomputable def zM(X:Fx)(Y:List cK)(h:Heap):Fl->Flow->Prop
 | .next,f=>f= .next
 | .brk,f=>f= .brk
 | .cont,f=>f= .cont
 | .ret v,f=> ∃rv,f= .ret rv/\Ab X Y h v rv
noncomputable def Dl(X:Fx)(env:Env)(Y:List cK)(s:Shared)(fl:Fl)(U:Rho)(hp':HP)(Q:Flow->Shared->Prop):Prop:=
 ∀Y' h' tk fv,Ac X (Wof env) Y s.heap Y' h' hp'->Ak X Y' env U h'->zM X Y' h' fl fv->Q fv {s with heap:=h',toks:=tk}
noncomputable def Cc(X:Fx)(d:Nat)(t:Sem Flow)(env:Env)(U:Rho)(hp:HP)(fl:Fl)(U':Rho)(hp':HP):Prop:=
 env.func.isSome=true->∀(A:Around) (Y:List cK) (s:Shared) (Q:Flow->Shared->Prop) (E:Value->Shared->Prop),Ah X A d Y s hp->Ak X Y env U s.heap->Dl X env Y s fl U' hp' Q->cA (mdl X) A t Q E s
noncomputable def E4(X:Fx)(env:Env)(Y:List cK)(s:Shared)(U:Rho)(hp':HP)(Q:Unit->Shared->Prop):Prop:=
 ∀h' tk,Ac X (Wof env) Y s.heap Y h' hp'->Ak X Y env U h'->Q () {s with heap:=h',toks:=tk}
theorem Ak.ext{Y env U U' h}(F:Ak X Y env U h)(e: ∀i,rget U' i=rget U i):Ak X Y env U' h:=by
 refine x12 F.vals ?_;intro m hn hv;exact⟨F.kind,F.glo,F.blt,⟨m,hn,λi v x h=>hv i v x (by rw[<-e i];exact h)⟩,F.nin,F.low,F.cel,F.apart,F.has⟩
theorem Ml{i j:Nat}{x:Str}(h1:X.nm[i]? =some x)(h2:X.nm[j]? =some x):i=j:=
 (g6F (aF.mp h1).1 X.nmN).mp (h1.trans h2.symm)
set_option tactic.hygienic true in
theorem Kr{A:Around}{Y:List cK}{s:Shared}{E:Value->Shared->Prop}{env U i v rv}{x:Str}{Q:Unit->Shared->Prop}(I:Inv X Y s.heap hp)(F:Ak X Y env U s.heap)(hx:X.nm[i]? =some x)(hk:env.kindOf x=some .local\/(env.kindOf x=some .cell/\env.func.isSome=true))(r:Ab X Y s.heap v rv)
  (P:E4 X env Y s (rset U i v) hp Q):cA (mdl X) A (storeName env x rv) Q E s:=by
 refine x12 F.vals ?_;intro m hn hv;rcases hk with hk|⟨hk,hf⟩
 ·refine wpAny_storeName_local hk hn (λh' hn' hs=> ?_) (by rw[F.kind];rfl)
  refine x33 (id hn) ?_;intro o es ep ho hd _;refine x33 (id hn') ?_;intro o' es' ep' ho' hd' _;have S0:Ac X [env.locals] Y s.heap Y h' hp:=Ac.soft I F.nin F.low ho (by rw[hd];intro _ _ h;cases h) (by rw[hd];intro h;cases h) ho' λb q hb e=>(hs.2 b hb).trans e;have S:Ac X (Wof env) Y s.heap Y h' hp:=S0.mono λb hb=>by rw[aK.mp hb];exact bN ..
  refine P h' _ S ⟨F.kind,F.glo,F.blt,⟨_,hn',λj u y e ey=> ?_⟩,F.nin,F.low,λp e=> ?_,F.apart,F.has⟩
  ·rw[rget_rset] at e
   split at e
   ·rename_i hj
    cases e;subst hj;rw[hx] at ey;cases ey;refine⟨λ_=>⟨rv,if_pos rfl,S.vr _ _ r⟩,λk=> ?_⟩;rcases k with k|k <;> (rw[hk] at k;cases k)
   ·rename_i hj
    have hy:y≠x:=λh=>hj (Ml ey (by rw[h];exact hx));have q:=hv j u y e ey;refine⟨λk=> ?_,λk=> ?_⟩
    ·refine x12 (q.loc k) ?_;intro ru e1 r'
     exact⟨ru,by simp[hy,e1],S.vr _ _ r'⟩
    ·refine x23 (q.cel k) ?_;intro c ru e1 e2 r'
     refine⟨c,ru,e1,?_,S.vr _ _ r'⟩;refine e2.sameBut hs λhc=> ?_;refine x12 e2 ?_;clear e2;intro oc hoc hdc;rw[hc,ho] at hoc;cases hoc;rw[hd] at hdc;cases hdc
  ·obtain⟨⟨u,e2⟩,l⟩:=F.cel p e
   refine⟨⟨u,e2.sameBut hs λhc=> ?_⟩,l⟩;refine x12 e2 ?_;clear e2;intro oc hoc hdc;rw[hc,ho] at hoc;cases hoc;rw[hd] at hdc;cases hdc
 ·refine x11 (F.has x (.inl hk)) ?_;intro c ec
  obtain⟨⟨u0,e0⟩,l⟩:=F.cel _ (Dc ec);refine wpAny_storeName_cell F.kind hk ec e0 λh' e1 hs=> ?_;refine x12 (id e0) ?_;intro o ho hd;refine x12 (id e1) ?_;intro o' ho' hd';have S0:Ac X [c] Y s.heap Y h' hp:=Ac.soft I (I.notcell e0) l ho (by rw[hd];intro _ _ h;cases h) (by rw[hd];intro h;cases h) ho' λb q hb e=>(hs.2 b hb).trans e;have S:Ac X (Wof env) Y s.heap Y h' hp:=S0.mono λb hb=>by rw[aK.mp hb];exact iV hf ec
  have hne:env.locals≠c:=by
   intro h;refine x33 (id hn) ?_;intro on es ep hon hdn _;rw[h,ho] at hon;cases hon;rw[hd] at hdn;cases hdn
  refine P h' _ S ⟨F.kind,F.glo,F.blt,⟨m,hn.sameBut hs hne,λj u y e ey=> ?_⟩,F.nin,F.low,λp e=> ?_,F.apart,F.has⟩
  ·rw[rget_rset] at e
   split at e
   ·rename_i hj
    cases e;subst hj;rw[hx] at ey;cases ey;refine⟨λk=> ?_,λ_=>⟨c,rv,ec,e1,S.vr _ _ r⟩⟩;rw[hk] at k;cases k
   ·rename_i hj
    have hy:y≠x:=λh=>hj (Ml ey (by rw[h];exact hx));have q:=hv j u y e ey;refine⟨λk=> ?_,λk=> ?_⟩
    ·refine x12 (q.loc k) ?_;intro ru e1 r'
     exact⟨ru,e1,S.vr _ _ r'⟩
    ·refine x23 (q.cel k) ?_;intro c' ru e3 e2 r'
     refine⟨c',ru,e3,?_,S.vr _ _ r'⟩;exact e2.sameBut hs λhc=>hy (F.apart y x c' e3 (by rw[hc];exact ec))
  ·by_cases hc:p.2=c
   ·exact⟨⟨_,hc▸e1⟩,hc▸l⟩
   ·obtain⟨⟨u,e2⟩,l'⟩:=F.cel p e
    exact⟨⟨u,e2.sameBut hs hc⟩,l'⟩
end Mine
namespace Mine
variable {X:Fx} {d:Nat} {hp:HP}
theorem Ky{tb:Tab}{own:Bool}{env:Env}{n:Str}{i:Nat}(T:A0 X tb)(h:Ci tb own env.scope.names n=some i):X.nm[i]? =some n/\(env.kindOf n=some .local\/(env.kindOf n=some .cell/\own=true)):=by
 unfold Ci at h;cases hk:env.scope.names.lookup n with
 | none=>rw[hk] at h;exact nn h
 | some k=>
  rw[hk] at h;cases k <;> first|exact nn h|exact⟨T.tab▸J5 h,.inl hk⟩|exact iE2 h (λho h=>⟨T.tab▸J5 h,.inr ⟨hk,ho⟩⟩) λ_ h=>nn h
theorem stk{env:Env}{own:Bool}{n:Str}(hf:own=true->env.func.isSome=true)(h:env.kindOf n=some .local\/(env.kindOf n=some .cell/\own=true)):env.kindOf n=some .local\/(env.kindOf n=some .cell/\env.func.isSome=true):=
 h.imp id λz=>⟨z.1,hf z.2⟩
theorem E4.trans{env Y s U hp' Q h1 t1}(P:E4 X env Y s U hp' Q){hp0:HP}(S:Ac X (Wof env) Y s.heap Y h1 hp0):E4 X env Y {s with heap:=h1,toks:=t1} U hp' Q:=
 λh2 t2 S2 F2=>P h2 t2 (S.trans S2) F2
theorem J7{A:Around}{Y:List cK}{s:Shared}{E:Value->Shared->Prop}{tb:Tab}{own:Bool}{env U i v rv n pos}{Q:Unit->Shared->Prop}(T:A0 X tb)(hf:own=true->env.func.isSome=true)(hc:Ci tb own env.scope.names n=some i)(I:Inv X Y s.heap hp)(F:Ak X Y env U s.heap)(r:Ab X Y s.heap v rv)
  (P:E4 X env Y s (rset U i v) hp Q):cA (mdl X) A (assign (.Name n pos) env rv) Q E s:=by
 refine x02 (Ky T hc) ?_;intro h1 h2;exact wpAny_assign_Name (Kr I F h1 (stk hf h2) r P)
theorem gM{A:Around}{E:Value->Shared->Prop}{tb:Tab}{own:Bool}{env:Env}(T:A0 X tb)(hf:own=true->env.func.isSome=true){Y:List cK}: ∀{es:List Expr} {xs:List Nat} {vs:List V} {rvs:List Value} {U:Rho} {s:Shared} {Q:Unit->Shared->Prop},
  g7H (m:=Option) (Hq tb own env.scope.names) es=some xs->xs.length=vs.length->Inv X Y s.heap hp->Ak X Y env U s.heap->VRels X Y s.heap vs rvs->
  E4 X env Y s ((xs.zip vs).foldl (λr p=>rset r p.1 p.2) U) hp Q->cA (mdl X) A (assignInOrder ((g3Z es env).map (·.2)) rvs) Q E s:=by
 intro es;induction es with
 | nil=>
  intro xs vs rvs U s Q hc hl I F r P;clear T hf hl r;simp at hc;subst hc;exact aQ (P s.heap s.toks (Ac.refl _ I) (by simpa using F))
 | cons e es ih=>
  intro xs vs rvs U s Q hc hl I F r P;rw[g2X] at hc;refine bE hc ?_;clear hc;intro x hx hc;refine bE hc ?_;clear hc;intro ys hys hc;cases hc;cases vs with
  | nil=>contradiction
  | cons v vs=>
   dsimp only[VRels] at r;refine x23 r ?_;clear r;intro rv rr z2 p r;subst z2;refine bE' hx ?_;clear hx;intro n hn hx;cases nameOf_inv hn;clear hn;show cA _ _ (gBC rr (assign (.Name n.1 n.2) env rv) >>= λ_=>assignInOrder ((g3Z es env).map (·.2)) rr) _ _ _;refine aG (g0S (J7 T hf hx I F p λh1 t1 S1 F1=> ?_));exact ih hys (gCS hl) S1.inv F1 (S1.vrs _ _ r) (P.trans S1)
theorem lO{tb:Tab}{own:Bool}{sc:Sc}{env:Env}: ∀{es:List Expr} {xs:List Nat},g7H (m:=Option) (Hq tb own sc) es=some xs->(g3Z es env).length=xs.length/\(g3Z es env).findIdx? (·.1)=none:=by
 intro es;induction es with
 | nil=>intro xs hc;simp at hc;subst hc;exact⟨rfl,rfl⟩
 | cons e es ih=>
  intro xs hc;rw[g2X] at hc;refine bE hc ?_;clear hc;intro x hx hc;refine bE hc ?_;clear hc;intro ys hys hc;cases hc;refine bE' hx ?_;clear hx;intro n hn hx;cases nameOf_inv hn;clear hn;refine x02 (ih hys) ?_;intro h1 h2;have e:g3Z (.Name n.1 n.2::es) env=(false,assign (.Name n.1 n.2) env)::g3Z es env:=rfl;rw[e];exact⟨congrArg (· +1) h1,by simp[g9X,h2]⟩
set_option tactic.hygienic true in
theorem H8{A:Around}{Y:List cK}{s:Shared}{E:Value->Shared->Prop}{tb:Tab}{own:Bool}{env U U' v rv}{e:Expr}{t:T}{Q:Unit->Shared->Prop}(T:A0 X tb)(hf:own=true->env.func.isSome=true)(hh:A.handled=none)(hc:cT tb own env.scope.names e=some t)(hb:bindT t v U=some U')(I:Inv X Y s.heap hp)(F:Ak X Y env U s.heap)(r:Ab X Y s.heap v rv)
  (P:E4 X env Y s U' hp Q):cA (mdl X) A (assign e env rv) Q E s:=by
 dsimp only[cT] at hc;cases h:Cu e with
 | some n=>
  rw[h] at hc;cases nameOf_inv h;clear h;refine mE hc ?_;clear hc;intro i hi hc;clear hh;subst hc;cases hb;exact J7 T hf hi I F r P
 | none=>
  rw[h] at hc;clear h;refine bE' hc ?_;clear hc;intro es ht hc;refine x21 (Oe ht) ?_;clear ht;intro k pos z;subst z;refine bE' hc ?_;clear hc;intro xs hx hc;refine gE hc ?_;clear hc;intro _ hc;cases hc;cases h:vT v with
  | none=>cases v <;> first|exact nn hb|exact nn h.symm
  | some us=>
   cases vT_inv h;clear h;have hb:(if xs.length==us.length then some ((xs.zip us).foldl (λr p=>rset r p.1 p.2) U) else none)=some U':=hb;split at hb
   ·rename_i hl
    cases hb;have hl:xs.length=us.length:=by simpa using hl
    dsimp only[Ab] at r;clear hb;refine x34 r ?_;clear r;intro a vs n z3 g bd rs;subst z3;refine x02 (lO (env:=env) hx) ?_;intro h1 h2;have hn:=A7 rs;refine wpAny_assign_Tuple hh ⟨_,g,rfl,_,rfl⟩ (by rw[h1,hl,<-hn];simp) h2 λh' hk=> ?_;have S1:Ac X (Wof env) Y s.heap Y h' hp:=(Ac.ext I λb o e=>hk b o (g1Q (g1T e)) e).mono (mmM);have F1:Ak X Y env U h':=F.ev I (Ac.ext I λb o e=>hk b o (g1Q (g1T e)) e);exact gM T hf hx hl S1.inv F1 (S1.vrs _ _ rs) (P.trans S1)
   ·exact nn hb
end Mine
namespace Mine
variable {X:Fx} {d:Nat} {hp:HP}
noncomputable def ExS(X:Fx)(tb:Tab)(r:R):Prop:= ∀d ss xs env U hp fl U' hp',cSs tb env.scope.names ss=some xs->r.ex d xs U hp=some (fl,U',hp')->Cc X d (execs ss env) env U hp fl U' hp'
noncomputable def Os(X:Fx)(tb:Tab)(r:R):Prop:= ∀d t elt gens s cp pos env T x U hp v hp' U',Jv env.scope.names t (.ListComp elt gens s cp)=true->cT tb true env.scope.names t=some T->cX tb env.scope.names (.ListComp elt gens s cp)=some x->r.ev d x U hp=some (v,hp')->bindT T v U=some U'->
 Cc X d (exec (.Assign [t] (.ListComp elt gens s cp) pos) env) env U hp .next U' hp'
theorem Dl.now{env Y s U hp' Q}{Y1 h1 t1}{W}(P:Dl X env Y s .next U hp' Q)(S:Ac X W Y s.heap Y1 h1 hp')(hw: ∀b∈W,b∈Wof env)(F:Ak X Y1 env U h1):Q .next {s with heap:=h1,toks:=t1}:=
 P Y1 h1 t1 .next (S.mono hw) F rfl
theorem Dl.eq{env Y s f U1 hp1 fl U hp' Q}(P:Dl X env Y s fl U hp' Q)(q:some (f,U1,hp1)=some (fl,U,hp')):Dl X env Y s f U1 hp1 Q:=by cases q;exact P
theorem Ac.nil{W Y h Y' h' hp'}(S:Ac X [] Y h Y' h' hp'):Ac X W Y h Y' h' hp':=S.mono (mmM)
theorem Kw{A:Around}{E:Value->Shared->Prop}{M:Model}{s:Shared}{t:Expr}{env:Env}{v:Value}{Q:Unit->Shared->Prop}(hns: ∀e p,t≠ .Starred e p)(h:cA M A (assign t env v) Q E s):cA M A (assignAll v ((g3Z [t] env).map (·.2))) Q E s:=by
 have e:(g3Z [t] env).map (·.2)=[assign t env]:=by
  clear h;cases t <;> first|rfl|exact absurd rfl (hns _ _)
 rw[e];exact h
theorem cT_plain{tb:Tab}{own:Bool}{sc:Sc}{t:Expr}{T:T}(h:cT tb own sc t=some T):(∃n p,t= .Name n p)\/∃es k p,t= .Tuple es k p:=by
 dsimp only[cT] at h;cases e:Cu t with
 | some n=>exact .inl ⟨_,_,nameOf_inv e⟩
 | none=>
  rw[e] at h;clear e;refine bE' h ?_;clear h;intro es e _;exact .inr ⟨es,Oe e⟩
theorem Zw{tb:Tab}{own:Bool}{sc:Sc}{t:Expr}{T:T}(h:cT tb own sc t=some T): ∀e p,t≠ .Starred e p:=λe p z=>by
 rw[z] at h;exact nn h
theorem Ba{α:Type}{o:Option α}{f:α->Bool}(h:o.any f=true): ∃a,o=some a/\f a=true:=by
 cases o with
 | none=>cases h
 | some a=>exact⟨a,rfl,h⟩
theorem nH{sc:Sc}{ts vs:List Expr}(h:Tu sc ts vs=true): ∃a b c d:Str×Pos,ts=[.Name a.1 a.2,.Name b.1 b.2]/\vs=[.Name c.1 c.2,.Name d.1 d.2]:=by
 refine x12 (Ba h) ?_;clear h;intro p e1 h;refine x12 (Ba h) ?_;clear h;intro q e2 h;refine x12 (Ba h) ?_;clear h;intro a ea h;refine x12 (Ba h) ?_;clear h;intro b eb h;refine x12 (Ba h) ?_;clear h;intro c ec h;refine x12 (Ba h) ?_;clear h;intro d ed h;exact⟨a,b,c,d,by rw[two_inv e1,nameOf_inv ea,nameOf_inv eb],by rw[two_inv e2,nameOf_inv ec,nameOf_inv ed]⟩
theorem fm2{α β:Type}{f:α->Option β}{x y:α}{a b:β}(h1:f x=some a)(h2:f y=some b):[x,y].filterMap f=[a,b]:=by
 rw[g8A h1,g8A h2];rfl
theorem zT{a b:Str}(h:a≠b):[a,b].eraseDups=[a,b]:=by
 simp[List.eraseDups_cons,g0F h]
theorem nI{env:Env}{a b c c':Str}{pa pb pc pd p1 p2:Pos}{k1 k2}(hk:env.scope.kind= .function)(h:Jv env.scope.names (.Tuple [.Name a pa,.Name b pb] k1 p1) (.Tuple [.Name c pc,.Name c' pd] k2 p2)=true):
  g9N [.Tuple [.Name a pa,.Name b pb] k1 p1] (.Tuple [.Name c pc,.Name c' pd] k2 p2) env=pure (some [a,b]):=by
 have h:(c != aM "__debug__" && a != b && env.scope.names.lookup a==some .local && env.scope.names.lookup b==some .local && pa.line==pb.line)=true:=h;refine bA h λh h4=>bA h λh h3=>bA h λh h2=>bA h λh0 h1=> ?_;have hb:env.blockKind= .function:=by dsimp only[Env.blockKind];rw[hk];rfl
 refine(if_neg (by rw[hb];exact bD)).trans ?_;refine(if_neg (by exact bD)).trans ?_;have e4:(pb.line==pa.line)=true:=(beq_iff_eq.2 (beq_iff_eq.1 h4).symm);dsimp -proj only;rw[fm2 (a:=a) (b:=b) (x:=PySem.Expr.Name a pa) (y:=PySem.Expr.Name b pb) ?h1 ?h2];case h1=>exact if_pos (aV.2 ⟨h2,beq_self_eq_true _⟩)
 case h2=>exact if_pos (aV.2 ⟨h3,e4⟩)
 refine(if_neg ?_).trans ?_
 ·rw[zT (bne_iff_ne.1 h1)];exact bD
 refine(if_neg (by exact bD)).trans ((if_neg ?_).trans rfl);exact λz=>bne_iff_ne.1 h0 (beq_iff_eq.1 (aV.1 z).1)
theorem BS{tb:Tab}{own:Bool}{sc:Sc}{a b:Str}{pa pb p:Pos}{k:Nat}{T:T}(h:cT tb own sc (.Tuple [.Name a pa,.Name b pb] k p)=some T): ∃i j,Ci tb own sc a=some i/\Ci tb own sc b=some j/\i≠j/\T= .many [i,j]:=by
 have h:((g7H (m:=Option) (Hq tb own sc) [.Name a pa,.Name b pb]).bind λxs=>Ar (Hz xs) (some (.many xs)))=some T:=h;refine bE' h ?_;clear h;intro xs hxs h;refine gE h ?_;clear h;intro hnd h;rw[g2X] at hxs;refine bE hxs ?_;clear hxs;intro i hi hxs;refine bE hxs ?_;clear hxs;intro ys hys hxs;cases hxs;rw[g2X] at hys;refine bE hys ?_;clear hys;intro j hj hys;refine bE hys ?_;clear hys;intro zs hzs hys;cases hys;cases hzs;refine⟨i,j,hi,hj,λz=> ?_,(aB h).symm⟩;clear hi hj h;subst z;simp[Hz] at hnd
theorem jH{i j:Nat}{v:V}{U U':Rho}(hb:bindT (.many [i,j]) v U=some U'): ∃u1 u2,v= .tup [u1,u2]/\U'=rset (rset U i u1) j u2:=by
 cases h:vT v with
 | none=>cases v <;> first|exact nn hb|exact nn h.symm
 | some us=>
  cases vT_inv h;clear h;cases us with
  | nil=>exact nn hb
  | cons u1 us=>cases us with
  | nil=>exact nn hb
  | cons u2 us=>cases us with
  | nil=>exact⟨u1,u2,rfl,(aB hb).symm⟩
  | cons _ _=>exact nn hb
theorem Zp{tb:Tab}(T:A0 X tb){A:Around}{env:Env}{U:Rho}{a b:Str}{i j:Nat}{u1 u2:V}{Y:List cK}{s:Shared}{rv:Value}{Q:Flow->Shared->Prop}{E:Value->Shared->Prop}{l:List (Value->Sem Unit)}(hfn:env.func.isSome=true)(hh:A.handled=none)
  (hi:Ci tb true env.scope.names a=some i) (hj:Ci tb true env.scope.names b=some j) (hne:i≠j) (I:Inv X Y s.heap hp) (F:Ak X Y env U s.heap) (r:Ab X Y s.heap (.tup [u1,u2]) rv) (P:E4 X env Y s (rset (rset U i u1) j u2) hp λ_=>Q .next):cA (mdl X) A (assignStores env rv (some [a,b]) l) Q E s:=by
 dsimp only[Ab] at r;refine x34 r ?_;clear r;intro ad vs n z3 g bd rs;subst z3;refine x23 (Bq rs) ?_;intro w1 w2 ew rw1 rw2;have hvs:vs.size=2:=congrArg g2K ew;dsimp only[assignStores];refine aG (g5R (aG ?_));show cA _ _ (unpackItems (.ref ad) 2 none) _ _ _;rw[<-hvs];refine wpAny_unpackItems_tuple hh ⟨_,g,rfl,_,rfl⟩ λh' hk=> ?_;have S2:=Ac.ext I (h':=h') λb o e=>hk b o (g1Q (g1T e)) e;have F2:=F.ev I S2;rw[ew];show cA _ _ ((gBC [w1] (bindName env b w2) >>= λ_=>gBC [] (bindName env a w1) >>= λ_=>pure ()) >>= λ_=>pure Flow.next) _ _ _;clear ew hvs rs g bd hk hh;refine x02 (Ky T hi) ?_;intro n1 k1;refine x02 (Ky T hj) ?_;intro n2 k2;refine aG (aG (g0S (gDW (Kr S2.inv F2 n2 (stk (λ_=>hfn) k2) (S2.vr _ _ rw2) λh3 t3 S3 F3=> ?_))));refine aG (g0S (gDW (Kr S3.inv F3 n1 (stk (λ_=>hfn) k1) (S3.vr _ _ (S2.vr _ _ rw1)) λh4 t4 S4 F4=> ?_)));refine aQ (aQ (P h4 t4 ((S2.nil.trans S3).trans S4) (F4.ext λk=> ?_)));rw[rget_rset,rget_rset,rget_rset,rget_rset];by_cases q:k=j
 ·rw[if_pos q,if_neg (by rw[q];exact λz=>hne z.symm),if_pos q]
 ·rw[if_neg q,if_neg q]
theorem BO{tb:Tab}{r:R}(T:A0 X tb)(hE:EvS X tb r)(hA:Os X tb r){t e:Expr}{pos:Pos}{env U T' x v hp1 U'}(hs:Jv env.scope.names t e=true)(ht:cT tb true env.scope.names t=some T')(hx:cX tb env.scope.names e=some x)(e1:r.ev d x U hp=some (v,hp1))(hb:bindT T' v U=some U'):
  Cc X d (exec (.Assign [t] e pos) env) env U hp .next U' hp1:=by
 by_cases hl:Jr e=true
 ·clear T hE;cases e <;> first|exact nf hl|skip
  exact hA _ _ _ _ _ _ _ _ _ _ _ _ _ _ _ hs ht hx e1 hb
 ·clear hA
  intro hfn A Y s Q E H F P;have hns:=Zw ht;have hsw:swapsWithSole [t] e pos.line env=pure false:=by
   clear T hE hs ht e1 hb hfn H F P hns;cases e <;> first|rfl|exact absurd rfl hl|exact nn hx
  clear hl;by_cases hw:g9N [t] e env=pure none
  ·refine g6J (hE _ _ _ _ _ _ _ _ hx e1 A Y s _ _ H F λY1 h1 t1 rv S1 r1=>Kw hns ?_) hsw hw
   refine H8 T (λ_=>hfn) H.room.handled ht hb S1.inv (F.ev H.inv S1) r1 λh2 t2 S2 F2=> ?_;exact P Y1 h2 t2 .next (S1.nil.trans S2) F2 rfl
  ·clear hns
   have hs0: ∃es es2 k p k2 p2,t= .Tuple es k p/\e= .Tuple es2 k2 p2:=by
    clear hE hs e1 hb hfn H F P hsw;rcases cT_plain ht with ⟨n,p,rfl⟩|⟨es,k,p,rfl⟩
    ·exact absurd rfl hw
    ·cases h:Go e with
     | none=>exact absurd (by cases e <;> first|rfl|exact nn h.symm) hw
     | some es2=>refine x21 (Oe h) ?_;intro k2 p2 z;exact⟨es,es2,k,p,k2,p2,rfl,z⟩
   refine x62 hs0 ?_;clear hs0 hw;intro es es2 k p k2 p2 z0 z1;subst z0;subst z1;refine x42 (nH hs) ?_;intro a b c c' z0 z1;subst z0;subst z1;have hss:=nI F.kind (k1:=k) (p1:=p) (k2:=k2) (p2:=p2) hs;clear hs;refine x24 (BS ht) ?_;clear ht;intro i j hi hj hne z;subst z;refine x22 (jH hb) ?_;clear hb;intro u1 u2 z0 z1;subst z0;subst z1;rw[gDE];refine aG (g1J ?_);rw[hsw];refine aG (aQ ?_);rw[if_neg (bD)];refine aG (hE _ _ _ _ _ _ _ _ hx e1 A Y s _ _ H F λY1 h1 t1 rv S1 r1=> ?_);rw[hss];refine aG (aQ ?_);exact Zp T hfn H.room.handled hi hj hne S1.inv (F.ev H.inv S1) r1 λh2 t2 S2 F2=>P Y1 h2 t2 .next (S1.nil.trans S2) F2 rfl
end Mine
namespace Mine
variable {X:Fx} {d:Nat} {hp:HP}
noncomputable def B4(X:Fx)(Y:List cK)(h:Heap)(it:cK):Itr->Prop
 | .rng cur step left=>IsRangeIter h it cur left step
 | .lst i n=> ∃a,Y[i]? =some a/\h.IsListIter it a n
 | .str cs=> ∃x t i,h.IsStrIter it "str_ascii_iterator" x t i/\B8 x/\(chars x).drop i=cs
theorem Es{Y h it j}(r:B4 X Y h it j): ∃o fs,h.get? it=some o/\o.data= .fields fs:=by
 cases j with
 | rng cur step left=>exact⟨_,_,r,rfl⟩
 | lst i n=>obtain⟨a,_,o,ho,_,hd⟩:=r;exact⟨o,_,ho,hd⟩
 | str cs=>obtain⟨x,t,i,⟨o,ho,_,hd⟩,_⟩:=r;exact⟨o,_,ho,hd⟩
theorem B4.keep{Y h Y' h' it j}(r:B4 X Y h it j)(hs: ∀(i:Nat) a,Y[i]? =some a->Y'[i]? =some a)(hk: ∀o,h.get? it=some o->h'.get? it=some o):B4 X Y' h' it j:=by
 cases j with
 | rng cur step left=>exact hk _ r
 | lst i n=>obtain⟨a,ha,o,ho,q⟩:=r;exact⟨a,hs _ _ ha,o,hk _ ho,q⟩
 | str cs=>obtain⟨x,t,i,⟨o,ho,q⟩,q2⟩:=r;exact⟨x,t,i,⟨o,hk _ ho,q⟩,q2⟩
theorem Tj{h:Heap}{it:cK}{o:Obj}{fs}(hc:X.n1<=it)(ho:h.get? it=some o)(hd:o.data= .fields fs): ∀b q,h.get? b=some q->Fk X b q->b≠it:=by
 intro b q e s hb;subst hb;rw[ho] at e;cases e;rcases s with ⟨_,_,s⟩|⟨_,s⟩|s
 ·rw[s] at hd;cases hd
 ·rw[s] at hd;cases hd
 ·exact absurd s (cH.mpr hc)
theorem Ac.iter{W Y0 h0 Y h hp h' it o fs}(S:Ac X W Y0 h0 Y h hp)(hz:h0.get? it=none)(hn:it∉Y)(hc:X.n1<=it)(ho:h.get? it=some o)(hd:o.data= .fields fs)
  (hk: ∀b q,b≠it->h.get? b=some q->h'.get? b=some q):Ac X W Y0 h0 Y h' hp:=by
 have hk': ∀b q,h.get? b=some q->Fk X b q->h'.get? b=some q:=λb q e s=>hk b q (Tj hc ho hd b q e s) e;have vr:=D6 (X:=X) (Y:=Y) (Y':=Y) (λ_ _ e=>e) hk';have vrs:=vrels_still (X:=X) (Y:=Y) (Y':=Y) (λ_ _ e=>e) hk';have ne0: ∀b q,h0.get? b=some q->b≠it:=λb q e hb=>by rw[hb,hz] at e;exact nn e
 refine⟨S.pre,⟨λb q e=>hk b q (λhb=> ?_) (S.inv.kin b q e),S.inv.len,S.inv.nd,S.inv.ge,λi q a e1 e2=> ?_⟩,λb q e hb hw=>hk b q (ne0 b q e) (S.keep b q e hb hw),λb q e=> ?_,λv rv r=>vr v rv (S.vr v rv r)⟩
 ·exact absurd (X.kb _ _ e) (cH.mpr (by rw[hb];exact hc))
 ·have hne:a≠it:=λz=>hn (z▸aU e2)
  have:=S.inv.ob i q a e1 e2;cases q with
  | l xs=>
   refine x23 this ?_;clear this;intro vs n bd g r;exact⟨vs,n,bd,hk _ _ hne g,vrs _ _ r⟩
  | d l=>
   refine x42 this ?_;clear this;intro b hs t n e g;exact⟨b,hs,t,n,e,hk _ _ hne g⟩
 ·refine x11 (S.alive b q e) ?_;intro q' e'
  exact⟨q',hk b q' (ne0 b q e) e'⟩
theorem Nh{Y h h' it o fs}(hc:X.n1<=it)(ho:h.get? it=some o)(hd:o.data= .fields fs)(hk: ∀b q,b≠it->h.get? b=some q->h'.get? b=some q): ∀v rv,Ab X Y h v rv->Ab X Y h' v rv:=
 D6 (λ_ _ e=>e) λb q e s=>hk b q (Tj hc ho hd b q e s) e
theorem Ak.iter{Y env U h h' it o fs}(F:Ak X Y env U h)(hc:X.n1<=it)(ho:h.get? it=some o)(hd:o.data= .fields fs)(hk: ∀b q,b≠it->h.get? b=some q->h'.get? b=some q):Ak X Y env U h':=by
 refine x12 F.vals ?_;intro m hn hv;have vr:=Nh (X:=X) (Y:=Y) hc ho hd hk;have cel: ∀c v,h.IsCell c v->h'.IsCell c v:=by
  intro c v ⟨q,hq,hdq⟩;refine⟨q,hk c q (λhb=> ?_) hq,hdq⟩;rw[hb,ho] at hq;cases hq;rw[hd] at hdq;cases hdq
 have hn':h'.Ns env.locals m:=by
  refine x33 hn ?_;clear hn;intro q es ep hq hdq r;refine⟨q,es,ep,hk _ q (λhb=> ?_) hq,hdq,r⟩;rw[hb,ho] at hq;cases hq;rw[hd] at hdq;cases hdq
 refine⟨F.kind,F.glo,F.blt,⟨m,hn',λi v x e ex=> ?_⟩,F.nin,F.low,λp e=> ?_,F.apart,F.has⟩
 ·have q:=hv i v x e ex
  refine⟨λk=> ?_,λk=> ?_⟩
  ·refine x12 (q.loc k) ?_;intro rv e1 r;exact⟨rv,e1,vr _ _ r⟩
  ·refine x23 (q.cel k) ?_;intro c rv e1 e2 r;exact⟨c,rv,e1,cel _ _ e2,vr _ _ r⟩
 ·obtain⟨⟨v,e2⟩,l⟩:=F.cel p e
  exact⟨⟨v,cel _ _ e2⟩,l⟩
theorem Oi{Y env U h it o fs}(F:Ak X Y env U h)(ho:h.get? it=some o)(hd:o.data= .fields fs):it∉Wof env:=by
 intro hm;rcases bM.mp hm with rfl|hm
 ·obtain⟨m,⟨q,es,ep,hq,hdq,_⟩,_⟩:=F.vals
  rw[ho] at hq;cases hq;rw[hd] at hdq;cases hdq
 ·split at hm
  case isFalse=>cases hm
  refine x12 (bI.mp hm) ?_;intro p hp z2;subst z2;obtain⟨⟨v,q,hq,hdq⟩,_⟩:=F.cel p hp;rw[ho] at hq;cases hq;rw[hd] at hdq;cases hdq
set_option tactic.hygienic true in
theorem R5{A:Around}{Y:List cK}{s:Shared}{E:Value->Shared->Prop}{it:cK}{j:Itr}{r:Option (V×Itr)}{Q:Option Value->Shared->Prop}(e:Ca hp j=some r)(H:Ah X A d Y s hp)(hit:B4 X Y s.heap it j)
  (P: ∀h' tk,(∀b q,b≠it->s.heap.get? b=some q->h'.get? b=some q)->match r with
   | none=>Q none {s with heap:=h',toks:=tk}
   | some (v,j')=>B4 X Y h' it j'->∀rv,Ab X Y s.heap v rv->Q (some rv) {s with heap:=h',toks:=tk}):cA (mdl X) A (pyNext (.ref it)) Q E s:=by
 unfold Ca at e;split at e
 ·cases e
  exact wpAny_pyNext_range_end H.room.handled hit (by simp) λh' hk=>P h' s.toks hk
 ·rename_i a c n
  cases e;refine wpAny_pyNext_range_item hit (gBN.2 (g0L _)) λh' hi hs=>P h' _ (λb q hb e=>(hs.2 b hb).trans e) ?_ _ Gd;show IsRangeIter h' it (a+c) (n:Int) c;have:((n+1:Nat):Int) - 1=(n:Int):=Q73;rw[this] at hi;exact hi
 ·rename_i i n
  refine bE e ?_;clear e;intro xs h1 e;refine x12 hit ?_;clear hit;intro a ha hl;obtain⟨a',vs,k,er,ha',bd,g,rs⟩:=Aw (rv:= .ref a) H.inv (by dsimp only[Ab];exact⟨a,ha,rfl⟩) h1;cases er;split at e
  ·rename_i v hv
   cases e;refine x12 (Fe rs hv) ?_;intro rv hrv rr;refine wpAny_pyNext_list_item hl (isList_of g) (by simpa using hrv) λh' hi hs=>P h' s.toks (λb q hb e=>(hs.2 b hb).trans e) ⟨a,ha,hi⟩ _ rr
  ·rename_i hv
   cases e;have hn:vs[n]? =none:=by
    have:=A7 rs;rw[g4G] at hv;rw[g7J];simp at this;exact Q74 this hv
   exact wpAny_pyNext_list_end H.room.handled hl (isList_of g) hn λh' hk=>P h' s.toks hk
 ·cases e
  refine x33 hit ?_;clear hit;intro x t i hs hx hd;have hn:x.cps[i]? =none:=by
   rw[g7J];have:=g5G.mp hd;rw[D5] at this;exact this
  exact wpAny_pyNext_ascii_end H.room.handled hs hn λh' hk=>P h' s.toks hk
 ·rename_i c r
  cases e;refine x33 hit ?_;clear hit;intro x t i hs hx hd;have hi:(chars x)[i]? =some c:=by
   have:=g9W (xs:=chars x) (i:=i) (j:=0);rw[hd] at this;exact gBY ‹_›
  have hd':(chars x).drop (i+1)=r:=by
   have:(chars x).drop (i+1)=((chars x).drop i).drop 1:=by rw[g2Y]
   rw[this,hd];rfl
  refine wpAny_pyNext_ascii_item hs (by unfold chars at hi;simpa using hi) λh' hi' hsb=>P h' _ (λb q hb e=>(hsb.2 b hb).trans e) ⟨x,t,i+1,hi',hx,hd'⟩ _ ?_;dsimp only[Ab];exact⟨_,rfl,R6 hx (aU hi)⟩
end Mine
namespace Mine
variable {X:Fx} {d:Nat} {hp:HP}
theorem Inv.fresh{Y h hp a}(I:Inv X Y h hp)(ha:h.get? a=none):a∉Y:=by
 intro hm;obtain⟨i,hi,rfl⟩:=g0O hm;have hi':i < hp.length:=I.len▸hi;have:=I.ob i hp[i] Y[i] (aD hi') (aD hi);clear I hm;cases hq:hp[i] with
 | l xs=>rw[hq] at this;refine x23 this ?_;clear this;intro vs n _ g _;rw[ha] at g;exact nn g
 | d l=>rw[hq] at this;refine x42 this ?_;clear this;intro b hs t n _ g;rw[ha] at g;exact nn g
noncomputable def Pw(X:Fx)(Y:List cK)(s:Shared)(j:Itr)(hp':HP)(Q:Value->Shared->Prop):Prop:=
 ∀Y' h' tk it,Ac X [] Y s.heap Y' h' hp'->s.heap.get? it=none->X.n1<=it->it∉Y'->B4 X Y' h' it j->Q (.ref it) {s with heap:=h',toks:=tk}
noncomputable def X4(X:Fx)(d:Nat)(e:Expr)(env:Env)(U:Rho)(hp:HP)(j:Itr)(hp':HP):Prop:=
 ∀(A:Around) (Y:List cK) (s:Shared) (Q:Value->Shared->Prop) (E:Value->Shared->Prop),Ah X A d Y s hp->Ak X Y env U s.heap->Pw X Y s j hp' Q->
  cA (mdl X) A (eval e env) (λx s₁=>cA (mdl X) A (pyIter x) Q E s₁) E s
noncomputable def oL(X:Fx)(tb:Tab)(r:R):Prop:= ∀d e x env U hp j hp',cIt tb env.scope.names e=some x->r.itr d x U hp=some (j,hp')->X4 X d e env U hp j hp'
theorem jV{v:V}{j:Itr}(e:Gq hp v=some j){A:Around}{Y:List cK}{s:Shared}{E Q:Value->Shared->Prop}{rv:Value}(H:Ah X A d Y s hp)(r:Ab X Y s.heap v rv)(P:Pw X Y s j hp Q):cA (mdl X) A (pyIter rv) Q E s:=by
 have e0:s.heap.get? s.heap.objs.size=none:=g0E (bJ _);refine oE e (λe=>bE' e λx hx e=> ?_) λi hi e=>bE' e λxs h1 e=> ?_
 ·cases e;rw[vS_inv hx] at r
  dsimp only[Ab] at r;refine x12 r ?_;clear r;intro t z1 hx;subst z1;refine wpAny_pyIter_ascii ?_ ?_
  ·rw[<-Array.all_toList,bB]
   intro c hc;simpa using hx.2 c hc
  ·exact P Y _ s.toks _ (Ac.push H.inv _) e0 H.inv.big (H.inv.fresh e0) ⟨x,t,0,⟨_,g0K _ rfl,rfl,rfl⟩,hx,rfl⟩
 ·cases e;rw[vL_inv hi] at r
  refine x35 (Aw H.inv r h1) ?_;intro a vs n z3 ha bd g rs;subst z3;refine wpAny_pyIter_list (isList_of g) ?_;exact P Y _ s.toks _ (Ac.push H.inv _) e0 H.inv.big (H.inv.fresh e0) ⟨a,ha,_,g0K _ rfl,rfl,rfl⟩
noncomputable def itE:It->Option Mine.X
 | .ex x=>some x
 | .rng _=>none
noncomputable def itR:It->Option (List Mine.X)
 | .ex _=>none
 | .rng x=>some x
theorem exI{a b:Mine.X}(h:It.ex a= .ex b):a=b:=aB (congrArg itE h)
theorem rgI{a b:List Mine.X}(h:It.rng a= .rng b):a=b:=aB (congrArg itR h)
theorem exR{a:Mine.X}{b:List Mine.X}{P:Prop}(h:It.ex a= .rng b):P:=nn (congrArg itR h)
theorem rgE{a:Mine.X}{b:List Mine.X}{P:Prop}(h:It.rng b= .ex a):P:=nn (congrArg itE h)
set_option tactic.hygienic true in
theorem BQ{tb:Tab}{sc:Sc}{e:Expr}{x:Mine.X}(h:cIt tb sc e=some (.ex x)):cX tb sc e=some x:=by
 cases e <;> first|exact nn h|skip
 case Call f args kws p=>
  dsimp only[cIt] at h;cases hr:J6 sc (.Call f args kws p) with
  | true=>rw[hr] at h;refine mE h ?_;intro _ _ z;exact rgE z
  | false=>rw[hr] at h;refine mE h ?_;intro _ hy z;cases exI z;exact hy
 case Name n p=>refine mE h ?_;intro _ hy z;cases exI z;exact hy
 case Attribute o n p=>
  refine gE h ?_;clear h;intro g h;refine mE h ?_;clear h;intro y hy z;cases exI z;show Ar _ ((cX tb sc o).map _)=_;rw[g,hy];rfl
 case Constant c k p=>
  cases c <;> first|exact nn h|skip
  refine gE h ?_;clear h;intro g h;cases exI (aB h);show (Ar _ (some _)).map _=_;rw[g];rfl
set_option tactic.hygienic true in
theorem Zu{tb:Tab}{sc:Sc}{e:Expr}{xs:List Mine.X}(h:cIt tb sc e=some (.rng xs)): ∃np args p,e= .Call (.Name "range" np) args [] p/\Bh sc "range"=true/\cXs tb sc args=some xs:=by
 cases e <;> first|exact nn h|skip
 case Call f args kws p=>
  dsimp only[cIt] at h;cases hr:J6 sc (.Call f args kws p) with
  | true=>
   rw[hr] at h;refine mE h ?_;clear h;intro _ hy z;cases rgI z;refine x13 (mU hr) ?_;clear hr;intro np z0 z1 hg;subst z0;subst z1;exact⟨np,args,p,rfl,hg,hy⟩
  | false=>rw[hr] at h;refine mE h ?_;intro _ _ z;exact exR z
 case Name n p=>refine mE h ?_;intro _ hy z;exact exR z
 case Attribute o n p=>
  refine gE h ?_;clear h;intro g h;refine mE h ?_;clear h;intro y hy z;exact exR z
 case Constant c k p=>
  cases c <;> first|exact nn h|skip
  refine gE h ?_;clear h;intro g h;exact exR (aB h)
theorem Ye{tb:Tab}{e0:Ag}{r:R}(Z:A3 X tb e0)(hE:EvS X tb r)(hV:Dd X tb r): ∀d e x env U hp j hp',cIt tb env.scope.names e=some x->Xv r d x U hp=some (j,hp')->X4 X d e env U hp j hp':=by
 intro d e x env U hp j hp' hc q;cases x with
 | ex x=>
  refine bE2 q ?_;clear q;intro v hp1 e1 q;refine bE q ?_;clear q;intro j' e2 q;refine s2 q ?_;clear q;intro A Y s Q E H F P;refine hE _ _ _ _ _ _ _ _ (BQ hc) e1 A Y s _ _ H F λY1 h1 t1 rv S1 r1=> ?_;refine jV (s:={s with heap:=h1,toks:=t1}) e2 (H.step S1) r1 λY2 h2 t2 it S2 z1 z2 z3 z4=> ?_;exact P Y2 h2 t2 it (S1.trans S2) (Eo S1.alive z1) z2 z3 z4
 | rng xs=>
  refine bE2 q ?_;clear q;intro vs hp1 e1 q;refine bE q ?_;clear q;intro j' e2 q;clear hE;cases q;refine x33 (Zu hc) ?_;clear hc;intro np args p z hg hx;subst z;refine x31 (Vl e2) ?_;intro cur step left z;subst z;intro A Y s Q E H F P;refine H9 Z hg (by decide) Z.range (.inr (.inr ⟨_,rfl⟩)) (Kx (pos:=p) hx) H F λY1 h1 t1 S1=> ?_;refine hV _ _ _ _ _ _ _ _ _ hx e1 A Y1 _ _ _ (H.step S1) (F.ev H.inv S1) λY2 h2 t2 rvs S2 r2=>⟨S2.inv.kin,?_⟩;refine To (s:={s with heap:=h2,toks:=t2}) e2 A Y2 rvs _ _ ((H.step S1).step S2) r2 λb ra t u v h3 t3 hk hra hs hz=> ?_;have S3:=Ac.ext S2.inv hk;refine wpAny_pyIter_range hra hs ?_;rw[hz];have S4:=Ac.push S3.inv {cls:= .type "range_iterator",data:= .fields #[rawInt cur,rawInt left,rawInt step]};have n0:h3.get? h3.objs.size=none:=g0E (bJ _);refine P Y2 _ t3 h3.objs.size (((S1.trans S2).trans S3).trans S4) (Eo S1.alive (Eo S2.alive (Eo S3.alive n0))) S3.inv.big (S3.inv.fresh n0) ?_;exact g0K _ rfl
end Mine
namespace Mine
variable {X:Fx} {d:Nat} {hp:HP}
structure RS(X:Fx)(tb:Tab)(r:R):Prop where
 ev:EvS X tb r
 tr:TrS X tb r
 evs:Dd X tb r
 itr:oL X tb r
 ex:ExS X tb r
 call:Fi X r
 asg:Os X tb r
noncomputable def yM(s0 s:Shared):Prop:= ∃h tk,s={s0 with heap:=h,toks:=tk}
structure At(X:Fx)(env:Env)(Y0:List cK)(s0:Shared)(Y:List cK)(s:Shared)(U:Rho)(hp:HP):Prop where
 same:yM s0 s
 step:Ac X (Wof env) Y0 s0.heap Y s.heap hp
 fr:Ak X Y env U s.heap
theorem At.eq{env Y0 s0 Y s U hp U2 hp2}(T:At X env Y0 s0 Y s U hp)(q:some (U,hp)=some (U2,hp2)):At X env Y0 s0 Y s U2 hp2:=by cases q;exact T
theorem At.post{env Y0 s0 Y s U hp fl U2 hp2 Q}(T:At X env Y0 s0 Y s U hp)(P:Dl X env Y0 s0 fl U2 hp2 Q):Dl X env Y s fl U2 hp2 Q:=by
 refine x21 T.same ?_;intro h tk e;intro Y' h' tk' fv S F r;have:=P Y' h' tk' fv (T.step.trans S) F r;rw[e];exact this
theorem At.next{env Y0 s0 Y s U hp Y' h' tk' U' hp'}(T:At X env Y0 s0 Y s U hp)(S:Ac X (Wof env) Y s.heap Y' h' hp')(F:Ak X Y' env U' h'):At X env Y0 s0 Y' {s with heap:=h',toks:=tk'} U' hp':=by
 refine x21 T.same ?_;intro h tk e;exact⟨⟨h',tk',by rw[e]⟩,T.step.trans S,F⟩
theorem BH{tb:Tab}{e0:Ag}{c:Expr}{body:List Stmt}{env:Env}{cx:Mine.X}{bx:List S}{A:Around}{Y0:List cK}{s0:Shared}{fl:Fl}{U2:Rho}{hp2:HP}{R:gBT->Shared->Prop}(hfn:env.func.isSome=true)(Rm:Ew A d)
  (hc:cX tb env.scope.names c=some cx) (hb:cSs tb env.scope.names body=some bx) (P:Dl X env Y0 s0 fl U2 hp2 (λf s'=>R (.ok f) s')) (n:Nat) (ih: ∀k,k < n->RS X tb (Ae e0 k))
  {U:Rho} {hp:HP} {Y:List cK} {s:Shared} (hq:(Ae e0 n).wl d cx bx U hp=some (fl,U2,hp2)) (T:At X env Y0 s0 Y s U hp):g7M (mdl X) A (.whileLoop c body [] env) R s:=by
 refine codeAny_whileLoop (λk s'=>k<=n/\∃U hp Y,(Ae e0 k).wl d cx bx U hp=some (fl,U2,hp2)/\At X env Y0 s0 Y s' U hp) ?_ n ⟨bJ _,U,hp,Y,hq,T⟩;rintro k s ⟨hk,U,hp,Y,hq,T⟩;cases k with
 | zero=>exact nn hq
 | succ m=>
  have I:=ih m (Q24 hk);have hq:wlF (Ae e0 m) d cx bx U hp=some (fl,U2,hp2):=hq;unfold wlF at hq;refine bE2 hq ?_;clear hq;intro t hp1 e1 hq;have H:Ah X A d Y s hp:=⟨Rm,T.step.inv⟩;refine I.tr _ _ _ _ _ _ _ _ hc e1 A Y s _ _ H T.fr λY1 h1 t1 S1=> ?_;have T1:=T.next (tk':=t1) S1.nil (T.fr.ev T.step.inv S1);clear hc ih T e1 H;cases t with
  | false=>
   exact g1S ((T1.post (P.eq hq)) Y1 h1 t1 .next (Ac.refl _ S1.inv) T1.fr rfl)
  | true=>
   refine bE3 hq ?_;clear hq;intro f U3 hp3 e2 hq;refine I.ex _ _ _ _ _ _ _ _ _ hb e2 hfn A Y1 _ _ _ ⟨Rm,S1.inv⟩ T1.fr λY2 h2 t2 fv S2 F2 r2=> ?_;have T2:=T1.next (tk':=t2) S2 F2;clear hfn Rm hb I S1 T1 e2;cases f with
   | next=>cases r2;exact⟨m,g1N _,Q75 hk,U3,hp3,Y2,hq,T2⟩
   | cont=>cases r2;exact⟨m,g1N _,Q75 hk,U3,hp3,Y2,hq,T2⟩
   | brk=>cases r2;exact T2.post (P.eq hq) Y2 h2 t2 .next (Ac.refl _ S2.inv) F2 rfl
   | ret v=>
    refine x12 r2 ?_;clear r2;intro rv z1 rr;subst z1;exact T2.post (P.eq hq) Y2 h2 t2 (.ret rv) (Ac.refl _ S2.inv) F2 ⟨rv,rfl,rr⟩
theorem BR{tb:Tab}{own:Bool}{sc:Sc}{es:List Expr}{k:Nat}{p:Pos}{t:T}(hc:cT tb own sc (.Tuple es k p)=some t): ∃xs,t= .many xs:=by
 have hc:((g7H (m:=Option) (Hq tb own sc) es).bind λxs=>Ar (Hz xs) (some (.many xs)))=some t:=hc;refine bE' hc ?_;clear hc;intro xs _ hc;refine gE hc ?_;clear hc;intro _ hc;exact⟨xs,(aB hc).symm⟩
theorem lK{xs:List Nat}{v:V}{U U':Rho}(hb:bindT (.many xs) v U=some U'): ∃us,v= .tup us:=by
 cases v <;> first|exact nn hb|exact⟨_,rfl⟩
theorem mG{j j':Itr}{us:List V}(e:Ca hp j=some (some (.tup us,j'))): ∃i q,j'= .lst i q:=by
 cases j with
 | rng a c n=>cases n <;> exact nomatch e
 | str s=>cases s <;> exact nomatch e
 | lst i n=>
  refine bE e ?_;clear e;intro xs _ e;cases h:xs[n]? with
  | none=>rw[h] at e;exact nomatch e
  | some u=>rw[h] at e;cases e;exact⟨_,_,rfl⟩
theorem Qf{tb:Tab}{own:Bool}{sc:Sc}{tg:Expr}{t:T}{A:Around}{Y:List cK}{s:Shared}{it:cK}{j j':Itr}{v:V}{rv:Value}{U U3:Rho}{Q:Unit->Shared->Prop}{E:Value->Shared->Prop}{h0:Heap}(hc:cT tb own sc tg=some t)(e1:Ca hp j=some (some (v,j')))(e2:bindT t v U=some U3)(rr:Ab X Y h0 v rv)(hj':B4 X Y s.heap it j')(hQ:Q () s):
  cA (mdl X) A (letOwnedTupleGo tg (.ref it) rv) Q E s:=by
 rcases cT_plain hc with ⟨n,p,rfl⟩|⟨es,k,p,rfl⟩
 ·exact aQ hQ
 ·refine x11 (BR hc) ?_;clear hc;intro xs z;subst z
  refine x11 (lK e2) ?_;clear e2;intro us z;subst z;dsimp only[Ab] at rr;refine x32 rr ?_;clear rr;intro a vs n z3 _;subst z3;refine x21 (mG e1) ?_;clear e1;intro i q z;subst z;refine x12 hj' ?_;clear hj';intro b _ hb;exact wpAny_letOwnedTupleGo_listiter hb hQ
theorem AM{tb:Tab}{e0:Ag}{tg:Expr}{body:List Stmt}{env:Env}{t:T}{bx:List S}{A:Around}{Y0:List cK}{s0:Shared}{fl:Fl}{U2:Rho}{hp2:HP}{R:gBT->Shared->Prop}{it:cK}(TO:A0 X tb)(hfn:env.func.isSome=true)(Rm:Ew A d)
  (hc:cT tb true env.scope.names tg=some t) (hb:cSs tb env.scope.names body=some bx) (P:Dl X env Y0 s0 fl U2 hp2 (λf s'=>R (.ok f) s')) (hz:s0.heap.get? it=none) (hn1:X.n1<=it) (n:Nat) (ih: ∀k,k < n->RS X tb (Ae e0 k))
  {U:Rho} {hp:HP} {Y:List cK} {s:Shared} {j:Itr} (hq:(Ae e0 n).fl d t j bx U hp=some (fl,U2,hp2)) (T:At X env Y0 s0 Y s U hp) (hi:it∉Y) (hj:B4 X Y s.heap it j):g7M (mdl X) A (.forLoop tg (.ref it) body [] env) R s:=by
 refine codeAny_forLoop_any (λk s'=>k<=n/\∃U hp Y j,(Ae e0 k).fl d t j bx U hp=some (fl,U2,hp2)/\At X env Y0 s0 Y s' U hp/\it∉Y/\B4 X Y s'.heap it j) ?_ n ⟨bJ _,U,hp,Y,j,hq,T,hi,hj⟩;rintro k s ⟨hk,U,hp,Y,j,hq,T,hi,hj⟩;cases k with
 | zero=>exact nn hq
 | succ m=>
  have I:=ih m (Q24 hk);have hq:flF (Ae e0 m) d t j bx U hp=some (fl,U2,hp2):=hq;unfold flF at hq;refine bE hq ?_;clear hq;intro r e1 hq;have H:Ah X A d Y s hp:=⟨Rm,T.step.inv⟩;refine x22 (Es hj) ?_;intro o fs ho hd;refine R5 e1 H hj λh' tk hk'=> ?_;have T1:At X env Y0 s0 Y {s with heap:=h',toks:=tk} U hp:=by
   refine x21 T.same ?_;intro h0 tk0 e;exact⟨⟨h',tk,by rw[e]⟩,T.step.iter hz hi hn1 ho hd hk',T.fr.iter hn1 ho hd hk'⟩
  cases r with
  | none=>
   exact g1S ((T1.post (P.eq hq)) Y h' tk .next (Ac.refl _ T1.step.inv) T1.fr rfl)
  | some p=>
   clear hz ih T hj H;obtain⟨v,j'⟩:=p;intro hj' rv rr;have rr':=Nh (X:=X) (Y:=Y) hn1 ho hd hk' _ _ rr;refine bE hq ?_;clear hq;intro U3 e2 hq;refine bE3 hq ?_;clear hq;intro f U4 hp4 e3 hq;refine Qf (s:={s with heap:=h',toks:=tk}) hc e1 e2 rr hj' ?_;refine H8 TO (λ_=>hfn) Rm.handled hc e2 T1.step.inv T1.fr rr' λh2 t2 S2 F2=> ?_;have T2:=T1.next (tk':=t2) S2 F2;refine x22 (Es hj') ?_;intro o' fs' ho' hd';have ap:=Oi T1.fr ho' hd';have hj2:B4 X Y h2 it j':=hj'.keep (λ_ _ e=>e) λo e=>S2.keep it o e hi ap;refine I.ex _ _ _ _ _ _ _ _ _ hb e3 hfn A Y _ _ _ ⟨Rm,S2.inv⟩ F2 λY3 h3 t3 fv S3 F3 r3=> ?_;have T3:=T2.next (tk':=t3) S3 F3;refine x22 (Es hj2) ?_;intro o2 fs2 ho2 hd2;have hj3:B4 X Y3 h3 it j':=hj2.keep (λ_ _ e=>S3.at e) λo e=>S3.keep it o e hi ap;have hi3:it∉Y3:=S3.notin' ho2 hi;cases f with
   | next=>cases r3;exact⟨m,g1N _,Q75 hk,U4,hp4,Y3,j',hq,T3,hi3,hj3⟩
   | cont=>cases r3;exact⟨m,g1N _,Q75 hk,U4,hp4,Y3,j',hq,T3,hi3,hj3⟩
   | brk=>cases r3;exact T3.post (P.eq hq) Y3 h3 t3 .next (Ac.refl _ S3.inv) F3 rfl
   | ret v=>
    refine x12 r3 ?_;clear r3;intro rv z1 rr;subst z1;exact T3.post (P.eq hq) Y3 h3 t3 (.ret rv) (Ac.refl _ S3.inv) F3 ⟨rv,rfl,rr⟩
end Mine
namespace Mine
variable {X:Fx} {d:Nat} {hp:HP}
structure Dh(X:Fx)(e0:Ag):Prop where
 sa: ∀(d:Nat) (hp:HP) (j k:Nat) (ys zs:List V) (A:Around) (Y:List cK) (s:Shared) (ro rv:Value) (sl:cK) (Q:Unit->Shared->Prop) (E:Value->Shared->Prop),lget hp j=some zs->lget hp k=some ys->j≠k->Ah X A d Y s hp->
  Ab X Y s.heap (.lst j) ro->Ab X Y s.heap (.lst k) rv->s.heap.IsSliceOf sl .none .none .none->(∀h' tk,Ac X [] Y s.heap Y h' (hp.set j (.l ys))->Q () {s with heap:=h',toks:=tk})->cA (mdl X) A (gDC ro (.ref sl) rv) Q E s
 dl: ∀(d:Nat) (hp hp':HP) (i l:Nat) (v:V) (g:cK) (A:Around) (Y:List cK) (s:Shared) (ro rv:Value) (Q:Unit->Shared->Prop) (E:Value->Shared->Prop),e0.mt .remove=some g->hp[i]? =some (.d l)->Ai X d (λrvs=>call (.ref g) rvs []) [.hdr i,v] hp .none hp'->Ah X A d Y s hp->
  Ab X Y s.heap (.hdr i) ro->Ab X Y s.heap v rv->(∀Y' h' tk,Ac X [] Y s.heap Y' h' hp'->Q () {s with heap:=h',toks:=tk})->cA (mdl X) A (gDF ro rv) Q E s
theorem BP{op:Operator}{o:Bop}{m n w hp'}(ho:O7 op=some o)(e:B7 o (.int m) (.int n) hp=some (w,hp')){A:Around}{Y:List cK}{s:Shared}{Q E:Value->Shared->Prop}{t u:Tok}(H:Ah X A d Y s hp)(P:Bl X Y s hp' w Q):cA (mdl X) A (inplaceOp op (.int m t) (.int n u)) Q E s:=by
 cases op <;> first|exact nn ho|skip
 ·cases ho;cases e;exact iadd_int (P.int H _ _)
 ·cases ho;cases e;exact isub_int (P.int H _ _)
theorem nX{e:Expr}(h:Ig e=true): ∃p,e= .Slice none none none p:=by
 cases hs:Gv e with
 | none=>unfold Ig at h;rw[hs] at h;exact nf h
 | some t=>
  refine x11 (Vf hs) ?_;intro p z;unfold Ig at h;rw[hs] at h;clear hs;obtain⟨lo,hi,st⟩:=t;cases lo with
  | some _=>exact nf h
  | none=>cases hi with
  | some _=>exact nf h
  | none=>cases st with
  | some _=>exact nf h
  | none=>exact⟨p,z⟩
theorem Qn{e o i:Expr}{p:Pos}{line:Nat}{env:Env}:swapsWith e (some (.Subscript o i p)) line env=pure false:=by
 cases e <;> rfl
theorem N6{tb:Tab}{sc:Sc}{e:Expr}{x:It}{env:Env}(h:cIt tb sc e=some x): ∀v,foldedSetIterable e env v=pure v:=by
 intro v;cases e <;> first|rfl|exact nn h
section
variable {tb:Tab} {e0:Ag} {n:Nat} {x:S} {env:Env} {U U':Rho} {fl:Fl} {hp':HP} {pos:Pos}
theorem CJ(I:RS X tb (Ae e0 n)){e:Expr}(hc:Ar (!Jr e) ((cX tb env.scope.names e).map .expr)=some x)(q:ex1 e0 (Ae e0 n) d x U hp=some (fl,U',hp')):Cc X d (exec (.Expr e pos) env) env U hp fl U' hp':=by
 refine gE hc ?_;clear hc;intro hcomp hc;refine mE hc ?_;clear hc;intro y hy z;subst z;refine bE2 q ?_;clear q;intro v hp1 e1 q;cases v <;> first|exact nn q|skip
 replace q:some (Fl.next,U,hp1)=some (fl,U',hp'):=q;refine s3 q ?_;clear q;intro hfn A Y s Q E H F P;refine wpAny_Expr_any (I.ev _ _ _ _ _ _ _ _ hy e1 A Y s _ _ H F λY1 h1 t1 rv S1 r1=> ?_) ?_ ?_
 ·exact P Y1 h1 t1 .next S1.nil (F.ev H.inv S1) rfl
 ·dsimp only[interactive];rw[F.kind];rfl
 ·clear I e1 hfn H F P;cases e <;> first|rfl|exact nf hcomp|exact nn hy
theorem AJ(I:RS X tb (Ae e0 n)){v:Option Expr}(hc:(match v with|some e=>(cX tb env.scope.names e).map S.ret|none=>some (.ret (.k .none)))=some x)(q:ex1 e0 (Ae e0 n) d x U hp=some (fl,U',hp')):Cc X d (exec (.Return v pos) env) env U hp fl U' hp':=by
 cases v with
 | some e=>
  refine mE hc ?_;clear hc;intro y hy z;subst z;refine bE2 q ?_;clear q;intro v hp1 e1 q;refine s3 q ?_;clear q;intro hfn A Y s Q E H F P;refine wpAny_Return_some (I.ev _ _ _ _ _ _ _ _ hy e1 A Y s _ _ H F λY1 h1 t1 rv S1 r1=> ?_);exact P Y1 h1 t1 (.ret rv) S1.nil (F.ev H.inv S1) ⟨rv,rfl,r1⟩
 | none=>
  clear I;cases hc;refine bE2 q ?_;clear q;intro v hp1 e1 q;cases n with
  | zero=>exact nn e1
  | succ m=>
   replace e1:some (V.none,hp)=some (v,hp1):=e1;cases e1;refine s3 q ?_;clear q;intro hfn A Y s Q E H F P;exact wpAny_Return_none (P Y s.heap s.toks (.ret .none) (Ac.refl _ H.inv) F ⟨.none,rfl,rfl⟩)
theorem yY(I:RS X tb (Ae e0 n)){c:Expr}{a b:List Stmt}(hc:((cX tb env.scope.names c).bind λc=>(cSs tb env.scope.names a).bind λa=>(cSs tb env.scope.names b).map λb=>S.if_ c a b)=some x)(q:ex1 e0 (Ae e0 n) d x U hp=some (fl,U',hp')):Cc X d (exec (.If c a b pos) env) env U hp fl U' hp':=by
 refine bE' hc ?_;clear hc;intro cx hcx hc;refine bE' hc ?_;clear hc;intro ax hax hc;refine mE hc ?_;clear hc;intro bx hbx z;subst z;refine bE2 q ?_;clear q;intro t hp1 e1 q;intro hfn A Y s Q E H F P;refine g9M (I.tr _ _ _ _ _ _ _ _ hcx e1 A Y s _ _ H F λY1 h1 t1 S1=> ?_);have P':Dl X env Y1 {s with heap:=h1,toks:=t1} fl U' hp' Q:=λY2 h2 t2 fv S2 F2 r2=>P Y2 h2 t2 fv (S1.nil.trans S2) F2 r2;clear hcx e1 P;cases t with
 | true=>exact I.ex _ _ _ _ _ _ _ _ _ hax q hfn A Y1 {s with heap:=h1,toks:=t1} Q E (H.step S1) (F.ev H.inv S1) P'
 | false=>exact I.ex _ _ _ _ _ _ _ _ _ hbx q hfn A Y1 {s with heap:=h1,toks:=t1} Q E (H.step S1) (F.ev H.inv S1) P'
theorem Z9(ih: ∀k,k<=n->RS X tb (Ae e0 k)){c:Expr}{body orelse:List Stmt}(hc:Ar orelse.isEmpty ((cX tb env.scope.names c).bind λc=>(cSs tb env.scope.names body).map λb=>S.while_ c b)=some x)(q:ex1 e0 (Ae e0 n) d x U hp=some (fl,U',hp')):Cc X d (exec (.While c body orelse pos) env) env U hp fl U' hp':=by
 refine gE hc ?_;clear hc;intro hz hc;cases isEmpty_inv hz;clear hz;refine bE' hc ?_;clear hc;intro cx hcx hc;refine mE hc ?_;clear hc;intro bx hbx z;subst z;intro hfn A Y s Q E H F P;refine wpAny_While ?_;exact BH (R:=λr s'=>match r with| .ok f=>Q f s'| .error e=>cameBackBy (mdl X) A env E e s') hfn H.room hcx hbx P n (λk hk=>ih k (g4C hk)) q ⟨⟨s.heap,s.toks,rfl⟩,Ac.refl _ H.inv,F⟩
theorem AH(T:A0 X tb)(ih: ∀k,k<=n->RS X tb (Ae e0 k)){tg it:Expr}{body orelse:List Stmt}(hc:Ar orelse.isEmpty ((cT tb true env.scope.names tg).bind λt=>(cIt tb env.scope.names it).bind λi=>(cSs tb env.scope.names body).map λb=>S.for_ t i b)=some x)(q:ex1 e0 (Ae e0 n) d x U hp=some (fl,U',hp')):Cc X d (exec (.For tg it body orelse pos) env) env U hp fl U' hp':=by
 refine gE hc ?_;clear hc;intro hz hc;cases isEmpty_inv hz;clear hz;refine bE' hc ?_;clear hc;intro t ht hc;refine bE' hc ?_;clear hc;intro ix hix hc;refine mE hc ?_;clear hc;intro bx hbx z;subst z;refine bE2 q ?_;clear q;intro j hp1 e1 q;intro hfn A Y s Q E H F P;refine wpAny_For ?_ (N6 hix);refine(ih n (bJ _)).itr _ _ _ _ _ _ _ _ hix e1 A Y s _ _ H F λY1 h1 t1 ita S1 z1 z2 z3 z4=> ?_;exact AM (R:=λr s'=>match r with| .ok f=>Q f s'| .error e=>cameBackBy (mdl X) A env E e s') T hfn H.room ht hbx P z1 z2 n (λk hk=>ih k (g4C hk)) q ⟨⟨h1,t1,rfl⟩,S1.nil,F.ev H.inv S1⟩ z3 z4
theorem AF(T:A0 X tb)(I:RS X tb (Ae e0 n)){t v:Expr}{op:Operator}(hc:((cN tb env.scope.names t).bind λx=>(O7 op).bind λo=>(cX tb env.scope.names v).map λe=>S.aug x o e)=some x)(q:ex1 e0 (Ae e0 n) d x U hp=some (fl,U',hp')):Cc X d (exec (.AugAssign t op v pos) env) env U hp fl U' hp':=by
 refine bE' hc ?_;clear hc;intro i hi hc;refine bE' hc ?_;clear hc;intro o ho hc;refine mE hc ?_;clear hc;intro y hy z;subst z;refine bE q ?_;clear q;intro u hu q;refine bE2 q ?_;clear q;intro w hp1 e1 q;refine bE' q ?_;clear q;intro m hm q;refine bE' q ?_;clear q;intro k hk q;cases vI_inv hm;clear hm;cases vI_inv hk;clear hk;refine yQ q ?_;clear q;intro z hp2 e2 q;refine s3 q ?_;clear q;refine bE' hi ?_;clear hi;intro nm hn hi;cases nameOf_inv hn;clear hn;refine x02 (Ky T hi) ?_;intro h1 h2;intro hfn A Y s Q E H F P;refine wpAny_AugAssign_Name (Ru hu h1 (h2.elim .inl λz=> .inr (.inl z.1)) (T.cd _ (aU h1)) A Y s _ _ H F λY0 g0 t0 r0 S0 q0=> ?_);refine I.ev _ _ _ _ _ _ _ _ hy e1 A Y0 _ _ _ (H.step S0) (F.ev H.inv S0) λY1 g1 t1 rv S1 q1=> ?_;dsimp only[Ab] at q0 q1;clear T I hy hu e1 hi;refine x11 q0 ?_;clear q0;intro ta z1;subst z1;refine x11 q1 ?_;clear q1;intro tb' z1;subst z1;refine BP ho e2 ((H.step S0).step S1) λY2 g2 t2 rw S2 q2=> ?_;have S:=(S0.trans S1).trans S2;exact Kr S.inv (F.ev H.inv S) h1 (stk (λ_=>hfn) h2) q2 λg3 t3 S3 F3=>P Y2 g3 t3 .next (S.nil.trans S3) F3 rfl
theorem AG(Z2:Dh X e0)(I:RS X tb (Ae e0 n)){ts:List Expr}(hc:((one ts).bind λt=>(Gl t).bind λp=>(cX tb env.scope.names p.1).bind λa=>(cX tb env.scope.names p.2).map λj=>S.del a j)=some x)(q:ex1 e0 (Ae e0 n) d x U hp=some (fl,U',hp')):Cc X d (exec (.Delete ts pos) env) env U hp fl U' hp':=by
 refine bE' hc ?_;clear hc;intro t h1 hc;cases one_inv h1;clear h1;refine bE' hc ?_;clear hc;intro p h1 hc;refine x11 (T0 h1) ?_;clear h1;intro sp z;subst z;refine bE' hc ?_;clear hc;intro ax hax hc;refine mE hc ?_;clear hc;intro jx hjx z;subst z;refine bE2 q ?_;clear q;intro ov hp1 e1 q;refine bE2 q ?_;clear q;intro iv hp2 e2 q;cases h:Iw ov with
 | none=>cases ov <;> first|exact nn q|exact nn h.symm
 | some i0=>
 cases asHd_inv h;clear h;dsimp only at q;cases hl:hp2[i0]? with
 | none=>rw[hl] at q;exact nn q
 | some ob=>cases ob with
 | l _=>rw[hl] at q;exact nn q
 | d l=>
 rw[hl] at q;refine bE q ?_;clear q;intro g hg q;refine bE2 q ?_;clear q;intro rv hp3 e3 q;cases rv <;> first|exact nn q|skip
 replace q:some (Fl.next,U,hp3)=some (fl,U',hp'):=q;refine s3 q ?_;clear q;have k2:=(I.call _ _ _ _ _ _ e3).2;clear e3;intro hfn A Y s Q E H F P;refine wpAny_Delete (wpAny_deleteEach_cons ?_);rw[arm_delete_Subscript];refine aG (I.ev _ _ _ _ _ _ _ _ hax e1 A Y s _ _ H F λY1 h1 t1 ro S1 r1=> ?_);refine aG (g0S (I.ev _ _ _ _ _ _ _ _ hjx e2 A Y1 _ _ _ (H.step S1) (F.ev H.inv S1) λY2 h2 t2 ri S2 r2=> ?_));refine aG (g1J (aG (g0S ?_)));refine Z2.dl d hp2 _ i0 _ iv g A Y2 _ ro ri _ _ hg hl k2 ((H.step S1).step S2) (S2.vr _ _ r1) r2 λY3 h3 t3 S3=> ?_;refine wpAny_release ?_;refine wpAny_deleteEach_nil ?_;exact P Y3 h3 t3 .next (((S1.trans S2).trans S3).nil) (F.ev H.inv ((S1.trans S2).trans S3)) rfl
set_option tactic.hygienic true in
theorem AD(Z2:Dh X e0)(I:RS X tb (Ae e0 n)){o v:Expr}{p p2:Pos}(hc:((cX tb env.scope.names o).bind λa=>(cX tb env.scope.names v).map λe=>S.setall a e)=some x)(q:ex1 e0 (Ae e0 n) d x U hp=some (fl,U',hp')):Cc X d (exec (.Assign [.Subscript o (.Slice none none none p2) p] v pos) env) env U hp fl U' hp':=by
 refine bE' hc ?_;clear hc;intro ax hax hc;refine mE hc ?_;clear hc;intro ex hex z;subst z;refine bE2 q ?_;clear q;intro w hp1 e1 q;refine bE2 q ?_;clear q;intro ov hp2 e2 q;refine bE' q ?_;clear q;intro j hj q;refine bE' q ?_;clear q;intro k hk q;cases vL_inv hj;clear hj;cases vL_inv hk;clear hk;refine bE' q ?_;clear q;intro zs hzs q;refine bE' q ?_;clear q;intro ys hys q;split at q
 ·exact nn q
 ·rename_i hjk
  refine s3 q ?_;clear q;have hjk:j≠k:=by simpa using hjk
  intro hfn A Y s Q E H F P;refine gAA ?_ Qn;refine I.ev _ _ _ _ _ _ _ _ hex e1 A Y s _ _ H F λY1 h1 t1 rv S1 r1=> ?_;refine I.ev _ _ _ _ _ _ _ _ hax e2 A Y1 _ _ _ (H.step S1) (F.ev H.inv S1) λY2 h2 t2 ro S2 r2=> ?_;refine wpAny_Slice ?_;rw[evalPart_none];refine aQ ?_;refine aQ ?_;refine aQ ?_;have S3:=Ac.push S2.inv {cls:= .type "slice",data:= .fields #[.none,.none,.none]};refine Z2.sa d hp2 j k ys zs A Y2 {s with heap:=h2.push {cls:= .type "slice",data:= .fields #[.none,.none,.none]},toks:=t2} ro rv h2.objs.size _ _ hzs hys hjk ⟨H.room,S3.inv⟩ (S3.vr _ _ r2) (S3.vr _ _ (S2.vr _ _ r1)) (gBU _ _ _ _) λh4 t4 S4=> ?_;have S:=((S1.trans S2).trans S3).trans S4;exact P Y2 h4 t4 .next S.nil (F.ev H.inv S) rfl
set_option tactic.hygienic true in
theorem AI(I:RS X tb (Ae e0 n)){o i v:Expr}{p:Pos}(hsl:El i=false)(hc:((cX tb env.scope.names o).bind λa=>(cX tb env.scope.names i).bind λj=>(cX tb env.scope.names v).map λe=>S.setidx a j e)=some x)(q:ex1 e0 (Ae e0 n) d x U hp=some (fl,U',hp')):Cc X d (exec (.Assign [.Subscript o i p] v pos) env) env U hp fl U' hp':=by
 refine bE' hc ?_;clear hc;intro ax hax hc;refine bE' hc ?_;clear hc;intro jx hjx hc;refine mE hc ?_;clear hc;intro ex hex z;subst z;refine bE2 q ?_;clear q;intro w hp1 e1 q;refine bE2 q ?_;clear q;intro ov hp2 e2 q;refine bE2 q ?_;clear q;intro iv hp3 e3 q;refine bE' q ?_;clear q;intro j hj q;refine bE' q ?_;clear q;intro m hm q;cases vL_inv hj;clear hj;cases vI_inv hm;clear hm;refine bE' q ?_;clear q;intro xs hxs q;split at q
 ·rename_i hb
  refine s3 q ?_;clear q;simp only[aI,decide_eq_true_eq] at hb;intro hfn A Y s Q E H F P;refine gAA ?_ Qn;refine I.ev _ _ _ _ _ _ _ _ hex e1 A Y s _ _ H F λY1 h1 t1 rv S1 r1=> ?_;refine I.ev _ _ _ _ _ _ _ _ hax e2 A Y1 _ _ _ (H.step S1) (F.ev H.inv S1) λY2 h2 t2 ro S2 r2=> ?_;refine I.ev _ _ _ _ _ _ _ _ hjx e3 A Y2 _ _ _ ((H.step S1).step S2) (F.ev H.inv (S1.trans S2)) λY3 h3 t3 ri S3 r3=> ?_;dsimp only[Ab] at r3;clear I hax hjx hex e1 e2 e3 hfn;refine x11 r3 ?_;clear r3;intro ti z1;subst z1;refine x35 (Aw S3.inv (S3.vr _ _ r2) hxs) ?_;intro a vs n' z3 ha bd g rs;subst z3;have hl':vs.size=xs.length:=A7 rs;refine ki_setAt (n:=n') g hb.1 (Q76 hb.2 bd) (Q77 hb.2 hl') ?_;have u:=PySem.IsL.update (h:=h3) g (λx=>x.setIfInBounds m.toNat rv);have S4:=Ac.setList (xs:=xs.set m.toNat w) S3.inv ha (g1D ..) u (by simpa using bd) (by simpa using Up m.toNat rs (S3.vr _ _ (S2.vr _ _ r1)));have S:=((S1.trans S2).trans S3).trans S4;exact P Y3 _ _ .next S.nil (F.ev H.inv S) rfl
 ·exact nn q
theorem AK(T:A0 X tb)(I:RS X tb (Ae e0 n)){a b v:Expr}(hc:((cN tb env.scope.names a).bind λx=>(cN tb env.scope.names b).bind λy=>(cX tb env.scope.names v).map λe=>S.assign2 x y e)=some x)(q:ex1 e0 (Ae e0 n) d x U hp=some (fl,U',hp')):Cc X d (exec (.Assign [a,b] v pos) env) env U hp fl U' hp':=by
 refine bE' hc ?_;clear hc;intro x1 h1 hc;refine bE' hc ?_;clear hc;intro x2 h2 hc;refine mE hc ?_;clear hc;intro ex hex z;subst z;refine bE2 q ?_;clear q;intro w hp1 e1 q;refine s3 q ?_;clear q;refine bE' h1 ?_;clear h1;intro n1 hn h1;cases nameOf_inv hn;clear hn;refine bE' h2 ?_;clear h2;intro n2 hn h2;cases nameOf_inv hn;clear hn;intro hfn A Y s Q E H F P;refine wpAny_Assign_two ?_;refine I.ev _ _ _ _ _ _ _ _ hex e1 A Y s _ _ H F λY1 g1 t1 rv S1 r1=> ?_;refine J7 T (λ_=>hfn) h1 S1.inv (F.ev H.inv S1) r1 λg2 t2 S2 F2=> ?_;refine J7 T (λ_=>hfn) h2 S2.inv F2 (S2.vr _ _ r1) λg3 t3 S3 F3=> ?_;exact P Y1 g3 t3 .next ((S1.nil.trans S2).trans S3) F3 rfl
theorem AE(Z:A3 X tb e0)(Z2:Dh X e0)(I:RS X tb (Ae e0 n)){ts:List Expr}{v:Expr}(hc:cS tb env.scope.names (.Assign ts v pos)=some x)(q:ex1 e0 (Ae e0 n) d x U hp=some (fl,U',hp')):Cc X d (exec (.Assign ts v pos) env) env U hp fl U' hp':=by
 dsimp only[cS] at hc;cases h1:one ts with
 | some t=>
  rw[h1] at hc;cases one_inv h1;clear h1;dsimp only at hc;cases h2:Gl t with
  | some p=>
   rw[h2] at hc;dsimp only at hc;refine x11 (T0 h2) ?_;clear h2;intro sp z;subst z;cases h3:Ig p.2 with
   | true=>
    rw[h3] at hc;refine x11 (nX h3) ?_;intro p2 z;rw[z];exact AD Z2 I hc q
   | false=>
    rw[h3] at hc;refine gE hc ?_;clear hc;intro hs hc;exact AI I (H0 hs) hc q
  | none=>
   rw[h2] at hc;clear h2;refine gE hc ?_;clear hc;intro hsw hc;refine bE' hc ?_;clear hc;intro t' ht hc;refine mE hc ?_;clear hc;intro ex hex z;subst z;refine bE2 q ?_;clear q;intro w hp1 e1 q;refine bE q ?_;clear q;intro U1 e2 q;refine s3 q ?_;clear q;exact BO Z.tab I.ev I.asg hsw ht hex e1 e2
 | none=>
  rw[h1] at hc;clear h1;refine bE' hc ?_;clear hc;intro p hp hc;cases two_inv hp;clear hp;exact AK Z.tab I hc q
end
set_option tactic.hygienic true in
theorem E6{tb:Tab}{e0:Ag}(Z:A3 X tb e0)(Z2:Dh X e0)(n:Nat)(ih: ∀k,k<=n->RS X tb (Ae e0 k)): ∀d st x env U hp fl U' hp',cS tb env.scope.names st=some x->ex1 e0 (Ae e0 n) d x U hp=some (fl,U',hp')->Cc X d (exec st env) env U hp fl U' hp':=by
 intro d st x env U hp fl U' hp' hc q;have I:=ih n (bJ _);cases st <;> first|exact nn hc|skip
 case Expr e pos=>exact CJ I hc q
 case Break pos=>
  clear Z Z2 ih I;cases hc;cases q;intro hfn A Y s Q E H F P;exact wpAny_Break (P Y s.heap s.toks .brk (Ac.refl _ H.inv) F rfl)
 case Continue pos=>
  clear Z Z2 ih I;cases hc;cases q;intro hfn A Y s Q E H F P;exact wpAny_Continue (P Y s.heap s.toks .cont (Ac.refl _ H.inv) F rfl)
 case Return v pos=>exact AJ I hc q
 case If c a b pos=>exact yY I hc q
 case While c body orelse pos=>exact Z9 ih hc q
 case For tg it body orelse pos=>exact AH Z.tab ih hc q
 case AugAssign t op v pos=>exact AF Z.tab I hc q
 case Delete ts pos=>exact AG Z2 I hc q
 case Assign ts v pos=>exact AE Z Z2 I hc q
theorem ex_ok{tb:Tab}{e0:Ag}(Z:A3 X tb e0)(Z2:Dh X e0)(n:Nat)(ih: ∀k,k<=n->RS X tb (Ae e0 k)):ExS X tb (Ae e0 (n+1)):=by
 intro d ss xs env U hp fl U' hp' hc q;have I:=ih n (bJ _);have q:exF e0 (Ae e0 n) d xs U hp=some (fl,U',hp'):=q;cases ss with
 | nil=>
  dsimp only[cSs] at hc;cases hc;dsimp only[exF] at q;cases q;intro hfn A Y s Q E H F P;exact g1S (P Y s.heap s.toks .next (Ac.refl _ H.inv) F rfl)
 | cons a as=>
  dsimp only[cSs] at hc;refine bE' hc ?_;clear hc;intro x hx hc;refine mE hc ?_;clear hc;intro ys hys hc;subst hc;dsimp only[exF] at q;refine bE3 q ?_;clear q;intro f U1 hp1 e1 q;intro hfn A Y s Q E H F P;refine g0B (E6 Z Z2 n ih _ _ _ _ _ _ _ _ _ hx e1 hfn A Y s _ _ H F λY1 h1 t1 fv S1 F1 r1=> ?_);clear Z Z2 ih hx e1;cases f with
  | next=>
   cases r1;exact I.ex _ _ _ _ _ _ _ _ _ hys q hfn A Y1 _ _ _ ⟨H.room,S1.inv⟩ F1 λY2 h2 t2 fv S2 F2 r2=>P Y2 h2 t2 fv (S1.trans S2) F2 r2
  | brk=>cases r1;exact P.eq q Y1 h1 t1 .brk S1 F1 rfl
  | cont=>cases r1;exact P.eq q Y1 h1 t1 .cont S1 F1 rfl
  | ret v=>
   refine x12 r1 ?_;clear r1;intro rv z1 rr;subst z1;exact P.eq q Y1 h1 t1 (.ret rv) S1 F1 ⟨rv,rfl,rr⟩
end Mine
namespace Mine
variable {X:Fx} {d:Nat} {hp:HP}
theorem Uy: ∀{names:List (Str×NameKind)} {n:Nat} {acc:List (Str×cK)},(names.map (·.1)).Nodup->(acc.map (·.1)).Nodup->(∀x∈names,x.1∉acc.map (·.1))->((g4H n names acc).map (·.1)).Nodup:=by
 intro names;induction names with
 | nil=>intro n acc _ h _;exact h
 | cons p r ih=>
  intro n acc h1 h2 h3;obtain⟨nm,k⟩:=p;simp only[cG,g1I] at h1;dsimp only[g4H];split
  ·refine ih h1.2 ?_ ?_
   ·simp only[cG,g1I]
    exact⟨h3 (nm,k) (bN ..),h2⟩
   ·intro x hx
    simp only[cG,bM,not_or];exact⟨λe=>h1.1 (bI.mpr ⟨x,hx,e⟩),h3 x (aX _ hx)⟩
  ·exact ih h1.2 h2 λx hx=>h3 x (aX _ hx)
theorem Vu{l:List (Str×cK)}(h:(l.map (·.1)).Nodup){p:Str×cK}(hp:p∈l):l.lookup p.1=some p.2:=by
 induction l with
 | nil=>cases hp
 | cons q r ih=>
  obtain⟨n,a⟩:=q;simp only[cG,g1I] at h;rcases bM.mp hp with rfl|hp
  ·simp[bO]
  ·have:p.1≠n:=λe=>h.1 (e▸bI.mpr ⟨p,hp,rfl⟩)
   simp only[bO,beq_eq_false_iff_ne.mpr this];exact ih h.2 hp
set_option tactic.hygienic true in
theorem G8: ∀{names:List (Str×NameKind)} {n:Nat} {acc:List (Str×cK)} {x:Str},((names.lookup x=some .cell)\/∃c,acc.lookup x=some c)->∃c,(g4H n names acc).lookup x=some c:=by
 intro names;induction names with
 | nil=>intro n acc x h;rcases h with h|h;exact nn h;exact h
 | cons p r ih=>
  intro n acc x h;obtain⟨nm,k⟩:=p;dsimp only[g4H];simp only[bO] at h;by_cases hx:x=nm
  ·subst hx
   simp only[beq_self_eq_true] at h;split
   ·exact ih (.inr ⟨n,by simp[bO]⟩)
   ·rename_i hk
    rcases h with h|h
    ·cases h;contradiction
    ·exact ih (.inr h)
  ·have hb:(x==nm)=false:=beq_eq_false_iff_ne.mpr hx
   simp only[hb] at h;split
   ·refine ih ?_
    rcases h with h|⟨c,h⟩
    ·exact .inl h
    ·exact .inr ⟨c,by simp only[bO,hb];exact h⟩
   ·exact ih h
theorem Sn{kindOf:Str->Option NameKind}: ∀{ps:List Str} {vals:List Value} {m:Str->Option Value},ps.Nodup->ps.length=vals.length->(∀(k:Nat) (p:Str) (v:Value),ps[k]? =some p->vals[k]? =some v->kindOf p=some .local->bindL kindOf (ps.zip vals) m p=some v)/\(∀p,p∉ps->bindL kindOf (ps.zip vals) m p=m p):=by
 intro ps;induction ps with
 | nil=>intro vals m _ _;exact⟨λk p v h=>by contradiction,λp _=>rfl⟩
 | cons q ps ih=>
  intro vals m hn hl;cases vals with
  | nil=>contradiction
  | cons u vals=>
   refine x02 (g1I.mp hn) ?_;intro h1 h2;obtain⟨i1,i2⟩:=ih (vals:=vals) (m:=if kindOf q=some .local then λy=>if y=q then some u else m y else m) h2 (by simpa using hl);refine⟨λk p v hp hv hk=> ?_,λp hp=> ?_⟩
   ·show bindL kindOf (ps.zip vals) _ p=some v
    cases k with
    | zero=>
     simp at hp hv;subst hp;subst hv;rw[i2 _ h1,if_pos hk];exact if_pos rfl
    | succ k=>exact i1 k p v (by simpa using hp) (by simpa using hv) hk
   ·show bindL kindOf (ps.zip vals) _ p=m p
    simp only[bM,not_or] at hp;rw[i2 p hp.2];split
    ·simp[hp.1]
    ·rfl
theorem Sm{kindOf:Str->Option NameKind}: ∀{ps:List Str} {vals:List Value} {m:Str->Option Value},ps.Nodup->ps.length=vals.length->(∀(k:Nat) (p:Str) (v:Value),ps[k]? =some p->vals[k]? =some v->kindOf p=some .cell->bindC kindOf (ps.zip vals) m p=some v)/\(∀p,p∉ps->bindC kindOf (ps.zip vals) m p=m p):=by
 intro ps;induction ps with
 | nil=>intro vals m _ _;exact⟨λk p v h=>by contradiction,λp _=>rfl⟩
 | cons q ps ih=>
  intro vals m hn hl;cases vals with
  | nil=>contradiction
  | cons u vals=>
   refine x02 (g1I.mp hn) ?_;intro h1 h2;obtain⟨i1,i2⟩:=ih (vals:=vals) (m:=if kindOf q=some .local then m else λy=>if y=q then some u else m y) h2 (by simpa using hl);refine⟨λk p v hp hv hk=> ?_,λp hp=> ?_⟩
   ·show bindC kindOf (ps.zip vals) _ p=some v
    cases k with
    | zero=>
     simp at hp hv;subst hp;subst hv;rw[i2 _ h1,if_neg (by rw[hk];simp)];exact if_pos rfl
    | succ k=>exact i1 k p v (by simpa using hp) (by simpa using hv) hk
   ·show bindC kindOf (ps.zip vals) _ p=m p
    simp only[bM,not_or] at hp;rw[i2 p hp.2];split
    ·rfl
    ·simp[hp.1]
set_option tactic.hygienic true in
theorem Tp: ∀{is:List Nat} {vs:List V} {i:Nat} {v:V},rget (is.zip vs) i=some v->∃k:Nat,is[k]? =some i/\vs[k]? =some v:=by
 intro is;induction is with
 | nil=>intro vs i v h;exact nn h
 | cons j is ih=>
  intro vs i v h;cases vs with
  | nil=>exact nn h
  | cons u vs=>
   have h:(match aW i j with|true=>some u|false=>rget (is.zip vs) i)=some v:=h;split at h
   ·rename_i q
    cases h;exact⟨0,by simp[aR q],rfl⟩
   ·refine x12 (ih h) ?_;intro k h1 h2
    exact⟨k+1,by simpa using h1,by simpa using h2⟩
end Mine
namespace Mine
variable {X:Fx} {d:Nat} {hp:HP}
structure FnOK(X:Fx)(tb:Tab)(a:cK)(fn:Fn)(o:Obj)(fd:FuncData)(body:List Stmt)(ps:List Str):Prop where
 at_:X.K.lookup a=some o
 data:o.data= .func fd
 clo:fd.closure=[]
 bod:fd.body= .stmts body
 comp:cSs tb fd.scope.names body=some fn.body
 glo:fd.globals=g0M
 blt:fd.builtins=g4W
 coro:fd.scope.isCoroutine=false
 gen:fd.scope.isGenerator=false
 kind:fd.scope.kind= .function
 nodup:(fd.scope.names.map (·.1)).Nodup
 nofree: ∀x,fd.scope.names.lookup x≠some .free
 bind: ∀vals:List Value,vals.length=ps.length->bY fd ⟨vals,[]⟩=pure (ps.zip vals)
 len:ps.length=fn.params.length
 psn:ps.Nodup
 par: ∀(k:Nat) (i:Nat) (p:Str),fn.params[k]? =some i->ps[k]? =some p->X.nm[i]? =some p
 parK: ∀p∈ps,fd.scope.names.lookup p=some .local\/fd.scope.names.lookup p=some .cell
 code: ∀h,X.K.In h->h.CodeRec fd.code fd.qualname
 nolim: ∀h,X.K.In h->h.NoLimit
 keep:g3C X.K (.ref a)=true
theorem Qx{tb:Tab}{a:cK}{fn:Fn}{o:Obj}{fd:FuncData}{body:List Stmt}{ps:List Str}(K:FnOK X tb a fn o fd body ps){r:R}(hx:ExS X tb r){vs:List V}{v:V}{hp':HP}{f:Fl}{U':Rho}(hl:fn.params.length=vs.length)
  (q:r.ex d fn.body (fn.params.zip vs) hp=some (f,U',hp')) (hf:f= .ret v\/(f= .next/\v= .none)):Ai X (d+1) (λrvs=>call (.ref a) rvs []) vs hp v hp':=by
 intro A Y s rvs Q E H r P;have hn:=A7 r;have lv:rvs.length=ps.length:=by rw[hn,<-hl,K.len]
 have rm:=H.room;refine g9E ?_;have kk:(callEnvC fd s.heap.objs.size a).kindOf=λx=>fd.scope.names.lookup x:=rfl;refine codeAny_call_cells (by have:=rm.depth;exact Q78 this) (H.inv.kin _ _ K.at_) K.data (K.nolim _ H.inv.kin) (K.code _ H.inv.kin) K.bod (K.bind _ lv) K.clo ?_ ?_ K.coro K.gen K.kind
 ·intro x hx
  have hm:x.1∈ps:=(g0Z hx).1;rcases K.parK _ hm with k|k
  ·exact .inl k
  ·refine .inr ⟨k,?_⟩
   refine x11 (G8 (names:=fd.scope.names) (n:=s.heap.objs.size+1) (acc:=[]) (.inl k)) ?_;intro c hc;rw[hc];rfl
 ·intro s₁ C
  refine x21 C.toInCall.same ?_;intro h1 t1 z2;subst z2;have keep:=C.toInCall.keep;have S1:Ac X [] Y s.heap Y h1 hp:=Ac.ext H.inv keep;have fresh: ∀c,s.heap.objs.size<=c->s.heap.get? c=none:=λc hc=>g0E hc;have bL:=(Sn (kindOf:=λx=>fd.scope.names.lookup x) (ps:=ps) (vals:=rvs) (m:=λ_=>none) K.psn lv.symm).1;have bC:=(Sm (kindOf:=λx=>fd.scope.names.lookup x) (ps:=ps) (vals:=rvs) (m:=λ_=>none) K.psn lv.symm).1;have F1:Ak X Y (callEnvC fd s.heap.objs.size a) (fn.params.zip vs) h1:=by
   refine⟨K.kind,K.glo,K.blt,⟨_,C.toInCall.ns,λi u x e ex=> ?_⟩,?_,H.inv.big,λp hp=> ?_,λx y c hx hy=> ?_,λx hx=> ?_⟩
   ·refine x12 (Tp e) ?_;intro k e1 e2
    have hk:k < ps.length:=by rw[K.len];exact(aF.mp e1).1
    have ep:ps[k]? =some ps[k]:=aD hk;have:=K.par k i ps[k] e1 ep;rw[ex] at this;cases this;refine x12 (Fe r e2) ?_;intro rv e3 rr;have rr':=S1.vr _ _ rr;refine⟨λz=>⟨rv,bL k _ rv ep e3 z,rr'⟩,λz=> ?_⟩;have z':fd.scope.names.lookup ps[k]=some .cell:=by
     rcases z with z|z
     ·exact z
     ·exact absurd z (K.nofree _)
    refine x11 (G8 (names:=fd.scope.names) (n:=s.heap.objs.size+1) (acc:=[]) (.inl z')) ?_;intro c hc;refine⟨c,rv,hc,?_,rr'⟩;have:=C.cell _ c hc;rw[kk,bC k _ rv ep e3 z'] at this;exact this
   ·exact H.inv.fresh (fresh _ (bJ _))
   ·have hnd:((g4H (s.heap.objs.size+1) fd.scope.names []).map (·.1)).Nodup:=Uy K.nodup (g4F) (by simp)
    have hlk:=Vu hnd hp;refine⟨⟨_,C.cell _ _ hlk⟩,?_⟩;exact bR H.inv.big (g4C (C.above p.1 p.2 hp))
   ·have:=C.apart
    by_cases hxy:x=y
    ·exact hxy
    ·exfalso
     have m1:=Dc hx;have m2:=Dc hy;rcases g4E.mp this with pw
     obtain⟨i1,l1,g1⟩:=g0O m1;obtain⟨i2,l2,g2⟩:=g0O m2;rcases g2V i1 i2 with h|h|h
     ·exact pw i1 i2 l1 l2 h (by rw[g1,g2])
     ·subst h;rw[g1] at g2;cases g2;exact hxy rfl
     ·exact pw i2 i1 l2 l1 h (by rw[g1,g2])
   ·rcases hx with z|z
    ·exact G8 (.inl z)
    ·exact absurd z (K.nofree _)
  refine hx d body fn.body (callEnvC fd s.heap.objs.size a) _ hp f U' hp' K.comp q rfl _ Y {s with heap:=h1,toks:=t1} _ _ ⟨⟨rm.handled,?_,?_⟩,S1.inv⟩ F1 λY2 h2 t2 fv S2 F2 r2=> ?_
  ·show A.depth+1+8*d+16 < g6B
   have:=rm.depth;exact Q79 this
  ·show A.units+3+32*d+256 < g8H
   have:=rm.units;exact Q80 this rfl
  ·have S2':Ac X [] Y s.heap Y2 h2 hp':=(S1.nil.trans S2).drop λb hb=>by
    right;rcases bM.mp hb with rfl|hb
    ·exact fresh _ (bJ _)
    ·split at hb
     case isFalse=>cases hb
     refine x12 (bI.mp hb) ?_;intro p hp z2;subst z2;exact fresh _ (g4C (C.above p.1 p.2 hp))
   rcases hf with rfl|⟨rfl,rfl⟩
   ·refine x12 r2 ?_;clear r2;intro rv z1 rr;subst z1
    exact P Y2 h2 t2 rv S2' rr
   ·cases r2
    exact P Y2 h2 t2 .none S2' (rfl)
noncomputable def Ix(X:Fx)(e0:Ag):Prop:= ∀d a vs hp v hp',3<=d->e0.ext a vs hp=some (v,hp')->g3C X.K (.ref a)=true/\Ai X d (λrvs=>call (.ref a) rvs []) vs hp v hp'
set_option tactic.hygienic true in
theorem fA{tb:Tab}{e0:Ag}(hT: ∀a fn,e0.ft a=some fn->∃o fd body ps,FnOK X tb a fn o fd body ps)(hext:Ix X e0){r:R}(hx:ExS X tb r): ∀d a vs hp v hp',callF e0 r d a vs hp=some (v,hp')->g3C X.K (.ref a)=true/\Ai X d (λrvs=>call (.ref a) rvs []) vs hp v hp':=by
 intro d a vs hp v hp' q;unfold callF at q;split at q
 ·rename_i x hxt
  split at q
  ·rename_i h3
   cases q;exact hext d a vs hp v hp' h3 hxt
  ·exact nn q
 ·split at q
  ·exact nn q
  ·rename_i fn hfn
   refine x41 (hT a fn hfn) ?_;intro o fd body ps K;split at q
   ·exact nn q
   ·split at q
    ·rename_i hl
     refine bE3 q ?_;clear q;intro f U' hp1 e1 q;refine⟨K.keep,?_⟩;have hl:fn.params.length=vs.length:=by simpa using hl
     cases f with
     | next=>cases q;exact Qx K hx hl e1 (.inr ⟨rfl,rfl⟩)
     | ret u=>cases q;exact Qx K hx hl e1 (.inl rfl)
     | brk=>exact nn q
     | cont=>exact nn q
    ·exact nn q
end Mine
namespace Mine
variable {X:Fx} {d:Nat} {hp:HP}
theorem lU{A:Around}{Y:List cK}{s:Shared}{E Q:Value->Shared->Prop}{it:cK}{j:Itr}(hj:B4 X Y s.heap it j)(h:Q (.ref it) s):cA (mdl X) A (pyIter (.ref it)) Q E s:=by
 cases j with
 | rng cur step left=>exact wpAny_pyIter_rangeiter hj h
 | lst i n=>refine x12 hj ?_;clear hj;intro a _ hl;exact wpAny_pyIter_listiter hl h
 | str cs=>refine x32 hj ?_;clear hj;intro x t i hs _;exact wpAny_pyIter_striter_ascii hs h
theorem iQ{tb:Tab}{r:R}(h1:TrS X tb r){env U}: ∀{es xs hp b hp'} {A:Around} {Y:List cK} {s:Shared} {Q:Bool->Shared->Prop} {E:Value->Shared->Prop},cXs tb env.scope.names es=some xs->Dj r d U xs hp=some (b,hp')->Ah X A d Y s hp->Ak X Y env U s.heap->
  (∀Y' h' tk,Ac X [] Y s.heap Y' h' hp'->Q b {s with heap:=h',toks:=tk})->
  cA (mdl X) A (forIn es true λc r=>if r=true then do let ok <-isTrue c env (eval c env);pure (ForInStep.yield ok) else pure (ForInStep.yield r)) Q E s:=by
 have off: ∀(es:List Expr) {A:Around} {s:Shared} {Q:Bool->Shared->Prop} {E:Value->Shared->Prop},Q false s->cA (mdl X) A (forIn es false λc r=>if r=true then do let ok <-isTrue c env (eval c env);pure (ForInStep.yield ok) else pure (ForInStep.yield r)) Q E s:=by
  intro es;clear h1;induction es with
  | nil=>intro A s Q E h;exact aQ h
  | cons a as ih=>
   intro A s Q E h;rw[g3R];exact aG (aQ (ih h))
 intro es;induction es with
 | nil=>
  clear h1 off;intro xs hp b hp' A Y s Q E hc e H F P;dsimp only[cXs] at hc;cases hc;dsimp only[Dj] at e;cases e;exact aQ (P Y s.heap s.toks (Ac.refl _ H.inv))
 | cons a as ih=>
  intro xs hp b hp' A Y s Q E hc e H F P;dsimp only[cXs] at hc;refine bE' hc ?_;clear hc;intro x hx hc;refine mE hc ?_;clear hc;intro xs hxs hc;subst hc;dsimp only[Dj] at e;refine bE2 e ?_;clear e;intro u hp1 e1 e;rw[g3R];refine aG ?_;rw[if_pos rfl];refine aG (h1 _ _ _ _ _ _ _ _ hx e1 A Y s _ _ H F λY1 h1' t1 S1=> ?_);refine aQ ?_;cases u with
  | true=>exact ih hxs e (H.step S1) (F.ev H.inv S1) λY3 h3 t3 S3=>P Y3 h3 t3 (S1.trans S3)
  | false=>cases e;exact off as (P Y1 h1' t1 S1)
end Mine
namespace Mine
variable {X:Fx} {d:Nat} {hp:HP}
theorem So{tb:Tab}{sc:Sc}{g:Comprehension}{r:List Comprehension}{gs:List G}(h:cGs tb sc sc (g::r)=some gs):
  ∃tg iter ifs ix t fx gs',g=⟨tg,iter,ifs,0⟩/\gs= .g t ix fx::gs'/\cIt tb sc iter=some ix/\cT tb false sc tg=some t/\cXs tb sc ifs=some fx/\cGs tb sc sc r=some gs':=by
 obtain⟨tg,iter,ifs,a⟩:=g;dsimp only[cGs] at h;refine bE' h ?_;clear h;intro ix h1 h;refine bE' h ?_;clear h;intro t h2 h;refine bE' h ?_;clear h;intro fx h3 h;refine gE h ?_;clear h;intro ha h;refine mE h ?_;clear h;intro gs' h4 h9;cases beq_iff_eq.mp ha;exact⟨tg,iter,ifs,ix,t,fx,gs',rfl,h9.symm,h1,h2,h3,h4⟩
theorem Tt{elt:Expr}{gens:List Comprehension}{scope:Scope}{cpos:Pos}{dp:Nat}{A:Around}{env:Env}{acc:Value}{R:gBT->Shared->Prop}{g:Comprehension}{it:cK}{j:Itr}{Y:List cK}{s:Shared}(hg:gens[dp]? =some g)(ha:g.is_async=0)(hj:B4 X Y s.heap it j)
  (h:g7M (mdl X) A (.compLoop (.ListComp elt gens scope cpos) dp (.ref it) acc env) R s):g7M (mdl X) A (.compStart (.ListComp elt gens scope cpos) dp (.ref it) acc env) R s:=by
 refine gDG ?_;show cA _ A ((compStart (.ListComp elt gens scope cpos) dp (.ref it) acc env).onRaise (λx=>do noteFrame x env;gAZ theWindowsPlace)) _ _ s;refine wpAny_notedAt ?_;dsimp only[compStart];show cA _ _ (if(gens[dp]?.elim false λg=>g.is_async != 0)=true then _ else _) _ _ s;rw[hg];rw[if_neg (by simp[ha])];refine aG (gCL (wpAny_ite ?_));clear ha;split
 ·first
   | exact aG (aQ (aQ (And.intro rfl h)))
   | exact aQ (And.intro rfl h)
 ·refine aG (g5R ?_)
  dsimp only[clausesOf];rw[hg];refine aG (g1J (aG (lU hj ?_)));exact aQ (And.intro rfl h)
noncomputable def oK(X:Fx)(d:Nat)(tb:Tab)(e0:Ag)(elt:Expr)(gens:List Comprehension)(scope:Scope)(cpos:Pos)(env:Env)(ex:Mine.X)(A:Around)(acc:Nat)(accA:cK)(n:Nat):Prop:=
 ∀(dp:Nat) (tg iter:Expr) (ifs:List Expr) (t:T) (fx:List Mine.X) (rest:List G) (it:cK) (j:Itr) (U U2:Rho) (hp hp2:HP) (Y0:List cK) (s0:Shared) (Y:List cK) (s:Shared) (R:gBT->Shared->Prop),
   gens[dp]? =some ⟨tg,iter,ifs,0⟩->cT tb false env.scope.names tg=some t->cXs tb env.scope.names ifs=some fx->cGs tb env.scope.names env.scope.names (gens.drop (dp+1))=some rest->
   (Ae e0 n).cl d ex t fx rest j acc U hp=some (U2,hp2)->At X env Y0 s0 Y s U hp->s0.heap.get? it=none->X.n1<=it->it∉Y->B4 X Y s.heap it j->Y[acc]? =some accA->
   (∀Y' s',At X env Y0 s0 Y' s' U2 hp2->Y'[acc]? =some accA->R (.ok .next) s')->
   g7M (mdl X) A (.compLoop (.ListComp elt gens scope cpos) dp (.ref it) (.ref accA) env) R s
set_option tactic.hygienic true in
theorem zQ{tb:Tab}{e0:Ag}{elt:Expr}{gens:List Comprehension}{scope:Scope}{cpos:Pos}{env:Env}{ex:Mine.X}{A:Around}{acc:Nat}{accA:cK}(TO:A0 X tb)(Rm:Ew A d)(hex:cX tb env.scope.names elt=some ex)(n:Nat)(ih: ∀k,k < n->RS X tb (Ae e0 k)):oK X d tb e0 elt gens scope cpos env ex A acc accA n:=by
 induction n with
 | zero=>
  intro dp tg iter ifs t fx rest it j U U2 hp hp2 Y0 s0 Y s R hg ht hfx hrest hq;exact nn hq
 | succ m IH=>
   intro dp tg iter ifs t fx rest it j U U2 hp hp2 Y0 s0 Y s R hg ht hfx hrest hq T hz hn1 hi hj hacc P;have I:=ih m (Q81);replace IH:=IH λk hk=>ih k (Q82 hk);clear ih;have hq:clF (Ae e0 m) d ex t fx rest j acc U hp=some (U2,hp2):=hq;dsimp only[clF] at hq;refine bE hq ?_;clear hq;intro r e1 hq;refine gDG ?_;show cA _ A ((compTurn (.ListComp elt gens scope cpos) dp (.ref it) (.ref accA) env).onRaise (λx=>do noteFrame x env;theTreesLotGoes x)) _ _ s;refine wpAny_noted ?_;unfold compTurn;dsimp only;rw[hg];refine aG (g1J ?_);have H:Ah X A d Y s hp:=⟨Rm,T.step.inv⟩;refine x22 (Es hj) ?_;intro o fs ho hd;show cA _ _ (pyNext (.ref it) >>= _) _ _ s;refine aG (R5 e1 H hj λh' tk hk'=> ?_);have T1:At X env Y0 s0 Y {s with heap:=h',toks:=tk} U hp:=by
    refine x21 T.same ?_;intro h0 tk0 e;exact⟨⟨h',tk,by rw[e]⟩,T.step.iter hz hi hn1 ho hd hk',T.fr.iter hn1 ho hd hk'⟩
   clear T hj H;cases r with
   | none=>
    exact aQ (P Y _ (T1.eq hq) hacc)
   | some p=>
    obtain⟨v,j'⟩:=p;intro hj' rv rr;have rr':=Nh (X:=X) (Y:=Y) hn1 ho hd hk' _ _ rr;refine bE hq ?_;clear hq;intro U3 e2 hq;refine bE2 hq ?_;clear hq;intro ok hp3 e3 hq;dsimp only;refine aG (Qf (s:={s with heap:=h',toks:=tk}) ht e1 e2 rr hj' ?_);clear ho hk' e1 rr;refine aG (H8 TO (by intro h;cases h) Rm.handled ht e2 T1.step.inv T1.fr rr' λh2 t2 S2 F2=> ?_);have T2:=T1.next (tk':=t2) S2 F2;refine x22 (Es hj') ?_;intro o' fs' ho' hd';have ap:=Oi T1.fr ho' hd';have hj2:B4 X Y h2 it j':=hj'.keep (λ_ _ e=>e) λo e=>S2.keep it o e hi ap;refine aG (iQ I.tr hfx e3 ⟨Rm,S2.inv⟩ F2 λY3 h3 t3 S3=> ?_);have F3:=F2.ev S2.inv S3;have T3:=T2.next (tk':=t3) S3.nil F3;refine x22 (Es hj2) ?_;intro o2 fs2 ho2 hd2;have hj3:B4 X Y3 h3 it j':=hj2.keep (λ_ _ e=>S3.at e) λo e=>S3.keep it o e hi (aA);have hi3:it∉Y3:=S3.notin' ho2 hi;have ha3:=S3.at hacc;clear TO hacc T1 hj' rr' e2 e3 S2 F2 T2 ho' hd' hj2 ho2 hd2;cases ok with
    | false=>
     refine aQ ⟨rfl,?_⟩;exact IH dp tg iter ifs t fx rest it j' U3 U2 hp3 hp2 Y0 s0 Y3 _ R hg ht hfx hrest hq T3 hz hn1 hi3 hj3 ha3 P
    | true=>
     dsimp only;cases rest with
     | nil=>
      have hnone:gens[dp+1]? =none:=by
       clear Rm hex hg ht hfx hz hn1 hi P IH I ap S3 F3 T3 hj3 hi3 ha3 hq;cases hd:gens.drop (dp+1) with
       | nil=>rw[g4G];exact g5G.mp hd
       | cons g r=>rw[hd] at hrest;refine x73 (So hrest) ?_;intro _ _ _ _ _ _ _ _ h _;cases h
      rw[hnone];refine bE2 hq ?_;clear hq;intro w hp4 e4 hq;refine bE hq ?_;clear hq;intro xs e5 hq;clear hd hnone;split at hq
      ·rename_i hlt
       refine aG ?_;refine aG (I.ev _ _ _ _ _ _ _ _ hex e4 A Y3 _ _ _ ⟨Rm,S3.inv⟩ F3 λY4 h4 t4 rw4 S4 r4=> ?_);have ha4:=S4.at ha3;refine aG (append_ok (d:=d) e5 hlt A Y4 {s with heap:=h4,toks:=t4} [.ref accA,rw4] _ _ ⟨Rm,S4.inv⟩ (D7 (by dsimp only[Ab];exact⟨accA,ha4,rfl⟩) r4) λY5 h5 t5 r5 S5 _=> ?_);have S45:=S4.trans S5;have T5:=T3.next (tk':=t5) S45.nil (F3.ev S3.inv S45);refine x22 (Es hj3) ?_;intro o3 fs3 ho3 hd3;refine aQ (aQ ⟨rfl,?_⟩);exact IH dp tg iter ifs t fx [] it j' U3 U2 _ hp2 Y0 s0 Y5 _ R hg ht hfx hrest hq T5 hz hn1 (S45.notin' ho3 hi3) (hj3.keep (λ_ _ e=>S45.at e) λo e=>S45.keep it o e hi3 (aA)) (S45.at ha3) P
      ·exact nn hq
     | cons gg rest'=>
      clear hex hd;obtain⟨t',ix',fx'⟩:=gg;refine bE2 hq ?_;clear hq;intro j2 hp4 e4 hq;refine bE2 hq ?_;clear hq;intro U5 hp5 e5 hq;cases hdr:gens.drop (dp+1) with
      | nil=>rw[hdr] at hrest;dsimp only[cGs] at hrest;cases hrest
      | cons g2 gr=>
       rw[hdr] at hrest;refine x76 (So hrest) ?_;intro tg2 iter2 ifs2 ix2 t2' fx2 gs2 z7 hgs c1 c2 c3 c4;subst z7;cases hgs;have hg2:gens[dp+1]? =some ⟨tg2,iter2,ifs2,0⟩:=by
        have:=g9W (xs:=gens) (i:=dp+1) (j:=0);rw[hdr] at this;exact gBY ‹_›
       have hdr2:gens.drop (dp+1+1)=gr:=by
        have:gens.drop (dp+1+1)=(gens.drop (dp+1)).drop 1:=by rw[g2Y]
        rw[this,hdr];rfl
       rw[hg2];refine aG (g1M (I.itr _ _ _ _ _ _ _ _ c1 e4 A Y3 {s with heap:=h3,toks:=t3} (λv s'=>cA (mdl X) A (runOwn (.compStart (.ListComp elt gens scope cpos) (dp+1) v (.ref accA) env) env) (λ_ s''=>g7M (mdl X) A (.compLoop (.ListComp elt gens scope cpos) dp (.ref it) (.ref accA) env) R s'') (notedBy (mdl X) A env λe s'=>R (.error e) s') s') _ ⟨Rm,S3.inv⟩ F3 λY4 h4 t4 it2 S4 z1 z2 z3 z4=> ?_) (λv s' hv=> ?_) λ_ _ x=>x)
       ·refine wpAny_runOwn ?_
        refine Tt (s:={s with heap:=h4,toks:=t4}) hg2 rfl z4 ?_;have T4:At X env Y3 {s with heap:=h3,toks:=t3} Y4 {s with heap:=h4,toks:=t4} U3 hp4:=⟨⟨h4,t4,rfl⟩,S4.nil,F3.ev S3.inv S4⟩;refine x22 (Es hj3) ?_;intro o3 fs3 ho3 hd3;refine IH (dp+1) tg2 iter2 ifs2 t' fx' rest' it2 j2 U3 U5 hp4 hp5 Y3 {s with heap:=h3,toks:=t3} Y4 _ _ hg2 c2 c3 (by rw[hdr2];exact c4) e5 T4 z1 z2 z3 z4 (S4.at ha3) λY6 s6 T6 ha6=> ?_;clear Rm I S3 ha3 e4 e5 c2 c1 c3 c4 hg2 hdr2 S4 z1 z4 T4;refine x21 T6.same ?_;intro h6 t6 z2;subst z2;have S6:Ac X (Wof env) Y3 h3 Y6 h6 hp5:=T6.step;have T7:At X env Y0 s0 Y6 {s with heap:=h6,toks:=t6} U5 hp5:=T3.next (tk':=t6) S6 T6.fr;have ap3:=Oi F3 ho3 hd3;exact IH dp tg iter ifs t fx (.g t' ix' fx'::rest') it j' U5 U2 hp5 hp2 Y0 s0 Y6 _ R hg ht hfx (by rw[hdr];exact hrest) hq T7 hz hn1 (S6.notin' ho3 hi3) (hj3.keep (λ_ _ e=>S6.at e) λo e=>S6.keep it o e hi3 ap3) ha6 P
       ·dsimp only
        refine aG (g1J ?_);rw[if_neg (by exact bD)];refine aG (g8E (N6 c1 v) ?_);refine aG (g0S ?_);rw[if_neg (by exact bD)];exact g1M hv (λv2 s2 hv2=>aG (g1M hv2 (λ_ _ x=>aQ ⟨rfl,x⟩) λ_ _ x=>x)) λ_ _ x=>x
end Mine
namespace Mine
variable {X:Fx} {d:Nat} {hp:HP}
noncomputable def clo(env:Env):List (Str×NameKind)->List (Str×cK)->List (Str×cK)
 | [],acc=>acc
 | (n,k)::r,acc=>if k== .free then clo env r ((n,(env.cells.lookup n).getD 0)::acc) else clo env r acc
set_option tactic.hygienic true in
theorem lM{scope:Scope}{env:Env}(h: ∀x∈scope.names,x.2= .free->∃c,env.cells.lookup x.1=some c):closureFor scope env=pure (clo env scope.names []):=by
 have go: ∀(names:List (Str×NameKind)) (acc:List (Str×cK)),(∀x∈names,x.2= .free->∃c,env.cells.lookup x.1=some c)->
   (forIn names acc λx cs=>do
    let (name,kind):=x
    if kind== .free then do
     let c <-cellOf env name
     pure (ForInStep.yield ((name,c)::cs))
    else pure (ForInStep.yield cs):Sem (List (Str×cK)))=pure (clo env names acc):=by
  intro names;induction names with
  | nil=>intro acc _;rfl
  | cons p r ih=>
   intro acc hh;obtain⟨n,k⟩:=p;rw[g3R];show _=pure (if k== .free then clo env r ((n,(env.cells.lookup n).getD 0)::acc) else clo env r acc);dsimp only;split
   ·rename_i hk
    obtain⟨c,hc⟩:=hh (n,k) (bN ..) (of_decide_eq_true ‹_›);have:cellOf env n=pure c:=by dsimp only[cellOf];rw[hc]
    rw[this,hc];exact ih _ λx hx=>hh x (aX _ hx)
   ·exact ih _ λx hx=>hh x (aX _ hx)
 dsimp only[closureFor];have:=go scope.names [] h;exact congrArg (λt:Sem (List (Str×cK))=>t >>= λs=>pure s) this
set_option tactic.hygienic true in
theorem Zz{env:Env}: ∀{names:List (Str×NameKind)} {acc:List (Str×cK)},(∀x∈names,x.2= .free->∃c,env.cells.lookup x.1=some c)->(∀p∈acc,env.cells.lookup p.1=some p.2)->∀p∈clo env names acc,env.cells.lookup p.1=some p.2:=by
 intro names;induction names with
 | nil=>intro acc _ h;exact h
 | cons q r ih=>
  intro acc h1 h2;obtain⟨n,k⟩:=q;dsimp only[clo];split
  ·rename_i hk
   refine ih (λx hx=>h1 x (aX _ hx)) λp hp=> ?_;rcases bM.mp hp with rfl|hp
   ·obtain⟨c,hc⟩:=h1 (n,k) (bN ..) (of_decide_eq_true ‹_›)
    have hc:env.cells.lookup n=some c:=hc;simp[hc]
   ·exact h2 p hp
  ·exact ih (λx hx=>h1 x (aX _ hx)) h2
set_option tactic.hygienic true in
theorem Rb{env:Env}: ∀{names:List (Str×NameKind)} {acc:List (Str×cK)} {x:Str},(names.lookup x=some .free\/∃c,acc.lookup x=some c)->∃c,(clo env names acc).lookup x=some c:=by
 intro names;induction names with
 | nil=>intro acc x h;rcases h with h|h;exact nn h;exact h
 | cons q r ih=>
  intro acc x h;obtain⟨n,k⟩:=q;dsimp only[clo];simp only[bO] at h;by_cases hx:x=n
  ·subst hx
   simp only[beq_self_eq_true] at h;split
   ·exact ih (.inr ⟨(env.cells.lookup x).getD 0,by simp[bO]⟩)
   ·rename_i hk
    rcases h with h|h
    ·cases h;contradiction
    ·exact ih (.inr h)
  ·have hb:(x==n)=false:=beq_eq_false_iff_ne.mpr hx
   simp only[hb] at h;split
   ·refine ih ?_
    rcases h with h|⟨c,h⟩
    ·exact .inl h
    ·exact .inr ⟨c,by simp only[bO,hb];exact h⟩
   ·exact ih h
set_option tactic.hygienic true in
theorem lQ{loc:List Nat}: ∀{U:Rho} {i:Nat} {v:V},rget (Av loc U) i=some v->i∉loc/\rget U i=some v:=by
 intro U;induction U with
 | nil=>intro i v h;exact nn h
 | cons p r ih=>
  intro i v h;obtain⟨j,u⟩:=p;dsimp only[Av] at h;split at h
  ·rename_i hj
   refine x02 (ih h) ?_;intro h1 h2;refine⟨h1,?_⟩;dsimp only[rget];have hne:i≠j:=by
    intro e;subst e;refine x12 (List.any_eq_true.mp hj) ?_;intro k hk e;exact h1 (aR e▸hk)
   have:aW i j=false:=by
    cases h:aW i j with
    | true=>exact absurd (aR h) hne
    | false=>rfl
   rw[this];exact h2
  ·rename_i hj
   unfold rget at h ⊢;split at h
   ·rename_i e
    cases h;refine⟨λhm=> ?_,rfl⟩;have:=aR e;subst this;rw[gAH] at hj;exact hj i hm (by assumption)
   ·exact ih h
end Mine
namespace Mine
variable {X:Fx} {d:Nat} {hp:HP}
theorem Ur{sc:Sc}{s:Scope}(h:Hv sc s=true):s.kind= .function/\∀x∈s.names,(x.2= .local\/(x.2= .free/\(sc.lookup x.1=some .cell\/sc.lookup x.1=some .free))\/x.2= .globalImplicit)/\s.names.lookup x.1=some x.2:=by
 refine bA h λh h4=>bA h λh _=>bA h λh1 _=>⟨beq_iff_eq.1 h1,λx hx=>bA (bB.1 h4 x hx) λa b=>⟨?_,beq_iff_eq.1 b⟩⟩;obtain⟨n,k⟩:=x;cases k <;> first|exact nf a|exact .inl rfl|exact .inr (.inr rfl)|exact .inr (.inl ⟨rfl,((g9L ..).1 a).imp beq_iff_eq.1 beq_iff_eq.1⟩)
set_option tactic.hygienic true in
theorem fQ{n:Str}: ∀{l:List Str} {i:Nat},n∈l->∃k,Cw l n i=some k:=by
 intro l;induction l with
 | nil=>intro i h;cases h
 | cons m r ih=>
  intro i h;dsimp only[Cw];split
  ·exact⟨i,rfl⟩
  ·rename_i hne
   rcases bM.mp h with h|h
   ·exact absurd h.symm hne
   ·exact ih h
noncomputable def Hl(s:Scope)(env:Env)(C:cK):Env:=compEnvC s (clo env s.names []) C env
theorem Va{s:Scope}{env:Env}(hk:env.scope.kind= .function):(relabel s env).names=Cs env.scope.names s.names:=by
 dsimp only[relabel,Cs];simp only[hk,beq_self_eq_true,g8C];rfl
theorem nR{sc:Sc}: ∀{names:Sc} {x:Str} {k:NameKind},(Cs sc names).lookup x=some k->(k= .cell/\names.lookup x=some .free/\sc.lookup x=some .cell)\/names.lookup x=some k:=by
 intro names;induction names with
 | nil=>intro x k h;exact nn h
 | cons p r ih=>
  intro x k h;obtain⟨n,kk⟩:=p;dsimp only[Cs] at h;simp only[cG] at h;by_cases hx:x=n
  ·subst hx
   by_cases hc:(kk==NameKind.free && sc.lookup x==some .cell)=true
   ·rw[if_pos hc] at h
    simp only[bO,beq_self_eq_true] at h;cases h;simp only[aI,beq_iff_eq] at hc;left;exact⟨rfl,by simp[bO,hc.1],hc.2⟩
   ·rw[if_neg hc] at h
    simp only[bO,beq_self_eq_true] at h;right;simp only[bO,beq_self_eq_true];exact h
  ·have hb:(x==n)=false:=beq_eq_false_iff_ne.mpr hx
   have:(Cs sc r).lookup x=some k:=by
    by_cases hc:(kk==NameKind.free && sc.lookup n==some .cell)=true
    ·rw[if_pos hc] at h;dsimp only[Cs];simpa only[bO,hb] using h
    ·rw[if_neg hc] at h;dsimp only[Cs];simpa only[bO,hb] using h
   rcases ih this with ⟨a,b,c⟩|a
   ·left;exact⟨a,by simp only[bO,hb];exact b,c⟩
   ·right;simp only[bO,hb];exact a
set_option tactic.hygienic true in
theorem jQ{tb:Tab}(T:A0 X tb){s:Scope}{env:Env}{Y:List cK}{U:Rho}{h h':Heap}{C:cK}(ok:Hv env.scope.names s=true)(F:Ak X Y env U h)(hk: ∀b o,h.get? b=some o->h'.get? b=some o)(vr: ∀v rv,Ab X Y h v rv->Ab X Y h' v rv)
  (hn:h'.Ns C (λ_=>none)) (hC:C∉Y) (hC1:X.n1<=C):Ak X Y (Hl s env C) (Av (He tb s.names) U) h':=by
 refine x02 (Ur ok) ?_;intro hkind hnames;have hfree: ∀x∈s.names,x.2= .free->∃c,env.cells.lookup x.1=some c:=by
  intro x hx hf;refine x02 (hnames x hx) ?_;intro a _;rcases a with a|⟨_,a⟩|a
  ·rw[hf] at a;cases a
  ·exact F.has x.1 a
  ·rw[hf] at a;cases a
 have mem:=Zz (names:=s.names) (acc:=[]) hfree (by simp);have kf: ∀x k,(Hl s env C).kindOf x=some k->(k= .cell/\s.names.lookup x=some .free/\env.scope.names.lookup x=some .cell)\/s.names.lookup x=some k:=by
  intro x k h;have h:(relabel s env).names.lookup x=some k:=h;rw[Va F.kind] at h;exact nR h
 have lm: ∀{x k},s.names.lookup x=some k->(x,k)∈s.names:=by
  intro x k;induction s.names with
  | nil=>intro h;exact nn h
  | cons p r ih=>
   intro h;obtain⟨n,kk⟩:=p;simp only[bO] at h;split at h
   ·rename_i q;cases h;rw[beq_iff_eq.mp q];exact bN ..
   ·exact aX _ (ih h)
 refine x12 F.vals ?_;intro m hm hv;refine⟨hkind,F.glo,F.blt,⟨_,hn,λi v x e ex=> ?_⟩,hC,hC1,λp hp=> ?_,λx y c hx hy=> ?_,λx hx=> ?_⟩
 ·refine x02 (lQ e) ?_;intro e1 e2
  have q:=hv i v x e2 ex;refine⟨λz=> ?_,λz=> ?_⟩
  ·exfalso
   rcases kf x _ z with ⟨a,_⟩|a
   ·cases a
   ·apply e1
    dsimp only[He];refine g9V.mpr ⟨(x,.local),lm a,?_⟩;simp only[beq_self_eq_true,if_true];obtain⟨k,hk'⟩:=fQ (l:=tb.tab) (n:=x) (i:=0) (by rw[T.tab];exact aU ex);have:=J5 hk';rw[T.tab] at this;rw[hk',Ml this ex]
  ·have hf:s.names.lookup x=some .free:=by
    rcases z with z|z
    ·rcases kf x _ z with ⟨_,b,_⟩|a
     ·exact b
     ·obtain⟨b,_⟩:=hnames _ (lm a)
      rcases b with b|⟨b,_⟩|b <;> cases b
    ·rcases kf x _ z with ⟨a,_⟩|a
     ·cases a
     ·exact a
   obtain⟨b,_⟩:=hnames _ (lm hf);have hc:env.kindOf x=some .cell\/env.kindOf x=some .free:=by
    rcases b with b|⟨_,b⟩|b
    ·cases b
    ·exact b
    ·cases b
   refine x23 (q.cel hc) ?_;intro c rv g1 g2 g3;obtain⟨c',hc'⟩:=Rb (env:=env) (names:=s.names) (acc:=[]) (x:=x) (.inl hf);have:=mem _ (Dc hc');rw[g1] at this;cases this;exact⟨_,rv,hc',g2.keeps hk,vr _ _ g3⟩
 ·have:=mem p hp
  obtain⟨⟨v,e2⟩,l⟩:=F.cel _ (Dc this);exact⟨⟨v,e2.keeps hk⟩,l⟩
 ·exact F.apart x y c (mem _ (Dc hx)) (mem _ (Dc hy))
 ·have hf:s.names.lookup x=some .free:=by
   rcases hx with z|z
   ·rcases kf x _ z with ⟨_,b,_⟩|a
    ·exact b
    ·obtain⟨b,_⟩:=hnames _ (lm a)
     rcases b with b|⟨b,_⟩|b <;> cases b
   ·rcases kf x _ z with ⟨a,_⟩|a
    ·cases a
    ·exact a
  exact Rb (.inl hf)
end Mine
namespace Mine
variable {X:Fx} {d:Nat} {hp:HP}
theorem Rf{tb:Tab}{e0:Ag}(T:A0 X tb)(m:Nat)(ih: ∀k,k<=m->RS X tb (Ae e0 k)){elt:Expr}{gens:List Comprehension}{s:Scope}{pos pos':Pos}{env:Env}{U:Rho}{v:V}{hp':HP}{gs:List G}{ex:Mine.X}{use:Option (Value->Sem Unit)}
  (ok:Hv env.scope.names s=true) (hg:cGs tb env.scope.names (Cs env.scope.names s.names) gens=some gs) (he:cX tb (Cs env.scope.names s.names) elt=some ex) (q:evF e0 (Ae e0 m) d (.comp (He tb s.names) ex gs) U hp=some (v,hp'))
  {A:Around} {Y:List cK} {sh:Shared} {Q:Value->Shared->Prop} {E:Value->Shared->Prop} (H:Ah X A d Y sh hp) (F:Ak X Y env U sh.heap)
  (P: ∀Y' h' tk rv C mm,Ac X [] Y sh.heap Y' h' hp'->Ab X Y' h' v rv->C∉Y'->X.n1<=C->sh.heap.get? C=none->h'.Ns C mm->compPost (mdl X) A E use Q rv C (.ok .next) {sh with heap:=h',toks:=tk}):
  cA (mdl X) A (g9P (.ListComp elt gens s pos) s env pos' (newList []) false (firstIter gens env) use) Q E sh:=by
 cases gens with
 | nil=>dsimp only[cGs] at hg;(first|exact nn hg|cases hg);(first|exact nn q|cases q)
 | cons g gr=>
  obtain⟨tg,iter,ifs,a⟩:=g;dsimp only[cGs] at hg;refine bE' hg ?_;intro ix h1 hgA;refine bE' hgA ?_;intro t h2 hgB;refine bE' hgB ?_;intro fx h3 hgC;clear hg hgA hgB;refine gE hgC ?_;clear hgC;intro ha hgC;cases beq_iff_eq.mp ha;clear ha;refine mE hgC ?_;clear hgC;intro gs' h4 hg9;subst hg9;refine bE2 q ?_;clear q;intro j hp1 e1 q;refine bE2 q ?_;clear q;intro U2 hp2 e2 q;cases q;refine x02 (Ur ok) ?_;intro hkind hnames;have hfree: ∀x∈s.names,x.2= .free->∃c,env.cells.lookup x.1=some c:=by
   intro x hx hf;refine x02 (hnames x hx) ?_;intro b _;rcases b with b|⟨_,b⟩|b
   ·rw[hf] at b;cases b
   ·exact F.has x.1 b
   ·rw[hf] at b;cases b
  refine wpAny_comprehension_free (g:=⟨tg,iter,ifs,0⟩) (gs:=gr) rfl (N6 h1) (lM hfree) hkind (λx hx hl=>by rw[<-hl];exact(hnames x hx).2) ?_;refine(ih m (bJ _)).itr _ _ _ _ _ _ _ _ h1 e1 A Y sh _ _ H F λY1 g1 t1 it S1 z1 z2 z3 z4=> ?_;refine g6Z ?_;have S2:=Ac.newList (vs:= #[]) (xs:=[]) (n:=0) S1.inv S1.inv.big (by simp) (rfl);refine wpAny_newFunctionEnv (λx hx=> ?_) (by simp) (λh' hn hs=> ?_) hkind
  ·refine x02 (hnames x hx) ?_;intro b _
   rcases b with b|⟨b,_⟩|b <;> (rw[b];simp)
  have keep: ∀b o,(g1.push {cls:= .type "list",data:= .seq #[] 0}).get? b=some o->h'.get? b=some o:=λb o e=>(hs.2 b (g1Q (g1T e))).trans (bS _ e);have S3:=Ac.ext S2.inv keep;have nC:(g1.push {cls:= .type "list",data:= .seq #[] 0}).get? (g1.push {cls:= .type "list",data:= .seq #[] 0}).objs.size=none:=g0E (bJ _);have F2:=(F.ev H.inv S1).ev S1.inv S2;have FI:=jQ T ok F2 keep S3.vr (C:=(g1.push {cls:= .type "list",data:= .seq #[] 0}).objs.size) hn (S2.inv.fresh nC) S2.inv.big;have hN:(Hl s env (g1.push {cls:= .type "list",data:= .seq #[] 0}).objs.size).scope.names=Cs env.scope.names s.names:=Va F.kind;refine x22 (Es z4) ?_;intro oi fi hoi hdi;have S23:=S2.trans S3;have zi:it∉Y1++[g1.objs.size]:=S2.notin' hoi z3;have zr:B4 X (Y1++[g1.objs.size]) h' it j:=z4.keep (λ_ _ e=>S23.at e) λo e=>S23.keep it o e z3 (aA);have hacc:(Y1++[g1.objs.size])[hp1.length]? =some g1.objs.size:=by rw[<-S1.inv.len];exact cF
  refine Tt (env:=Hl s env (g1.push {cls:= .type "list",data:= .seq #[] 0}).objs.size) (Y:=Y1++[g1.objs.size]) (s:={sh with heap:=h',toks:=_}) (g:=⟨tg,iter,ifs,0⟩) rfl rfl zr ?_;refine zQ (env:=Hl s env (g1.push {cls:= .type "list",data:= .seq #[] 0}).objs.size) T H.room (by rw[hN];exact he) m (λk hk=>ih k (Q75 hk)) 0 tg iter ifs t fx gs' it j _ U2 _ hp' Y sh (Y1++[g1.objs.size]) _ _ rfl (by rw[hN];exact h2) (by rw[hN];exact h3) (by rw[hN];exact h4) e2 ⟨⟨_,_,rfl⟩,(S1.trans S23).nil,FI⟩ z1 z2 zi zr hacc λY' s' T' ha'=> ?_;refine x21 T'.same ?_;intro h6 t6 z2;subst z2;have nC0:=Eo S1.alive (Eo S2.alive nC);have SF:Ac X [] Y sh.heap Y' h6 hp':=T'.step.drop λb hb=>by
   right;have:b=(g1.push {cls:= .type "list",data:= .seq #[] 0}).objs.size:=by
    rcases bM.mp hb with h|h
    ·exact h
    ·cases h
   rw[this];exact nC0
  refine x12 T'.fr.vals ?_;intro mm hmm _;exact P Y' h6 t6 (.ref g1.objs.size) _ mm SF (by dsimp only[Ab];exact⟨_,ha',rfl⟩) T'.fr.nin T'.fr.low nC0 hmm
end Mine
namespace Mine
variable {X:Fx} {d:Nat} {hp:HP}
theorem Uu{tb:Tab}{out sc:Sc}{gens:List Comprehension}{gs:List G}(h:cGs tb out sc gens=some gs):firstAsync gens=false:=by
 cases gens with
 | nil=>rfl
 | cons g gr=>
  obtain⟨tg,iter,ifs,a⟩:=g;dsimp only[cGs] at h;refine bE' h ?_;intro ix h1 hA;refine bE' hA ?_;intro t h2 hB;refine bE' hB ?_;intro fx h3 hC;clear h h1 hA h2 hB h3;refine gE hC ?_;clear hC;intro ha _;cases beq_iff_eq.mp ha;rfl
theorem Ts{W Y0 h0 Y h hp h' C mm}(S:Ac X W Y0 h0 Y h hp)(hz:h0.get? C=none)(hn:C∉Y)(hc:X.n1<=C)(ns:h.Ns C mm)(hs:g7V C h h'):Ac X W Y0 h0 Y h' hp/\∀v rv,Ab X Y h v rv->Ab X Y h' v rv:=by
 refine x33 ns ?_;clear ns;intro o es ep ho hd _;have hk: ∀b q,b≠C->h.get? b=some q->h'.get? b=some q:=λb q hb e=>(hs.2 b hb).trans e;have hk': ∀b q,h.get? b=some q->Fk X b q->h'.get? b=some q:=by
  intro b q e sd;refine hk b q (λhb=> ?_) e;clear S hz hs hk;subst hb;rw[ho] at e;clear ho;cases e;rcases sd with ⟨_,_,z⟩|⟨_,z⟩|z
  ·clear hn hc;rw[z] at hd;cases hd
  ·clear hn hc;rw[z] at hd;cases hd
  ·exact absurd z (cH.mpr hc)
 have vr:=D6 (X:=X) (Y:=Y) (Y':=Y) (λ_ _ e=>e) hk';have vrs:=vrels_still (X:=X) (Y:=Y) (Y':=Y) (λ_ _ e=>e) hk';have ne0: ∀b q,h0.get? b=some q->b≠C:=λb q e hb=>by rw[hb,hz] at e;exact nn e
 refine⟨⟨S.pre,⟨λb q e=>hk b q (λhb=> ?_) (S.inv.kin b q e),S.inv.len,S.inv.nd,S.inv.ge,λi q a e1 e2=> ?_⟩,λb q e hb hw=>hk b q (ne0 b q e) (S.keep b q e hb hw),λb q e=> ?_,λv rv r=>vr v rv (S.vr v rv r)⟩,vr⟩
 ·exact absurd (X.kb _ _ e) (cH.mpr (by rw[hb];exact hc))
 ·have hne:a≠C:=λz=>hn (z▸aU e2)
  have:=S.inv.ob i q a e1 e2;clear S hz hn hc ho hd hk' vr ne0 e1 e2;cases q with
  | l xs=>
   refine x23 this ?_;clear this;intro vs n bd g r;exact⟨vs,n,bd,hk _ _ hne g,vrs _ _ r⟩
  | d l=>
   refine x42 this ?_;clear this;intro b hs t n e g;exact⟨b,hs,t,n,e,hk _ _ hne g⟩
 ·refine x11 (S.alive b q e) ?_;intro q' e'
  exact⟨q',hk b q' (ne0 b q e) e'⟩
theorem Ak.other{Y env U h h' C}(F:Ak X Y env U h)(vr: ∀v rv,Ab X Y h v rv->Ab X Y h' v rv)(hC:C∉env.locals::env.cells.map (·.2))(hs:g7V C h h'):Ak X Y env U h':=by
 refine x12 F.vals ?_;intro m hn hv;have hl:env.locals≠C:=λe=>hC (e▸bN ..);have hc: ∀p∈env.cells,p.2≠C:=λp hp e=>hC (e▸aX _ (bI.mpr ⟨p,hp,rfl⟩));refine⟨F.kind,F.glo,F.blt,⟨m,hn.sameBut hs hl,λi v x e ex=> ?_⟩,F.nin,F.low,λp e=> ?_,F.apart,F.has⟩
 ·have q:=hv i v x e ex
  refine⟨λk=> ?_,λk=> ?_⟩
  ·refine x12 (q.loc k) ?_;intro rv e1 r;exact⟨rv,e1,vr _ _ r⟩
  ·refine x23 (q.cel k) ?_;intro c rv e1 e2 r;exact⟨c,rv,e1,e2.sameBut hs (hc _ (Dc e1)),vr _ _ r⟩
 ·clear vr hC hn hv hl;obtain⟨⟨v,e2⟩,l⟩:=F.cel p e
  exact⟨⟨v,e2.sameBut hs (hc p e)⟩,l⟩
theorem Ak.alive{Y env U h C}(F:Ak X Y env U h)(hz:h.get? C=none):C∉env.locals::env.cells.map (·.2):=by
 intro hm;rcases bM.mp hm with rfl|hm
 ·clear hm;obtain⟨m,⟨o,_,_,ho,_⟩,_⟩:=F.vals;rw[hz] at ho;cases ho
 ·refine x12 (bI.mp hm) ?_;intro p hp z2;subst z2
  clear hm;obtain⟨⟨v,o,ho,_⟩,_⟩:=F.cel p hp;clear F hp;rw[hz] at ho;cases ho
theorem fF{tb:Tab}{e0:Ag}(T:A0 X tb)(m:Nat)(ih: ∀k,k<=m->RS X tb (Ae e0 k)):X3 X tb e0 (Ae e0 m):=by
 intro d elt gens s pos env U hp v hp' gs ex ok hg he q A Y sh Q E H F P;rw[arm_eval_ListComp];show cA _ _ (g9P (.ListComp elt gens s pos) s env (firstIterPos gens pos) (newList []) (firstAsync gens) (firstIter gens env)) _ _ _;rw[Uu hg];refine Rf T m ih ok hg he q H F λY' h' tk rv C mm S r c1 c2 c3 ns=> ?_;exact⟨mm,ns,λh2 hs=>by
  refine x02 (Ts S c3 c1 c2 ns hs) ?_;intro S2 vr;exact P Y' h2 tk rv S2 (vr _ _ r)⟩
end Mine
namespace Mine
variable {X:Fx} {d:Nat} {hp:HP}
theorem mN{t elt:Expr}{gens:List Comprehension}{s:Scope}{cp:Pos}{line:Nat}{env:Env}: ∃b,swapsWithSole [t] (.ListComp elt gens s cp) line env=pure b:=by
 show ∃b,swapsWith (.ListComp elt gens s cp) (some t) line env=pure b;cases t <;> exact⟨_,rfl⟩
theorem asgS_ok{tb:Tab}{e0:Ag}(Z:A3 X tb e0)(m:Nat)(ih: ∀k,k<=m->RS X tb (Ae e0 k))(hE:EvS X tb (Ae e0 (m+1))):Os X tb (Ae e0 (m+1)):=by
 intro d t elt gens s cp pos env T' x U hp v hp' U' hsw ht hx q hb hfn A Y sh Q E H F P;refine x11 (mN (t:=t) (elt:=elt) (gens:=gens) (s:=s) (cp:=cp) (line:=pos.line) (env:=env)) ?_;intro b hbb;have hns: ∀e p,t≠ .Starred e p:=by
  clear Z ih hE hsw hx q hb hfn H F P hbb;rcases cT_plain ht with ⟨n,p,rfl⟩|⟨es,k,p,rfl⟩ <;> (intro _ _ h;cases h)
 cases b with
 | false=>
  have hw:g9N [t] (.ListComp elt gens s cp) env=pure none:=by
   clear Z ih hE hx q hb hfn H F P hns hbb;rcases cT_plain ht with ⟨n,p,rfl⟩|⟨es,k,p,rfl⟩
   ·rfl
   ·exact nomatch (show false=true from hsw)
  refine g6J (hE _ _ _ _ _ _ _ _ hx q A Y sh _ _ H F λY1 h1 t1 rv S1 r1=>Kw hns ?_) hbb hw;refine H8 Z.tab (λ_=>hfn) H.room.handled ht hb S1.inv (F.ev H.inv S1) r1 λh2 t2 S2 F2=> ?_;exact P Y1 h2 t2 .next (S1.nil.trans S2) F2 rfl
 | true=>
  rw[gDE];refine aG (g1J ?_);rw[hbb];refine aG (aQ ?_);rw[if_pos rfl];clear hE hsw hbb;refine gE hx ?_;clear hx;intro ok hx;refine bE' hx ?_;intro gs hg hx1;refine mE hx1 ?_;intro ex he hx2;clear hx hx1;subst hx2;refine aG ?_;show cA _ _ (g9P (.ListComp elt gens s cp) s env _ _ _ _ _ >>= _) _ _ _;rw[Uu hg];refine aG (Rf Z.tab m ih ok hg he q H F λY1 h1 t1 rv C mm S1 r1 c1 c2 c3 ns=> ?_);have hC:=F.alive c3;have hW:C∉Wof env:=λz=>hC (by
   dsimp only[Wof] at z;rw[if_pos hfn] at z;exact z)
  refine Kw hns (H8 Z.tab (λ_=>hfn) H.room.handled ht hb S1.inv (F.ev H.inv S1) r1 λh2 t2 S2 F2=> ?_);have ns2:h2.Ns C mm:=by
   refine x32 ns ?_;clear ns;intro o es ep ho r;exact⟨o,es,ep,S2.keep C o ho c1 hW,r⟩
  refine⟨mm,ns2,λh3 hs=> ?_⟩;refine x02 (Ts (S1.nil.trans S2) c3 c1 c2 ns2 hs) ?_;intro S3 vr;exact aQ (aQ (P Y1 h3 t2 .next S3 (F2.other vr hC hs) rfl))
end Mine
namespace Mine
variable {X:Fx}
theorem Mn{tb:Tab}{e0:Ag}(Z:A3 X tb e0)(Z2:Dh X e0)(hT: ∀a fn,e0.ft a=some fn->∃o fd body ps,FnOK X tb a fn o fd body ps)(hext:Ix X e0): ∀n,RS X tb (Ae e0 n):=by
 intro n;induction n using g7N with
 | ind n IH=>
  cases n with
  | zero=>
   refine⟨?_,?_,?_,?_,?_,?_,?_⟩
   ·intro d e x env U hp v hp' _ h;exact nn h
   ·intro d e x env U hp v hp' _ h;exact nn h
   ·intro d e x env U hp v hp' pos _ h;exact nn h
   ·intro d e x env U hp v hp' _ h;exact nn h
   ·intro d ss xs env U hp fl U' hp' _ h;exact nn h
   ·intro d a vs hp v hp' h;exact nn h
   ·intro d t elt gens s cp pos env T x U hp v hp' U' _ _ _ h;exact nn h
  | succ m=>
   have ih: ∀k,k<=m->RS X tb (Ae e0 k):=λk hk=>IH k (Q8 hk);have I:=ih m (bJ _);have hev:EvS X tb (Ae e0 (m+1)):=AC Z I.ev I.tr I.evs I.call (fF Z.tab m ih);exact⟨hev,BF Z I.ev I.tr,CI I.ev I.evs,Ye Z I.ev I.evs,ex_ok Z Z2 m ih,fA hT hext I.ex,asgS_ok Z m ih hev⟩
end Mine
namespace Mine
variable {X:Fx} {d:Nat} {hp:HP}
theorem Zc{A:Around}{E:Value->Shared->Prop}{prog:Program}{w:World}{s:Shared}{a b sl:cK}{xs ys:Array Value}{n k:Nat}{Q:Unit->Shared->Prop}(hab:a≠b)(ga:s.heap.get? a=some {cls:= .type "list",data:= .seq xs n})(gb:s.heap.get? b=some {cls:= .type "list",data:= .seq ys k})
  (hs:s.heap.IsSliceOf sl .none .none .none) (hz:xs.size+ys.size<=sizeLine) (h: ∀f:Array Value->Array Value,f xs=ys->Q () {s with heap:=s.heap.update a (g1C f)}):cA (gBA prog w) A (gDC (.ref a) (.ref sl) (.ref b)) Q E s:=by
 refine x13 (id hs) ?_;intro os hos hcs hds;have hTs:s.TypeIs (.ref sl) "slice":=⟨os,hos,hcs⟩;have hTa:s.TypeIs (.ref a) "list":=⟨_,ga,rfl⟩;have hTb:s.TypeIs (.ref b) "list":=⟨_,gb,rfl⟩;dsimp only[gDC];try with_reducible refine g0S ?_
 first|refine aG (aQ ?_)|skip
 refine aG (wpAny_sequenceKey hTa (rfl) ?_);refine aG (wpAny_callSpecial?_slot (name:=aM "__setitem__") hTa PySem.F.slot_list_setitem
  (g5F PySem.F.slot_list_setitem hTa PySem.F.entry_list_setitem ?_ (PySem.F.args_list_setitem_3 _ _ _)))
 show cA _ _ (g8L (.ref sl) >>= _) _ _ s;refine aG ?_;unfold g8L;refine aG (gDB hTs slice_no_index ?_);show cA _ _ (pure none) _ _ _;refine aQ ?_;show cA _ _ (typeOf (.ref sl) >>= _) _ _ s;refine aG (wpAny_typeOf hTs ?_);rw[if_neg (by exact bD)];rw[listSliceParts_eq];refine aG (aG (gAY hos hds (x:= .none) rfl (aG (g8V .none ?_))));rw[if_neg (by exact bD)];refine aG (gAY hos hds (x:= .none) rfl (aG (g8V .none ?_)));refine aG (gAY hos hds (x:= .none) rfl (aG (g8V .none (aQ ?_))));dsimp -proj only;rw[if_neg (by show ¬((a==b)=true);simpa using hab)];refine aG ?_;dsimp only[Builtin.List.listAllItems];refine aG (wpAny_typeOf hTb ?_);rw[if_pos (by rfl)];refine gCQ gb rfl ?_;refine aG (gCQ ga rfl ?_);refine aG (g8E (sliceIndices_raw none none none xs.size (by simp)) ?_);have e:sliceBounds none none none xs.size=(0,(xs.size:Int),1):=by dsimp only[sliceBounds];rfl
 rw[e];rw[if_pos (by rfl)];refine aG (g5R ?_);have hl:g9H (xs.size+ys.size)=false:=by dsimp only[g9H];simp;exact Q83 hz
 rw[hl];rw[if_neg (bD)];have em:(Max.max (0,(xs.size:Int),(1:Int)).fst (0,(xs.size:Int),(1:Int)).2.fst).toNat=xs.size:=by
  show (max 0 (xs.size:Int)).toNat=_;exact Int.toNat_natCast _
 rw[em];refine aG (gBW ga rfl ?_ (Q84 hz) ?_)
 ·refine aG (wpAny_letGo ?_)
  show cA _ _ (ret Value.none) _ _ _;refine aQ ⟨.none,rfl,aQ ?_⟩;refine h _ ?_;apply g9Z;simp
 ·simp
  exact Q85 hz
theorem side2_sa: ∀(d:Nat) (hp:HP) (j k:Nat) (ys zs:List V) (A:Around) (Y:List cK) (s:Shared) (ro rv:Value) (sl:cK) (Q:Unit->Shared->Prop) (E:Value->Shared->Prop),lget hp j=some zs->lget hp k=some ys->j≠k->Ah X A d Y s hp->
  Ab X Y s.heap (.lst j) ro->Ab X Y s.heap (.lst k) rv->s.heap.IsSliceOf sl .none .none .none->(∀h' tk,Ac X [] Y s.heap Y h' (hp.set j (.l ys))->Q () {s with heap:=h',toks:=tk})->cA (mdl X) A (gDC ro (.ref sl) rv) Q E s:=by
 intro d hp j k ys zs A Y s ro rv sl Q E ej ek hne H rj rk hs P;refine x35 (Aw H.inv rj ej) ?_;intro a va n z3 ha bda ga rsa;subst z3;refine x35 (Aw H.inv rk ek) ?_;intro b vb m z3 hb bdb gb rsb;subst z3;have la:=A7 rsa;have lb:=A7 rsb;have la':va.size=zs.length:=by simpa using la
 have lb':vb.size=ys.length:=by simpa using lb
 have hab:a≠b:=by
  intro e;subst e;exact hne ((g6F (aF.mp ha).1 H.inv.nd).mp (ha.trans hb.symm))
 refine Zc hab ga gb hs (by rw[g0Q];exact Q3 la' lb' bda bdb rfl) λf hf=> ?_;have u:=PySem.IsL.update (h:=s.heap) ga f;refine P _ s.toks (Ac.setList H.inv ha (g1D ..) u bdb ?_);rw[hf];exact rsb
end Mine
namespace Mine
variable {X:Fx} {d:Nat} {hp:HP}
theorem mT{A:Around}{E:Value->Shared->Prop}{M:Model}{s:Shared}{K:g5H}{x C f:cK}{ox:Obj}{od:Option Obj}{i:Value}{Q:Unit->Shared->Prop}(X₁:K.In s.heap)(I:InstAt s.heap x ox C od)(hq:noSeq K C=true)(hs:g3I K (.ref C) "__delitem__"=some (some (.ref f)))(hf:g6P K (.ref f)=some (.type "function"))
  (h:cA M A (call (.ref f) [.ref x,i]) (λ_ s'=>Q () s') E s):cA M A (gDF (.ref x) i) Q E s:=by
 unfold gDF sequenceKey;refine g0S (aG (aG (I.type.here ?_)));refine aG ((anyM_none X₁ hq).here ?_);rw[if_pos (show (!false)=true from rfl)];exact aQ (aG (special_fn X₁ I hs hf (g1M h (λ_ _ z=>aQ z) λ_ _ z=>z)))
theorem iI{e0:Ag}(hq:noSeq X.K X.CH=true)(hs: ∀g,e0.mt .remove=some g->g3I X.K (.ref X.CH) "__delitem__"=some (some (.ref g))/\g6P X.K (.ref g)=some (.type "function")): ∀(d:Nat) (hp hp':HP) (i l:Nat) (v:V) (g:cK) (A:Around) (Y:List cK) (s:Shared) (ro rv:Value) (Q:Unit->Shared->Prop) (E:Value->Shared->Prop),e0.mt .remove=some g->hp[i]? =some (.d l)->Ai X d (λrvs=>call (.ref g) rvs []) [.hdr i,v] hp .none hp'->Ah X A d Y s hp->
  Ab X Y s.heap (.hdr i) ro->Ab X Y s.heap v rv->(∀Y' h' tk,Ac X [] Y s.heap Y' h' hp'->Q () {s with heap:=h',toks:=tk})->cA (mdl X) A (gDF ro rv) Q E s:=by
 intro d hp hp' i l v g A Y s ro rv Q E hg hl op H ro_ rv_ P;refine x64 (Kd H.inv ro_ hl) ?_;intro x a b hsh t n z6 _ _ I;subst z6;refine x02 (hs g hg) ?_;intro h1 h2;refine mT H.inv.kin I hq h1 h2 ?_;exact op A Y s [.ref x,rv] _ _ H (D7 ro_ rv_) λY' h' tk rw S r=>P Y' h' tk S
theorem iJ{e0:Ag}(hq:noSeq X.K X.CH=true)(hs: ∀g,e0.mt .remove=some g->g3I X.K (.ref X.CH) "__delitem__"=some (some (.ref g))/\g6P X.K (.ref g)=some (.type "function")):Dh X e0:=
 ⟨side2_sa,iI hq hs⟩
end Mine
namespace Mine
noncomputable def kok(N:Nat)(lt:Nat->Nat->Bool){α:Type}:KasT α->(α->Prop)->Prop
 | .ret a,Q=>Q a
 | .ask i j k,Q=>i < N/\j < N/\kok N lt (k (lt i j)) Q
theorem G5{N lt}{α β:Type}{f:α->KasT β}{Q:β->Prop}: ∀(t:KasT α),kok N lt t (λa=>kok N lt (f a) Q)->kok N lt (t.bind f) Q
 | .ret _,h=>h
 | .ask _ _ k,h=>⟨h.1,h.2.1,G5 (k _) h.2.2⟩
theorem Ia{N lt}{α:Type}{i j:Nat}{k:Bool->KasT α}{Q:α->Prop}(hi:i < N)(hj:j < N)(h:kok N lt (k (lt i j)) Q):kok N lt (.ask i j k) Q:=⟨hi,hj,h⟩
section
variable {O:KeyOrd} {key:Nat->O.α} {N:Nat}
noncomputable def PK(key:Nat->O.α)(p:Array Nat)(i:Nat):O.α:=key (p.getD i 0)
noncomputable def C5(key:Nat->O.α)(p:Array Nat)(k:Nat):Prop:= ∀i j,i<=j->j < k->O.kle (PK key p i) (PK key p j)
noncomputable def Hh(key:Nat->O.α)(p:Array Nat)(k:Nat):Prop:= ∀i j,i<=j->j < k->O.kle (PK key p j) (PK key p i)
noncomputable def A4(N:Nat)(p:Array Nat):Prop:=p.Perm (g3A (aN N))
theorem Ib{p q:Array Nat}{i j:Nat}(h:p[i]? =q[j]?):PK key p i=PK key q j:=by
 dsimp only[PK];rw[g7F,g7F,h]
theorem A4.size{p:Array Nat}(h:A4 N p):p.size=N:=by have:=h.size_eq;simpa using this
theorem A4.lt{p:Array Nat}(h:A4 N p){i:Nat}(hi:i < N):p.getD i 0 < N:=by
 have hi':i < p.size:=by rw[h.size];exact hi
 have e:p.getD i 0=p[i]:=by simp[gDA,hi']
 rw[e];have hm:p[i]∈(g3A (aN N)).toList:=(g7I.mp h).mem_iff.mp (by simp);exact bQ.1 ‹_›
theorem Ty{xs:Array Nat}{src d:Nat}(hs:src < xs.size)(hd:d<=src)(k:Nat):
  PK key (bubble xs src d) k=if k=src - d then PK key xs src else if src - d < k/\k<=src then PK key xs (k - 1) else PK key xs k:=by
 have e:=getElem?_bubble hs d hd k;clear hs hd;by_cases h1:k=src - d
 ·rw[if_pos h1] at e ⊢;exact Ib e
 ·rw[if_neg h1] at e ⊢
  clear h1;by_cases h2:src - d < k/\k<=src
  ·rw[if_pos h2] at e ⊢;exact Ib e
  ·rw[if_neg h2] at e ⊢;exact Ib e
theorem PK_mirror{xs:Array Nat}{i j:Nat}(hj:j<=xs.size)(k:Nat):
  PK key (kas_rev xs i j) k=if i<=k/\k < j then PK key xs (i+j - 1 - k) else PK key xs k:=by
 have e:=getElem?_mirror_all (i:=i) hj k;clear hj;by_cases h1:i<=k/\k < j
 ·rw[if_pos h1] at e ⊢;exact Ib e
 ·rw[if_neg h1] at e ⊢;exact Ib e
theorem Im{xs:Array Nat}{i j:Nat}(hj:j<=xs.size)(heq: ∀k,i<=k->k < j->PK key xs k=PK key xs (j - 1))(k:Nat):
  PK key (kas_rev xs i j) k=PK key xs k:=by
 rw[PK_mirror hj];split
 ·rw[heq _ (R18 ‹_›) (R19 ‹_›),heq k (R20 ‹_›) (R21 ‹_›)]
 ·rfl
theorem A4.rev{p:Array Nat}(h:A4 N p)(i j:Nat):A4 N (kas_rev p i j):=(mirror_perm _ _ _ _).trans h
theorem A4.bub{p:Array Nat}(h:A4 N p)(i j:Nat):A4 N (bubble p i j):=(bubble_perm _ _ _).trans h
noncomputable abbrev ltK(key:Nat->O.α)(i j:Nat):Bool:=O.blt (key i) (key j)
theorem M5{p:Array Nat}{Q:Nat->Prop}(hB:A4 N p): ∀(f n:Nat),1<=n->n+f<=N->C5 key p n->
  (∀m,n<=m->m<=n+f->C5 key p m->(m=n+f\/O.klt (PK key p m) (PK key p (m - 1)))->Q m)->kok N (ltK key) (kas_asc p f n) Q
 | 0,n,_,_,hs,h=>h n (bJ _) (Q89) hs (.inl rfl)
 | f+1,n,h1,hf,hs,h=>by
  refine Ia (hB.lt (Q90 hf)) (hB.lt (Q91 hf)) ?_;show kok N (ltK key) (if O.blt (PK key p n) (PK key p (n - 1))=true then _ else _) Q;cases hless:O.blt (PK key p n) (PK key p (n - 1)) with
  | true=>exact h n (bJ _) (Q92) hs (.inr hless)
  | false=>
   rw[if_neg (bD)];refine M5 hB f (n+1) (Q93) (Q94 hf) (λi j hij hj=> ?_) λm a b c d=>h m (Q75 a) (Q95 b) c (d.imp (λe=>Q2 e.symm) id);clear hB h;by_cases hjx:j < n
   ·exact hs i j hij hjx
   ·have hj':j=n:=by exact Q96 hj (cH.1 hjx)
    subst hj';by_cases hi':i=j
    ·clear hij h1 hf hs hless hj hjx;subst hi';exact g1V _
    ·exact g2F (hs i (j - 1) (Q97 hi' hij h1) (Q98 h1)) hless
theorem Ud{p:Array Nat}{n nrem:Nat}{Q:Nat×Array Nat->Prop}(hn:nrem<=N)(h1:1<=n)(hnn:n<=nrem)(hB:A4 N p)(hs:Hh key p n)
  (h: ∀m p',A4 N p'->1<=m->m<=nrem->C5 key p' m->Q (m,p')):kok N (ltK key) (kas_tail3 n nrem p) Q:=by
 dsimp only[kas_tail3];have hsz:n<=p.size:=by rw[hB.size];exact Q45 hnn hn
 refine G5 _ (M5 (hB.rev 0 n) (nrem - n) n h1 (Q99 hnn hn) (λi j hij hj=> ?_) λm a b c _=>h m _ (hB.rev 0 n) (oO a h1) (oP b hnn) c);rw[PK_mirror hsz,PK_mirror hsz,if_pos (oQ hij hj),if_pos (oR hj)];exact hs _ _ (oS hj hij) (oT h1)
theorem Kj{Q:Array Nat×Nat×Nat->Prop}: ∀(f:Nat) (p:Array Nat) (x neq:Nat),1<=x->x+f<=N->A4 N p->Hh key p x->neq+1<=x->(∀i,x - (neq+1)<=i->i < x->PK key p i=PK key p (x - 1))->
  (∀m q p',A4 N p'->x<=m->m<=x+f->Hh key p' m->q+1<=m->(∀i,m - (q+1)<=i->i < m->PK key p' i=PK key p' (m - 1))->Q (p',m,q))->kok N (ltK key) (kas_desc f p x neq) Q
 | 0,p,x,neq,_,_,hB,hs,hq,he,h=>h x neq p hB (bJ _) (Q89) hs hq he
 | f+1,p,x,neq,h1,hf,hB,hs,hq,he,h=>by
  have hsz:x<=p.size:=by rw[hB.size];exact oU hf
  refine Ia (hB.lt (Q90 hf)) (hB.lt (Q91 hf)) ?_;show kok N (ltK key) (if O.blt (PK key p x) (PK key p (x - 1))=true then _ else _) Q;cases hless:O.blt (PK key p x) (PK key p (x - 1)) with
  | true=>
   rw[if_pos rfl];have step1: ∀xs:Array Nat,(∀k,PK key xs k=PK key p k)->Hh key xs (x+1):=by
    intro xs hk i j hij hj;rw[hk,hk];clear hB he h hk;by_cases hjx:j < x
    ·exact hs i j hij hjx
    ·have hj':j=x:=by exact Q96 hj (cH.1 hjx)
     subst hj';by_cases hi':i=j
     ·clear hij h1 hf hs hq hsz hless hj hjx;subst hi';exact g1V _
     ·exact g2F (g1W hless) (hs i (j - 1) (Q97 hi' hij h1) (Q98 h1))
   clear hs hless;by_cases hneq:neq > 0
   ·rw[if_pos hneq]
    exact Kj f _ (x+1) 0 (Q93) (Q94 hf) (hB.rev _ _) (step1 _ (Im hsz he)) (Io) (λi a b=>by congr 1;exact Ou a b) λm q p' a b c=>h m q p' a (Q75 b) (Q95 c)
   ·rw[if_neg hneq]
    exact Kj f _ (x+1) 0 (Q93) (Q94 hf) hB (step1 _ λ_=>rfl) (Io) (λi a b=>by congr 1;exact Ou a b) λm q p' a b c=>h m q p' a (Q75 b) (Q95 c)
  | false=>
   rw[if_neg (bD)];refine Ia (hB.lt (Q91 hf)) (hB.lt (Q90 hf)) ?_;show kok N (ltK key) (if O.blt (PK key p (x - 1)) (PK key p x)=true then _ else _) Q;cases hlarger:O.blt (PK key p (x - 1)) (PK key p x) with
   | true=>rw[if_pos rfl];exact h x neq p hB (bJ _) (Q92) hs hq he
   | false=>
    rw[if_neg (bD)];have heqx:PK key p x=PK key p (x - 1):=gDZ hlarger hless;refine Kj f _ (x+1) (neq+1) (Q93) (Q94 hf) hB (λi j hij hj=> ?_) (oV hq) (λi a b=> ?_) λm q p' a b c=>h m q p' a (Q75 b) (Q95 c)
    ·clear hB he h hless hlarger;by_cases hjx:j < x
     ·exact hs i j hij hjx
     ·have hj':j=x:=by exact Q96 hj (cH.1 hjx)
      subst hj';by_cases hi':i=j
      ·clear hij h1 hf hs hq hsz heqx hj hjx;subst hi';exact g1V _
      ·rw[heqx];exact hs i (j - 1) (Q97 hi' hij h1) (Q98 h1)
    ·rw[show x+1 - 1=x by exact oW]
     clear hB hs h hless hlarger;by_cases hix:i=x
     ·clear h1 hf hq he hsz heqx a b;subst hix;rfl
     ·rw[heqx];exact he i (R22 a) (Ge b hix)
theorem Vt{p:Array Nat}{n nrem:Nat}{Q:Nat×Array Nat->Prop}(hn:nrem<=N)(hnn:n+1<=nrem)(hB:A4 N p)(hs:Hh key p (n+1))
  (h: ∀m p',A4 N p'->1<=m->m<=nrem->C5 key p' m->Q (m,p')):kok N (ltK key) (kas_descPart n nrem p) Q:=by
 dsimp only[kas_descPart];refine G5 _ (Kj _ p (n+1) 0 (Q93) (oX hnn hn) hB hs (Io) (λi a b=>by congr 1;exact Ou a b) λm q p' a b c d e g=> ?_);have hsz:m<=p'.size:=by rw[a.size];exact oY c hnn hn
 dsimp only;clear hB hs;by_cases hq:q > 0
 ·rw[if_pos hq]
  refine Ud hn (V1 b) (V2 c hnn) (a.rev _ _) (λi j hij hj=> ?_) h;rw[Im hsz g,Im hsz g];exact d i j hij hj
 ·rw[if_neg hq]
  exact Ud hn (V1 b) (V2 c hnn) a d h
theorem jW{p:Array Nat}{nrem:Nat}{Q:Nat×Array Nat->Prop}(hn:nrem<=N)(h1:1<=nrem)(hB:A4 N p)
  (h: ∀m p',A4 N p'->1<=m->m<=nrem->C5 key p' m->Q (m,p')):kok N (ltK key) (kas_count nrem p) Q:=by
 dsimp only[kas_count];refine G5 _ (M5 hB (nrem - 1) 1 (bJ _) (oZ hn h1) (λi j hij hj=>by have:i=j:=(pA hij hj);subst this;exact g1V _) λn hn1 hn2 hsn hor=> ?_);by_cases hnn:n=nrem
 ·rw[if_pos (by exact decide_eq_true ‹_›)]
  exact h n p hB hn1 (Q18 hnn) hsn
 ·rw[if_neg (by simpa using hnn)]
  have hlt:O.klt (PK key p n) (PK key p (n - 1)):=hor.resolve_left (pB hnn h1);clear hor;by_cases hgt:n > 1
  ·rw[if_pos hgt]
   refine Ia (hB.lt (pC hn h1)) (hB.lt (pD hnn hn2 hn h1)) ?_;show kok N (ltK key) (if O.blt (PK key p 0) (PK key p (n - 1))=true then _ else _) Q;clear hgt;cases hrose:O.blt (PK key p 0) (PK key p (n - 1)) with
   | true=>rw[if_pos rfl];exact h n p hB hn1 (pE hnn hn2 h1) hsn
   | false=>
    rw[if_neg (bD)];have hsz:n<=p.size:=by rw[hB.size];exact pF hnn hn2 hn h1
    have hall: ∀k,0<=k->k < n->PK key p k=PK key p (n - 1):=by
     intro k _ hk;have a1:=hsn 0 k (Q15) hk;have a2:=hsn k (n - 1) (Q54 hk) (Q98 hn1);exact gDZ a2 (g2F hrose a1)
    refine Vt hn (pG hnn hn2 h1) (hB.rev _ _) (λi j hij hj=> ?_) h;rw[Im hsz hall,Im hsz hall];clear hB h hsn hrose;by_cases hjn:j < n
    ·rw[hall i (Q15) (Lg hij hjn),hall j (Q15) hjn];exact g1V _
    ·have hj':j=n:=by exact Q96 hj (cH.1 hjn)
     subst hj';by_cases hi':i=j
     ·clear hn h1 hij hn1 hn2 hnn hlt hsz hall hj hjn;subst hi';exact g1V _
     ·rw[hall i (Q15) (pH hi' hij)];exact g1W hlt
  ·rw[if_neg hgt]
   have hn1':n=1:=pI (cH.1 hgt) hn1;clear hsn;subst hn1';refine Vt hn (R23 h1 hnn) hB (λi j hij hj=> ?_) h;clear hB h;by_cases hi':i=j
   ·clear hn h1 hn1 hn2 hnn hlt hgt hij hj;subst hi';exact g1V _
   ·have hi0:i=0:=by exact pJ hi' hij hj
    have hj1:j=1:=R24 hj hi' hi0;clear hn h1 hn1 hn2 hnn hgt hij hj hi';subst hi0;subst hj1;exact g1W hlt
theorem N9{p:Array Nat}{k:Nat}{Q:Nat->Prop}(hB:A4 N p)(hk:k < N)(hs:C5 key p k): ∀(f l r:Nat),l<=r->r<=k->r - l<=f->(∀i,i < l->O.kle (PK key p i) (PK key p k))->(∀i,r<=i->i < k->O.klt (PK key p k) (PK key p i))->
  (∀l,l<=k->(∀i,i < l->O.kle (PK key p i) (PK key p k))->(∀i,l<=i->i < k->O.klt (PK key p k) (PK key p i))->Q l)->kok N (ltK key) (kas_place p k f l r) Q
 | 0,l,r,hlr,hrk,hm,hlo,hhi,h=>h l (Q45 hlr hrk) hlo λi a b=>hhi i (pM hm a) b
 | f+1,l,r,hlr,hrk,hm,hlo,hhi,h=>by
  dsimp only[kas_place];by_cases hge:l≥r
  ·rw[if_pos hge]
   exact h l (Q45 hlr hrk) hlo λi a b=>hhi i (Q45 hge a) b
  ·rw[if_neg hge]
   refine Ia (hB.lt hk) (hB.lt (pN (g4M.1 hge) hrk hk)) ?_;show kok N (ltK key) (if O.blt (PK key p k) (PK key p ((l+r) / 2))=true then _ else _) Q;cases hless:O.blt (PK key p k) (PK key p ((l+r) / 2)) with
   | true=>
    rw[if_pos rfl];exact N9 hB hk hs f l ((l+r) / 2) (pO (g4M.1 hge)) (pP (g4M.1 hge) hrk) (pQ (g4M.1 hge) hlr hm) hlo (λi a b=>KeyOrd.klt_of_klt_of_kle hless (hs _ _ a b)) h
   | false=>
    rw[if_neg (bD)];exact N9 hB hk hs f ((l+r) / 2+1) r (pR (g4M.1 hge)) hrk (R25 hm) (λi a=>g2F (hs i ((l+r) / 2) (Ov a) (pS (g4M.1 hge) hrk)) (show O.kle _ _ from hless)) hhi h
theorem dB{A:Nat->O.α}{B:O.α}{l k:Nat}(hlk:l<=k)(hlo: ∀i,i < l->O.kle (A i) B)(hhi: ∀i,l<=i->i < k->O.klt B (A i))(hs: ∀i j,i<=j->j < k->O.kle (A i) (A j))(i j:Nat)(hij:i<=j)(hj:j<=k):
  O.kle (if i=l then B else if l < i/\i<=k then A (i - 1) else A i) (if j=l then B else if l < j/\j<=k then A (j - 1) else A j):=by
 have p1:l < j->j - 1 < k:=λq=>g0C (gEA (gAK q) gDP) hj;rcases g2V i l with h|h|h
 ·rw[if_neg (g1Q h),if_neg λz=>gCT h z.1]
  rcases g2V j l with q|q|q
  ·rw[if_neg (g1Q q),if_neg λz=>gCT q z.1]
   exact hs _ _ hij (g0C q hlk)
  ·rw[if_pos q];exact hlo _ h
  ·rw[if_neg (g5B q),if_pos ⟨q,hj⟩]
   exact hs _ _ (g9I (g8X h q)) (p1 q)
 ·rw[if_pos h]
  rcases Nat.eq_or_lt_of_le hij with q|q
  ·rw[if_pos (q.symm.trans h)];exact g1V _
  ·have q:l < j:=h▸q
   rw[if_neg (g5B q),if_pos ⟨q,hj⟩];exact g1W (hhi _ (g9I q) (p1 q))
 ·have q:=g0C h hij
  rw[if_neg (g5B h),if_pos ⟨h,bR hij hj⟩,if_neg (g5B q),if_pos ⟨q,hj⟩];exact hs _ _ (Nat.sub_le_sub_right hij 1) (p1 q)
theorem Rs{Q:Array Nat->Prop}: ∀(f:Nat) (p:Array Nat) (k:Nat),k+f=N->A4 N p->C5 key p k->(∀p',A4 N p'->C5 key p' N->Q p')->kok N (ltK key) (kas_bin f p k) Q
 | 0,p,k,hk,hB,hs,h=>h p hB (by rwa [show N=k by exact pT hk.symm])
 | f+1,p,k,hk,hB,hs,h=>by
  refine G5 (f:=λl=>kas_bin f (bubble p k (k - l)) (k+1)) _ (N9 hB (D9 hk) hs k 0 k (Q15) (bJ _) (pU) (λi a=>Lh a) (λi a b=>V3 b a) λl hlk hlo hhi=> ?_);refine Rs f _ (k+1) (Cn hk) (hB.bub _ _) (λi j hij hj=> ?_) h;have hks:k < p.size:=by rw[hB.size];exact D9 hk
  rw[Ty hks (by exact V4),Ty hks (by exact V4),show k - (k - l)=l by exact pW hlk];exact dB hlk hlo hhi hs i j hij (g0X hj)
theorem fW{Q:Array Nat->Prop}(h1:1<=N)(h: ∀p,A4 N p->C5 key p N->Q p):kok N (ltK key) (kas_sort N) Q:=by
 dsimp only[kas_sort];refine G5 _ (jW (bJ _) h1 (Array.Perm.refl _) λm p hB hm1 hm2 hs=> ?_);dsimp only;by_cases hlt:m < N
 ·rw[if_pos hlt]
  have e:max m 1=m:=R38 hm1;rw[e];exact Rs _ p m (pX hlt) hB hs h
 ·rw[if_neg hlt]
  exact h p hB (by rwa [show N=m by exact Q17 (cH.1 hlt) hm2])
end
end Mine
namespace Mine
variable {X:Fx} {d:Nat} {hp:HP}
theorem ltNat_eq: ∀a b:List Nat,Fr a b=decide (a < b)
 | [],[]=>by rfl
 | [],_::_=>by rfl
 | _::_,[]=>by rfl
 | a::as,b::bs=>by
  dsimp only[Fr];cases h:aW a b with
  | true=>
   have:=aR h;clear h;subst this;simp[ltNat_eq as bs]
  | false=>
   have:=g0U h;simp only[g1X,this,false_and,or_false];rw[gAW];simp
theorem ltPair_iff(a b:List Nat×List Nat):ltPair a b=true↔a.1 < b.1\/(a.1=b.1/\a.2 < b.2):=by
 dsimp only[ltPair];rw[Ha,ltNat_eq,ltNat_eq];by_cases h:a.1=b.1
 ·rw[decide_eq_true h,if_pos rfl,decide_eq_true_iff]
  exact⟨λz=> .inr ⟨h,z⟩,λz=>z.elim (λz=>absurd (h▸z) (g5K _)) And.right⟩
 ·rw[decide_eq_false h,if_neg bD,decide_eq_true_iff]
  exact⟨.inl,λz=>z.elim id λz=>absurd z.1 h⟩
noncomputable def Ep:KeyOrd where
 α:=List Nat×List Nat
 blt:=ltPair
 irrefl a:=by
  cases h:ltPair a a with
  | false=>rfl
  | true=>rcases (ltPair_iff a a).mp h with h|⟨_,h⟩ <;> exact absurd h (g5K _)
 trans a b c h1 h2:=by
  rw[ltPair_iff] at*;rcases h1 with h1|⟨h1,h1'⟩ <;> rcases h2 with h2|⟨h2,h2'⟩
  ·exact .inl (g5W h1 h2)
  ·exact .inl (h2▸h1)
  ·exact .inl (h1▸h2)
  ·exact .inr ⟨h1.trans h2,g5W h1' h2'⟩
 negTrans a b c h:=by
  rw[ltPair_iff,ltPair_iff];have h:=(ltPair_iff a c).mp h;have tri: ∀x y:List Nat,x < y\/x=y\/y < x:=λx y=>by
   clear h;by_cases h1:x < y
   ·exact .inl h1
   ·by_cases h2:y < x
    ·exact .inr (.inr h2)
    ·exact .inr (.inl (g6V (g2J.mp h2) (g2J.mp h1)))
  rcases tri a.1 b.1 with h1|h1|h1
  ·exact .inl (.inl h1)
  ·rcases h with h|⟨h,h'⟩
   ·exact .inr (.inl (h1▸h))
   ·rcases tri a.2 b.2 with h2|h2|h2
    ·exact .inl (.inr ⟨h1,h2⟩)
    ·exact .inr (.inr ⟨h1▸h,h2▸h'⟩)
    ·exact .inr (.inr ⟨h1▸h,g5W h2 h'⟩)
  ·clear tri;rcases h with h|⟨h,h'⟩
   ·exact .inr (.inl (g5W h1 h))
   ·exact .inr (.inl (h▸h1))
 total a b h1 h2:=by
  have n1: ¬(a.1 < b.1\/(a.1=b.1/\a.2 < b.2)):=λh=>by rw[(ltPair_iff a b).mpr h] at h1;cases h1
  clear h1;have n2: ¬(b.1 < a.1\/(b.1=a.1/\b.2 < a.2)):=λh=>by rw[(ltPair_iff b a).mpr h] at h2;cases h2
  have e1:a.1=b.1:=g6V (g2J.mp λh=>n2 (.inl h)) (g2J.mp λh=>n1 (.inl h));have e2:a.2=b.2:=g6V (g2J.mp λh=>n2 (.inr ⟨e1.symm,h⟩)) (g2J.mp λh=>n1 (.inr ⟨e1,h⟩));exact g9R e1 e2
theorem Vi{ps qs:List (List Nat×List Nat)}(p:qs.Perm ps)(s:qs.Pairwise (λa b=>ltPair b a=false)):qs=isort ltPair ps:=
 Tb (lt:=ltPair) (λa b c h1 h2=>g2F (O:=Ep) h1 h2) (λa b h=>g1W (O:=Ep) h) (λa b h1 h2=>Ep.total a b h1 h2) p s
noncomputable def Cz(h:Heap)(v:Value)(q:List Nat×List Nat):Prop:= ∃a k x y t u,v= .ref a/\h.get? a=some {cls:= .type "tuple",data:= .seq #[.str x t,.str y u] k}/\q=(chars x,chars y)/\B8 x/\B8 y
theorem Cz.keep{h h':Heap}{v q}(k: ∀b o,h.get? b=some o->h'.get? b=some o)(p:Cz h v q):Cz h' v q:=by
 refine x63 p ?_;clear p;intro a n x y t u z6 g e;subst z6;exact⟨a,n,x,y,t,u,rfl,k _ _ g,e⟩
theorem dW{α β:Type}{f:α->Option β}: ∀{xs:List α} {ys:List β},xs.mapM f=some ys->xs.length=ys.length/\∀(i:Nat) (x:α) (y:β),xs[i]? =some x->ys[i]? =some y->f x=some y:=by
 intro xs;induction xs with
 | nil=>intro ys h;rw[List.mapM_nil] at h;cases h;exact⟨rfl,λi x y hx=>by contradiction⟩
 | cons a xs ih=>
  intro ys h;rw[g2X] at h;refine bE h ?_;clear h;intro b hb h;refine bE h ?_;clear h;intro bs hbs h;cases h;refine x02 (ih hbs) ?_;intro i1 i2;refine⟨congrArg _ ‹_›,λi x y hx hy=> ?_⟩;clear ih hbs i1;cases i with
  | zero=>simp at hx hy;subst hx;subst hy;exact hb
  | succ i=>exact i2 i x y (by simpa using hx) (by simpa using hy)
theorem kO{Y h v rv q}(e:Fy v=some q)(r:Ab X Y h v rv):Cz h rv q:=by
 refine bE' e λl hl e=>bE' e λp hp e=>bE' e λx hx e=>bE' e λy hy e=> ?_;cases e;clear e;rw[vT_inv hl,as2_of hp,vS_inv hx,vS_inv hy] at r;dsimp only[Ab] at r;refine x34 r ?_;clear r;intro a vs n z3 g _ r;subst z3;refine x23 (Bq r) ?_;intro p q evs rp rq;dsimp only[Ab] at rp rq;clear r;refine x12 rp ?_;clear rp;intro t z1 h1;subst z1;refine x12 rq ?_;clear rq;intro u z1 h2;subst z1;have:vs= #[.str x t,.str y u]:=by rw[<-g2E (xs:=vs),evs]
 clear evs;subst this;exact⟨a,n,x,y,t,u,rfl,g,rfl,h1,h2⟩
theorem lF{Y h rv q}(p:Cz h rv q):Ab X Y h (Be q) rv:=by
 refine x65 p ?_;clear p;intro a k x y t u z6 g z8 h1 h2;subst z6;subst z8;show Ab X Y h (.tup [.str (Aj (chars x)),.str (Aj (chars y))]) _;have e: ∀z:Str,Aj (chars z)=z:=λz=>by unfold Aj chars;simp
 rw[e,e];dsimp only[Ab];refine⟨a,_,k,rfl,g,aT rfl,?_⟩;exact D7 (by dsimp only[Ab];exact⟨t,rfl,h1⟩) (by dsimp only[Ab];exact⟨u,rfl,h2⟩)
section
variable {prog:Program} {w:World} {A:Around} {E:Value->Shared->Prop} {s:Shared}
theorem gH{v v':Value}{p q:List Nat×List Nat}{C:Bool->Shared->Prop}(hv:Cz s.heap v p)(hv':Cz s.heap v' q)(h:C (ltPair p q) s):cA (gBA prog w) A (keyLt' (tuples' true) v v') C E s:=by
 refine x65 hv ?_;clear hv;intro a k x y t u z6 g z8 _ _;subst z6;subst z8;refine x65 hv' ?_;clear hv';intro a' k' x' y' t' u' z6 g' z8 _ _;subst z6;subst z8;refine kat_lt g rfl g' rfl ?_;show KatLex _ _ _ _ _ _ [(.str x t,.str x' t'),(.str y u,.str y' u')] 0 s;have eqs: ∀a b:Str,(decide (a=b)=true)↔chars a=chars b:=λa b=>by rw[decide_eq_true_iff,Nn]
 have lte: ∀a b:Str,decide (a.cps.toList < b.cps.toList)=Fr (chars a) (chars b):=λa b=>by rw[ltNat_eq];rfl
 refine kat_cons (g7Y ?_);dsimp only[ltPair] at h;simp only[Ha] at h;refine kat_go (λhe=> ?_) λhe=> ?_
 ·have he':=(eqs x x').mp he
  rw[if_pos (decide_eq_true ‹_›)] at h;refine kat_yes (kat_cons (g7Y ?_));refine kat_go (λh2=> ?_) λh2=> ?_
  ·have h2':=(eqs y y').mp h2
   refine kat_yes (kat_nil ?_);have:Fr (chars y) (chars y')=false:=by rw[h2',ltNat_eq];simp[g5K]
   rw[this] at h;exact h
  ·refine kat_no ?_
   refine kat_one _ _ (PyProof.Rows.lt_str ?_);show C _ s;rw[lte];exact h
 ·clear g g';have he': ¬chars x=chars x':=λz=>by rw[(eqs x x').mpr z] at he;cases he
  rw[if_neg (by simpa using he')] at h;refine kat_no ?_;refine oneLt_str ?_;rw[lte];exact h
theorem Qa{κ:SortKind}{vs:List Value}{lt:Nat->Nat->Bool}{N:Nat}(ask: ∀i j (C:Bool->Shared->Prop),i < N->j < N->C (lt i j) s->kas_ask prog w A κ vs i j C s){α:Type}{G:α->Shared->Prop}{Q:α->Prop}(hq: ∀a,Q a->G a s):
  ∀(t:KasT α),kok N lt t Q->t.kasWp (kas_ask prog w A κ vs) G s
 | .ret a,h=>hq a h
 | .ask i j k,h=>ask i j _ h.1 h.2.1 (Qa ask hq (k (lt i j)) h.2.2)
end
theorem mW{h:Heap}: ∀{vs:List Value} {ps:List (List Nat×List Nat)},vs.length=ps.length->(∀(i:Nat) v q,vs[i]? =some v->ps[i]? =some q->Cz h v q)->∃fs,KatTups h vs fs/\fs.length=vs.length/\∀f∈fs,∃x t,f= .str x t:=by
 intro vs;induction vs with
 | nil=>intro ps _ _;exact⟨[],trivial,rfl,by simp⟩
 | cons v vs ih=>
  intro ps hl hp;cases ps with
  | nil=>contradiction
  | cons q ps=>
   obtain⟨fs,h1,h2,h3⟩:=ih (by simpa using hl) λi v q hv hq=>hp (i+1) v q (by simpa using hv) (by simpa using hq);clear ih hl;refine x65 (hp 0 v q rfl rfl) ?_;intro a k x y t u z6 g z8 _ _;subst z6;subst z8;refine⟨.str x t::fs,KatTups.cons g rfl rfl rfl h1,by simp[h2],?_⟩;intro f hf;clear h1 h2 g hp;rcases bM.mp hf with rfl|hf
   ·exact⟨x,t,rfl⟩
   ·exact h3 f hf
section
variable {prog:Program} {w:World} {A:Around} {E:Value->Shared->Prop} {s:Shared}
theorem mM{a:cK}{vs:List Value}{ps:List (List Nat×List Nat)}{n:Nat}{P:PySem.Fin->Shared->Prop}(ho:s.heap.get? a=some (g1P "list" vs.toArray n))(hl:vs.length=ps.length)(hp: ∀(i:Nat) v q,vs[i]? =some v->ps[i]? =some q->Cz s.heap v q)(h2:2<=vs.length)(h64:vs.length < 64)
  (h: ∀h' c out,(∀b o,b≠a->s.heap.get? b=some o->h'.get? b=some o)->h'.get? a=some (listOf (g3A out) c)->out.length=vs.length->(∀(i:Nat) v q,out[i]? =some v->(isort ltPair ps)[i]? =some q->Cz h' v q)->P (.done (.ret .none)) {s with heap:=h'}):
  cA (gBA prog w) A (Builtin.«list.sort» ⟨[.ref a],[]⟩) P E s:=by
 have s1:=g1D s.heap a (g1C λ_=>(#[]:Array Value));obtain⟨e1,ho1⟩: ∃e1,(s.heap.update a (g1C λ_=>(#[]:Array Value))).get? a=some (g1P "list" #[] e1):=⟨_,get?_update_seq ho λ_=> #[]⟩;have ka: ∀b o,b≠a->s.heap.get? b=some o->(((s.heap.update a (g1C λ_=>(#[]:Array Value))).push (g1P "tuple" vs.toArray 0)).push (g1P "list" #[] 0)).get? b=some o:=λb o hb e=>
  bS _ (bS _ ((s1.2 b hb).trans e))
 have na:(((s.heap.update a (g1C λ_=>(#[]:Array Value))).push (g1P "tuple" vs.toArray 0)).push (g1P "list" #[] 0)).get? a=some (g1P "list" #[] e1):=bS _ (bS _ ho1);have hpa: ∀(i:Nat) v q,vs[i]? =some v->ps[i]? =some q->Cz (((s.heap.update a (g1C λ_=>(#[]:Array Value))).push (g1P "tuple" vs.toArray 0)).push (g1P "list" #[] 0)) v q:=by
  intro i v q hv hq;clear h s1 ho1 na;refine x63 (hp i v q hv hq) ?_;intro b k x y t u z6 g e;subst z6;have hb:b≠a:=by
   clear hp ka hq e hv;intro z;subst z;exact Jd (by decide) (congrArg Obj.cls (aB (g.symm.trans ho)))
  exact⟨b,k,x,y,t,u,rfl,ka _ _ hb g,e⟩
 rw[list_sort_plain];refine aG (gCQ ho rfl ?_);refine aG (gBW ho rfl ?_ (by rw[g2S,g0Q];exact Q66 h64 rfl) (cL _));refine aG (seqEpoch_at ho1 rfl ?_);refine aG (gDU ?_ (by show vs.length<=_;rw[g0Q];exact Q66 h64 rfl));refine aG (g6Z ?_ (cL _));refine g0S ?_;show cA (gBA prog w) A _ P E {s with heap:=((s.heap.update a (g1C λ_=>(#[]:Array Value))).push (g1P "tuple" vs.toArray 0)).push (g1P "list" #[] 0)};dsimp only;have hn2: ¬vs.toArray.size < 2:=by rw[g2S];exact pY h2
 rw[if_neg hn2,if_neg hn2];refine x13 (mW hl hpa) ?_;intro fs t1 t2 t3;refine aG (kat_kind (T:= .type "str") t1 (pZ t2 h2) (λv hv=> ?_) (rfl) ?_)
 ·clear ho hl hp h2 h64 h s1 ho1 ka na hpa hn2 t1 t2;refine x21 (t3 v hv) ?_;intro x t z2;subst z2
  exact Looks.now
 show cA _ _ _ _ _ _;have key: ∀i,ps.getD i ([],[])=ps.getD i ([],[]):=λ_=>rfl;have hk:=Qa (prog:=prog) (w:=w) (A:=A) (κ:=tuples' (Value.type "str" != Value.type "tuple")) (vs:=vs) (lt:=ltK (O:=Ep) λi=>ps.getD i ([],[])) (N:=vs.length)
  (s:={s with heap:=((s.heap.update a (g1C λ_=>(#[]:Array Value))).push (g1P "tuple" vs.toArray 0)).push (g1P "list" #[] 0)})
  (G:=λp s'=>s'={s with heap:=((s.heap.update a (g1C λ_=>(#[]:Array Value))).push (g1P "tuple" vs.toArray 0)).push (g1P "list" #[] 0)}/\A4 vs.length p/\C5 (O:=Ep) (λi=>ps.getD i ([],[])) p vs.length) (Q:=λp=>A4 vs.length p/\C5 (O:=Ep) (λi=>ps.getD i ([],[])) p vs.length)
  (λi j C hi hj hC=>by
   dsimp only[kas_ask];have ei:vs[i]? =some (vs.getD i .none):=Fq hi;have ej:vs[j]? =some (vs.getD j .none):=Fq hj;have fi:ps[i]? =some (ps.getD i ([],[])):=Fq (Q154 hi hl.symm);have fj:ps[j]? =some (ps.getD j ([],[])):=Fq (Q154 hj hl.symm);exact gH (hpa i _ _ ei fi) (hpa j _ _ ej fj) hC)
  (λp hp=>⟨rfl,hp⟩) _ (fW (N:=vs.length) (Q155 h2) λp a b=>⟨a,b⟩)
 refine aG (g1M (kat_run (E:=E) (Q:=λst' s'=> ∃p:Array Nat,p.size=vs.length/\arrOf st'=p.map (kas_item (vs.toArray.zip vs.toArray))/\failedOf st'=none/\s'={s with heap:=((s.heap.update a (g1C λ_=>(#[]:Array Value))).push (g1P "tuple" vs.toArray 0)).push (g1P "list" #[] 0)}/\A4 vs.length p/\C5 (O:=Ep) (λi=>ps.getD i ([],[])) p vs.length)
  rfl h2 h64 (λp' st' s' a1 a2 a3 a4=>⟨p',a1,a2,a3,a4⟩) hk) ?_ λ_ _ e=>e)
 clear ho hp s1 ho1 t1 t3 key hk;rintro⟨⟨⟩,st'⟩ s' ⟨p,hps,har,hf,rfl,hB,hS⟩;dsimp only;have hout:=kat_snds rfl har;have hsz:(g3A (p.toList.map λi=>vs.getD i Value.none)).size=vs.length:=by rw[g2S,aO,g0G,hps]
 rw[hout];refine aG (seqEpoch_at na rfl ?_);refine aG (gBW na rfl ?_ (cL _) (bR (g4D hsz) (by rw[g0Q];exact qA h64 rfl)));rw[hf];simp only[bne_self_eq_false,Bool.false_eq_true,if_false];have s2:=g1D (((s.heap.update a (g1C λ_=>(#[]:Array Value))).push (g1P "tuple" vs.toArray 0)).push (g1P "list" #[] 0)) a (g1C λ_=>g3A (p.toList.map λi=>vs.getD i Value.none));refine aQ (h _ _ (p.toList.map λi=>vs.getD i Value.none) (λb o hb e=>(s2.2 b hb).trans (ka b o hb e)) (get?_update_seq na λ_=>g3A (p.toList.map λi=>vs.getD i Value.none)) (by assumption) ?_);have perm:(p.toList.map λi=>ps.getD i ([],[])).Perm ps:=by
  have q:=(g7I.mp hB).map λi=>ps.getD i ([],[]);refine q.trans (List.Perm.of_eq ?_);rw[hl];exact Uv ps _
 have srt:(p.toList.map λi=>ps.getD i ([],[])).Pairwise (λa b=>ltPair b a=false):=by
  rw[g4E];intro i j hi hj hij;have hi':i < p.size:=by simpa using hi
  have hj':j < p.size:=by simpa using hj
  have q:=hS i j (Q75 hij) (Q154 hj' hps.symm);dsimp only[PK] at q;have ei:p.getD i 0=p[i]:=Nj hi';have ej:p.getD j 0=p[j]:=Nj hj';rw[ei,ej] at q;have q:ltPair (ps.getD p[j] ([],[])) (ps.getD p[i] ([],[]))=false:=q;rw[g3G,g3G];exact q
 intro i v q hv hq;rw[<-Vi perm srt] at hq;have hi:i < p.size:=by
  have:=(aF.mp hv).1;simpa using this
 have ev:v=vs.getD p[i] .none:=by
  have:(p.toList.map λi=>vs.getD i Value.none)[i]? =some (vs.getD p[i] .none):=Qt hi;rw[this] at hv;exact(aB hv).symm
 have eq:q=ps.getD p[i] ([],[]):=by
  have:(p.toList.map λi=>ps.getD i ([],[]))[i]? =some (ps.getD p[i] ([],[])):=Qt hi;rw[this] at hq;exact(aB hq).symm
 have hlt:p[i] < vs.length:=by
  have:=hB.lt (i:=i) (Q154 hi hps.symm);have e:p.getD i 0=p[i]:=Nj hi;rwa [e] at this
 have e1:vs[p[i]]? =some v:=by rw[ev];exact Fq hlt
 have e2:ps[p[i]]? =some q:=by rw[eq];exact Fq (Q154 hlt hl.symm)
 have pa:=hpa _ v q e1 e2;clear h ka hpa har hf hB hS hout perm srt hv hq ev eq e1 e2;refine x63 pa ?_;clear pa;intro b k x y t u z6 g e;subst z6;have hb:b≠a:=by
  clear s2 e;intro z;subst z;exact Jd (by decide) (congrArg Obj.cls (aB (g.symm.trans na)))
 exact⟨b,k,x,y,t,u,rfl,(s2.2 b hb).trans g,e⟩
theorem nV{l:cK}{vs:List Value}{ps:List (List Nat×List Nat)}{n:Nat}{Q:Value->Shared->Prop}(ho:s.heap.get? l=some (g1P "list" vs.toArray n))(hl:vs.length=ps.length)(hp: ∀(i:Nat) v q,vs[i]? =some v->ps[i]? =some q->Cz s.heap v q)(h2:2<=vs.length)(h64:vs.length < 64)
  (h: ∀h' D c out,(∀b o,s.heap.get? b=some o->h'.get? b=some o)->s.heap.objs.size<=D->h'.get? D=some (listOf (g3A out) c)->out.length=vs.length->(∀(i:Nat) v q,out[i]? =some v->(isort ltPair ps)[i]? =some q->Cz h' v q)->Q (.ref D) {s with heap:=h'}):
  cA (gBA prog w) A (call (.builtin "sorted") [.ref l]) Q E s:=by
 refine Calls.call_function_entry kind_sorted plain_sorted entry_sorted (args_sorted1 _) ?_;unfold Builtin.«sorted»;refine aG (m:=checkCount "sorted" 1 1 _) (aQ ?_);refine aG (collect_list (isList_of ho) ?_ (by rw[g0Q];exact Q66 h64 rfl));refine aG (g6Z ?_ (by rw[g0Q];exact Q66 h64 rfl));have hsz:((s.heap.push (g1P "list" #[] 0)).update s.heap.objs.size (g1C (· ++vs.toArray))).objs.size=s.heap.objs.size+1:=by
  rw[Heap.size_update,size_push']
 have hoL:(((s.heap.push (g1P "list" #[] 0)).update s.heap.objs.size (g1C (· ++vs.toArray))).push (g1P "list" vs.toArray 0)).get? (s.heap.objs.size+1)=some (g1P "list" vs.toArray 0):=by
  rw[<-hsz];exact g0K _ rfl
 have keep: ∀b o,s.heap.get? b=some o->(((s.heap.push (g1P "list" #[] 0)).update s.heap.objs.size (g1C (· ++vs.toArray))).push (g1P "list" vs.toArray 0)).get? b=some o:=λb o q=>by
  have hlt:b < s.heap.objs.size:=g1T q;rw[gCE _ _ _ (by rw[hsz];exact g1Q (g1O hlt)),Heap.get?_update_ne _ _ _ _ (g1Q hlt),gCE _ _ _ (g1Q hlt)];exact q
 show cA _ _ _ _ _ {s with heap:=((s.heap.push (g1P "list" #[] 0)).update s.heap.objs.size (g1C (· ++vs.toArray))).push (g1P "list" vs.toArray 0)};rw[hsz];refine aG (g0S (g5F slot_list_sort ⟨_,hoL,rfl⟩ entry_list_sort ?body (args_list_sort _)));case body=>
  refine mM (s:={s with heap:=((s.heap.push (g1P "list" #[] 0)).update s.heap.objs.size (g1C (· ++vs.toArray))).push (g1P "list" vs.toArray 0)})
   hoL hl (λi v q hv hq=>(hp i v q hv hq).keep keep) h2 h64 λh' c out k g lo pa=> ?_
  refine⟨_,rfl,aQ ?_⟩;refine⟨_,rfl,?_⟩;exact h h' _ c out (λb o e=>k b o (λz=>absurd (g1T e) (by rw[z];exact cH.mpr (g5Q _))) (keep b o e)) (g5Q _) g lo pa
end
theorem nN{Y h}: ∀{xs:List V} {vs:List Value},xs.length=vs.length->(∀(i:Nat) x v,xs[i]? =some x->vs[i]? =some v->Ab X Y h x v)->VRels X Y h xs vs:=by
 intro xs;induction xs with
 | nil=>intro vs hl _;dsimp only[VRels];exact g0R.mp hl.symm
 | cons x xs ih=>
  intro vs hl hp;cases vs with
  | nil=>contradiction
  | cons v vs=>exact vrels_cons' (hp 0 x v rfl rfl) (ih (by simpa using hl) λi x v hx hv=>hp (i+1) x v (by simpa using hx) (by simpa using hv))
theorem side_srt: ∀d hp i xs ps w hp',lget hp i=some xs->intsV xs=none->xs.mapM Fy=some ps->2<=xs.length->xs.length < 64->Mine.alloc hp ((isort ltPair ps).map Be)=some (w,hp')->Ai X d (Bt "sorted") [.lst i] hp w hp':=by
 intro d hp i xs ps w hp' e _ em h2 h64 ea A Y s rvs Q E H r P;refine x12 (Bv r) ?_;intro p z1 rp;subst z1;clear r;refine x35 (Aw H.inv rp e) ?_;intro ad vs n z3 hs bd g rs;subst z3;have hl:=A7 rs;refine x02 (dW em) ?_;intro m1 m2;have vsz:vs.size=xs.length:=by simpa using hl
 have g':s.heap.get? ad=some (g1P "list" vs.toList.toArray n):=by rw[g2E];exact g
 refine nV (vs:=vs.toList) (ps:=ps) g' (by rw[hl,m1]) (λj v q hv hq=> ?_) (by rw[hl];exact h2) (by rw[hl];exact h64) λh' D c out hk hD gD lo pa=> ?_
 ·have hj:j < xs.length:=by rw[m1];exact(aF.mp hq).1
  refine x12 (Fe rs (aD hj)) ?_;intro rv e1 e2;rw[hv] at e1;clear e em h2 h64 ea H P hs bd g rs rp hl m1 vsz g' hv;cases e1;exact kO (m2 j _ q (aD hj) hq) e2
 ·refine P.newAt (h':=h') (a:=D) H ea hk hD gD ?_ s.toks
  refine nN ?_ λj x v hx hv=> ?_
  ·have lp:=(Kz (lt:=ltPair) ps).length_eq
   simp[lp,lo,<-m1,vsz]
  ·have hj:j < (isort ltPair ps).length:=by
    have:=(aF.mp hx).1;simpa using this
   have hq:(isort ltPair ps)[j]? =some (isort ltPair ps)[j]:=aD hj;have ex:x=Be (isort ltPair ps)[j]:=by
    rw[aL,hq] at hx;exact(aB hx).symm
   rw[ex];exact lF (pa j v _ (by simpa using hv) hq)
end Mine
set_option maxRecDepth 10000
namespace Mine
noncomputable def names:List Str:=[
 ⟨#[104,101,97,112]⟩,
 ⟨#[105,116,101,109]⟩,
 ⟨#[108,97,115,116,101,108,116]⟩,
 ⟨#[114,101,116,117,114,110,105,116,101,109]⟩,
 ⟨#[115,116,97,114,116,112,111,115]⟩,
 ⟨#[112,111,115]⟩,
 ⟨#[110,101,119,105,116,101,109]⟩,
 ⟨#[112,97,114,101,110,116,112,111,115]⟩,
 ⟨#[112,97,114,101,110,116]⟩,
 ⟨#[101,110,100,112,111,115]⟩,
 ⟨#[99,104,105,108,100,112,111,115]⟩,
 ⟨#[114,105,103,104,116,112,111,115]⟩,
 ⟨#[99,104,95,97]⟩,
 ⟨#[99,104,95,98]⟩,
 ⟨#[97]⟩,
 ⟨#[98]⟩,
 ⟨#[109,97,120,95,99,111,115,116]⟩,
 ⟨#[112,114,101]⟩,
 ⟨#[112,111,115,116]⟩,
 ⟨#[114,111,119]⟩,
 ⟨#[114,101,115,117,108,116]⟩,
 ⟨#[98,105,110,100,101,120]⟩,
 ⟨#[98,99,104,97,114]⟩,
 ⟨#[100,105,115,116,97,110,99,101]⟩,
 ⟨#[109,105,110,105,109,117,109]⟩,
 ⟨#[105,110,100,101,120]⟩,
 ⟨#[115,117,98,115,116,105,116,117,116,101]⟩,
 ⟨#[105,110,115,101,114,116,95,100,101,108,101,116,101]⟩,
 ⟨#[115,101,108,102]⟩,
 ⟨#[110,97,109,101]⟩,
 ⟨#[46,48]⟩,
 ⟨#[107,118]⟩,
 ⟨#[115,99,114,105,112,116]⟩,
 ⟨#[103,105,118,101,110]⟩,
 ⟨#[107,105,110,100,115]⟩,
 ⟨#[119,111,114,100,115]⟩,
 ⟨#[107]⟩,
 ⟨#[110,117,109,98,101,114]⟩,
 ⟨#[111,110,101]⟩,
 ⟨#[111,116,104,101,114]⟩,
 ⟨#[119,97,121,115]⟩,
 ⟨#[102,105,114,115,116]⟩,
 ⟨#[115,101,99,111,110,100]⟩,
 ⟨#[102,97,114]⟩,
 ⟨#[105]⟩,
 ⟨#[106]⟩,
 ⟨#[108,105,110,107,115]⟩,
 ⟨#[115,101,101,110]⟩,
 ⟨#[116,111,116,97,108]⟩,
 ⟨#[115,116,101,112]⟩,
 ⟨#[116,104,101,114,101]⟩,
 ⟨#[104,101,114,101]⟩,
 ⟨#[98,111,117,110,100]⟩,
 ⟨#[109,97,114,107,115]⟩,
 ⟨#[109,97,114,107]⟩,
 ⟨#[108,101,102,116]⟩,
 ⟨#[114,101,115,116]⟩,
 ⟨#[115,116,97,99,107]⟩,
 ⟨#[119,97,108,107]⟩,
 ⟨#[103,111,97,108,115]⟩,
 ⟨#[111,114,100,101,114,115]⟩,
 ⟨#[115,116,111,112,115]⟩,
 ⟨#[99,111,117,110,116]⟩,
 ⟨#[110,101,116]⟩,
 ⟨#[111,100,100]⟩,
 ⟨#[112,97,105,114,115]⟩,
 ⟨#[109,97,116,101,115]⟩,
 ⟨#[99,104,111,115,101,110]⟩,
 ⟨#[108,97,105,100]⟩,
 ⟨#[103,111,110,101]⟩,
 ⟨#[98,101,115,116]⟩,
 ⟨#[103,111,97,108]⟩,
 ⟨#[118,97,108,117,101]⟩,
 ⟨#[114,101,103,101,120]⟩,
 ⟨#[104,101,97,100,101,114,115]⟩,
 ⟨#[112,97,114,116,115]⟩,
 ⟨#[95,110,97,109,101]⟩,
 ⟨#[95,118,97,108,117,101]⟩,
 ⟨#[95,112,97,114,97,109,115]⟩,
 ⟨#[118]⟩
 ]
noncomputable def Yb:List (Str×V):=[
 (⟨#[108,101,110]⟩,.imm (.builtin "len")),
 (⟨#[109,105,110]⟩,.imm (.builtin "min")),
 (⟨#[115,117,109]⟩,.imm (.builtin "sum")),
 (⟨#[115,111,114,116,101,100]⟩,.imm (.builtin "sorted")),
 (⟨#[95,77,65,88,95,83,84,82,73,78,71,95,83,73,90,69]⟩,.int 40),
 (⟨#[95,77,79,86,69,95,67,79,83,84]⟩,.int 2),
 (⟨#[95,67,65,83,69,95,67,79,83,84]⟩,.int 1),
 (⟨#[72,101,97,100,101,114,115]⟩,.imm (.ref 224)),
 (⟨#[114,97,110,103,101]⟩,.imm (.type "range")),
 (⟨#[108,105,115,116]⟩,.imm (.type "list")),
 (⟨#[115,101,116]⟩,.imm (.type "set")),
 (⟨#[104,101,97,112,112,117,115,104]⟩,.imm (.ref 45)),
 (⟨#[104,101,97,112,112,111,112]⟩,.imm (.ref 52)),
 (⟨#[95,115,105,102,116,100,111,119,110]⟩,.imm (.ref 59)),
 (⟨#[95,115,105,102,116,117,112]⟩,.imm (.ref 66)),
 (⟨#[95,115,117,98,115,116,105,116,117,116,105,111,110,95,99,111,115,116]⟩,.imm (.ref 73)),
 (⟨#[95,108,101,118,101,110,115,104,116,101,105,110,95,100,105,115,116,97,110,99,101]⟩,.imm (.ref 80)),
 (⟨#[95,108,97,119,95,119,111,114,100,115]⟩,.imm (.ref 233)),
 (⟨#[95,108,97,119,95,115,105,100,101]⟩,.imm (.ref 240)),
 (⟨#[95,108,97,119,95,100,117,101]⟩,.imm (.ref 247)),
 (⟨#[95,108,97,119,95,102,97,114]⟩,.imm (.ref 252)),
 (⟨#[95,108,97,119,95,110,101,116]⟩,.imm (.ref 259)),
 (⟨#[95,108,97,119,95,112,97,114,116,115]⟩,.imm (.ref 264)),
 (⟨#[95,108,97,119,95,112,97,105,114,105,110,103,115]⟩,.imm (.ref 271)),
 (⟨#[95,108,97,119,95,115,116,114,105,107,101]⟩,.imm (.ref 278)),
 (⟨#[95,108,97,119,95,119,97,108,107]⟩,.imm (.ref 285)),
 (⟨#[95,108,97,119,95,111,114,100,101,114,115]⟩,.imm (.ref 290)),
 (⟨#[95,108,97,119,95,114,111,117,110,100]⟩,.imm (.ref 295)),
 (⟨#[108,97,119]⟩,.imm (.ref 300)),
 (⟨#[116,121,112,101]⟩,.imm (.type "type")),
 (⟨#[115,116,114]⟩,.imm (.type "str")),
 (⟨#[95,110,97,109,101,95,100,105,115,97,108,108,111,119,101,100,95,114,101]⟩,.imm (.ref 90)),
 (⟨#[95,118,97,108,117,101,95,100,105,115,97,108,108,111,119,101,100,95,114,101]⟩,.imm (.ref 95))
 ]
noncomputable def tb:Tab:=⟨names,Yb⟩
noncomputable def b45:List S:=[
 (.expr (.met .append (.var 0) [(.var 1)])),
 (.expr (.app (.ref 59) [(.var 0),(.k (.int 0)),(.bin .sub (.app (.builtin "len") [(.var 0)]) (.k (.int 1)))]))]
noncomputable def f45:Fn:=⟨[0,1],b45⟩
noncomputable def b52:List S:=[
 (.assign (.one 2) (.met .pop (.var 0) [])),
 (.if_ (.var 0) [
  (.assign (.one 3) (.idx (.var 0) (.k (.int 0)))),
  (.setidx (.var 0) (.k (.int 0)) (.var 2)),
  (.expr (.app (.ref 66) [(.var 0),(.k (.int 0))])),
  (.ret (.var 3))] []),
 (.ret (.var 2))]
noncomputable def f52:Fn:=⟨[0],b52⟩
noncomputable def b59:List S:=[
 (.assign (.one 6) (.idx (.var 0) (.var 5))),
 (.while_ (.cmp .gt (.var 5) (.var 4)) [
  (.assign (.one 7) (.bin .shr (.bin .sub (.var 5) (.k (.int 1))) (.k (.int 1)))),
  (.assign (.one 8) (.idx (.var 0) (.var 7))),
  (.if_ (.cmp .lt (.var 6) (.var 8)) [
   (.setidx (.var 0) (.var 5) (.var 8)),
   (.assign (.one 5) (.var 7)),
   .cont] []),
  .brk]),
 (.setidx (.var 0) (.var 5) (.var 6))]
noncomputable def f59:Fn:=⟨[0,4,5],b59⟩
noncomputable def b66:List S:=[
 (.assign (.one 9) (.app (.builtin "len") [(.var 0)])),
 (.assign (.one 4) (.var 5)),
 (.assign (.one 6) (.idx (.var 0) (.var 5))),
 (.assign (.one 10) (.bin .add (.bin .mul (.k (.int 2)) (.var 5)) (.k (.int 1)))),
 (.while_ (.cmp .lt (.var 10) (.var 9)) [
  (.assign (.one 11) (.bin .add (.var 10) (.k (.int 1)))),
  (.if_ (.land [(.cmp .lt (.var 11) (.var 9)),(.lnot (.cmp .lt (.idx (.var 0) (.var 10)) (.idx (.var 0) (.var 11))))]) [
   (.assign (.one 10) (.var 11))] []),
  (.setidx (.var 0) (.var 5) (.idx (.var 0) (.var 10))),
  (.assign (.one 5) (.var 10)),
  (.assign (.one 10) (.bin .add (.bin .mul (.k (.int 2)) (.var 5)) (.k (.int 1))))]),
 (.setidx (.var 0) (.var 5) (.var 6)),
 (.expr (.app (.ref 59) [(.var 0),(.var 4),(.var 5)]))]
noncomputable def f66:Fn:=⟨[0,5],b66⟩
noncomputable def b73:List S:=[
 (.if_ (.cmp .eq (.var 12) (.var 13)) [
  (.ret (.k (.int 0)))] []),
 (.if_ (.cmp .eq (.met .lower (.var 12) []) (.met .lower (.var 13) [])) [
  (.ret (.k (.int 1)))] []),
 (.ret (.k (.int 2)))]
noncomputable def f73:Fn:=⟨[12,13],b73⟩
noncomputable def b80:List S:=[
 (.if_ (.cmp .eq (.var 14) (.var 15)) [
  (.ret (.k (.int 0)))] []),
 (.assign (.one 17) (.k (.int 0))),
 (.while_ (.land [(.slc (.var 14) (some (.var 17)) none),(.slc (.var 15) (some (.var 17)) none),(.cmp .eq (.idx (.var 14) (.var 17)) (.idx (.var 15) (.var 17)))]) [
  (.aug 17 .add (.k (.int 1)))]),
 (.assign (.one 14) (.slc (.var 14) (some (.var 17)) none)),
 (.assign (.one 15) (.slc (.var 15) (some (.var 17)) none)),
 (.assign (.one 18) (.k (.int 0))),
 (.while_ (.land [(.slc (.var 14) none (some (.lor [(.var 18),(.k .none)]))),(.slc (.var 15) none (some (.lor [(.var 18),(.k .none)]))),(.cmp .eq (.idx (.var 14) (.bin .sub (.var 18) (.k (.int 1)))) (.idx (.var 15) (.bin .sub (.var 18) (.k (.int 1)))))]) [
  (.aug 18 .sub (.k (.int 1)))]),
 (.assign (.one 14) (.slc (.var 14) none (some (.lor [(.var 18),(.k .none)])))),
 (.assign (.one 15) (.slc (.var 15) none (some (.lor [(.var 18),(.k .none)])))),
 (.if_ (.lor [(.lnot (.var 14)),(.lnot (.var 15))]) [
  (.ret (.bin .mul (.k (.int 2)) (.bin .add (.app (.builtin "len") [(.var 14)]) (.app (.builtin "len") [(.var 15)]))))] []),
 (.if_ (.lor [(.cmp .gt (.app (.builtin "len") [(.var 14)]) (.k (.int 40))),(.cmp .gt (.app (.builtin "len") [(.var 15)]) (.k (.int 40)))]) [
  (.ret (.bin .add (.var 16) (.k (.int 1))))] []),
 (.if_ (.cmp .lt (.app (.builtin "len") [(.var 15)]) (.app (.builtin "len") [(.var 14)])) [
  (.assign (.many [14,15]) (.tup [(.var 15),(.var 14)]))] []),
 (.if_ (.cmp .gt (.bin .mul (.bin .sub (.app (.builtin "len") [(.var 15)]) (.app (.builtin "len") [(.var 14)])) (.k (.int 2))) (.var 16)) [
  (.ret (.bin .add (.var 16) (.k (.int 1))))] []),
 (.assign (.one 19) (.lrange [(.k (.int 2)),(.bin .mul (.k (.int 2)) (.bin .add (.app (.builtin "len") [(.var 14)]) (.k (.int 1)))),(.k (.int 2))])),
 (.assign (.one 20) (.k (.int 0))),
 (.for_ (.one 21) (.rng [(.app (.builtin "len") [(.var 15)])]) [
  (.assign (.one 22) (.idx (.var 15) (.var 21))),
  (.assign2 23 20 (.bin .mul (.var 21) (.k (.int 2)))),
  (.assign (.one 24) (.k (.int 9223372036854775807))),
  (.for_ (.one 25) (.rng [(.app (.builtin "len") [(.var 14)])]) [
   (.assign (.one 26) (.bin .add (.var 23) (.app (.ref 73) [(.var 22),(.idx (.var 14) (.var 25))]))),
   (.assign (.one 23) (.idx (.var 19) (.var 25))),
   (.assign (.one 27) (.bin .add (.app (.builtin "min") [(.var 20),(.var 23)]) (.k (.int 2)))),
   (.assign (.one 20) (.app (.builtin "min") [(.var 27),(.var 26)])),
   (.setidx (.var 19) (.var 25) (.var 20)),
   (.if_ (.cmp .lt (.var 20) (.var 24)) [
    (.assign (.one 24) (.var 20))] [])]),
  (.if_ (.cmp .gt (.var 24) (.var 16)) [
   (.ret (.bin .add (.var 16) (.k (.int 1))))] [])]),
 (.ret (.var 20))]
noncomputable def f80:Fn:=⟨[14,15,16],b80⟩
noncomputable def b144:List S:=[
 (.assign (.one 29) (.conv (.var 28) (.met .lower (.var 29) []))),
 (.setall (.hds (.var 28)) (.comp [30,31] (.var 31) [(.g (.one 31) (.ex (.hds (.var 28))) [(.cmp .ne (.met .lower (.idx (.var 31) (.k (.int 0))) []) (.var 29))])]))]
noncomputable def f144:Fn:=⟨[28,29],b144⟩
noncomputable def b163:List S:=[
 (.assign (.one 29) (.conv (.var 28) (.met .lower (.var 29) []))),
 (.ret (.comp [30,31] (.idx (.var 31) (.k (.int 1))) [(.g (.one 31) (.ex (.hds (.var 28))) [(.cmp .eq (.met .lower (.idx (.var 31) (.k (.int 0))) []) (.var 29))])]))]
noncomputable def f163:Fn:=⟨[28,29],b163⟩
noncomputable def b188:List S:=[
 (.ret (.slc (.hds (.var 28)) none none))]
noncomputable def f188:Fn:=⟨[28],b188⟩
noncomputable def b233:List S:=[
 (.assign (.one 34) (.bin .add (.list [(.k (.str ⟨#[]⟩)),(.k (.str ⟨#[97]⟩)),(.k (.str ⟨#[65]⟩)),(.k (.str ⟨#[98]⟩)),(.k (.str ⟨#[66]⟩))]) (.comp [30,38,39] (.bin .add (.var 38) (.var 39)) [(.g (.one 38) (.ex (.k (.str ⟨#[97,65,98,66]⟩))) []),(.g (.one 39) (.ex (.k (.str ⟨#[97,65,98,66]⟩))) [])]))),
 (.assign (.one 35) (.list [])),
 (.for_ (.one 36) (.rng [(.app (.builtin "len") [(.var 33)])]) [
  (.assign (.one 37) (.bin .add (.idx (.var 33) (.var 36)) (.ife (.cmp .lt (.var 36) (.app (.builtin "len") [(.var 32)])) (.bin .mod (.idx (.var 32) (.var 36)) (.k (.int 21))) (.k (.int 0))))),
  (.expr (.met .append (.var 35) [(.idx (.var 34) (.bin .mod (.var 37) (.k (.int 21))))]))]),
 (.ret (.var 35))]
noncomputable def f233:Fn:=⟨[32,33],b233⟩
noncomputable def b240:List S:=[
 (.if_ (.cmp .eq (.var 38) (.var 39)) [
  (.ret (.k (.int 0)))] []),
 (.ret (.ife (.cmp .eq (.met .lower (.var 38) []) (.met .lower (.var 39) [])) (.k (.int 1)) (.k (.int 2))))]
noncomputable def f240:Fn:=⟨[38,39],b240⟩
noncomputable def b247:List S:=[
 (.assign (.one 40) (.list [(.bin .mul (.k (.int 2)) (.app (.builtin "len") [(.bin .add (.var 38) (.var 39))]))])),
 (.for_ (.one 41) (.ex (.var 38)) [
  (.for_ (.one 42) (.ex (.var 39)) [
   (.expr (.met .append (.var 40) [(.bin .add (.bin .sub (.bin .mul (.k (.int 2)) (.app (.builtin "len") [(.bin .add (.var 38) (.var 39))])) (.k (.int 4))) (.app (.ref 240) [(.var 41),(.var 42)]))]))])]),
 (.if_ (.land [(.cmp .eq (.app (.builtin "len") [(.var 38)]) (.k (.int 2))),(.cmp .eq (.app (.builtin "len") [(.var 39)]) (.k (.int 2)))]) [
  (.expr (.met .append (.var 40) [(.bin .add (.app (.ref 240) [(.idx (.var 38) (.k (.int 0))),(.idx (.var 39) (.k (.int 0)))]) (.app (.ref 240) [(.idx (.var 38) (.k (.int 1))),(.idx (.var 39) (.k (.int 1)))]))]))] []),
 (.ret (.app (.builtin "min") [(.var 40)]))]
noncomputable def f247:Fn:=⟨[38,39],b247⟩
noncomputable def b252:List S:=[
 (.assign (.one 43) (.comp [30,38] (.comp [30,39] (.k (.int 0)) [(.g (.one 39) (.ex (.var 35)) [])]) [(.g (.one 38) (.ex (.var 35)) [])])),
 (.for_ (.one 44) (.rng [(.app (.builtin "len") [(.var 35)])]) [
  (.for_ (.one 45) (.rng [(.var 44)]) [
   (.setidx (.idx (.var 43) (.var 44)) (.var 45) (.app (.ref 80) [(.idx (.var 35) (.var 44)),(.idx (.var 35) (.var 45)),(.k (.int 99))])),
   (.setidx (.idx (.var 43) (.var 45)) (.var 44) (.idx (.idx (.var 43) (.var 44)) (.var 45)))])]),
 (.ret (.var 43))]
noncomputable def f252:Fn:=⟨[35],b252⟩
noncomputable def b259:List S:=[
 (.assign (.one 0) (.list [(.tup [(.k (.int 0)),(.k (.int 0)),(.k (.int 0))])])),
 (.assign (.one 47) (.list [])),
 (.assign (.one 48) (.k (.int 0))),
 (.while_ (.cmp .ne (.var 0) (.list [])) [
  (.assign (.many [49,50,51]) (.app (.ref 52) [(.var 0)])),
  (.if_ (.cmp .notin (.var 50) (.var 47)) [
   (.expr (.met .append (.var 47) [(.var 50)])),
   (.aug 48 .add (.var 49)),
   (.if_ (.cmp .ne (.var 50) (.var 51)) [
    (.expr (.met .addh (.var 46) [(.idx (.k (.str ⟨#[97,98,99,100,101]⟩)) (.var 50)),(.idx (.k (.str ⟨#[97,98,99,100,101]⟩)) (.var 51))])),
    (.expr (.met .addh (.var 46) [(.idx (.k (.str ⟨#[65,66,67,68,69]⟩)) (.var 51)),(.idx (.k (.str ⟨#[97,98,99,100,101]⟩)) (.var 50))]))] []),
   (.for_ (.one 36) (.rng [(.app (.builtin "len") [(.var 43)])]) [
    (.if_ (.cmp .notin (.var 36) (.var 47)) [
     (.expr (.app (.ref 45) [(.var 0),(.tup [(.idx (.idx (.var 43) (.var 50)) (.var 36)),(.var 36),(.var 50)])]))] [])])] [])]),
 (.ret (.var 48))]
noncomputable def f259:Fn:=⟨[43,46],b259⟩
noncomputable def b264:List S:=[
 (.assign (.one 53) (.lrange [(.app (.builtin "len") [(.var 43)])])),
 (.for_ (.one 44) (.rng [(.app (.builtin "len") [(.var 43)])]) [
  (.for_ (.one 45) (.rng [(.var 44)]) [
   (.if_ (.cmp .le (.idx (.idx (.var 43) (.var 44)) (.var 45)) (.var 52)) [
    (.assign (.one 53) (.comp [30,54] (.ife (.cmp .eq (.var 54) (.idx (.var 53) (.var 45))) (.idx (.var 53) (.var 44)) (.var 54)) [(.g (.one 54) (.ex (.var 53)) [])]))] [])])]),
 (.ret (.lenset (.var 53)))]
noncomputable def f264:Fn:=⟨[43,52],b264⟩
noncomputable def b271:List S:=[
 (.if_ (.cmp .eq (.var 55) (.list [])) [
  (.ret (.list [(.list [])]))] []),
 (.assign (.one 40) (.list [])),
 (.for_ (.one 36) (.rng [(.k (.int 1)),(.app (.builtin "len") [(.var 55)])]) [
  (.for_ (.one 56) (.ex (.app (.ref 271) [(.bin .add (.slc (.var 55) (some (.k (.int 1))) (some (.var 36))) (.slc (.var 55) (some (.bin .add (.var 36) (.k (.int 1)))) none))])) [
   (.expr (.met .append (.var 40) [(.bin .add (.list [(.tup [(.idx (.var 55) (.k (.int 0))),(.idx (.var 55) (.var 36))])]) (.var 56))]))])]),
 (.ret (.var 40))]
noncomputable def f271:Fn:=⟨[55],b271⟩
noncomputable def b278:List S:=[
 (.assign (.one 56) (.met .getall (.var 46) [(.var 51)])),
 (.if_ (.cmp .in_ (.var 50) (.var 56)) [
  (.expr (.met .remove (.var 56) [(.var 50)]))] []),
 (.del (.var 46) (.var 51)),
 (.for_ (.one 38) (.ex (.var 56)) [
  (.expr (.met .addh (.var 46) [(.var 51),(.var 38)]))])]
noncomputable def f278:Fn:=⟨[46,51,50],b278⟩
noncomputable def b285:List S:=[
 (.assign (.one 57) (.list [(.k (.str ⟨#[97]⟩))])),
 (.assign (.one 58) (.list [])),
 (.while_ (.cmp .ne (.var 57) (.list [])) [
  (.assign (.one 51) (.idx (.var 57) (.k (.int (-1))))),
  (.assign (.one 59) (.met .getall (.var 46) [(.var 51)])),
  (.if_ (.cmp .eq (.var 59) (.list [])) [
   (.expr (.met .append (.var 58) [(.met .pop (.var 57) [])]))] [(.expr (.app (.ref 278) [(.var 46),(.var 51),(.idx (.var 59) (.k (.int 0)))])),
   (.expr (.app (.ref 278) [(.var 46),(.idx (.var 59) (.k (.int 0))),(.var 51)])),
   (.expr (.met .append (.var 57) [(.idx (.var 59) (.k (.int 0)))]))])]),
 (.ret (.var 58))]
noncomputable def f285:Fn:=⟨[46],b285⟩
noncomputable def b290:List S:=[
 (.if_ (.cmp .eq (.var 55) (.list [])) [
  (.ret (.list [(.list [])]))] []),
 (.assign (.one 60) (.list [])),
 (.for_ (.one 38) (.ex (.var 55)) [
  (.for_ (.one 56) (.ex (.app (.ref 290) [(.comp [30,39] (.var 39) [(.g (.one 39) (.ex (.var 55)) [(.cmp .ne (.var 39) (.var 38))])])])) [
   (.expr (.met .append (.var 60) [(.bin .add (.list [(.var 38)]) (.var 56))]))])]),
 (.ret (.var 60))]
noncomputable def f290:Fn:=⟨[55],b290⟩
noncomputable def b295:List S:=[
 (.ret (.app (.builtin "sum") [(.comp [30,36] (.idx (.idx (.var 43) (.idx (.var 61) (.bin .sub (.var 36) (.k (.int 1))))) (.idx (.var 61) (.var 36))) [(.g (.one 36) (.rng [(.app (.builtin "len") [(.var 61)])]) [])])]))]
noncomputable def f295:Fn:=⟨[43,61],b295⟩
noncomputable def b300:List S:=[
 (.assign (.one 35) (.app (.ref 233) [(.var 32),(.ife (.cmp .gt (.app (.builtin "len") [(.var 32)]) (.k (.int 2))) (.list [(.k (.int 7)),(.k (.int 11)),(.k (.int 8)),(.k (.int 5)),(.k (.int 20))]) (.list [(.k (.int 7)),(.k (.int 11)),(.k (.int 8)),(.k (.int 5))]))])),
 (.assign (.one 62) (.app (.builtin "len") [(.var 35)])),
 (.assign (.one 43) (.app (.ref 252) [(.var 35)])),
 (.for_ (.one 44) (.rng [(.var 62)]) [
  (.if_ (.cmp .ne (.comp [30,45] (.idx (.idx (.var 43) (.var 44)) (.var 45)) [(.g (.one 45) (.rng [(.var 44)]) [])]) (.comp [30,45] (.app (.ref 247) [(.idx (.var 35) (.var 45)),(.idx (.var 35) (.var 44))]) [(.g (.one 45) (.rng [(.var 44)]) [])])) [
   (.ret (.k (.bool false)))] [])]),
 (.assign (.one 46) (.app (.ref 224) [])),
 (.assign (.one 63) (.app (.ref 259) [(.var 43),(.var 46)])),
 (.if_ (.cmp .ne (.var 63) (.app (.builtin "sum") [(.comp [30,52] (.bin .sub (.app (.ref 264) [(.var 43),(.var 52)]) (.k (.int 1))) [(.g (.one 52) (.rng [(.k (.int 4))]) [])])])) [
  (.ret (.k (.bool false)))] []),
 (.assign (.one 64) (.comp [30,36] (.var 36) [(.g (.one 36) (.rng [(.var 62)]) [(.cmp .eq (.bin .mod (.app (.builtin "len") [(.met .getall (.var 46) [(.idx (.k (.str ⟨#[97,98,99,100,101]⟩)) (.var 36))])]) (.k (.int 2))) (.k (.int 1)))])])),
 (.assign (.one 0) (.list [])),
 (.for_ (.one 65) (.ex (.app (.ref 271) [(.var 64)])) [
  (.expr (.app (.ref 45) [(.var 0),(.tup [(.app (.builtin "sum") [(.comp [30,44,45] (.idx (.idx (.var 43) (.var 44)) (.var 45)) [(.g (.many [44,45]) (.ex (.var 65)) [])])]),(.var 65)])]))]),
 (.assign (.many [66,67]) (.app (.ref 52) [(.var 0)])),
 (.for_ (.many [44,45]) (.ex (.var 67)) [
  (.expr (.met .addh (.var 46) [(.idx (.k (.str ⟨#[65,66,67,68,69]⟩)) (.var 44)),(.idx (.k (.str ⟨#[97,98,99,100,101]⟩)) (.var 45))])),
  (.expr (.met .addh (.var 46) [(.idx (.k (.str ⟨#[97,98,99,100,101]⟩)) (.var 45)),(.idx (.k (.str ⟨#[97,98,99,100,101]⟩)) (.var 44))]))]),
 (.assign (.one 68) (.app (.builtin "sorted") [(.comp [30,29,71] (.tup [(.met .lower (.var 29) []),(.var 71)]) [(.g (.many [29,71]) (.ex (.met .items (.var 46) [])) [])])])),
 (.assign (.one 58) (.app (.ref 285) [(.var 46)])),
 (.assign (.one 69) (.comp [30,36] (.tup [(.idx (.var 58) (.bin .sub (.var 36) (.k (.int 1)))),(.idx (.var 58) (.var 36))]) [(.g (.one 36) (.rng [(.k (.int 1)),(.app (.builtin "len") [(.var 58)])]) [])])),
 (.if_ (.lor [(.cmp .ne (.app (.builtin "sorted") [(.bin .add (.var 69) (.comp [30,51,50] (.tup [(.var 50),(.var 51)]) [(.g (.many [51,50]) (.ex (.var 69)) [])]))]) (.var 68)),(.cmp .ne (.met .items (.var 46) []) (.list []))]) [
  (.ret (.k (.bool false)))] []),
 (.assign (.one 61) (.list [])),
 (.for_ (.one 38) (.ex (.var 58)) [
  (.if_ (.cmp .notin (.met .index (.k (.str ⟨#[97,98,99,100,101]⟩)) [(.var 38)]) (.var 61)) [
   (.expr (.met .append (.var 61) [(.met .index (.k (.str ⟨#[97,98,99,100,101]⟩)) [(.var 38)])]))] [])]),
 (.if_ (.lor [(.cmp .ne (.idx (.var 58) (.k (.int 0))) (.idx (.var 58) (.k (.int (-1))))),(.cmp .ne (.app (.builtin "sorted") [(.var 61)]) (.lrange [(.var 62)]))]) [
  (.ret (.k (.bool false)))] []),
 (.assign (.one 70) (.app (.builtin "min") [(.comp [30,56] (.app (.ref 295) [(.var 43),(.bin .add (.list [(.k (.int 0))]) (.var 56))]) [(.g (.one 56) (.ex (.app (.ref 290) [(.lrange [(.k (.int 1)),(.var 62)])])) [])])])),
 (.ret (.land [(.cmp .le (.app (.ref 295) [(.var 43),(.var 61)]) (.bin .add (.var 63) (.var 66))),(.cmp .le (.bin .mul (.var 63) (.var 62)) (.bin .mul (.var 70) (.bin .sub (.var 62) (.k (.int 1))))),(.cmp .le (.bin .mul (.k (.int 2)) (.var 66)) (.var 70))]))]
noncomputable def f300:Fn:=⟨[32],b300⟩
noncomputable def I8:List (cK×Fn)->cK->Option Fn
 | [],_=>none
 | (b,f)::r,a=>match aW a b with
  | true=>some f
  | false=>I8 r a
noncomputable def Vz(P:cK->Fn->Prop):List (cK×Fn)->Prop
 | []=>True
 | (b,f)::r=>P b f/\Vz P r
noncomputable def fts:List (cK×Fn):=[(45,f45),(52,f52),(59,f59),(66,f66),(73,f73),(80,f80),(144,f144),(163,f163),(188,f188),(233,f233),(240,f240),(247,f247),(252,f252),(259,f259),(264,f264),(271,f271),(278,f278),(285,f285),(290,f290),(295,f295),(300,f300)]
noncomputable def ft(a:cK):Option Fn:=I8 fts a
theorem kD{P:cK->Fn->Prop}: ∀l,Vz P l->∀a fn,I8 l a=some fn->P a fn:=by
 intro l;induction l with
 | nil=>intro _ a fn h;exact nomatch h
 | cons p r ih=>
  intro H a fn h;have h:(match aW a p.1 with|true=>some p.2|false=>I8 r a)=some fn:=h;cases e:aW a p.1 with
  | true=>rw[e] at h;cases h;rw[aR e];exact H.1
  | false=>rw[e] at h;exact ih H.2 a fn h
noncomputable def mt:Mth->Option cK
 | .getall=>some 163
 | .addh=>some 221
 | .items=>some 188
 | .remove=>some 144
 | _=>none
end Mine
set_option maxRecDepth 4000
namespace Mine
variable {X:Fx} {d:Nat} {hp:HP}
structure D8(X:Fx)(a:cK)(o:Obj)(fd:FuncData)(body:List Stmt):Prop where
 at_:X.K.lookup a=some o
 data:o.data= .func fd
 clo:fd.closure=[]
 bod:fd.body= .stmts body
 glo:fd.globals=g0M
 blt:fd.builtins=g4W
 coro:fd.scope.isCoroutine=false
 gen:fd.scope.isGenerator=false
 kind:fd.scope.kind= .function
 nodup:(fd.scope.names.map (·.1)).Nodup
 nofree: ∀x,fd.scope.names.lookup x≠some .free
 code: ∀h,X.K.In h->h.CodeRec fd.code fd.qualname
 nolim: ∀h,X.K.In h->h.NoLimit
theorem Sq{a:cK}{o:Obj}{fd:FuncData}{body:List Stmt}{A:Around}{Y:List cK}{s:Shared}{vals:List Value}{kw:List (Str×Value)}{R:gBT->Shared->Prop}{ps:List Str}{is:List Nat}{vs:List V}(C:Heap->Prop)
  (K:D8 X a o fd body) (H:Ah X A (d+1) Y s hp) (len:ps.length=is.length) (psn:ps.Nodup) (par: ∀(k:Nat) (i:Nat) (p:Str),is[k]? =some i->ps[k]? =some p->X.nm[i]? =some p) (parK: ∀p∈ps,fd.scope.names.lookup p=some .local\/fd.scope.names.lookup p=some .cell)
  (hb:cA (mdl X) A.in1 (bY fd ⟨vals,kw⟩) (λb s₁=> ∃h0 t0 vals',s₁={s with heap:=h0,toks:=t0}/\b=ps.zip vals'/\vals'.length=ps.length/\(∀b o,s.heap.get? b=some o->h0.get? b=some o)/\VRels X Y h0 vs vals'/\C h0) (λ_ _=>False) s)
  (k: ∀env h0 h1 t1 E1,env.scope=fd.scope->env.func.isSome=true->C h0->(∀b o,h0.get? b=some o->h1.get? b=some o)->Ac X [] Y s.heap Y h1 hp->Ak X Y env (is.zip vs) h1->Ew (A.deeper env) d->(∀b∈Wof env,h0.get? b=none)->(∀b∈Wof env,s.heap.get? b=none)->
   cA (mdl X) (A.deeper env) (execs body env) (λf s'=>R (.ok (.ret (match f with| .ret v=>v|_=> .none))) s') E1 {s with heap:=h1,toks:=t1}):
  g7M (mdl X) A (.call (.ref a) ⟨vals,kw⟩) R s:=by
 have rm:=H.room;refine codeAny_call_function (by have:=rm.depth;exact Q78 this) (H.inv.kin _ _ K.at_) K.data K.coro K.gen K.bod (K.code _ H.inv.kin) ?_;refine g1M hb (λb s₁ hB=> ?_) (λ_ _ z=>z.elim);refine x36 hB ?_;clear hB;intro h0 t0 vals' z3 z4 lv keep0 r hC;subst z3;subst z4;have S0:Ac X [] Y s.heap Y h0 hp:=Ac.ext H.inv keep0;rw[K.clo];refine wpAny_newFunctionEnv_cells K.kind (λx hx=> ?_) λenv he s' CC=> ?_
 ·have hm:x.1∈ps:=(g0Z hx).1
  rcases parK _ hm with k|k
  ·exact .inl k
  ·refine .inr ⟨k,?_⟩
   refine x11 (G8 (names:=fd.scope.names) (n:=h0.objs.size+1) (acc:=[]) (.inl k)) ?_;intro c hc;rw[hc];rfl
 ·subst he
  refine x21 CC.toInCall.same ?_;intro h1 t1 z2;subst z2;have keep:=CC.toInCall.keep;refine⟨(K.nolim _ S0.inv.kin).keeps keep,codeAny_func ?_⟩;have kk:(newEnv fd.scope h0.objs.size fd.globals (g4H (h0.objs.size+1) fd.scope.names []) (fd.qualname++".<locals>.") (some a) fd.code none fd.builtins).kindOf=λx=>fd.scope.names.lookup x:=rfl;have S1:Ac X [] Y h0 Y h1 hp:=Ac.ext S0.inv keep;have fresh: ∀c,h0.objs.size<=c->h0.get? c=none:=λc hc=>g0E hc;have none0: ∀c,h0.get? c=none->s.heap.get? c=none:=λc hc=>Eo S0.alive hc;have bL:=(Sn (kindOf:=λx=>fd.scope.names.lookup x) (ps:=ps) (vals:=vals') (m:=λ_=>none) psn lv.symm).1;have bC:=(Sm (kindOf:=λx=>fd.scope.names.lookup x) (ps:=ps) (vals:=vals') (m:=λ_=>none) psn lv.symm).1;have F1:Ak X Y (newEnv fd.scope h0.objs.size fd.globals (g4H (h0.objs.size+1) fd.scope.names []) (fd.qualname++".<locals>.") (some a) fd.code none fd.builtins) (is.zip vs) h1:=by
   refine⟨K.kind,K.glo,K.blt,⟨_,CC.toInCall.ns,λi u x e ex=> ?_⟩,?_,S0.inv.big,λp hp=> ?_,λx y c hx hy=> ?_,λx hx=> ?_⟩
   ·refine x12 (Tp e) ?_;intro k e1 e2
    have hk:k < ps.length:=by rw[len];exact(aF.mp e1).1
    have ep:ps[k]? =some ps[k]:=aD hk;have:=par k i ps[k] e1 ep;rw[ex] at this;cases this;refine x12 (Fe r e2) ?_;intro rv e3 rr;have rr':=S1.vr _ _ rr;refine⟨λz=>⟨rv,bL k _ rv ep e3 z,rr'⟩,λz=> ?_⟩;have z':fd.scope.names.lookup ps[k]=some .cell:=by
     rcases z with z|z
     ·exact z
     ·exact absurd z (K.nofree _)
    refine x11 (G8 (names:=fd.scope.names) (n:=h0.objs.size+1) (acc:=[]) (.inl z')) ?_;intro c hc;refine⟨c,rv,hc,?_,rr'⟩;have:=CC.cell _ c hc;rw[kk,bC k _ rv ep e3 z'] at this;exact this
   ·exact S0.inv.fresh (fresh _ (bJ _))
   ·have hnd:((g4H (h0.objs.size+1) fd.scope.names []).map (·.1)).Nodup:=Uy K.nodup (g4F) (by simp)
    have hlk:=Vu hnd hp;refine⟨⟨_,CC.cell _ _ hlk⟩,?_⟩;exact bR S0.inv.big (g4C (CC.above p.1 p.2 hp))
   ·have:=CC.apart
    by_cases hxy:x=y
    ·exact hxy
    ·exfalso
     have m1:=Dc hx;have m2:=Dc hy;rcases g4E.mp this with pw
     obtain⟨i1,l1,g1⟩:=g0O m1;obtain⟨i2,l2,g2⟩:=g0O m2;rcases g2V i1 i2 with h|h|h
     ·exact pw i1 i2 l1 l2 h (by rw[g1,g2])
     ·subst h;rw[g1] at g2;cases g2;exact hxy rfl
     ·exact pw i2 i1 l2 l1 h (by rw[g1,g2])
   ·rcases hx with z|z
    ·exact G8 (.inl z)
    ·exact absurd z (K.nofree _)
  have hw: ∀b∈Wof (newEnv fd.scope h0.objs.size fd.globals (g4H (h0.objs.size+1) fd.scope.names []) (fd.qualname++".<locals>.") (some a) fd.code none fd.builtins),h0.get? b=none:=by
   intro b hb;rcases bM.mp hb with rfl|hb
   ·exact fresh _ (bJ _)
   ·split at hb
    case isFalse=>cases hb
    refine x12 (bI.mp hb) ?_;intro p hp z2;subst z2;exact fresh _ (g4C (CC.above p.1 p.2 hp))
  refine k _ h0 h1 t1 _ rfl rfl hC keep (S0.trans S1) F1 ⟨rm.handled,?_,?_⟩ hw λb hb=>none0 b (hw b hb)
  ·show A.depth+1+8*d+16 < g6B
   have:=rm.depth;exact Q79 this
  ·show A.units+3+32*d+256 < g8H
   have:=rm.units;exact Q80 this rfl
theorem Qw{a:cK}{o:Obj}{fd:FuncData}{body:List Stmt}{A:Around}{Y:List cK}{s:Shared}{vals:List Value}{kw:List (Str×Value)}{Q E:Value->Shared->Prop}{ps:List Str}{is:List Nat}{vs:List V}(C:Heap->Prop)
  (K:D8 X a o fd body) (H:Ah X A (d+1) Y s hp) (len:ps.length=is.length) (psn:ps.Nodup) (par: ∀(k:Nat) (i:Nat) (p:Str),is[k]? =some i->ps[k]? =some p->X.nm[i]? =some p) (parK: ∀p∈ps,fd.scope.names.lookup p=some .local\/fd.scope.names.lookup p=some .cell)
  (hb:cA (mdl X) A.in1 (bY fd ⟨vals,kw⟩) (λb s₁=> ∃h0 t0 vals',s₁={s with heap:=h0,toks:=t0}/\b=ps.zip vals'/\vals'.length=ps.length/\(∀b o,s.heap.get? b=some o->h0.get? b=some o)/\VRels X Y h0 vs vals'/\C h0) (λ_ _=>False) s)
  (k: ∀env h0 h1 t1 E1,env.scope=fd.scope->env.func.isSome=true->C h0->(∀b o,h0.get? b=some o->h1.get? b=some o)->Ac X [] Y s.heap Y h1 hp->Ak X Y env (is.zip vs) h1->Ew (A.deeper env) d->(∀b∈Wof env,h0.get? b=none)->(∀b∈Wof env,s.heap.get? b=none)->
   cA (mdl X) (A.deeper env) (execs body env) (λf s'=>Q (match f with| .ret v=>v|_=> .none) s') E1 {s with heap:=h1,toks:=t1}):
  cA (mdl X) A (call (.ref a) vals kw) Q E s:=
 g9E (Sq (R:=λr s'=>match r with| .ok (.ret v)=>Q v s'| .ok _=>False| .error e=>E e s') C K H len psn par parK hb k)
end Mine
open PySem PySem.W PySem.Calls PyProof.Rows PySem.Spec PySem.Builtin PySem.Builtin.Re
namespace Mine
theorem oC:PlainAttrs "re.Pattern":=
 ⟨⟨"object.__getattribute__",by rw[g8F,g5O];kernel_rfl,by decide+kernel⟩,by rw[g8F,g5O];kernel_rfl⟩
theorem Vx:Slot "re.Pattern" "search" "re.Pattern.search":=
 .of (owner:="re.Pattern") (n:="search") (by rw[g8F,g5O];kernel_rfl) (rfl) (rfl) (rfl)
  (by first|exact .inl (by decide+kernel)|exact .inr (by decide+kernel)) (by rw[isSubtype_type];kernel_rfl)
theorem oH:typeOf (.builtin "re.Pattern.search")=pure (.type "method_descriptor"):=by show builtinType _=_;rw[builtinType_eq_fast];kernel_rfl
theorem oI:entryFor table "re.Pattern.search"=some Builtin.«re.Pattern.search» :=entryFor_of_fast (by kernel_rfl)
theorem oG(a b:Value):argsOk "re.Pattern.search" ⟨[a,b],[]⟩:=by
 dsimp only[argsOk];kernel_rfl
noncomputable def Jc:Nat->Sre.M->Option Sre.M
 | 0,_=>none
 | n+1,m=>match (m.runFor gCP).outcome.isSome with
  | true=>some (m.runFor gCP)
  | false=>Jc n (m.runFor gCP)
noncomputable def Jm(code:Array Nat)(l:List Nat):Bool:=match Jc 20 (Sre.forSearch code l.toArray 0 0 l.length false) with
 | some m=>match m.outcome with
  | some .failed=>true
  | _=>false
 | none=>false
section
variable {M:Model} {A:Around} {E:Value->Shared->Prop} {s:Shared}
theorem Uz{Q:Sre.M->Shared->Prop}: ∀(n N:Nat) (m m':Sre.M),n<=N->Jc n m=some m'->Q m' s->cA M A (reDrive N m) Q E s
 | 0,_,_,_,_,e,_=>by exact nn e
 | n+1,0,_,_,h,_,_=>Lh h
 | n+1,N+1,m,m',h,e,q=>by
  unfold reDrive;dsimp only[Jc] at e;dsimp only;cases ho:(m.runFor gCP).outcome.isSome with
  | true=>
   rw[ho] at e;cases e;rw[if_pos rfl];exact aQ q
  | false=>
   rw[ho] at e;rw[if_neg (bD)];exact aG (g5R (Uz n N _ _ (Ov h) e q))
theorem jO{a:cK}{o:Obj}{fs:Array Value}{Q:Array Value->Shared->Prop}(ho:s.heap.get? a=some o)(hd:o.data= .fields fs)(h:Q fs s):cA M A (fieldsOf (.ref a)) Q E s:=by
 dsimp only[fieldsOf];refine aG (wpAny_load ho ?_);rw[hd];exact aQ h
theorem Na{m:Sre.M}{Q:PUnit->Shared->Prop}(q:Q ⟨⟩ s): ∀(l:List Nat),cA M A (forIn l PUnit.unit λi _=>do
   if m.seen.has i then rule (Sre.names.getD i "")
   pure (ForInStep.yield PUnit.unit)) Q E s
 | []=>by rw[g7W];exact aQ q
 | i::l=>by
  rw[g3R];refine aG ?_;by_cases h:m.seen.has i=true
  ·simp only[h,if_true]
   exact aG (g5R (aQ (Na q l)))
  ·simp only[h]
   exact aQ (Na q l)
set_option tactic.hygienic true in
theorem nG{P T:cK}{fs ws:Array Value}{n:Nat}{x:Str}{t:Tok}{code:Array Nat}{Q:Fin->Shared->Prop}(hP:s.heap.get? P=some {cls:= .type "re.Pattern",data:= .fields fs})(h5:fs.getD 5 .none= .ref T)(h6:reRawNat (fs.getD 6 .none)=0)(h2:reRawNat (fs.getD 2 .none)=0)
  (hT:s.heap.get? T=some {cls:= .type "tuple",data:= .seq ws n}) (hc:(ws.map reRawOf).map (·.toNat)=code) (hx:x.cps.size<=1000) (hrun:Jm code x.cps.toList=true) (q:Q (.done (.ret .none)) s):
  cA M A (Builtin.«re.Pattern.search» ⟨[.ref P,.str x t],[]⟩) Q E s:=by
 unfold Builtin.«re.Pattern.search»;refine aG ?_;dsimp only[reTarget];have e1:reNamed "re.Pattern.search" "search" ["string","pos","endpos"] 1 [.str x t] []=pure [some (.str x t),none,none]:=by rfl
 show cA _ _ (reNamed "re.Pattern.search" "search" ["string","pos","endpos"] 1 [.str x t] [] >>= _) _ _ _;rw[e1];refine aG (aQ ?_);dsimp only;refine aG (aQ ?_);refine aG (aQ ?_);have e2:reTextOf (.str x t)=pure (x.cps,0):=by rfl
 refine aG (jO hP rfl ?_);rw[e2];refine aG (aQ ?_);dsimp only;rw[h6,h2];rw[if_neg (by exact bD),if_neg (by exact bD)];have e3:reNoCollectionInside (.str x t) 0=pure ():=by rfl
 rw[e3];refine aG (aQ ?_);rw[h5];dsimp only[reRawItems];refine aG (aG ?_);show cA _ _ (seqItems? (.ref T)) _ _ _;unfold seqItems?;refine aG (wpAny_load hT ?_);refine aQ (aQ (aQ ?_));dsimp only;have em:(gDT (λx=>x.toNat) (gDT reRawOf ((some ws).getD #[])))=code:=hc;rw[em];have el:min ((2:Int) ^ 63 - 1).toNat x.cps.size=x.cps.toList.length:=by
  rw[g0G];lia
 have ep:min (bZ 0) x.cps.size=0:=by exact g5E _
 rw[el,ep];dsimp only[reAnswer];dsimp only[Jm] at hrun;split at hrun
 ·rename_i m hm
  split at hrun
  ·rename_i ho
   dsimp only[reRunToEnd];refine aG (aG (Uz 20 _ _ m (of_decide_eq_true ‹_›) ?_ ?_))
   ·simpa using hm
   ·refine aG (Na ?_ _)
    rw[ho];exact aQ (aQ q)
  ·cases hrun
 ·cases hrun
end
end Mine
namespace Mine
variable {X:Fx} {d:Nat} {hp:HP}
theorem nM{x:Str}:Ai X d (Fp "type") [.str x] hp (.imm (.type "str")) hp:=by
 intro A Y s rvs Q E H r P;refine x12 (Bv r) ?_;intro p z1 rp;subst z1;dsimp only[Ab] at rp;clear r;refine x12 rp ?_;clear rp;intro t z1 _;subst z1;refine call_type_of (typeIs_str s x t) (rfl) ?_;exact P.now H (rfl) s.toks
theorem nL{i:Nat}{xs:List V}(e:lget hp i=some xs):Ai X d (Fp "type") [.lst i] hp (.imm (.type "list")) hp:=by
 intro A Y s rvs Q E H r P;refine x12 (Bv r) ?_;intro p z1 rp;subst z1;clear r;refine x35 (Aw H.inv rp e) ?_;intro a vs n z3 _ _ g _;subst z3;refine call_type_of ⟨_,g,rfl⟩ (rfl) ?_;exact P.now H (rfl) s.toks
theorem Yd{tb:Tab}{e0:Ag}{v:Str}{T:String}{i:Nat}{u:V}{env:Env}{U:Rho}{p1 p2 p3 p4 p5:Pos}{tn:Str}{whole:Sem Value}(TO:A0 X tb)(e1:Ao tb env.scope.names "type"=some (.k (.imm (.type "type"))))(e2:Ao tb env.scope.names v=some (.var i))(e3:Ao tb env.scope.names tn=some (.k (.imm (.type T))))
  (hv:rget U i=some u) (o:Ai X d (Fp "type") [u] hp (.imm (.type T)) hp):Bn X d (isTrue (.Compare (.Call (.Name "type" p1) [.Name v p2] [] p3) [.Is] [.Name tn p4] p5) env whole) env U hp true hp:=by
 refine Bn.cmp (u:= .imm (.type T)) (v:= .imm (.type T)) (hp1:=hp) (hp2:=hp) ?_ ?_ rfl ?_
 ·have hc:cXs tb env.scope.names [.Name v p2]=some [.var i]:=by
   dsimp only[cXs];dsimp only[cX];rw[e2];rfl
  refine Ad.call (xs:=[.var i]) (vs:=[u]) TO e1 (.inr (.inr ⟨_,rfl⟩)) hc ?_ o;refine Bj.cons (hp1:=hp) ?_ Bj.nil;exact Dq TO (e0:=e0) (r:=Df) e2 (by show (rget U i).map (·,hp)=_;rw[hv];rfl)
 ·exact Dq TO (e0:=e0) (r:=Df) e3 rfl
 ·intro A Y s rvs Q E H r P
  clear TO e1 e2 e3 hv o;refine x23 (Bq r) ?_;intro p q z2 rp rq;subst z2;dsimp only[Ab] at rp rq;clear r;subst rp;subst rq;exact wpAny_is_self rfl (P.bool H s.toks)
structure Fj(X:Fx)(P:cK):Prop where
 ex: ∃(T:cK) (fs ws:Array Value) (n:Nat) (code:Array Nat),X.K.lookup P=some {cls:= .type "re.Pattern",data:= .fields fs}/\fs.getD 5 .none= .ref T/\g4I (fs.getD 6 .none)=0/\g4I (fs.getD 2 .none)=0/\
  X.K.lookup T=some {cls:= .type "tuple",data:= .seq ws n}/\(ws.map gBV).map (·.toNat)=code/\∀c,Dm c=true->Jm code [c]=true
theorem mJ{tb:Tab}{e0:Ag}{env:Env}{U:Rho}{P:cK}{x v rg:Str}{i j:Nat}{p1 p2 p3 p4:Pos}(TO:A0 X tb)(PO:Fj X P)(e1:Ao tb env.scope.names rg=some (.var i))(e2:Ao tb env.scope.names v=some (.var j))(hi:rget U i=some (.imm (.ref P)))(hj:rget U j=some (.str x))
  (hline:(p2.endLine==p4.line)=true) (hpl:(chars x).all Dm=true) (hc:(chars x).length=1):Ad X d (eval (.Call (.Attribute (.Name rg p1) "search" p2) [.Name v p3] [] p4) env) env U hp .none hp:=by
 intro A Y s Q E H F Pq;have hs:cM [.Name v p3] env=[.Name v p3].map (λe=>(false,eval e env)):=rfl;refine Nx rfl hs (aT rfl) hline (Dq TO (e0:=e0) (r:=Df) e1 (by show (rget U i).map (·,hp)=_;rw[hi];rfl) A Y s _ _ H F λY1 h1 t1 ro S1 r1 pl=> ?_);dsimp only[Ab] at r1;clear e1 hi hline;subst r1;refine x57 PO.ex ?_;intro T fs ws n code hP h5 h6 h2 hT hcode hend;have hP1:=S1.inv.kin _ _ hP;clear PO;refine gCA (T:="re.Pattern") (id:="re.Pattern.search") ⟨_,hP1,rfl⟩ oC Vx oH (λa ha=>by cases ha;exact⟨_,hP1,rfl⟩) ?_;refine Hj (.inr (.inl ⟨_,rfl⟩)) hs ?_;have ev:Bj X d (g2L (g3F p4 (cM [.Name v p3] env))) env U hp [.str x] hp:=by
  rw[Hb hs];exact Bj.cons (hp1:=hp) (Dq TO (e0:=e0) (r:=Df) e2 (by show (rget U j).map (·,hp)=_;rw[hj];rfl)) Bj.nil
 refine ev A Y1 _ _ _ (H.step S1) (F.ev H.inv S1) λY2 h2' t2 rvs S2 r2=>⟨S2.inv.kin,?_⟩;clear TO e2 hj H F hs hP1 ev;refine x12 (Bv r2) ?_;intro q z1 rq;subst z1;dsimp only[Ab] at rq;clear r2;refine x12 rq ?_;clear rq;intro t z1 hx;subst z1;have hP2:=S2.inv.kin _ _ hP;have hT2:=S2.inv.kin _ _ hT;refine g5F Vx ⟨_,hP2,rfl⟩ oI ?_ (oG _ _);refine nG (s:={s with heap:=h2',toks:=t2}) hP2 h5 h6 h2 hT2 hcode hx.1 ?_ ⟨_,rfl,?_⟩
 ·clear Pq S1 hP h5 h6 h2 hT hcode S2 hx hP2 hT2;obtain⟨c,ec⟩: ∃c,chars x=[c]:=by
   clear hpl hend;match h:chars x,hc with
   | [c],_=>exact⟨c,rfl⟩
  rw[ec] at hpl;have:x.cps.toList=[c]:=ec;rw[this];exact hend c (by simpa using hpl)
 ·exact Pq Y2 h2' t2 .none (S1.trans S2) (rfl)
noncomputable abbrev Ps:=Nat->Pos
noncomputable def Pf(p:Ps)(x:Str)(op:CmpOp)(y:Str):Expr:= .Compare (.Call (.Name "type" (p 0)) [.Name x (p 1)] [] (p 2)) [op] [.Name y (p 3)] (p 4)
noncomputable def Lr(p:Ps)(x m:Str)(as:List Expr):Expr:= .Call (.Attribute (.Name x (p 0)) m (p 1)) as [] (p 2)
noncomputable def X6(P M p:Ps)(rb rest:List Stmt):List Stmt:= .If (Pf P "value" .Is "str")
 [.Assign [.Name "regex" (p 0)] (.IfExp (.Name "name" (p 1)) (.Name "_name_disallowed_re" (p 2)) (.Name "_value_disallowed_re" (p 3)) (p 4)) (p 5),
  .If (Lr M "regex" "search" [.Name "value" (p 6)]) rb [] (p 7),.Return (some (.Name "value" (p 8))) (p 9)] [] (p 10)::rest
structure Sk(tb:Tab)(fd:FuncData)(body:List Stmt):Prop where
 ex: ∃P M p rb rest,body=X6 P M p rb rest/\((M 1).endLine==(M 2).line)=true
 n1:Ao tb fd.scope.names "type"=some (.k (.imm (.type "type")))
 n2:Ao tb fd.scope.names "value"=some (.var 72)
 n3:Ao tb fd.scope.names "str"=some (.k (.imm (.type "str")))
 n4:Ao tb fd.scope.names "name"=some (.var 29)
 n5:Ao tb fd.scope.names "_name_disallowed_re"=some (.k (.imm (.ref 90)))
 n6:Ao tb fd.scope.names "_value_disallowed_re"=some (.k (.imm (.ref 95)))
 n7:Ao tb fd.scope.names "regex"=some (.var 73)
 n8:Ci tb true fd.scope.names "regex"=some 73
theorem CA{tb:Tab}{e0:Ag}{a:cK}{o:Obj}{fd:FuncData}{body:List Stmt}(TO:A0 X tb)(Z:A3 X tb e0)(Z2:Dh X e0)(RA: ∀n,RS X tb (Ae e0 n))(K:D8 X a o fd body)(S:Sk tb fd body)(P1:Fj X 90)(P2:Fj X 95)
  (par: ∀(k:Nat) (i:Nat) (p:Str),[28,72,29][k]? =some i->(["self","value","name"]:List Str)[k]? =some p->X.nm[i]? =some p) (parK: ∀p∈(["self","value","name"]:List Str),fd.scope.names.lookup p=some .local\/fd.scope.names.lookup p=some .cell)
  (bind: ∀(x y:Value) (b:Bool),bY fd ⟨[x,y],[("name",.bool b)]⟩=pure ((["self","value","name"]:List Str).zip [x,y,.bool b])):
  ∀d hp i l x b,1<=d->hp[i]? =some (O.d l)->(chars x).all Dm=true->(chars x).length=1->Ai X d (λrvs=>call (.ref a) rvs [("name",.bool b)]) [.hdr i,.str x] hp (.str x) hp:=by
 intro d hp i l x b hd hl hpl hc A Y s rvs Q E H r P;refine x23 (Bq r) ?_;intro ru rv z2 r1 r2;subst z2;obtain⟨d',rfl⟩: ∃d',d=d'+1:=⟨d - 1,Q157 hd⟩;refine x52 S.ex ?_;intro PP0 M0 p rb rest hb hline;refine Qw (d:=d') (hp:=hp) (ps:=["self","value","name"]) (is:=[28,72,29]) (vs:=[.hdr i,.str x,.bool b]) (λ_=>True) K H rfl (by decide) par parK ?_ ?_
 ·rw[bind]
  exact aQ ⟨s.heap,s.toks,[ru,rv,.bool b],rfl,rfl,rfl,λ_ _ e=>e,vrels_cons' r1 (vrels_cons' r2 (Ev (rfl))),trivial⟩
 ·intro env h0 h1 t1 E1 hsc hfn _ keep S1 F1 Rm hw0 hw
  rw[hb];have HA:Ah X (A.deeper env) d' Y {s with heap:=h1,toks:=t1} hp:=⟨Rm,S1.inv⟩;refine g0B (g9M (Yd (hp:=hp) (d:=d') (e0:=e0) TO (by rw[hsc];exact S.n1) (by rw[hsc];exact S.n2) (by rw[hsc];exact S.n3) (u:= .str x) rfl nM (A.deeper env) Y {s with heap:=h1,toks:=t1} _ _ HA F1 λY2 h2 t2 S2=> ?_));have F2:=F1.ev HA.inv S2;have H2:=HA.step (tk:=t2) S2;have c1:cS tb env.scope.names (.Assign [.Name "regex" (p 0)] (.IfExp (.Name "name" (p 1)) (.Name "_name_disallowed_re" (p 2)) (.Name "_value_disallowed_re" (p 3)) (p 4)) (p 5))=some (.assign (.one 73) (.ife (.var 29) (.k (.imm (.ref 90))) (.k (.imm (.ref 95))))):=by
   rw[hsc];show (((Ci tb true fd.scope.names "regex").map T.one).bind λt=>(((Ao tb fd.scope.names "name").bind λc=>(Ao tb fd.scope.names "_name_disallowed_re").bind λa=>(Ao tb fd.scope.names "_value_disallowed_re").map λb=>Mine.X.ife c a b)).map λe=>Mine.S.assign t e)=_;simp only[S.n4,S.n5,S.n6,S.n8,g6Q,Option.bind_some]
  have c2:cS tb env.scope.names (.Return (some (.Name "value" (p 8))) (p 9))=some (.ret (.var 72)):=by
   rw[hsc];dsimp only[cS,cX];simp only[S.n2,g6Q]
  have q1:ex1 e0 (Ae e0 5) d' (.assign (.one 73) (.ife (.var 29) (.k (.imm (.ref 90))) (.k (.imm (.ref 95))))) ([28,72,29].zip [.hdr i,.str x,.bool b]) hp=some (.next,[(28,.hdr i),(72,.str x),(29,.bool b),(73,.imm (.ref (if b then 90 else 95)))],hp):=by
   clear TO Z Z2 RA K S P1 P2 par parK bind hl hpl hc P r1 r2 r hd H hb hline hsc hfn keep S1 F1 Rm hw0 hw HA S2 F2 H2 c1 c2;cases b <;> rfl
  refine g0B (E6 Z Z2 5 (λk _=>RA k) _ _ _ _ _ _ _ _ _ c1 q1 hfn (A.deeper env) Y2 _ _ _ H2 F2 λY3 h3 t3 fv S3 F3 r3=> ?_);cases r3;have H3:Ah X (A.deeper env) d' Y3 {s with heap:=h3,toks:=t3} hp:=⟨Rm,S3.inv⟩;have PP:Fj X (if b then 90 else 95):=by cases b <;> assumption
  refine g0B (g9M (Bn.val (mJ (e0:=e0) (i:=73) (j:=72) (x:=x) TO PP (by rw[hsc];exact S.n7) (by rw[hsc];exact S.n2) rfl rfl hline hpl hc) (Ij rfl) rfl (A.deeper env) Y3 _ _ _ H3 F3 λY4 h4 t4 S4=> ?_));have H4:Ah X (A.deeper env) d' Y4 {s with heap:=h4,toks:=t4} hp:=⟨Rm,S4.inv⟩;have F4:=F3.ev H3.inv S4;refine g1S ?_;have q2:ex1 e0 (Ae e0 5) d' (.ret (.var 72)) [(28,.hdr i),(72,.str x),(29,.bool b),(73,.imm (.ref (if b then 90 else 95)))] hp=some (.ret (.str x),[(28,.hdr i),(72,.str x),(29,.bool b),(73,.imm (.ref (if b then 90 else 95)))],hp):=rfl;refine g0B (E6 Z Z2 5 (λk _=>RA k) _ _ _ _ _ _ _ _ _ c2 q2 hfn (A.deeper env) Y4 _ _ _ H4 F4 λY5 h5 t5 fv S5 F5 r5=> ?_);clear TO Z Z2 RA K S P1 P2 par parK bind hl hpl hc r1 r2 r hd H hline hsc hfn keep F1 Rm hw0 HA F2 H2 c1 c2 q1 F3 H3 PP H4 F4 q2 F5;refine x12 r5 ?_;clear r5;intro rw z1 rr;subst z1;refine P Y5 h5 t5 rw ?_ rr;exact((((S1.nil.trans S2.nil).trans S3).trans S4.nil).trans S5).drop λb hb=> .inr (hw b hb)
end Mine
namespace Mine
variable {X:Fx} {d:Nat} {hp:HP}
set_option tactic.hygienic true in
theorem lG{α:Type}{K:g5H}{M:Model}{A:Around}{E:Value->Shared->Prop}{Q:α->Shared->Prop}{s:Shared}{o:Obj}(X:K.In s.heap):
  ∀(t:Sem α) (g:cK->Sem α),peekA K ⟨M.prog,M.w.params⟩ t=some (o,g)->cA M A (g s.heap.objs.size) Q E {s with heap:=s.heap.push o}->cA M A t Q E s:=by
 intro t;induction t with
 | rule _ k ih=>intro g e q Γ p hΓ;exact ih () g e q Γ p hΓ
 | point _ k ih=>intro g e q Γ p hΓ;exact ih () g e q Γ p hΓ
 | ask k ih=>intro g e q Γ p hΓ;exact ih _ g e q Γ p hΓ
 | load a _ k ih=>
  intro g e q Γ p hΓ;simp only[peekA] at e;split at e
  ·rename_i ob ho;exact⟨ob,X _ _ ho,ih ob g e q Γ p hΓ⟩
  ·exact nn e
 | alloc ob k _=>
  intro g e q;have e:some (ob,k)=some (o,g):=e;refine x02 (Prod.mk.inj (aB e)) ?_;intro e1 e2;clear X e;subst e1;subst e2;show cA M A (PySem.alloc ob >>= k) Q E s;exact aG (wpAny_alloc q)
 | _=>intro g e;exact nn e
theorem gO{tb:Tab}{e0:Ag}{env:Env}{U:Rho}{D:cK}{xk xv xp:Str}{q1 q2 q4 q5 q6 q7 q8:Pos}{q3:Nat}{lb:List Stmt}{i:Nat}{A:Around}{Y:List cK}{s:Shared}{Q:Flow->Shared->Prop}{E:Value->Shared->Prop}(TO:A0 X tb)(hS:g9F < X.n1)
  (H:Ah X A d Y s hp) (F:Ak X Y env U s.heap) (hD:s.heap.get? D=some {cls:= .type "dict",data:= .dict #[] 0}) (hD1:X.n1<=D) (hDL:D≠env.locals) (hk:env.kindOf xk=some .local) (hv:env.kindOf xv=some .local)
  (hkp:env.kindOf xp=some .local) (hxp:X.nm[i]? =some xp) (hdb:xp≠"__debug__") (hi:rget U i=some (.imm (.ref D))) (hline:(q6.endLine==q7.line)=true)
  (P: ∀h' tk,Ac X [env.locals] Y s.heap Y h' hp->Ak X Y env U h'->Q .next {s with heap:=h',toks:=tk}):
  cA (mdl X) A (exec (.For (.Tuple [.Name xk q1,.Name xv q2] q3 q4) (.Call (.Attribute (.Name xp q5) "items" q6) [] [] q7) lb [] q8) env) Q E s:=by
 refine x12 F.vals ?_;intro m hn hvs;have hm:m xp=some (.ref D):=by
  refine x12 ((hvs i _ xp hi hxp).loc hkp) ?_;intro rv h1 h2;dsimp only[Ab] at h2;rw[h1,h2]
 have hdi:s.heap.DictAt (strKind X.prog X.w) D [] 0:=⟨_,#[],hD,⟨rfl,rfl,rfl⟩,rfl,by intro e he;simp at he,.nil,g4F⟩;refine g1M (wpAny_For_items_locals (knd:=strKind X.prog X.w) (d:=D) (kvs:=[]) (ep:=0) (m:=m) (Q:=Q) (E:=λ_ _=>False) H.room.handled hk hv ?_ hDL ?_ hdi hn ?_ hline ?_ (λ_ m'=>m'=m) rfl ?_ ?_) (λ_ _ z=>z) (λ_ _ z=>z.elim)
 ·rw[F.kind];rfl
 ·have:D≠g9F:=λz=>by rw[z] at hD1;exact absurd hS (cH.mpr hD1)
  exact if_neg ‹_›
 ·exact Jk rfl
 ·intro Q' q
  exact gBZ (gAQ F.kind hkp hn hm q) (if_neg ‹_›)
 ·intro i k v key m₁ s₁ h;contradiction
 ·clear TO hS hD hD1 hDL hk hv hkp hxp hdb hi hline hm hdi;rintro h' tk m' hn' rfl hk'
  refine x33 (id hn) ?_;intro o es ep ho hod r;refine x33 (id hn') ?_;intro o' es' ep' ho' hod' r';clear hn hod' r';have S:=Ac.soft (c:=env.locals) H.inv F.nin F.low ho (by intro vs n z;rw[hod] at z;cases z) (by rw[hod];simp) ho' (λb o hb e=>hk' b o hb e);refine P h' tk S ?_;refine⟨F.kind,F.glo,F.blt,⟨m',hn',λj v x e ex=> ?_⟩,F.nin,F.low,λp e=> ?_,F.apart,F.has⟩
  ·have q:=hvs j v x e ex
   refine⟨λk=> ?_,λk=> ?_⟩
   ·refine x12 (q.loc k) ?_;intro rv e1 r
    exact⟨rv,e1,S.vr _ _ r⟩
   ·refine x23 (q.cel k) ?_;intro c rv e1 e2 r
    refine⟨c,rv,e1,?_,S.vr _ _ r⟩;refine x12 e2 ?_;clear e2;intro oc hoc hdc;refine⟨oc,hk' c oc (λz=> ?_) hoc,hdc⟩;clear H F P hn' hvs hk' ho' S e ex q k e1 r;subst z;rw[ho] at hoc;cases hoc;rw[hod] at hdc;cases hdc
  ·clear H P hn' hvs r ho' S;obtain⟨⟨v,oc,hoc,hdc⟩,l⟩:=F.cel p e
   refine⟨⟨v,oc,hk' p.2 oc (λz=> ?_) hoc,hdc⟩,l⟩;clear F hk' e l;rw[z] at hoc;rw[ho] at hoc;cases hoc;rw[hod] at hdc;cases hdc
noncomputable def Lz(s1 s2 s4:Stmt)(M p:Ps)(n:Nat)(lb:List Stmt):List Stmt:=[s1,s2,.For (.Tuple [.Name "k" (p 0),.Name "v" (p 1)] n (p 2)) (Lr M "_params" "items" []) lb [] (p 3),s4]
structure Sj(X:Fx)(tb:Tab)(fd:FuncData)(body:List Stmt):Prop where
 ex: ∃s1 s2 s4 M p n lb,body=Lz s1 s2 s4 M p n lb/\((M 1).endLine==(M 2).line)=true/\
  cS tb fd.scope.names s1=some (.assign (.one 75) (.list []))/\cS tb fd.scope.names s2=some (.if_ (.cmp .isnot (.var 77) (.k .none)) [.assign (.one 77) (.conv (.var 28) (.var 77)),.expr (.met .append (.var 75) [.var 77])] [])/\
  cS tb fd.scope.names s4=some (.expr (.met .append (.hds (.var 28)) [.tup [.conv (.var 28) (.var 76),.met .join (.k (.str ⟨#[59,32]⟩)) [.var 75]]]))
 k1:fd.scope.names.lookup (aM "k")=some .local
 k2:fd.scope.names.lookup (aM "v")=some .local
 k3:fd.scope.names.lookup (aM "_params")=some .local
 np:X.nm[78]? =some (aM "_params")
noncomputable def Cl(x:Str):Bool:=(chars x).all Dm && decide ((chars x).length=1)
theorem Gz{hp:HP}{i:Nat}{o p:O}(h:hp[i]? =some o):(hp++[p])[i]? =some o:=getElem?_append_of_some h
theorem Td{hp:HP}{i:Nat}{xs:List V}{p:O}(h:lget hp i=some xs):lget (hp++[p]) i=some xs:=by
 have:=Fb h;unfold lget;rw[Gz this]
theorem Ic{hp:HP}{xs:List V}:lget (hp++[O.l xs]) hp.length=some xs:=by
 unfold lget;rw[cF]
theorem bs{α β:Type}{o:Option α}{f:α->Option β}{a:α}{r:Option β}(h:o=some a)(k:f a=r):(o >>= f)=r:=h▸k
theorem Ro{e0:Ag}{n d:Nat}{o x:Mine.X}{U:Rho}{hp h1 h2:HP}{i l l2:Nat}{s:Str}(hcv:e0.cv=true)(hd:1<=d)(hs:Cl s=true)(a:(Ae e0 n).ev d o U hp=some (.hdr i,h1))(b:h1[i]? =some (.d l))(c:(Ae e0 n).ev d x U h1=some (.str s,h2))(f:h2[i]? =some (.d l2)):
  (Ae e0 (n+1)).ev d (.conv o x) U hp=some (.str s,h2):=by
 refine bs a ?_;dsimp only;rw[b];refine bs c ?_;dsimp only;rw[f];dsimp only[Cl] at hs ⊢;rw[aI] at hs;rw[hcv,hs.1,hs.2,decide_eq_true hd];rfl
theorem P9{e0:Ag}{n d:Nat}{o:Mine.X}{xs:List Mine.X}{U:Rho}{hp h1 h2:HP}{j:Nat}{zs ys:List V}{v:V}(a:(Ae e0 n).ev d o U hp=some (.lst j,h1))(b:lget h1 j=some zs)(c:(Ae e0 n).evs d xs U h1=some ([v],h2))(e:lget h2 j=some ys)(hl:ys.length < 200):
  (Ae e0 (n+1)).ev d (.met .append o xs) U hp=some (.none,h2.set j (.l (ys++[v]))):=by
 refine bs a ?_;refine bs b ?_;refine bs c ?_;show ((lget h2 j).bind λxs=>if xs.length < 200 then some (V.none,h2.set j (.l (xs++[v]))) else none)=_;rw[e];exact if_pos hl
theorem CN{e0:Ag}{n d:Nat}{o:Mine.X}{U:Rho}{hp h1:HP}{i l:Nat}(a:(Ae e0 n).ev d o U hp=some (.hdr i,h1))(b:h1[i]? =some (.d l)):(Ae e0 (n+1)).ev d (.hds o) U hp=some (.lst l,h1):=by
 refine bs a ?_;dsimp only;rw[b]
theorem cU{e0:Ag}{n d:Nat}{o:Mine.X}{xs:List Mine.X}{U:Rho}{hp h1 h2:HP}{j:Nat}{t s:Str}(a:(Ae e0 n).ev d o U hp=some (.str t,h1))(c:(Ae e0 n).evs d xs U h1=some ([.lst j],h2))(e:lget h2 j=some [.str s]):
  (Ae e0 (n+1)).ev d (.met .join o xs) U hp=some (.str s,h2):=by
 refine bs a ?_;refine bs c ?_;show ((lget h2 j).bind λxs=>(asS xs).bind λs=>some (V.str s,h2))=_;rw[e];rfl
theorem BM{e0:Ag}(hcv:e0.cv=true){d:Nat}(hd:1<=d){i l:Nat}{n v:Str}{xs:List V}{D:cK}(hi:hp[i]? =some (.d l))(hl:lget hp l=some xs)(hx:xs.length < 200)(hn:Cl n=true)(hv:Cl v=true):
  ex1 e0 (Ae e0 8) d (.assign (.one 75) (.list [])) [(28,.hdr i),(76,.str n),(77,.str v),(78,.imm (.ref D))] hp=some (.next,[(28,.hdr i),(76,.str n),(77,.str v),(78,.imm (.ref D)),(75,.lst hp.length)],hp++[.l []])/\
  ex1 e0 (Ae e0 8) d (.if_ (.cmp .isnot (.var 77) (.k .none)) [.assign (.one 77) (.conv (.var 28) (.var 77)),.expr (.met .append (.var 75) [.var 77])] []) [(28,.hdr i),(76,.str n),(77,.str v),(78,.imm (.ref D)),(75,.lst hp.length)] (hp++[.l []])=
   some (.next,[(28,.hdr i),(76,.str n),(77,.str v),(78,.imm (.ref D)),(75,.lst hp.length)],hp++[.l [.str v]])/\
  ex1 e0 (Ae e0 8) d (.expr (.met .append (.hds (.var 28)) [.tup [.conv (.var 28) (.var 76),.met .join (.k (.str ⟨#[59,32]⟩)) [.var 75]]])) [(28,.hdr i),(76,.str n),(77,.str v),(78,.imm (.ref D)),(75,.lst hp.length)] (hp++[.l [.str v]])=
   some (.next,[(28,.hdr i),(76,.str n),(77,.str v),(78,.imm (.ref D)),(75,.lst hp.length)],(hp.set l (.l (xs++[.tup [.str n,.str v]])))++[.l [.str v]]):=by
 have h1:(hp++[O.l []])[i]? =some (.d l):=Gz hi;have h2:lget (hp++[O.l []]) hp.length=some []:=Ic;have h3:(hp++[O.l [V.str v]])[i]? =some (.d l):=Gz hi;have h4:lget (hp++[O.l [V.str v]]) hp.length=some [.str v]:=Ic;have h5:lget (hp++[O.l [V.str v]]) l=some xs:=Td hl;have hll:l < hp.length:=(aF.mp (Fb hl)).1;have s1:(hp++[O.l []]).set hp.length (.l [.str v])=hp++[.l [.str v]]:=by simp
 have s2:(hp++[O.l [V.str v]]).set l (.l (xs++[.tup [.str n,.str v]]))=(hp.set l (.l (xs++[.tup [.str n,.str v]])))++[.l [.str v]]:=by
  rw[List.set_append_left _ _ hll]
 refine⟨rfl,?_,?_⟩
 ·refine bs (o:=(Ae e0 8).tr d (.cmp .isnot (.var 77) (.k .none)) _ _) rfl ?_
  refine bs (o:=ex1 e0 (Ae e0 7) d (.assign (.one 77) (.conv (.var 28) (.var 77))) _ _) (bs (Ro hcv hd hv rfl h1 rfl h1) rfl) ?_;refine bs (o:=ex1 e0 (Ae e0 6) d (.expr (.met .append (.var 75) [.var 77])) _ _) (bs (P9 rfl h2 rfl h2 (g0L _)) rfl) ?_;show some _=some _;rw[<-s1];rfl
 ·refine bs (P9 (CN rfl h3) h5 (bs (bs (bs (Ro hcv hd hn rfl h3 rfl h3) (bs (bs (cU rfl rfl h4) rfl) rfl)) rfl) rfl) h5 hx) ?_
  rw[s2];rfl
end Mine
namespace Mine
variable {X:Fx} {d:Nat} {hp:HP}
theorem BN{tb:Tab}{e0:Ag}{a:cK}{o:Obj}{fd:FuncData}{body:List Stmt}(TO:A0 X tb)(Z:A3 X tb e0)(Z2:Dh X e0)(RA: ∀n,RS X tb (Ae e0 n))(K:D8 X a o fd body)(S:Sj X tb fd body)(hcv:e0.cv=true)(hS:g9F < X.n1)
  (par: ∀(k:Nat) (i:Nat) (p:Str),[28,76,77,78][k]? =some i->(["self","_name","_value","_params"]:List Str)[k]? =some p->X.nm[i]? =some p) (parK: ∀p∈(["self","_name","_value","_params"]:List Str),fd.scope.names.lookup p=some .local\/fd.scope.names.lookup p=some .cell)
  (bind: ∀x y z:Value,∃g,peekA X.K ⟨X.prog,X.w.params⟩ (bY fd ⟨[x,y,z],[]⟩)=some (({cls:= .type "dict",data:= .dict #[] 0}:Obj),g)/\∀D,g D=pure ((["self","_name","_value","_params"]:List Str).zip [x,y,z,.ref D])):
  ∀d hp i l n v xs,3<=d->hp[i]? =some (O.d l)->lget hp l=some xs->xs.length < 200->Cl n=true->Cl v=true->Ai X d (λrvs=>call (.ref a) rvs []) [.hdr i,.str n,.str v] hp .none ((hp.set l (.l (xs++[.tup [.str n,.str v]])))++[.l [.str v]]):=by
 intro d hp i l n v xs hd hi hl hx hn hv A Y s rvs Q E H r P;obtain⟨ru,rvs',rfl,r1,r23⟩: ∃a r',rvs=a::r'/\Ab X Y s.heap (.hdr i) a/\VRels X Y s.heap [.str n,.str v] r':=by
  dsimp only[VRels] at r;refine x23 r ?_;clear r;intro v r z2 p q;subst z2;exact⟨v,r,rfl,p,q⟩
 refine x23 (Bq r23) ?_;intro rn rv z2 r2 r3;subst z2;obtain⟨d',rfl⟩: ∃d',d=d'+1:=⟨d - 1,Q158 hd⟩;obtain⟨s1,s2,s4,M0,p,n0,lb,hb,hline,c1,c2,c4⟩:=S.ex;have hfr:s.heap.get? s.heap.objs.size=none:=g0E (bJ _);refine Qw (d:=d') (hp:=hp) (ps:=["self","_name","_value","_params"]) (is:=[28,76,77,78]) (vs:=[.hdr i,.str n,.str v,.imm (.ref s.heap.objs.size)])
  (λh0=>h0.get? s.heap.objs.size=some {cls:= .type "dict",data:= .dict #[] 0}) K H rfl (by decide) par parK ?_ ?_
 ·refine x12 (bind ru rn rv) ?_;intro g e1 e2
  refine lG (K:=X.K) H.inv.kin _ g e1 ?_;rw[e2];have keep: ∀b o,s.heap.get? b=some o->(s.heap.push {cls:= .type "dict",data:= .dict #[] 0}).get? b=some o:=λb o e=>bS _ e;have S0:Ac X [] Y s.heap Y (s.heap.push {cls:= .type "dict",data:= .dict #[] 0}) hp:=Ac.ext H.inv keep;refine aQ ⟨_,s.toks,[ru,rn,rv,.ref s.heap.objs.size],rfl,rfl,rfl,keep,?_,g0K _ rfl⟩;exact vrels_cons' (S0.vr _ _ r1) (vrels_cons' (S0.vr _ _ r2) (D7 (S0.vr _ _ r3) (rfl)))
 ·intro env h0 h1 t1 E1 hsc hfn hC keep S1 F1 Rm hw0 hw
  rw[hb];obtain⟨v1,v2,v3⟩:=BM (e0:=e0) (D:=s.heap.objs.size) hcv (d:=d') (qB hd rfl) hi hl hx hn hv;have HA:Ah X (A.deeper env) d' Y {s with heap:=h1,toks:=t1} hp:=⟨Rm,S1.inv⟩;have hDY:s.heap.objs.size∉Y:=H.inv.fresh hfr;have hDw:s.heap.objs.size∉Wof env:=λz=>by rw[hw0 _ z] at hC;cases hC
  have D1:h1.get? s.heap.objs.size=some {cls:= .type "dict",data:= .dict #[] 0}:=keep _ _ hC;refine g0B (E6 Z Z2 8 (λk _=>RA k) _ _ _ _ _ _ _ _ _ (by rw[hsc];exact c1) v1 hfn (A.deeper env) Y _ _ _ HA F1 λY2 h2 t2 fv S2 F2 e2=> ?_);cases e2;have D2:=S2.keep _ _ D1 hDY hDw;have hDY2:=S2.notin' D1 hDY;have H2:Ah X (A.deeper env) d' Y2 {s with heap:=h2,toks:=t2} _:=⟨Rm,S2.inv⟩;refine g0B (E6 Z Z2 8 (λk _=>RA k) _ _ _ _ _ _ _ _ _ (by rw[hsc];exact c2) v2 hfn (A.deeper env) Y2 _ _ _ H2 F2 λY3 h3 t3 fv S3 F3 e3=> ?_);cases e3;have D3:=S3.keep _ _ D2 hDY2 hDw;have hDY3:=S3.notin' D2 hDY2;have H3:Ah X (A.deeper env) d' Y3 {s with heap:=h3,toks:=t3} _:=⟨Rm,S3.inv⟩;have kk: ∀x,env.kindOf x=fd.scope.names.lookup x:=λx=>by rw[<-hsc];rfl
  refine g0B (gO (tb:=tb) (e0:=e0) (d:=d') (U:=[(28,.hdr i),(76,.str n),(77,.str v),(78,.imm (.ref s.heap.objs.size)),(75,.lst hp.length)]) (i:=78) TO hS H3 F3 D3 H.big (λz=>hDw (by unfold Wof;rw[z];exact bN ..)) (by rw[kk];exact S.k1) (by rw[kk];exact S.k2) (by rw[kk];exact S.k3) S.np (by decide) rfl hline λh4 t4 S4 F4=> ?_);have H4:Ah X (A.deeper env) d' Y3 {s with heap:=h4,toks:=t4} _:=⟨Rm,S4.inv⟩;refine g0B (E6 Z Z2 8 (λk _=>RA k) _ _ _ _ _ _ _ _ _ (by rw[hsc];exact c4) v3 hfn (A.deeper env) Y3 _ _ _ H4 F4 λY5 h5 t5 fv S5 F5 e5=> ?_);cases e5;refine g1S ?_;refine P Y5 h5 t5 .none ?_ (rfl);have S4':Ac X (Wof env) Y3 h3 Y3 h4 _:=S4.mono λb hb=>by rw[aK.mp hb];exact bN ..
  exact((((S1.nil.trans S2).trans S3).trans S4').trans S5).drop λb hb=> .inr (hw b hb)
end Mine
namespace Mine
variable {X:Fx} {d:Nat} {hp:HP}
theorem kU{prog:Program}{w:World}{A:Around}{E:Value->Shared->Prop}{s:Shared}{K:g5H}{x C dx:cK}{name:Str}{v:Value}{Q:Unit->Shared->Prop}(XK:K.In s.heap)(I:InstAt s.heap x (g4L C dx) C (some emptyDict))(D:s.heap.get? dx=some emptyDict)
  (hs:g3I K (.ref C) "__setattr__"=some (some (.builtin "object.__setattr__"))) (hp:gBD K C=true) (ht:gCC K C name=some none) (hh:g8W K C=true)
  (h: ∀h' hsh t n tk,g7V dx s.heap h'->h'.get? dx=some {cls:= .type "dict",data:= .dict #[⟨hsh,.str name t,v⟩] n}->Q () {s with heap:=h',toks:=tk}):
  cA (gBA prog w) A (setAttr (.ref x) name v) Q E s:=by
 refine set_plain XK I hs ?_;refine osa_open (s:={s with toks:=s.toks+1}) XK I hp ht λb=> ?_;refine x12 (any_some hh) ?_;intro cd hc hd';have hx:=I.at_;refine aG (aQ (aG (aG (gDV hx (aG ((looks_clsIn (h:=s.heap) XK hc).here (s:={s with toks:=s.toks+1}) ?_))))));rw[hd'];refine aQ (a:=some dx) (aG (aQ (aG ?_)));dsimp only[nsSet];refine aG (aG (gCL (aQ (aG (wpAny_mkText (aG (gDV D ?_)))))));dsimp only;rw[aRefKeyMayBeTheName_at];rw[show (!(#[]:Array DictEntry).any (·.key.isStr name) && (#[]:Array DictEntry).any (·.refKey))=false by simp];refine wpAny_updatePart D ?_;have D':(s.heap.update dx (Obj.putName name (gDX w.params name) (.str name (s.toks+1)) v)).get? dx=some {cls:= .type "dict",data:= .dict #[⟨gDX w.params name,.str name (s.toks+1),v⟩] 1}:=
  Heap.get?_update_self _ D rfl
 refine aG (wpAny_lookBehind D' (pastItsLine_dict (by rw[g0Q];exact g0L _)) ?_);exact aQ (h _ _ _ _ _ (g1D ..) D')
theorem Ac.newD{W Y h Y1 h1 hp1 dx l b hs t n}(S:Ac X W Y h Y1 h1 hp1)(hz:h.get? dx=none)(hn:dx∉Y1)(hc:X.n1<=dx)(ho:h1.get? dx=some {cls:= .type "dict",data:= .dict #[⟨hs,.str (aM "_headers") t,.ref b⟩] n})(hb:Y1[l]? =some b):
  Ac X W Y h (Y1++[dx]) h1 (hp1++[.d l]):=by
 refine x12 S.pre ?_;intro τ e q;have hs': ∀(i:Nat) a,Y1[i]? =some a->(Y1++[dx])[i]? =some a:=λi a e=>getElem?_append_of_some e;have vr:=D6 (X:=X) hs' (h:=h1) (h':=h1) (λb o e _=>e);have vrs:=vrels_still (X:=X) hs' (h:=h1) (h':=h1) (λb o e _=>e);refine⟨⟨τ++[dx],by rw[e,g2C],λa ha=> ?_⟩,⟨S.inv.kin,Np S.inv.len,?_,?_,λi o a e1 e2=> ?_⟩,S.keep,S.alive,λv rv r=>vr v rv (S.vr v rv r)⟩
 ·clear S hn hc ho hb e hs' vr vrs;rcases aY.mp ha with ha|ha
  ·exact q a ha
  ·rw[aK.mp ha];exact hz
 ·rw[g2T]
  refine⟨S.inv.nd,by simp,λa ha b hb=> ?_⟩;rw[aK.mp hb];exact λz=>hn (z▸ha)
 ·intro a ha
  clear hz hn ho hb e q hs' vr vrs;rcases aY.mp ha with ha|ha
  ·exact S.inv.ge a ha
  ·rw[aK.mp ha];exact hc
 ·clear q vr;by_cases hi:i < hp1.length
  ·rw[bT hi] at e1
   rw[bT (S.inv.len▸hi)] at e2;have:=S.inv.ob i o a e1 e2;clear S hz hn hc ho hb e1 e2 hi;cases o with
   | l xs=>
    refine x23 this ?_;clear this;intro vs n bd g r;exact⟨vs,n,bd,g,vrs _ _ r⟩
   | d l=>
    refine x42 this ?_;clear this;intro b hs t n e g;exact⟨b,hs,t,n,hs' _ _ e,g⟩
  ·have hi:=g4T hi
   rw[cI hi] at e1;rw[cI (S.inv.len▸hi),S.inv.len] at e2;refine x11 (aF.mp e1) ?_;intro hlt e;have hz:i - hp1.length=0:=by simp at hlt;exact Q1 hlt
   rw[hz] at e1 e2;clear S hn hc vrs hi hlt e hz;cases e1;cases e2;exact⟨b,hs,t,n,hs' _ _ hb,ho⟩
theorem jU{tb:Tab}{e0:Ag}{v:Str}{T:String}{i:Nat}{u:V}{env:Env}{U:Rho}{p1 p2 p3 p4 p5:Pos}{tn:Str}{whole:Sem Value}(TO:A0 X tb)(e1:Ao tb env.scope.names "type"=some (.k (.imm (.type "type"))))(e2:Ao tb env.scope.names v=some (.var i))(e3:Ao tb env.scope.names tn=some (.k (.imm (.type T))))
  (hv:rget U i=some u) (o:Ai X d (Fp "type") [u] hp (.imm (.type T)) hp):Bn X d (isTrue (.Compare (.Call (.Name "type" p1) [.Name v p2] [] p3) [.IsNot] [.Name tn p4] p5) env whole) env U hp false hp:=by
 refine Bn.cmp (u:= .imm (.type T)) (v:= .imm (.type T)) (hp1:=hp) (hp2:=hp) ?_ ?_ rfl ?_
 ·have hc:cXs tb env.scope.names [.Name v p2]=some [.var i]:=by
   dsimp only[cXs];dsimp only[cX];rw[e2];rfl
  refine Ad.call (xs:=[.var i]) (vs:=[u]) TO e1 (.inr (.inr ⟨_,rfl⟩)) hc ?_ o;refine Bj.cons (hp1:=hp) ?_ Bj.nil;exact Dq TO (e0:=e0) (r:=Df) e2 (by show (rget U i).map (·,hp)=_;rw[hv];rfl)
 ·exact Dq TO (e0:=e0) (r:=Df) e3 rfl
 ·intro A Y s rvs Q E H r P
  clear TO e1 e2 e3 hv o;refine x23 (Bq r) ?_;intro p q z2 rp rq;subst z2;dsimp only[Ab] at rp rq;clear r;subst rp;subst rq;exact gCK rfl (P.bool H s.toks)
end Mine
namespace Mine
variable {X:Fx} {d:Nat} {hp:HP}
noncomputable def Ly(s1 s3:Stmt)(P p:Ps)(n:Nat)(rb:List Stmt):List Stmt:=[s1,.If (Pf P "headers" .IsNot "list") rb [] (p 0),
 .Assign [.Attribute (.Name "self" (p 1)) "_headers" (p 2)] (.Name "headers" (p 3)) (p 4),.If (.Constant (.bool true) n (p 5)) [s3] [] (p 6)]
structure Sl(tb:Tab)(fd:FuncData)(body:List Stmt):Prop where
 ex: ∃s1 s3 P p n rb bx,body=Ly s1 s3 P p n rb/\
  cS tb fd.scope.names s1=some (.assign (.one 74) (.ife (.cmp .isnot (.var 74) (.k .none)) (.var 74) (.list [])))/\
  cS tb fd.scope.names s3=some (.for_ (.many [36,79]) (.ex (.var 74)) bx)
 n1:Ao tb fd.scope.names "type"=some (.k (.imm (.type "type")))
 n2:Ao tb fd.scope.names "headers"=some (.var 74)
 n3:Ao tb fd.scope.names "list"=some (.k (.imm (.type "list")))
 n4:Ao tb fd.scope.names "self"=some (.var 28)
structure Px(X:Fx)(fI:cK):Prop where
 mks:makesIn X.K X.CH=true
 ini:g3I X.K (.ref X.CH) "__init__"=some (some (.ref fI))
 fn:g6P X.K (.ref fI)=some (.type "function")
 sa:g3I X.K (.ref X.CH) "__setattr__"=some (some (.builtin "object.__setattr__"))
 po:gBD X.K X.CH=true
 tk:gCC X.K X.CH "_headers"=some none
 hd:g8W X.K X.CH=true
 nc: ∀dx,notCls (g4L X.CH dx)=true
theorem Yc{e0:Ag}{x:cK}{bx:List S}:
  ex1 e0 (Ae e0 8) d (.assign (.one 74) (.ife (.cmp .isnot (.var 74) (.k .none)) (.var 74) (.list []))) [(28,.imm (.ref x)),(74,.none)] hp=some (.next,[(28,.imm (.ref x)),(74,.lst hp.length)],hp++[.l []])/\
  ex1 e0 (Ae e0 8) d (.for_ (.many [36,79]) (.ex (.var 74)) bx) [(28,.imm (.ref x)),(74,.lst hp.length)] (hp++[.l []])=some (.next,[(28,.imm (.ref x)),(74,.lst hp.length)],hp++[.l []]):=by
 have h2:lget (hp++[O.l []]) hp.length=some []:=Ic;refine⟨rfl,?_⟩;refine bs (o:=(Ae e0 8).itr d (.ex (.var 74)) _ _) (bs (o:=(Ae e0 7).ev d (.var 74) _ _) rfl (bs (o:=(lget _ _).bind _) (bs h2 rfl) rfl)) ?_;refine bs (o:=(lget _ _).bind _) (bs h2 rfl) rfl
theorem dU{tb:Tab}{e0:Ag}{a:cK}{o:Obj}{fd:FuncData}{body:List Stmt}(TO:A0 X tb)(Z:A3 X tb e0)(Z2:Dh X e0)(RA: ∀n,RS X tb (Ae e0 n))(K:D8 X a o fd body)(S:Sl tb fd body)(MK:Px X a)
  (par: ∀(k:Nat) (i:Nat) (p:Str),[28,74][k]? =some i->(["self","headers"]:List Str)[k]? =some p->X.nm[i]? =some p) (parK: ∀p∈(["self","headers"]:List Str),fd.scope.names.lookup p=some .local\/fd.scope.names.lookup p=some .cell)
  (bind: ∀x:Value,peek X.K ⟨X.prog,X.w.params⟩ (bY fd ⟨[x],[]⟩)=some ((["self","headers"]:List Str).zip [x,.none])):
  ∀d hp,3<=d->Ai X d (λrvs=>call (.ref X.CH) rvs []) [] hp (.hdr (hp.length+1)) (hp++[.l [],.d hp.length]):=by
 intro d hp hd A Y s rvs Q E H r P;dsimp only[VRels] at r;subst r;obtain⟨d',rfl⟩: ∃d',d=d'+2:=⟨d - 2,Q160 hd⟩;obtain⟨s1,s3,PP0,p,n0,rb,bx,hb,c1,c3⟩:=S.ex;refine x02 (Yc (e0:=e0) (d:=d') (hp:=hp) (x:=s.heap.objs.size+1) (bx:=bx)) ?_;intro v1 v3;refine g9E ?_;obtain⟨hh,g,dr,tk,os⟩:=s;have inv:=H.inv;have rm:=H.room;have keep0: ∀b o,hh.get? b=some o->((hh.push emptyDict).push (g4L X.CH hh.objs.size)).get? b=some o:=λb o e=>bS _ (bS _ e);have S0:Ac X [] Y hh Y ((hh.push emptyDict).push (g4L X.CH hh.objs.size)) hp:=Ac.ext inv keep0;have gD:((hh.push emptyDict).push (g4L X.CH hh.objs.size)).get? hh.objs.size=some emptyDict:=bS _ (g0K _ rfl);have gX:((hh.push emptyDict).push (g4L X.CH hh.objs.size)).get? (hh.objs.size+1)=some (g4L X.CH hh.objs.size):=by
  have:(hh.push emptyDict).objs.size=hh.objs.size+1:=Heap.size_push ..;rw[<-this];exact g0K _ rfl
 have zD:hh.get? hh.objs.size=none:=g0E (bJ _);have zX:hh.get? (hh.objs.size+1)=none:=g0E (g5Q _);have bigD:X.n1<=hh.objs.size:=H.big;refine make_core (makes_of inv.kin MK.mks) (looks_findIn inv.kin MK.ini) (λself=>bind_fn inv.kin self MK.fn) (.inl rfl) ?_;have HU:Ah X (A.under (.builtin "type.__call__" ⟨[.ref X.CH],[]⟩)) (d'+1) Y ⟨(hh.push emptyDict).push (g4L X.CH hh.objs.size),g,dr,tk,os⟩ hp:=by
  refine⟨⟨rm.handled,?_,?_⟩,S0.inv⟩
  ·show A.depth+1+8*(d'+1)+16 < g6B
   have:=rm.depth;exact qC this
  ·show A.units+1+32*(d'+1)+256 < g8H
   have:=rm.units;exact qD this
 refine Sq (d:=d') (hp:=hp) (ps:=["self","headers"]) (is:=[28,74]) (vs:=[.imm (.ref (hh.objs.size+1)),.none]) (λh0=>h0=(hh.push emptyDict).push (g4L X.CH hh.objs.size)) K HU rfl (by decide) par parK ?_ ?_
 ·refine(Looks.of_peek (M:=mdl X) S0.inv.kin (bind _)).here (s:=⟨(hh.push emptyDict).push (g4L X.CH hh.objs.size),g,dr,tk,os⟩) ?_
  exact⟨_,tk,[.ref (hh.objs.size+1),.none],rfl,rfl,rfl,λ_ _ e=>e,D7 (rfl) (rfl),rfl⟩
 ·intro env h0 h1 t1 E1 hsc hfn hC keep S1 F1 Rm hw0 hw
  subst hC;rw[hb];have HA:Ah X (A.under (.builtin "type.__call__" ⟨[.ref X.CH],[]⟩)|>.deeper env) d' Y ⟨h1,g,dr,t1,os⟩ hp:=⟨Rm,S1.inv⟩;have nY: ∀c,hh.get? c=none->c∉Y:=λc hc=>inv.fresh hc;have nW: ∀c o,((hh.push emptyDict).push (g4L X.CH hh.objs.size)).get? c=some o->c∉Wof env:=λc o e z=>by rw[hw0 _ z] at e;exact nn e
  refine g0B (E6 Z Z2 8 (λk _=>RA k) _ _ _ _ _ _ _ _ _ (by rw[hsc];exact c1) v1 hfn _ Y _ _ _ HA F1 λY2 h2 t2 fv S2 F2 e2=> ?_);cases e2;have H2:Ah X (A.under (.builtin "type.__call__" ⟨[.ref X.CH],[]⟩)|>.deeper env) d' Y2 ⟨h2,g,dr,t2,os⟩ _:=⟨Rm,S2.inv⟩;have lg2:lget (hp++[O.l []]) hp.length=some []:=Ic;refine g0B (g9M (jU (e0:=e0) (d:=d') TO (by rw[hsc];exact S.n1) (by rw[hsc];exact S.n2) (by rw[hsc];exact S.n3) (u:= .lst hp.length) rfl (nL lg2) _ Y2 _ _ _ H2 F2 λY3 h3 t3 S3=> ?_));refine g1S ?_;have F3:=F2.ev H2.inv S3;have H3:Ah X (A.under (.builtin "type.__call__" ⟨[.ref X.CH],[]⟩)|>.deeper env) d' Y3 ⟨h3,g,dr,t3,os⟩ _:=⟨Rm,S3.inv⟩;have T3:Ac X (Wof env) Y ((hh.push emptyDict).push (g4L X.CH hh.objs.size)) Y3 h3 (hp++[.l []]):=by
   have a:Ac X [] Y ((hh.push emptyDict).push (g4L X.CH hh.objs.size)) Y h1 hp:=Ac.ext S0.inv keep;exact(a.nil.trans S2).trans S3.nil
  have gD3:=T3.keep _ _ gD (nY _ zD) (nW _ _ gD);have gX3:=T3.keep _ _ gX (nY _ zX) (nW _ _ gX);have nD3:=T3.notin' gD (nY _ zD);have nX3:=T3.notin' gX (nY _ zX);refine g0B (g6J (Dq TO (e0:=e0) (r:=Df) (by rw[hsc];exact S.n2) rfl _ Y3 ⟨h3,g,dr,t3,os⟩ _ _ H3 F3 λY4 h4 t4 rv S4 rr4=>Kw (by intro _ _ z;cases z) ?_) rfl rfl);have H4:Ah X (A.under (.builtin "type.__call__" ⟨[.ref X.CH],[]⟩)|>.deeper env) d' Y4 ⟨h4,g,dr,t4,os⟩ _:=⟨Rm,S4.inv⟩;have F4:=F3.ev H3.inv S4;refine kas_attr (Dq TO (e0:=e0) (r:=Df) (by rw[hsc];exact S.n4) rfl _ Y4 ⟨h4,g,dr,t4,os⟩ _ _ H4 F4 λY5 h5 t5 ro S5 rr5=> ?_);have F5:=F4.ev H4.inv S5;dsimp only[Ab] at rr5;subst rr5;have rr4':=S5.vr _ _ rr4;dsimp only[Ab] at rr4';refine x12 rr4' ?_;clear rr4';intro b hb5 z2;subst z2;have gD4:=S4.keep _ _ gD3 nD3 (aA);have gX4:=S4.keep _ _ gX3 nX3 (aA);have nD4:=S4.notin' gD3 nD3;have nX4:=S4.notin' gX3 nX3;have gD5:=S5.keep _ _ gD4 nD4 (aA);have gX5:=S5.keep _ _ gX4 nX4 (aA);have nD5:=S5.notin' gD4 nD4;have nX5:=S5.notin' gX4 nX4;refine kU (s:=⟨h5,g,dr,t5,os⟩) (dx:=hh.objs.size) S5.inv.kin ⟨gX5,rfl,MK.nc _,gD5⟩ gD5 MK.sa MK.po MK.tk MK.hd λh6 hsh t n tk6 hs6 g6=> ?_;have hne:hh.objs.size+1≠hh.objs.size:=g4S _;have S6:Ac X [hh.objs.size] Y5 h5 Y5 h6 _:=Ac.soft S5.inv nD5 bigD gD5 (by intro vs n z;cases z) (by simp[emptyDict]) g6 (λb o hb e=>(hs6.2 b hb).trans e);have F6:Ak X Y5 env _ h6:=F5.step S5.inv S6 (by
    intro z;have:=nW _ _ gD;exact this (by rw[<-aK.mp z];exact bN ..)) (λp hp z=>by
    have:=nW _ _ gD;exact this (by dsimp only[Wof];rw[if_pos hfn,<-aK.mp z];exact aX _ (bI.mpr ⟨p,hp,rfl⟩)))
  have gX6:=(hs6.2 _ hne).trans gX5;have H6:Ah X (A.under (.builtin "type.__call__" ⟨[.ref X.CH],[]⟩)|>.deeper env) d' Y5 ⟨h6,g,dr,tk6,os⟩ _:=⟨Rm,S6.inv⟩;refine g0B (g9M (gBR (he:=rfl) ?_));refine g6I (g7K ?_);refine g0B (E6 Z Z2 8 (λk _=>RA k) _ _ _ _ _ _ _ _ _ (by rw[hsc];exact c3) v3 hfn _ Y5 ⟨h6,g,dr,tk6,os⟩ _ _ H6 F6 λY7 h7 t7 fv S7 F7 e7=> ?_);cases e7;refine g1S ?_;refine g1S ?_;refine⟨rfl,?_⟩;have g7:=S7.keep _ _ g6 nD5 (nW _ _ gD);have gX7:=S7.keep _ _ gX6 nX5 (nW _ _ gX);have nD7:=S7.notin' g6 nD5;have b7:=S7.at hb5;have T7:Ac X (Wof env++[hh.objs.size]) Y hh Y7 h7 (hp++[.l []]):=by
   have m1: ∀b∈Wof env,b∈Wof env++[hh.objs.size]:=λb hb=>g0A _ hb;have m2: ∀b∈[hh.objs.size],b∈Wof env++[hh.objs.size]:=λb hb=>g3B _ hb;exact((((S0.nil.trans (T3.mono m1)).trans S4.nil).trans S5.nil).trans (S6.mono m2)).trans (S7.mono m1)
  have T8:Ac X [] Y hh (Y7++[hh.objs.size]) h7 ((hp++[.l []])++[.d hp.length]):=by
   refine(T7.newD zD nD7 bigD g7 b7).drop λc hc=> .inr ?_;rcases aY.mp hc with hc|hc
   ·exact Eo (λb o e=>⟨o,keep0 b o e⟩) (hw0 c hc)
   ·rw[aK.mp hc];exact zD
  have l7:Y7.length=hp.length+1:=by rw[S7.inv.len];exact aP
  refine P (Y7++[hh.objs.size]) h7 t7 (.ref (hh.objs.size+1)) (by simpa using T8) ?_;dsimp only[Ab];refine⟨_,hh.objs.size,?_,rfl,gX7⟩;rw[cI (qE l7),l7];simp
end Mine
namespace Mine
noncomputable def dAt(hp:HP)(i:Nat):Option Nat:=hp[i]?.bind λo=>match o with
 | .d l=>some l
 | .l _=>none
noncomputable def tri:List V->Option (Nat×Str×Str)
 | [a,b,c]=>(Iw a).bind λi=>(vS b).bind λn=>(vS c).map λv=>(i,n,v)
 | _=>none
noncomputable def CK(hp:HP)(t:Nat×Str×Str):Option (V×HP):=(dAt hp t.1).bind λl=>(lget hp l).bind λxs=>
 if xs.length < 200 && Cl t.2.1 && Cl t.2.2 then some (.none,(hp.set l (.l (xs++[.tup [.str t.2.1,.str t.2.2]])))++[.l [.str t.2.2]]) else none
noncomputable def Fh(a:cK)(vs:List V)(hp:HP):Option (V×HP):=match aW a 224 with
 | true=>match vs with
  | []=>some (.hdr (hp.length+1),hp++[.l [],.d hp.length])
  | _::_=>none
 | false=>match aW a 221 with
  | true=>(tri vs).bind (CK hp)
  | false=>none
theorem Z0{hp:HP}{i l:Nat}(h:dAt hp i=some l):hp[i]? =some (.d l):=by
 refine bE' h ?_;clear h;intro o e h;rw[e];cases o with
 | d m=>cases h;rfl
 | l _=>exact nn h
theorem eN{vs:List V}{t:Nat×Str×Str}(h:tri vs=some t):vs=[.hdr t.1,.str t.2.1,.str t.2.2]:=by
 match vs,h with
 | [a,b,c],h=>
  refine bE' h ?_;clear h;intro i e1 h;refine bE' h ?_;clear h;intro n e2 h;refine mE h ?_;clear h;intro v e3 h;rw[asHd_inv e1,vS_inv e2,vS_inv e3,<-h]
noncomputable def eA:Ag:=⟨λ_=>none,λ_ _ _=>none,mt,false⟩
noncomputable def eB:Ag:=⟨λ_=>none,λ_ _ _=>none,mt,true⟩
noncomputable def eC:Ag:=⟨ft,Fh,mt,true⟩
structure Ec(X:Fx):Prop where
 nm:X.nm=names
 ch:X.CH=224
 tab:A0 X tb
 mods:g9F < X.n1
 ga:g3I X.K (.ref X.CH) "__getattribute__"=some (some (.builtin "object.__getattribute__"))
 noga:g3I X.K (.ref X.CH) "__getattr__"=some none
 meth: ∀m a,mt m=some a->m≠ .remove->g3I X.K (.ref X.CH) (Da m)=some (some (.ref a))/\g6P X.K (.ref a)=some (.type "function")
 attr:g3I X.K (.ref X.CH) "_headers"=some none
 noseq:noSeq X.K X.CH=true
 del:g3I X.K (.ref X.CH) "__delitem__"=some (some (.ref 144))/\g6P X.K (.ref 144)=some (.type "function")
 mko:Px X 118
 cv:g3I X.K (.ref X.CH) "_convert_string_type"=some (some (.ref 125))/\g6P X.K (.ref 125)=some (.type "function")/\g3C X.K (.ref 125)=true
 k221:g3C X.K (.ref 221)=true
 k224:g3C X.K (.ref 224)=true
 f125: ∃o fd body,D8 X 125 o fd body/\Sk tb fd body/\(∀p∈(["self","value","name"]:List Str),fd.scope.names.lookup p=some .local\/fd.scope.names.lookup p=some .cell)/\
  ∀(x y:Value) (b:Bool),bY fd ⟨[x,y],[("name",.bool b)]⟩=pure ((["self","value","name"]:List Str).zip [x,y,.bool b])
 p90:Fj X 90
 p95:Fj X 95
 f221: ∃o fd body,D8 X 221 o fd body/\Sj X tb fd body/\(∀p∈(["self","_name","_value","_params"]:List Str),fd.scope.names.lookup p=some .local\/fd.scope.names.lookup p=some .cell)/\
  ∀x y z:Value,∃g,peekA X.K ⟨X.prog,X.w.params⟩ (bY fd ⟨[x,y,z],[]⟩)=some (({cls:= .type "dict",data:= .dict #[] 0}:Obj),g)/\∀D,g D=pure ((["self","_name","_value","_params"]:List Str).zip [x,y,z,.ref D])
 f118: ∃o fd body,D8 X 118 o fd body/\Sl tb fd body/\(∀p∈(["self","headers"]:List Str),fd.scope.names.lookup p=some .local\/fd.scope.names.lookup p=some .cell)/\
  ∀x:Value,peek X.K ⟨X.prog,X.w.params⟩ (bY fd ⟨[x],[]⟩)=some ((["self","headers"]:List Str).zip [x,.none])
 fns: ∀a fn,ft a=some fn->∃o fd body ps,FnOK X tb a fn o fd body ps
theorem names_at{X:Fx}(h:X.nm=names){is:List Nat}{ps:List Str}(e:(is.zip ps).all (λp=>decide (names[p.1]? =some p.2))=true): ∀(k:Nat) (i:Nat) (p:Str),is[k]? =some i->ps[k]? =some p->X.nm[i]? =some p:=by
 intro k i p h1 h2;rw[h];rw[bB] at e;have:(i,p)∈is.zip ps:=by
  apply aU (i:=k);rw[g2H];exact⟨h1,h2⟩
 exact of_decide_eq_true (e _ this)
theorem G0{X:Fx}(F:Ec X)(e:Ag)(hm:e.mt=mt)(hc:e.cv=true->∃a,g3I X.K (.ref X.CH) "_convert_string_type"=some (some (.ref a))/\g6P X.K (.ref a)=some (.type "function")/\g3C X.K (.ref a)=true/\
  ∀d hp i l x b,1<=d->hp[i]? =some (O.d l)->(chars x).all Dm=true->(chars x).length=1->Ai X d (λrvs=>call (.ref a) rvs [("name",.bool b)]) [.hdr i,.str x] hp (.str x) hp):A3 X tb e:=
 ⟨F.tab,⟨F.ga,F.noga,by rw[hm];exact F.meth,F.mko.hd,F.attr⟩,rfl,rfl,rfl,rfl,side_srt,hc⟩
theorem side2_all{X:Fx}(F:Ec X)(e:Ag)(hm:e.mt=mt):Dh X e:=
 iJ F.noseq (by rw[hm];intro g hg;cases hg;exact F.del)
theorem noExt{X:Fx}(e:Ag)(h: ∀a vs hp,e.ext a vs hp=none):Ix X e:=by
 intro d a vs hp v hp' _ q;rw[h] at q;exact nn q
theorem ra_A{X:Fx}(F:Ec X): ∀n,RS X tb (Ae eA n):=
 Mn (G0 F eA rfl (by intro h;(first|exact nn h|cases h))) (side2_all F eA rfl) (by intro a fn h;(first|exact nn h|cases h)) (noExt eA λ_ _ _=>rfl)
theorem Jl{X:Fx}(F:Ec X): ∃a,g3I X.K (.ref X.CH) "_convert_string_type"=some (some (.ref a))/\g6P X.K (.ref a)=some (.type "function")/\g3C X.K (.ref a)=true/\
  ∀d hp i l x b,1<=d->hp[i]? =some (O.d l)->(chars x).all Dm=true->(chars x).length=1->Ai X d (λrvs=>call (.ref a) rvs [("name",.bool b)]) [.hdr i,.str x] hp (.str x) hp:=by
 refine x34 F.f125 ?_;intro o fd body K S pk bd;exact⟨125,F.cv.1,F.cv.2.1,F.cv.2.2,CA F.tab (G0 F eA rfl (by intro h;cases h)) (side2_all F eA rfl) (ra_A F) K S F.p90 F.p95 (names_at F.nm (rfl)) pk bd⟩
theorem Xy{X:Fx}(F:Ec X): ∀n,RS X tb (Ae eB n):=
 Mn (G0 F eB rfl λ_=>Jl F) (side2_all F eB rfl) (by intro a fn h;exact nn h) (noExt eB λ_ _ _=>rfl)
theorem AL{X:Fx}(F:Ec X):Ix X eC:=by
 intro d a vs hp v hp' hd q;have q:Fh a vs hp=some (v,hp'):=q;dsimp only[Fh] at q;cases e:aW a 224 with
 | true=>
  rw[e] at q;cases aR e;clear e;cases vs with
  | cons _ _=>exact nn q
  | nil=>
   have q:some (V.hdr (hp.length+1),hp++[O.l [],O.d hp.length])=some (v,hp'):=q;refine⟨F.k224,?_⟩;refine s2 q ?_;clear q;refine x34 F.f118 ?_;intro o fd body K S pk bd;have:=dU F.tab (G0 F eB rfl λ_=>Jl F) (side2_all F eB rfl) (Xy F) K S F.mko (names_at F.nm (rfl)) pk bd d hp hd;rw[F.ch] at this;exact this
 | false=>
  rw[e] at q;clear e;cases e:aW a 221 with
  | false=>rw[e] at q;exact nn q
  | true=>
   rw[e] at q;cases aR e;clear e;refine bE' q ?_;clear q;intro t e q;rw[eN e];clear e;refine bE' q ?_;clear q;intro l hl q;refine bE' q ?_;clear q;intro xs hx q;cases hc:(xs.length < 200 && Cl t.2.1 && Cl t.2.2:Bool) with
   | false=>rw[hc] at q;exact nn q
   | true=>
    rw[hc] at q;have q:some (V.none,List.set hp l (O.l (xs++[V.tup [V.str t.2.1,V.str t.2.2]]))++[O.l [V.str t.2.2]])=some (v,hp'):=q;refine⟨F.k221,?_⟩;refine s2 q ?_;clear q;simp only[aI,decide_eq_true_eq] at hc;refine x34 F.f221 ?_;intro o fd body K S pk bd;exact BN F.tab (G0 F eB rfl λ_=>Jl F) (side2_all F eB rfl) (Xy F) K S rfl F.mods (names_at F.nm (rfl)) pk bd d hp t.1 l t.2.1 t.2.2 xs hd (Z0 hl) hx hc.1.1 hc.1.2 hc.2
theorem zH{X:Fx}(F:Ec X): ∀n,RS X tb (Ae eC n):=
 Mn (G0 F eC rfl λ_=>Jl F) (side2_all F eC rfl) F.fns (AL F)
theorem BC{X:Fx}(F:Ec X){n d:Nat}{ns:List Int}{hp':HP}(q:(Ae eC n).call d 300 [.ro ns] []=some (.bool true,hp')){A:Around}{s:Shared}{E:Value->Shared->Prop}{Q:Value->Shared->Prop}{a:cK}{vs:Array Value}{m:Nat}
  (rm:Ew A d) (hk:X.K.In s.heap) (ha:a < X.n1) (hl:ns.length<=1000) (hg:s.heap.get? a=some {cls:= .type "list",data:= .seq vs m}) (hi:IntsAre vs.toList ns)
  (P: ∀h' tk,(∀b o,s.heap.get? b=some o->h'.get? b=some o)->Q (.bool true) {s with heap:=h',toks:=tk}):cA (mdl X) A (call (.ref 300) [.ref a]) Q E s:=by
 have o:=((zH F n).call d 300 _ _ _ _ q).2;have I:Inv X [] s.heap []:=⟨hk,rfl,g4F,by simp,by intro i o a h;contradiction⟩;refine o A [] s [.ref a] Q E ⟨rm,I⟩ (Ev ?_) λY' h' tk rv S r=> ?_
 ·dsimp only[Ab]
  exact⟨a,vs,m,rfl,ha,hl,hg,hi⟩
 ·dsimp only[Ab] at r
  subst r;exact P h' tk λb o e=>S.keep b o e (aA) (aA)
end Mine
namespace Mine
noncomputable def Mj:Data->Option FuncData
 | .func fd=>some fd
 | _=>none
noncomputable def P5:Data->Option (Array DictEntry×Nat)
 | .dict es n=>some (es,n)
 | _=>none
noncomputable def Nd:FuncBody->Option (List Stmt)
 | .stmts b=>some b
 | _=>none
noncomputable def Pu:Value->Option (Str×Tok)
 | .str x t=>some (x,t)
 | _=>none
theorem lR{d:Data}{fd:FuncData}(h:Mj d=some fd):d= .func fd:=by
 cases d <;> first|exact nn h|exact congrArg Data.func (aB h)
theorem lN{d:Data}{p}(h:P5 d=some p):d= .dict p.1 p.2:=by
 cases d <;> first|exact nn h|exact congrArg (λp=>Data.dict p.1 p.2) (aB h)
theorem stmtsOf_inv{d:FuncBody}{p}(h:Nd d=some p):d= .stmts p:=by
 cases d <;> first|exact nn h|exact congrArg FuncBody.stmts (aB h)
theorem strOf_inv{d:Value}{p}(h:Pu d=some p):d= .str p.1 p.2:=by
 cases d <;> first|exact nn h|exact congrArg (λp=>Value.str p.1 p.2) (aB h)
noncomputable def oF(K:g5H)(a:cK):Obj:=(K.lookup a).getD default
noncomputable def fdF(K:g5H)(a:cK):FuncData:=(Mj (oF K a).data).getD default
noncomputable def Cx(K:g5H)(a:cK):List Stmt:=(Nd (fdF K a).body).getD []
noncomputable def Cf(K:g5H)(a:cK):Bool:=(K.lookup a).any λo=>(Mj o.data).any λfd=>(Nd fd.body).any λ_=>fd.closure.isEmpty && aW fd.globals g0M && aW fd.builtins g4W && !fd.scope.isCoroutine && !fd.scope.isGenerator && fd.scope.kind== .function && decide ((fd.scope.names.map (·.1)).Nodup) &&
 fd.scope.names.all (λp=>p.2 != .free) && codeIn K fd.code fd.qualname
noncomputable def Ii(K:g5H):Bool:=(K.lookup cStatics).any λo=>(P5 o.data).any λp=>p.1.toList.all (λe=>(Pu e.key).isSome) && (nsFind p.1 "sys.recursionlimit").isNone
theorem nolim_of{K:g5H}(h:Ii K=true): ∀hh,K.In hh->hh.NoLimit:=λhh X=>
 aE h λo e h=>aE h λp hp h=>bA h λh1 h2=>⟨nsFind p.1,⟨o,p.1,p.2,X _ _ e,lN hp,λe he=>(g4A.1 (bB.1 h1 e (Array.mem_toList_iff.2 he))).elim λq hq=>⟨q.1,q.2,strOf_inv hq⟩,λ_=>rfl⟩,g7G.1 h2⟩
theorem lY{names:List (Str×NameKind)}(h:names.all (λp=>p.2 != .free)=true)(x:Str):names.lookup x≠some .free:=by
 induction names with
 | nil=>exact of_decide_eq_true ‹_›
 | cons p r ih=>
  obtain⟨n,k⟩:=p;simp only[g8B,aI] at h;simp only[bO];split
  ·intro z;cases z;simp at h
  ·exact ih h.2
theorem nB{b:Bool}(h:(!b)=true):b=false:=by cases b;rfl;exact nf h
theorem J3{X:Fx}{a:cK}(h:Cf X.K a=true)(hs:Ii X.K=true):D8 X a (oF X.K a) (fdF X.K a) (Cx X.K a):=by
 refine aE h λo e h=>aE h λfd hd h=>aE h λb hb h=> ?_;have eo:oF X.K a=o:=by unfold oF;rw[e];rfl
 have ef:fdF X.K a=fd:=by unfold fdF;rw[eo,hd];rfl
 have eb:Cx X.K a=b:=by unfold Cx;rw[ef,hb];rfl
 rw[eo,ef,eb];clear eo ef eb;exact bA h λh h9=>bA h λh h8=>bA h λh h7=>bA h λh h6=>bA h λh h5=>bA h λh h4=>bA h λh h3=>bA h λh1 h2=>
  ⟨e,lR hd,cJ.1 h1,stmtsOf_inv hb,aR h2,aR h3,nB h4,nB h5,beq_iff_eq.1 h6,of_decide_eq_true h7,lY h8,λh X=>codeRec_of X h9,nolim_of hs⟩
theorem cR{X:Fx}{a:cK}{fn:Fn}{ps:List Str}(h:Cf X.K a=true)(hs:Ii X.K=true)(hn:X.nm=names)(comp:cSs tb (fdF X.K a).scope.names (Cx X.K a)=some fn.body)
  (bind: ∀vals:List Value,vals.length=ps.length->bY (fdF X.K a) ⟨vals,[]⟩=pure (ps.zip vals)) (len:ps.length=fn.params.length) (psn:ps.Nodup) (par:((fn.params.zip ps).all λp=>decide (names[p.1]? =some p.2))=true)
  (parK:(ps.all λp=>(fdF X.K a).scope.names.lookup p==some .local||(fdF X.K a).scope.names.lookup p==some .cell)=true) (keep:g3C X.K (.ref a)=true): ∃o fd body ps,FnOK X tb a fn o fd body ps:=by
 have F:=J3 h hs;refine⟨_,_,_,ps,⟨F.at_,F.data,F.clo,F.bod,comp,F.glo,F.blt,F.coro,F.gen,F.kind,F.nodup,F.nofree,bind,len,psn,names_at hn par,λp hp=> ?_,F.code,F.nolim,keep⟩⟩;rw[bB] at parK;have:=parK p hp;simpa using this
end Mine
set_option maxHeartbeats 2000000
namespace Mine
section
noncomputable def St{α:Type}(f:R->Option α)(y:α):Prop:= ∃N,∀n,N<=n->f (Ae eC n)=some y
structure W1{α:Type}(f:R->Option α)(Q:α->Prop):Prop where
 h: ∃a,St f a/\Q a
structure W2{α β:Type}(f:R->Option (α×β))(Q:α->β->Prop):Prop where
 h: ∃a b,St f (a,b)/\Q a b
structure W3{α β γ:Type}(f:R->Option (α×β×γ))(Q:α->β->γ->Prop):Prop where
 h: ∃a b c,St f (a,b,c)/\Q a b c
noncomputable def Wev(d:Nat)(x:X)(U:Rho)(hp:HP)(Q:V->HP->Prop):Prop:=W2 (λr=>r.ev d x U hp) Q
noncomputable def B6(d:Nat)(x:List X)(U:Rho)(hp:HP)(Q:List V->HP->Prop):Prop:=W2 (λr=>r.evs d x U hp) Q
noncomputable def Wtr(d:Nat)(x:X)(U:Rho)(hp:HP)(Q:Bool->HP->Prop):Prop:=W2 (λr=>r.tr d x U hp) Q
noncomputable def Iv(d:Nat)(x:It)(U:Rho)(hp:HP)(Q:Itr->HP->Prop):Prop:=W2 (λr=>r.itr d x U hp) Q
noncomputable def Wcl(d:Nat)(x:X)(t:T)(i:List X)(g:List G)(j:Itr)(a:Nat)(U:Rho)(hp:HP)(Q:Rho->HP->Prop):Prop:=W2 (λr=>r.cl d x t i g j a U hp) Q
noncomputable def As(d:Nat)(a:cK)(vs:List V)(hp:HP)(Q:V->HP->Prop):Prop:=W2 (λr=>r.call d a vs hp) Q
noncomputable def E5(d:Nat)(U:Rho)(x:List X)(hp:HP)(Q:Bool->HP->Prop):Prop:=W2 (λr=>Dj r d U x hp) Q
noncomputable def Iy(d:Nat)(U:Rho)(x:List X)(hp:HP)(Q:Bool->HP->Prop):Prop:=W2 (λr=>Gi r d U x hp) Q
noncomputable def Gk(d:Nat)(x:Option X)(U:Rho)(hp:HP)(Q:V->HP->Prop):Prop:=W2 (λr=>Hg r d x U hp) Q
noncomputable def Wex(d:Nat)(l:List S)(U:Rho)(hp:HP)(Q:Fl->Rho->HP->Prop):Prop:=W3 (λr=>r.ex d l U hp) Q
noncomputable def Wfl(d:Nat)(t:T)(j:Itr)(l:List S)(U:Rho)(hp:HP)(Q:Fl->Rho->HP->Prop):Prop:=W3 (λr=>r.fl d t j l U hp) Q
noncomputable def Wwl(d:Nat)(c:X)(l:List S)(U:Rho)(hp:HP)(Q:Fl->Rho->HP->Prop):Prop:=W3 (λr=>r.wl d c l U hp) Q
noncomputable def Bi(d:Nat)(l:S)(U:Rho)(hp:HP)(Q:Fl->Rho->HP->Prop):Prop:=W3 (λr=>ex1 eC r d l U hp) Q
theorem St.pure{α:Type}{o:Option α}{y:α}(h:o=some y):St (λ_=>o) y:=⟨0,λ_ _=>h⟩
theorem St.bind{α β:Type}{f:R->Option α}{g:R->α->Option β}{y:α}{z:β}(h1:St f y)(h2:St (λr=>g r y) z):St (λr=>f r >>= g r) z:=by
 refine x11 h1 ?_;clear h1;intro N1 h1;refine x11 h2 ?_;clear h2;intro N2 h2;refine⟨max N1 N2,λn hn=> ?_⟩;show (f (Ae eC n)).bind _=_;rw[h1 n (qF hn)];exact h2 n (qG hn)
theorem St.step{α:Type}{f g:R->Option α}{y:α}(h:St g y)(e: ∀r,f (Hp eC r)=g r):St f y:=by
 refine x11 h ?_;clear h;intro N h;refine⟨N+1,λn hn=> ?_⟩;obtain⟨m,rfl⟩: ∃m,n=m+1:=⟨n - 1,Q166 hn⟩;show f (Hp eC (Ae eC m))=_;rw[e];exact h m (Ov hn)
section
variable {α β γ δ ε:Type}
theorem W1.some{y:α}{Q:α->Prop}{o:Option α}(e:o=some y)(q:Q y):W1 (λ_=>o) Q:=⟨y,.pure e,q⟩
theorem W2.some{a:α}{b:β}{Q:α->β->Prop}{o:Option (α×β)}(e:o=some (a,b))(q:Q a b):W2 (λ_=>o) Q:=⟨a,b,.pure e,q⟩
theorem W3.some{a:α}{b:β}{c:γ}{Q:α->β->γ->Prop}{o:Option (α×β×γ)}(e:o=some (a,b,c))(q:Q a b c):W3 (λ_=>o) Q:=⟨a,b,c,.pure e,q⟩
structure OpW{α β:Type}(o:Option (α×β))(Q:α->β->Prop):Prop where
 h:W2 (λ_=>o) Q
theorem OpW.some{α β:Type}{a:α}{b:β}{Q:α->β->Prop}{o:Option (α×β)}(e:o= .some (a,b))(q:Q a b):OpW o Q:=⟨.some e q⟩
theorem W2.mono{f:R->Option (α×β)}{Q Q':α->β->Prop}(h:W2 f Q)(m: ∀a b,Q a b->Q' a b):W2 f Q':=let ⟨a,b,s,q⟩:=h;⟨a,b,s,m a b q⟩
theorem W3.mono{f:R->Option (α×β×γ)}{Q Q':α->β->γ->Prop}(h:W3 f Q)(m: ∀a b c,Q a b c->Q' a b c):W3 f Q':=let ⟨a,b,c,s,q⟩:=h;⟨a,b,c,s,m a b c q⟩
theorem W2.bind2{f:R->Option (α×β)}{g:R->α×β->Option (δ×ε)}{Q:δ->ε->Prop}(h:W2 f λa b=>W2 (λr=>g r (a,b)) Q):W2 (λr=>f r >>= g r) Q:=by
 obtain⟨a,b,s,c,d,t,q⟩:=h;exact⟨c,d,s.bind t,q⟩
theorem W2.bind3{f:R->Option (α×β)}{g:R->α×β->Option (γ×δ×ε)}{Q:γ->δ->ε->Prop}(h:W2 f λa b=>W3 (λr=>g r (a,b)) Q):W3 (λr=>f r >>= g r) Q:=by
 obtain⟨a,b,s,c,d,e,t,q⟩:=h;exact⟨c,d,e,s.bind t,q⟩
theorem W3.bind3{ζ:Type}{f:R->Option (α×β×γ)}{g:R->α×β×γ->Option (δ×ε×ζ)}{Q:δ->ε->ζ->Prop}(h:W3 f λa b c=>W3 (λr=>g r (a,b,c)) Q):W3 (λr=>f r >>= g r) Q:=by
 obtain⟨a,b,c,s,x,y,z,t,q⟩:=h;exact⟨x,y,z,s.bind t,q⟩
theorem W3.bind2{f:R->Option (α×β×γ)}{g:R->α×β×γ->Option (δ×ε)}{Q:δ->ε->Prop}(h:W3 f λa b c=>W2 (λr=>g r (a,b,c)) Q):W2 (λr=>f r >>= g r) Q:=by
 obtain⟨a,b,c,s,x,y,t,q⟩:=h;exact⟨x,y,s.bind t,q⟩
theorem W1.bind2{f:R->Option α}{g:R->α->Option (δ×ε)}{Q:δ->ε->Prop}(h:W1 f λa=>W2 (λr=>g r a) Q):W2 (λr=>f r >>= g r) Q:=by
 obtain⟨a,s,x,y,t,q⟩:=h;exact⟨x,y,s.bind t,q⟩
theorem W1.bind3{f:R->Option α}{g:R->α->Option (γ×δ×ε)}{Q:γ->δ->ε->Prop}(h:W1 f λa=>W3 (λr=>g r a) Q):W3 (λr=>f r >>= g r) Q:=by
 obtain⟨a,s,x,y,z,t,q⟩:=h;exact⟨x,y,z,s.bind t,q⟩
theorem W2.step{f g:R->Option (α×β)}{Q:α->β->Prop}(e: ∀r,f (Hp eC r)=g r)(h:W2 g Q):W2 f Q:=let ⟨a,b,s,q⟩:=h;⟨a,b,s.step e,q⟩
theorem W3.step{f g:R->Option (α×β×γ)}{Q:α->β->γ->Prop}(e: ∀r,f (Hp eC r)=g r)(h:W3 g Q):W3 f Q:=let ⟨a,b,c,s,q⟩:=h;⟨a,b,c,s.step e,q⟩
end
section
variable {d:Nat} {U:Rho} {hp:HP} {Q:V->HP->Prop} {T:Bool->HP->Prop}
theorem Fg{v:V}(q:Q v hp):Wev d (.k v) U hp Q:= .step (λ_=>rfl) (.some rfl q)
theorem Ei{i:Nat}{v:V}(h:rget U i=some v)(q:Q v hp):Wev d (.var i) U hp Q:= .step (λ_=>rfl) (.some (by show (rget U i).map (·,hp)=_;rw[h];rfl) q)
theorem ev_bin{op:Bop}{a b:X}(h:Wev d a U hp λu h1=>Wev d b U h1 λv h2=>OpW (B7 op u v h2) Q):Wev d (.bin op a b) U hp Q:=
 .step (λ_=>rfl) (.bind2 (h.mono λu h1 h=> .bind2 (h.mono λv h2 h=>h.h)))
theorem ev_cmp{op:Cop}{a b:X}(h:Wev d a U hp λu h1=>Wev d b U h1 λv h2=> ∃t,Bd op u v h2=some t/\Q (.bool t) h2):Wev d (.cmp op a b) U hp Q:=
 .step (λ_=>rfl) (.bind2 (h.mono λu h1 h=> .bind2 (h.mono λv h2 h=>by
  refine x12 h ?_;clear h;intro t e q;refine .some (b:=h2) (a:= .bool t) ?_ q;show (Bd op u v h2).bind _=_;rw[e];rfl)))
theorem Jp{c a b:X}(h:Wtr d c U hp λt h1=>(t=true->Wev d a U h1 Q)/\(t=false->Wev d b U h1 Q)):Wev d (.ife c a b) U hp Q:=by
 refine .step (λ_=>rfl) (.bind2 (h.mono λt h1 h=> ?_));cases t
 ·exact h.2 rfl
 ·exact h.1 rfl
theorem ev_list{xs:List X}(h:B6 d xs U hp λvs h1=>vs.length<=200/\Q (.lst h1.length) (h1++[.l vs])):Wev d (.list xs) U hp Q:=
 .step (λ_=>rfl) (.bind2 (h.mono λvs h1 h=> .some (by show alloc h1 vs=_;dsimp only[alloc];rw[if_pos h.1]) h.2))
theorem ev_tup{xs:List X}(h:B6 d xs U hp λvs h1=>vs.length<=200/\Q (.tup vs) h1):Wev d (.tup xs) U hp Q:=
 .step (λ_=>rfl) (.bind2 (h.mono λvs h1 h=> .some (by show (if vs.length<=200 then _ else _)=_;rw[if_pos h.1];rfl) h.2))
theorem M2{Q:List V->HP->Prop}(q:Q [] hp):B6 d [] U hp Q:= .step (λ_=>rfl) (.some rfl q)
theorem evs_cons{x:X}{l:List X}{Q:List V->HP->Prop}(h:Wev d x U hp λv h1=>B6 d l U h1 λvs h2=>Q (v::vs) h2):B6 d (x::l) U hp Q:=
 .step (λ_=>rfl) (.bind2 (h.mono λv h1 h=> .bind2 (h.mono λvs h2 q=> .some rfl q)))
structure Pv(d:Nat)(U:Rho)(hp:HP)(x:X)(v:V):Prop where
 h:St (λr=>r.ev d x U hp) (v,hp)
structure Pvs(d:Nat)(U:Rho)(hp:HP)(x:List X)(v:List V):Prop where
 h:St (λr=>r.evs d x U hp) (v,hp)
theorem pv_k{v:V}:Pv d U hp (.k v) v:=⟨.step (.pure rfl) (λ_=>rfl)⟩
theorem pv_var{i:Nat}{v:V}(h:rget U i=some v):Pv d U hp (.var i) v:=⟨.step (.pure (by show (rget U i).map (·,hp)=_;rw[h];rfl)) (λ_=>rfl)⟩
theorem pvs_nil:Pvs d U hp [] []:=⟨.step (.pure rfl) (λ_=>rfl)⟩
theorem pvs_cons{x:X}{l:List X}{v:V}{vs:List V}(h:Pv d U hp x v)(k:Pvs d U hp l vs):Pvs d U hp (x::l) (v::vs):=⟨.step (.bind (f:=λr=>r.ev d x U hp) (g:=λr p=>r.evs d l U p.2 >>= λq=>some (p.1::q.1,q.2)) h.h (.bind (f:=λr=>r.evs d l U hp) (g:=λr q=>some (v::q.1,q.2)) k.h (.pure rfl))) (λ_=>rfl)⟩
theorem ev_pv{x:X}{v:V}(h:Pv d U hp x v)(q:Q v hp):Wev d x U hp Q:=⟨v,hp,h.h,q⟩
theorem evs_pv{x:List X}{v:List V}{Q:List V->HP->Prop}(h:Pvs d U hp x v)(q:Q v hp):B6 d x U hp Q:=⟨v,hp,h.h,q⟩
theorem evs_p{x:X}{l:List X}{v:V}{Q:List V->HP->Prop}(h:Pv d U hp x v)(q:B6 d l U hp λvs h2=>Q (v::vs) h2):B6 d (x::l) U hp Q:=evs_cons (ev_pv h q)
theorem bin_pv{op:Bop}{a b:X}{u v:V}(h:Pv d U hp a u)(k:Pv d U hp b v)(q:OpW (B7 op u v hp) Q):Wev d (.bin op a b) U hp Q:=ev_bin (ev_pv h (ev_pv k q))
theorem bin_p{op:Bop}{a b:X}{u:V}(h:Pv d U hp a u)(q:Wev d b U hp λv h2=>OpW (B7 op u v h2) Q):Wev d (.bin op a b) U hp Q:=ev_bin (ev_pv h q)
theorem Do{a i:X}(h:Wev d a U hp λo h1=>Wev d i U h1 λk h2=> ∃j n xs v,o= .lst j/\k= .int n/\lget h2 j=some xs/\A9 xs n=some v/\Q v h2):Wev d (.idx a i) U hp Q:=
 .step (λ_=>rfl) (.bind2 (h.mono λo h1 h=> .bind2 (h.mono λk h2 h=>by
  refine x45 h ?_;clear h;intro j n xs v z4 z5 e1 e2 q;subst z4;subst z5;refine .some (a:=v) (b:=h2) ?_ q;show (lget h2 j).bind (λxs=>(A9 xs n).bind _)=_;rw[e1];show (A9 xs n).bind _=_;rw[e2];rfl)))
theorem Mz{a i:X}(h:Wev d a U hp λo h1=>Wev d i U h1 λk h2=> ∃(xs:List V) (n:Int) (v:V),o= .tup xs/\k= .int n/\0<=n/\xs[n.toNat]? =some v/\Q v h2):Wev d (.idx a i) U hp Q:=
 .step (λ_=>rfl) (.bind2 (h.mono λo h1 h=> .bind2 (h.mono λk h2 h=>by
  refine x35 h ?_;clear h;intro xs n v z3 z4 e0 e2 q;subst z3;subst z4;refine .some (a:=v) (b:=h2) ?_ q;show (if 0<=n then(xs[n.toNat]?).map (·,h2) else none)=_;rw[if_pos e0,e2];rfl)))
theorem Z7{a i:X}(h:Wev d a U hp λo h1=>Wev d i U h1 λk h2=> ∃(ns:List Int) (n:Int) (m:Int),o= .ro ns/\k= .int n/\0<=n/\ns[n.toNat]? =some m/\Q (.int m) h2):Wev d (.idx a i) U hp Q:=
 .step (λ_=>rfl) (.bind2 (h.mono λo h1 h=> .bind2 (h.mono λk h2 h=>by
  refine x35 h ?_;clear h;intro xs n v z3 z4 e0 e2 q;subst z3;subst z4;refine .some (a:= .int v) (b:=h2) ?_ q;show (if 0<=n then(xs[n.toNat]?).map (λm=>(V.int m,h2)) else none)=_;rw[if_pos e0,e2];rfl)))
theorem My{a i:X}(h:Wev d a U hp λo h1=>Wev d i U h1 λk h2=> ∃(s:Str) (n:Int) (c:Nat),o= .str s/\k= .int n/\A9 (chars s) n=some c/\Q (.str (Aj [c])) h2):Wev d (.idx a i) U hp Q:=
 .step (λ_=>rfl) (.bind2 (h.mono λo h1 h=> .bind2 (h.mono λk h2 h=>by
  refine x34 h ?_;clear h;intro s n c z3 z4 e2 q;subst z3;subst z4;refine .some (a:= .str (Aj [c])) (b:=h2) ?_ q;show (A9 (chars s) n).map (λc=>(V.str (Aj [c]),h2))=_;rw[e2];rfl)))
theorem ev_call{a:cK}{xs:List X}(h:B6 d xs U hp λvs h1=>As d a vs h1 Q):Wev d (.app (.ref a) xs) U hp Q:=
 .step (λ_=>rfl) (.bind2 h)
theorem ev_builtin{id:String}{xs:List X}(h:B6 d xs U hp λvs h1=>OpW (builtin (.builtin id) vs h1) Q):Wev d (.app (.builtin id) xs) U hp Q:=
 .step (λ_=>rfl) (.bind2 (h.mono λv h2 h=>h.h))
theorem J2{m:Mth}{o:X}{xs:List X}(h:Wev d o U hp λov h1=> ∃i ys,ov= .lst i/\lget h1 i=some ys/\B6 d xs U h1 λvs h2=>OpW (C1 m (.lst i) vs h2) Q):Wev d (.met m o xs) U hp Q:=
 .step (λ_=>rfl) (.bind2 (h.mono λov h1 h=>by
  refine x23 h ?_;clear h;intro i ys z2 e h;subst z2;show W2 (λr=>(lget h1 i).bind λ_=>r.evs d xs U h1 >>= λp=>C1 m (.lst i) p.1 p.2) Q;rw[e];exact .bind2 (h.mono λv h2 h=>h.h)))
theorem Dv{m:Mth}{o:X}{xs:List X}(h:Wev d o U hp λov h1=> ∃s,ov= .str s/\B6 d xs U h1 λvs h2=>OpW (C1 m (.str s) vs h2) Q):Wev d (.met m o xs) U hp Q:=
 .step (λ_=>rfl) (.bind2 (h.mono λov h1 h=>by
  refine x12 h ?_;clear h;intro s z1 h;subst z1;exact .bind2 (h.mono λv h2 h=>h.h)))
theorem call_pv{a:cK}{xs:List X}{vs:List V}(h:Pvs d U hp xs vs)(q:As d a vs hp Q):Wev d (.app (.ref a) xs) U hp Q:=ev_call (evs_pv h q)
theorem builtin_pv{id:String}{xs:List X}{vs:List V}(h:Pvs d U hp xs vs)(q:OpW (builtin (.builtin id) vs hp) Q):Wev d (.app (.builtin id) xs) U hp Q:=ev_builtin (evs_pv h q)
noncomputable def AU(m:Mth):Bool:=match m with
 | .getall| .addh| .items=>true
 | _=>false
theorem F9{m:Mth}{o:X}{xs:List X}{g:cK}(hm:AU m=true)(hg:mt m=some g)(h:Wev d o U hp λov h1=> ∃i l,ov= .hdr i/\h1[i]? =some (.d l)/\B6 d xs U h1 λvs h2=>As d g (.hdr i::vs) h2 Q):Wev d (.met m o xs) U hp Q:=
 .step (λ_=>rfl) (.bind2 (h.mono λov h1 h=>by
  refine x23 h ?_;clear h;intro i l z2 e h;subst z2;cases m <;> try (cases hm;done)
  all_goals
   dsimp only;rw[e];refine .bind2 (h.mono λvs h2 h=> ?_);have e2:eC.mt=mt:=rfl;rw[e2,hg];exact h))
theorem Jo{o:X}(h:Wev d o U hp λov h1=> ∃i l,ov= .hdr i/\h1[i]? =some (.d l)/\Q (.lst l) h1):Wev d (.hds o) U hp Q:=
 .step (λ_=>rfl) (.bind2 (h.mono λov h1 h=>by
  refine x23 h ?_;clear h;intro i l z2 e q;subst z2;refine .some (a:= .lst l) (b:=h1) ?_ q;dsimp only;rw[e]))
theorem Rk{o x:X}(hd:1<=d)(h:Wev d o U hp λov h1=> ∃i l,ov= .hdr i/\h1[i]? =some (.d l)/\Wev d x U h1 λv h2=> ∃s l2,v= .str s/\h2[i]? =some (.d l2)/\Cl s=true/\Q (.str s) h2):Wev d (.conv o x) U hp Q:=
 .step (λ_=>rfl) (.bind2 (h.mono λov h1 h=>by
  refine x23 h ?_;clear h;intro i l z2 e h;subst z2;dsimp only;rw[e];refine .bind2 (h.mono λv h2 h=> ?_);refine x24 h ?_;clear h;intro s l2 z2 e2 hp q;subst z2;refine .some (a:= .str s) (b:=h2) ?_ q;dsimp only;rw[e2];dsimp only;unfold Cl at hp;rw[aI] at hp;rw[if_pos];rw[hp.1,hp.2,decide_eq_true hd];rfl))
theorem jN{a:X}(h:Wev d a U hp λv h1=> ∃i xs ns,v= .lst i/\lget h1 i=some xs/\intsV xs=some ns/\ns.length<=20/\Q (.int (Bk ns).length) h1):Wev d (.lenset a) U hp Q:=
 .step (λ_=>rfl) (.bind2 (h.mono λv h1 h=>by
  refine x35 h ?_;clear h;intro i xs ns z3 e1 e2 hl q;subst z3;refine .some (a:= .int (Bk ns).length) (b:=h1) ?_ q;show (lget h1 i).bind (λxs=>(intsV xs).bind _)=_;rw[e1];show (intsV xs).bind _=_;rw[e2];show (if ns.length<=20 then _ else _)=_;rw[if_pos hl];rfl))
theorem Kt{xs:List X}(h:B6 d xs U hp λvs h1=> ∃a c n,B5 vs=some (.rng a c n)/\n<=200/\(B3 a c n).length<=200/\Q (.lst h1.length) (h1++[.l (B3 a c n)])):Wev d (.lrange xs) U hp Q:=
 .step (λ_=>rfl) (.bind2 (h.mono λvs h1 h=>by
  refine x34 h ?_;clear h;intro a c n e hn hl q;refine .some (a:= .lst h1.length) (b:=h1++[.l (B3 a c n)]) ?_ q;dsimp only;rw[e];dsimp only;rw[if_pos hn];dsimp only[alloc];rw[if_pos hl]))
theorem M1{a:X}{lo hi:Option X}(h:Wev d a U hp λo h1=>Gk d lo U h1 λl h2=>Gk d hi U h2 λu h3=> ∃j xs ys,o= .lst j/\lget h3 j=some xs/\slice xs l u=some ys/\ys.length<=200/\Q (.lst h3.length) (h3++[.l ys])):Wev d (.slc a lo hi) U hp Q:=
 .step (λ_=>rfl) (.bind2 (h.mono λo h1 h=> .bind2 (h.mono λl h2 h=> .bind2 (h.mono λu h3 h=>by
  refine x35 h ?_;clear h;intro j xs ys z3 e1 e2 hl q;subst z3;refine .some (a:= .lst h3.length) (b:=h3++[.l ys]) ?_ q;show (lget h3 j).bind (λxs=>(slice xs l u).bind (alloc h3))=_;rw[e1];show (slice xs l u).bind _=_;rw[e2];show alloc h3 ys=_;dsimp only[alloc];rw[if_pos hl]))))
theorem Dr(q:Q .none hp):Gk d none U hp Q:= .some rfl q
theorem Gc{x:X}(h:Wev d x U hp Q):Gk d (some x) U hp Q:=h
theorem Bg{a i:X}{j:Nat}{n:Int}{xs:List V}{v:V}(h:Pv d U hp a (.lst j))(k:Pv d U hp i (.int n))(e:lget hp j=some xs)(g:A9 xs n=some v)(q:Q v hp):Wev d (.idx a i) U hp Q:=Do (ev_pv h (ev_pv k ⟨j,n,xs,v,rfl,rfl,e,g,q⟩))
theorem Dz{m:Mth}{o:X}{xs:List X}{i:Nat}{ys:List V}(h:Pv d U hp o (.lst i))(e:lget hp i=some ys)(q:B6 d xs U hp λvs h2=>OpW (C1 m (.lst i) vs h2) Q):Wev d (.met m o xs) U hp Q:=J2 (ev_pv h ⟨i,ys,rfl,e,q⟩)
theorem tr_cmp{op:Cop}{a b:X}(h:Wev d a U hp λu h1=>Wev d b U h1 λv h2=> ∃t,Bd op u v h2=some t/\T t h2):Wtr d (.cmp op a b) U hp T:=
 .step (λ_=>rfl) (.bind2 (h.mono λu h1 h=> .bind2 (h.mono λv h2 h=>let ⟨t,e,q⟩:=h;.some (a:=t) (b:=h2) (by show (Bd op u v h2).bind _=_;rw[e];rfl) q)))
theorem cmp_pv{op:Cop}{a b:X}{u v:V}(h:Pv d U hp a u)(k:Pv d U hp b v)(q: ∃t,Bd op u v hp=some t/\T t hp):Wtr d (.cmp op a b) U hp T:=tr_cmp (ev_pv h (ev_pv k q))
theorem Mp{i:Nat}{v:V}{t:Bool}(h:rget U i=some v)(ht:truthy hp v=some t)(q:T t hp):Wtr d (.var i) U hp T:=
 .step (λ_=>rfl) (.bind2 (Ei h (.some (a:=t) (b:=hp) (by show (truthy hp v).bind _=_;rw[ht];rfl) q)))
theorem tr_lnot{a:X}(h:Wtr d a U hp λb h1=>T (!b) h1):Wtr d (.lnot a) U hp T:=
 .step (λ_=>rfl) (.bind2 (h.mono λb h1 q=> .some rfl q))
theorem Bs(q:T true hp):E5 d U [] hp T:= .some rfl q
theorem Cv{x:X}{l:List X}(h:Wtr d x U hp λb h1=>(b=true->E5 d U l h1 T)/\(b=false->T false h1)):E5 d U (x::l) hp T:=by
 refine .bind2 (f:=λr=>r.tr d x U hp) (h.mono λb h1 h=> ?_);cases b
 ·exact .some rfl (h.2 rfl)
 ·exact h.1 rfl
theorem Kk(q:T false hp):Iy d U [] hp T:= .some rfl q
theorem Fd{x:X}{l:List X}(h:Wtr d x U hp λb h1=>(b=true->T true h1)/\(b=false->Iy d U l h1 T)):Iy d U (x::l) hp T:=by
 refine .bind2 (f:=λr=>r.tr d x U hp) (h.mono λb h1 h=> ?_);cases b
 ·exact h.2 rfl
 ·exact .some rfl (h.1 rfl)
theorem tr_land{xs:List X}(h:E5 d U xs hp T):Wtr d (.land xs) U hp T:= .step (λ_=>rfl) h
theorem tr_lor{xs:List X}(h:Iy d U xs hp T):Wtr d (.lor xs) U hp T:= .step (λ_=>rfl) h
end
section
variable {d:Nat} {U:Rho} {hp:HP} {Q:Fl->Rho->HP->Prop}
noncomputable abbrev Seq(d:Nat)(l:List S)(Q:Fl->Rho->HP->Prop)(f:Fl)(U:Rho)(h:HP):Prop:=match f with
 | .next=>Wex d l U h Q
 | f=>Q f U h
theorem ex_nil(q:Q .next U hp):Wex d [] U hp Q:= .step (λ_=>rfl) (.some rfl q)
theorem ex_cons{st:S}{l:List S}(h:Bi d st U hp (Seq d l Q)):Wex d (st::l) U hp Q:=
 .step (λ_=>rfl) (.bind3 (h.mono λf U1 h1 q=>by
  cases f
  ·exact q
  ·exact .some rfl q
  ·exact .some rfl q
  ·exact .some rfl q))
variable {P:Fl->Rho->HP->Prop}
theorem x_assign{x:Nat}{e:X}(h:Wev d e U hp λv h1=>P .next (rset U x v) h1):Bi d (.assign (.one x) e) U hp P:=
 W2.bind3 (f:=λr=>r.ev d e U hp) (h.mono λ_ _ q=> .some rfl q)
theorem Oh{xs:List Nat}{e:X}(h:Wev d e U hp λv h1=> ∃U',bindT (.many xs) v U=some U'/\P .next U' h1):Bi d (.assign (.many xs) e) U hp P:=
 W2.bind3 (f:=λr=>r.ev d e U hp) (h.mono λv h1 q=>let ⟨U',e,q⟩:=q;.some (a:= .next) (b:=U') (c:=h1) (by show (bindT (.many xs) v U).bind _=_;rw[e];rfl) q)
theorem assign_pv{Q:Fl->Rho->HP->Prop}{x:Nat}{e:X}{v:V}{l:List S}(h:Pv d U hp e v)(q:Wex d l (rset U x v) hp Q):Wex d (.assign (.one x) e::l) U hp Q:=ex_cons (x_assign (ev_pv h q))
theorem assign_w{Q:Fl->Rho->HP->Prop}{x:Nat}{e:X}{l:List S}(h:Wev d e U hp λv h1=>Wex d l (rset U x v) h1 Q):Wex d (.assign (.one x) e::l) U hp Q:=ex_cons (x_assign h)
theorem x_setidx{o i e:X}(h:Wev d e U hp λv h1=>Wev d o U h1 λov h2=>Wev d i U h2 λiv h3=> ∃(j:Nat) (n:Int) (xs:List V),ov= .lst j/\iv= .int n/\lget h3 j=some xs/\0<=n/\n < xs.length/\P .next U (h3.set j (.l (xs.set n.toNat v)))):Bi d (.setidx o i e) U hp P:=
 W2.bind3 (f:=λr=>r.ev d e U hp) (h.mono λv h1 h=>W2.bind3 (f:=λr=>r.ev d o U h1) (h.mono λov h2 h=>W2.bind3 (f:=λr=>r.ev d i U h2) (h.mono λiv h3 h=>by
  refine x36 h ?_;clear h;intro j n xs z3 z4 e h0 hn q;subst z3;subst z4;refine .some (a:= .next) (b:=U) (c:=h3.set j (.l (xs.set n.toNat v))) ?_ q;show (lget h3 j).bind _=_;rw[e];show (if 0<=n && n < xs.length then _ else _)=_;rw[if_pos (by simp[h0,hn])])))
theorem iY{o e:X}(h:Wev d e U hp λv h1=>Wev d o U h1 λov h2=> ∃j k xs ys,ov= .lst j/\v= .lst k/\lget h2 j=some xs/\lget h2 k=some ys/\j≠k/\P .next U (h2.set j (.l ys))):Bi d (.setall o e) U hp P:=
 W2.bind3 (f:=λr=>r.ev d e U hp) (h.mono λv h1 h=>W2.bind3 (f:=λr=>r.ev d o U h1) (h.mono λov h2 h=>by
  refine x46 h ?_;clear h;intro j k xs ys z4 z5 e1 e2 hne q;subst z4;subst z5;refine .some (a:= .next) (b:=U) (c:=h2.set j (.l ys)) ?_ q;show (lget h2 j).bind (λ_=>(lget h2 k).bind _)=_;rw[e1];show (lget h2 k).bind _=_;rw[e2];show (if(j==k)=true then _ else _)=_;rw[if_neg (by simpa using hne)]))
theorem Ma{x:Nat}{op:Bop}{e:X}{m:Int}(hx:rget U x=some (.int m))(h:Wev d e U hp λv h1=> ∃n w,v= .int n/\B7 op (.int m) (.int n) h1=some (w,h1)/\P .next (rset U x w) h1):Bi d (.aug x op e) U hp P:=by
 show W3 (λr=>(rget U x).bind λu=>r.ev d e U hp >>= _) P;rw[hx];refine W2.bind3 (f:=λr=>r.ev d e U hp) (h.mono λv h1 h=> ?_);refine x23 h ?_;clear h;intro n w z2 e q;subst z2;refine .some (a:= .next) (b:=rset U x w) (c:=h1) ?_ q;show (B7 op (.int m) (.int n) h1).bind _=_;rw[e];rfl
theorem x_expr{e:X}(h:Wev d e U hp λv h1=>v= .none/\P .next U h1):Bi d (.expr e) U hp P:=
 W2.bind3 (f:=λr=>r.ev d e U hp) (h.mono λv h1 h=>by obtain⟨rfl,q⟩:=h;exact .some rfl q)
theorem x_if{c:X}{a b:List S}(h:Wtr d c U hp λt h1=>(t=true->Wex d a U h1 P)/\(t=false->Wex d b U h1 P)):Bi d (.if_ c a b) U hp P:=
 W2.bind3 (f:=λr=>r.tr d c U hp) (h.mono λt h1 h=>by
  cases t
  ·exact h.2 rfl
  ·exact h.1 rfl)
theorem x_ret{e:X}(h:Wev d e U hp λv h1=>P (.ret v) U h1):Bi d (.ret e) U hp P:=
 W2.bind3 (f:=λr=>r.ev d e U hp) (h.mono λ_ _ q=> .some rfl q)
theorem ret_w{Q:Fl->Rho->HP->Prop}{e:X}{l:List S}(h:Wev d e U hp λv h1=>Q (.ret v) U h1):Wex d (.ret e::l) U hp Q:=ex_cons (x_ret h)
theorem x_brk(q:P .brk U hp):Bi d .brk U hp P:= .some rfl q
theorem x_cont(q:P .cont U hp):Bi d .cont U hp P:= .some rfl q
theorem BI{o i:X}(h:Wev d o U hp λov h1=>Wev d i U h1 λiv h2=> ∃k l,ov= .hdr k/\h2[k]? =some (.d l)/\As d 144 [.hdr k,iv] h2 λv h3=>v= .none/\P .next U h3):Bi d (.del o i) U hp P:=
 W2.bind3 (f:=λr=>r.ev d o U hp) (h.mono λov h1 h=>W2.bind3 (f:=λr=>r.ev d i U h1) (h.mono λiv h2 h=>by
  obtain⟨k,l,rfl,e,h⟩:=h;dsimp only;rw[e];show W3 (λr=>r.call d 144 [.hdr k,iv] h2 >>= _) P;refine W2.bind3 (h.mono λv h3 h=> ?_);obtain⟨rfl,q⟩:=h;exact .some rfl q))
noncomputable abbrev Ex(d:Nat)(P:Fl->Rho->HP->Prop)(N:Rho->HP->Prop)(f:Fl)(U:Rho)(h:HP):Prop:=match f with
 | .next=>N U h
 | .cont=>N U h
 | .brk=>P .next U h
 | .ret v=>P (.ret v) U h
theorem G2{c:X}{b:List S}(Inv:Nat->Rho->HP->Prop)(k:Nat)(h0:Inv k U hp)
  (step: ∀k U hp,Inv k U hp->Wtr d c U hp λt h1=>(t=true->Wex d b U h1 (Ex d P λU2 h2=> ∃k',k' < k/\Inv k' U2 h2))/\(t=false->P .next U h1)):Bi d (.while_ c b) U hp P:=by
 have go: ∀(k:Nat) U hp,Inv k U hp->Wwl d c b U hp P:=by
  intro k;induction k using g7N with
  | ind k ih=>
   intro U hp h0;refine .step (λ_=>rfl) (W2.bind3 (f:=λr=>r.tr d c U hp) ((step k U hp h0).mono λt h1 h=> ?_));cases t
   ·exact .some rfl (h.2 rfl)
   ·refine .bind3 (f:=λr=>r.ex d b U h1) ((h.1 rfl).mono λf U2 h2 q=> ?_)
    cases f with
    | next=>refine x12 q ?_;clear q;intro k' hk q;exact ih k' hk U2 h2 q
    | cont=>refine x12 q ?_;clear q;intro k' hk q;exact ih k' hk U2 h2 q
    | brk=>exact .some rfl q
    | ret v=>exact .some rfl q
 exact go k U hp h0
theorem Bu{t:T}{it:It}{b:List S}(h:Iv d it U hp λj h1=>Wfl d t j b U h1 P):Bi d (.for_ t it b) U hp P:=
 W2.bind3 (f:=λr=>r.itr d it U hp) h
theorem Dp{xs:List X}{J:Itr->HP->Prop}(h:B6 d xs U hp λvs h1=> ∃j,B5 vs=some j/\J j h1):Iv d (.rng xs) U hp J:=
 .step (λ_=>rfl) (.bind2 (f:=λr=>r.evs d xs U hp) (h.mono λvs h1 h=>by
  refine x12 h ?_;clear h;intro j e q;refine .some (a:=j) (b:=h1) ?_ q;show (B5 vs).bind _=_;rw[e];rfl))
theorem Ck{e:X}{J:Itr->HP->Prop}(h:Wev d e U hp λv h1=> ∃j,Gq h1 v=some j/\J j h1):Iv d (.ex e) U hp J:=
 .step (λ_=>rfl) (.bind2 (f:=λr=>r.ev d e U hp) (h.mono λv h1 h=>by
  refine x12 h ?_;clear h;intro j e q;refine .some (a:=j) (b:=h1) ?_ q;show (Gq h1 v).bind _=_;rw[e];rfl))
theorem Mi{t:T}{j:Itr}{b:List S}(h:Ca hp j=some none)(q:P .next U hp):Wfl d t j b U hp P:=
 .step (g:=λ_=>some (Fl.next,U,hp)) (λr=>by show (Ca hp j).bind _=_;rw[h];rfl) (.some rfl q)
theorem M3{t:T}{j j':Itr}{b:List S}{v:V}{U1:Rho}(h:Ca hp j=some (some (v,j')))(hb:bindT t v U=some U1)
  (q:Wex d b U1 hp (Ex d P λU2 h2=>Wfl d t j' b U2 h2 P)):Wfl d t j b U hp P:=by
 refine .step (g:=λr=>r.ex d b U1 hp >>= λp=>match p.1 with
   | .next| .cont=>r.fl d t j' b p.2.1 p.2.2
   | .brk=>some (.next,p.2.1,p.2.2)
   | .ret v=>some (.ret v,p.2.1,p.2.2)) (λr=> ?_) (.bind3 (f:=λr=>r.ex d b U1 hp) (q.mono λf U2 h2 q=> ?_))
 ·show (Ca hp j).bind _=_
  rw[h];show (bindT t v U).bind _=_;rw[hb];rfl
 ·cases f with
  | next=>exact q
  | cont=>exact q
  | brk=>exact .some rfl q
  | ret v=>exact .some rfl q
theorem P6{x:Nat}{b:List S}{a c:Int}{n:Nat}(Inv:Nat->Rho->HP->Prop)(h0:Inv 0 U hp)(hP: ∀U hp,Inv n U hp->P .next U hp)
  (step: ∀k U hp,k < n->Inv k U hp->Wex d b (rset U x (.int (a+k*c))) hp (Ex d P λU2 h2=>Inv (k+1) U2 h2)):Wfl d (.one x) (.rng a c n) b U hp P:=by
 have go: ∀(m k:Nat) U hp,k+m=n->Inv k U hp->Wfl d (.one x) (.rng (a+k*c) c m) b U hp P:=by
  intro m;induction m with
  | zero=>intro k U hp hk h;exact Mi rfl (hP _ _ (by rw[<-hk];exact h))
  | succ m ih=>
   intro k U hp hk h;refine M3 (v:= .int (a+k*c)) (j':= .rng (a+k*c+c) c m) rfl rfl ((step k U hp (D9 hk) h).mono λf U2 h2 q=> ?_);have nx:Inv (k+1) U2 h2->Wfl d (.one x) (.rng (a+k*c+c) c m) b U2 h2 P:=by
    intro z;have:=ih (k+1) U2 h2 (Cn hk) z;have e:a+((k+1:Nat):Int)*c=a+k*c+c:=by rw[g3W,g7T];simp[g2Q]
    rwa [e] at this
   cases f with
   | next=>exact nx q
   | cont=>exact nx q
   | brk=>exact q
   | ret v=>exact q
 have:=go n 0 U hp (Ff) h0;simpa using this
theorem Fw{t:T}{b:List S}{i:Nat}{xs:List V}(Inv:Nat->Rho->HP->Prop)(h0:Inv 0 U hp)(hx: ∀k U hp,Inv k U hp->lget hp i=some xs)(hP: ∀U hp,Inv xs.length U hp->P .next U hp)
  (step: ∀k v U hp,xs[k]? =some v->Inv k U hp->∃U1,bindT t v U=some U1/\Wex d b U1 hp (Ex d P λU2 h2=>Inv (k+1) U2 h2)):Wfl d t (.lst i 0) b U hp P:=by
 have go: ∀(m k:Nat) U hp,k+m=xs.length->Inv k U hp->Wfl d t (.lst i k) b U hp P:=by
  intro m;induction m with
  | zero=>
   intro k U hp hk h;refine Mi ?_ (hP _ _ (by rw[<-hk];exact h));show (lget hp i).bind _=_;rw[hx _ _ _ h];show (match xs[k]? with|some v=>_|none=>_)=_;rw[g0H (Ip hk.symm)]
  | succ m ih=>
   intro k U hp hk h;refine x11 (show ∃a,xs[k]? =some a from ⟨_,aD (D9 hk)⟩) ?_;intro uk hv;refine x12 (step k _ U hp hv h) ?_;intro U1 e1 w;refine M3 (v:=uk) (j':= .lst i (k+1)) ?_ e1 (w.mono λf U2 h2 q=> ?_)
   ·show (lget hp i).bind _=_
    rw[hx _ _ _ h];show (match xs[k]? with|some v=>_|none=>_)=_;rw[hv]
   ·cases f with
    | next=>exact ih (k+1) U2 h2 (Cn hk) q
    | cont=>exact ih (k+1) U2 h2 (Cn hk) q
    | brk=>exact q
    | ret v=>exact q
 exact go xs.length 0 U hp (Ff) h0
end
theorem Bf{d:Nat}{a:cK}{vs:List V}{hp:HP}{fn:Fn}{Q:V->HP->Prop}(he:Fh a vs hp=none)(hf:ft a=some fn)(hl:(fn.params.length==vs.length)=true)
  (h:Wex d fn.body (fn.params.zip vs) hp λf _ h=>match f with| .ret v=>Q v h| .next=>Q .none h|_=>False):As (d+1) a vs hp Q:=by
 refine .step (g:=λr=>r.ex d fn.body (fn.params.zip vs) hp >>= λp=>match p.1 with
   | .ret v=>some (v,p.2.2)
   | .next=>some (.none,p.2.2)
   | _=>none) (λr=> ?_) (W3.bind2 (h.mono λf U2 h2 q=> ?_))
 ·show callF eC r (d+1) a vs hp=_
  dsimp only[callF];show (match Fh a vs hp with|some x=>_|none=>_)=_;rw[he];dsimp only;show (match ft a with|none=>_|some fn=>_)=_;rw[hf];dsimp only;rw[if_pos hl];rfl
 ·cases f with
  | next=>exact .some rfl q
  | ret v=>exact .some rfl q
  | brk=>exact q.elim
  | cont=>exact q.elim
theorem Sp{d:Nat}{a:cK}{vs:List V}{hp hp':HP}{v:V}{Q:V->HP->Prop}(hd:3<=d)(he:Fh a vs hp=some (v,hp'))(q:Q v hp'):As d a vs hp Q:=by
 refine .step (g:=λ_=>some (v,hp')) (λr=> ?_) (.some rfl q);show callF eC r d a vs hp=_;dsimp only[callF];show (match Fh a vs hp with|some x=>_|none=>_)=_;rw[he];dsimp only;rw[if_pos hd]
theorem rget_same{U:Rho}{i:Nat}{v:V}:rget (rset U i v) i=some v:=by rw[rget_rset];exact if_pos rfl
theorem D0{U:Rho}{i k:Nat}{v:V}(h:k≠i):rget (rset U i v) k=rget U k:=by rw[rget_rset,if_neg h]
theorem nF{loc:List Nat}{U:Rho}{k:Nat}(h:loc.any (λi=>aW i k)=false):rget (Av loc U) k=rget U k:=by
 induction U with
 | nil=>rfl
 | cons p r ih=>
  obtain⟨j,v⟩:=p;dsimp only[Av];cases hj:loc.any (λi=>aW i j) with
  | true=>
   simp only;rw[ih];unfold rget;cases hk:aW k j with
   | true=>
    have:=aR hk;subst this;rw[h] at hj;cases hj
   | false=>
    simp only;cases r <;> rfl
  | false=>
   simp only;dsimp only[rget];cases hk:aW k j with
   | true=>rfl
   | false=>simp only;exact ih
theorem rget_nx{U:Rho}{i k:Nat}{v:V}{o:Option V}(b:aW k i=false)(h:rget U k=o):rget (rset U i v) k=o:=(D0 (g0U b)).trans h
theorem rget_fx{loc:List Nat}{U:Rho}{k:Nat}{o:Option V}(b:loc.any (λi=>aW i k)=false)(h:rget U k=o):rget (Av loc U) k=o:=(nF b).trans h
end
set_option compiler.extract_closed false
local macro_rules
 | `(tactic| walk_at $s:str) =>
  let q (k : String) (a : List Lean.Syntax) : Lean.Syntax := .node .none (.str `Lean.Parser.Tactic k) ⟨a⟩
  let c w : Lean.Syntax := .atom .none w
  let t := s.getString
  let l := if t == "rg" then "rfl|assumption|rget_same|rget_nx rfl rg|rget_fx rfl rg|" else if t == "pv" then "pv_k|pv_var rg|pvs_nil|pvs_cons pv pv|" else if t == "ev" then "bin_pv pv pv|cmp_pv pv pv|assign_pv pv|ev_pv pv|evs_pv pv|evs_p pv|bin_p pv|call_pv pv|builtin_pv pv|assign_w|ret_w|ex_cons|ex_nil|x_assign|x_ret|x_expr|x_brk|x_cont|x_setidx|x_if|evs_cons|ev_bin|ev_call|ev_builtin|ev_tup|ev_list|tr_cmp|tr_lnot|tr_land|tr_lor|ev_cmp|" else if t == "go" then "ev go|skip|" else ""
  let (_, _, r) := l.foldl (λ(w, z, r) x =>
   if x == ' ' || x == '|' then
    let z := z ++ [if w.length == 2 then .node .none `PyProof.Rows.tacticWalk_at_ #[c "walk_at", Lean.Syntax.mkStrLit w] else if w == "skip" || w == "assumption" then q w [c w] else q "apply" [c "apply", Lean.mkIdent (.mkSimple w)], c ";"]
    if x == '|' then ("", [], r ++ [.node .none `group #[c "|", q "tacticSeq" [q "tacticSeq1Indented" [.node .none `null ⟨z⟩]]]])
    else ("", z, r)
   else (w.push x, z, r)) ("", ([] : List Lean.Syntax), ([] : List Lean.Syntax))
  if l == "" then Lean.Macro.throwUnsupported else pure (q "first" [c "first", .node .none `null ⟨r⟩])
section
theorem lget_set_self{hp:HP}{i:Nat}{xs:List V}(h:i < hp.length):lget (hp.set i (.l xs)) i=some xs:=by
 unfold lget;rw[bW h]
theorem set_set{hp:HP}{i:Nat}{a b:O}:(hp.set i a).set i b=hp.set i b:=by simp
theorem Az{α:Type}{xs:List α}{k:Nat}:A9 xs (k:Int)=xs[k]? :=by
 unfold A9;rw[if_pos (Q169)];simp
theorem Tr{α:Type}{xs:List α}{p:Nat}{x:α}(h:xs[p]? =some x):xs.set p x=xs:=by
 apply gAG;intro k;by_cases hk:p=k
 ·subst hk;rw[bW (aF.mp h).1,h]
 ·rw[aZ hk]
structure SW(lt:V->V->Bool):Prop where
 asym: ∀a b,lt a b=true->lt b a=false
 ntr: ∀a b c,lt a b=false->lt b c=false->lt a c=false
theorem SW.tr{lt}(o:SW lt){a b c:V}(h1:lt a b=true)(h2:lt b c=true):lt a c=true:=by
 cases h:lt a c with
 | true=>rfl
 | false=>rw[o.ntr a c b h (o.asym _ _ h2)] at h1;cases h1
theorem SW.irr{lt}(o:SW lt)(a:V):lt a a=false:=by
 cases h:lt a a with
 | false=>rfl
 | true=>rw[o.asym _ _ h] at h;cases h
noncomputable def C9(lt:V->V->Bool)(ys:List V):Prop:= ∀(k:Nat) a b,0 < k->ys[k]? =some a->ys[(k - 1) / 2]? =some b->lt a b=false
structure HU(lt:V->V->Bool)(ys:List V)(p:Nat):Prop where
 h1: ∀(k:Nat) a b,0 < k->k≠p->(k - 1) / 2≠p->ys[k]? =some a->ys[(k - 1) / 2]? =some b->lt a b=false
 h3: ∀(k:Nat) a b,0 < k->(k - 1) / 2=p->0 < p->ys[k]? =some a->ys[(p - 1) / 2]? =some b->lt a b=false
structure HH(lt:V->V->Bool)(ys:List V)(p:Nat)(x:V):Prop extends HU lt ys p where
 h2: ∀(k:Nat) a,0 < k->(k - 1) / 2=p->ys[k]? =some a->lt a x=false
theorem Mm{k n:Nat}(h:k < n):(k - 1) / 2 < n:=g5Z (bR (Nat.div_le_self _ _) (bV _ _)) h
theorem Dw{n:Int}(h: -4611686018427387904<=n/\n < 4611686018427387904):fit n=true:=by simp[fit];exact h
theorem Gy{n:Nat}(h:(n:Int) < 4611686018427387904):fit n=true:=by simp[fit];exact h
section
variable {lt:V->V->Bool} (o:SW lt) {ys:List V} {p:Nat} {x y:V}
include o
theorem HH.close(h:HH lt ys p x)(hp:p < ys.length)(he:p=0\/∃y,ys[(p - 1) / 2]? =some y/\lt x y=false):C9 lt (ys.set p x):=by
 intro k a b hk ha hb;clear o;by_cases h1:k=p
 ·clear h;subst h1
  rw[bW hp] at ha;cases ha;rw[aZ (V5 hk)] at hb;rcases he with he|⟨y,e,hy⟩
  ·exact V6 he hk
  ·clear hk hp;rw[e] at hb;cases hb;exact hy
 ·rw[aZ (g0F h1)] at ha
  clear he;by_cases h2:(k - 1) / 2=p
  ·rw[h2,bW hp] at hb
   clear hp h1;cases hb;exact h.h2 k a hk h2 ha
  ·rw[aZ (g0F h2)] at hb
   exact h.h1 k a b hk h1 h2 ha hb
theorem HH.up(h:HH lt ys p x)(hp:p < ys.length)(h0:0 < p)(hy:ys[(p - 1) / 2]? =some y)(hlt:lt x y=true):HH lt (ys.set p y) ((p - 1) / 2) x:=by
 have hq:(p - 1) / 2≠p:=qH h0;have sib: ∀(k:Nat) a,0 < k->k≠p->(k - 1) / 2=(p - 1) / 2->ys[k]? =some a->lt a y=false:=λk a hk hkp e ha=>
  h.h1 k a y hk hkp (qI e.symm hq) ha (by rw[e];exact hy)
 refine⟨⟨λk a b hk hkq hpq ha hb=> ?_,λk a b hk hpk hq0 ha hb=> ?_⟩,λk a hk hpk ha=> ?_⟩
 ·clear o hlt sib;by_cases h1:k=p
  ·clear h hy ha hb;subst h1;exact absurd rfl hpq
  ·rw[aZ (g0F h1)] at ha
   clear hq hkq hpq;by_cases h2:(k - 1) / 2=p
   ·rw[h2,bW hp] at hb
    clear hp h1;cases hb;exact h.h3 k a y hk h2 h0 ha hy
   ·rw[aZ (g0F h2)] at hb
    exact h.h1 k a b hk h1 h2 ha hb
 ·rw[aZ (qJ hq0)] at hb
  have yb:lt y b=false:=h.h1 ((p - 1) / 2) y b hq0 hq (qK hq0) hy hb;clear h h0 hy hlt hq hq0 hb;by_cases h1:k=p
  ·clear o sib hk hpk;subst h1
   rw[bW hp] at ha;clear hp;cases ha;exact yb
  ·rw[aZ (g0F h1)] at ha
   exact o.ntr _ _ _ (sib k a hk h1 hpk ha) yb
 ·clear h h0 hy hq;by_cases h1:k=p
  ·clear sib hk hpk;subst h1
   rw[bW hp] at ha;clear hp;cases ha;exact o.asym _ _ hlt
  ·rw[aZ (g0F h1)] at ha
   clear hp;cases hax:lt a x with
   | false=>rfl
   | true=>have:=o.tr hax hlt;rw[sib k a hk h1 hpk ha] at this;cases this
theorem HU.down{c:Nat}(h:HU lt ys p)(hp:p < ys.length)(hc:(c - 1) / 2=p)(hc0:0 < c)(hy:ys[c]? =some y)(hmin: ∀(k:Nat) a,0 < k->(k - 1) / 2=p->ys[k]? =some a->lt a y=false):HU lt (ys.set p y) c:=by
 have hcp:c≠p:=V7 hc hc0;refine⟨λk a b hk hkc hpc ha hb=> ?_,λk a b hk hpk _ ha hb=> ?_⟩
 ·clear o;by_cases h1:k=p
  ·clear hmin;subst h1
   rw[bW hp] at ha;cases ha;rw[aZ (V5 hk)] at hb;exact h.h3 c y b hc0 hc hk hy hb
  ·rw[aZ (g0F h1)] at ha
   clear hc hc0 hy hcp hkc hpc;by_cases h2:(k - 1) / 2=p
   ·rw[h2,bW hp] at hb
    clear h hp h1;cases hb;exact hmin k a hk h2 ha
   ·rw[aZ (g0F h2)] at hb
    exact h.h1 k a b hk h1 h2 ha hb
 ·rw[hc,bW hp] at hb
  clear o hmin;cases hb;rw[aZ (qL hpk hc hc0)] at ha;exact h.h1 k a y hk (qM hpk hc hc0) (qN hpk hcp.symm) ha (by rw[hpk];exact hy)
theorem C9.min(h:C9 lt ys)(h0:ys[0]? =some x): ∀(k:Nat) a,ys[k]? =some a->lt a x=false:=by
 intro k;induction k using g7N with
 | ind k ih=>
  intro a ha;by_cases hk:k=0
  ·clear h ih;subst hk;rw[h0] at ha;cases ha;exact o.irr _
  ·have hl:=(aF.mp ha).1
   have hp:=Mm hl;have hb:ys[(k - 1) / 2]? =some ys[(k - 1) / 2]:=aD hp;exact o.ntr _ _ _ (h k a _ (qP hk) ha hb) (ih ((k - 1) / 2) (qQ hk) _ hb)
end
theorem Vv{ys:List V}{p q:Nat}{x y:V}(hp:p < ys.length)(hq:ys[q]? =some y)(hne:q≠p):((ys.set p y).set q x).Perm (ys.set p x):=by
 refine x11 (aF.mp hq) ?_;intro hql hyq;have hp':p < (ys.set p x).length:=by simpa using hp
 have hq':q < (ys.set p x).length:=by simpa using hql
 have a1:(ys.set p x)[q]=y:=by rw[List.getElem_set_ne (g0F hne)];exact hyq
 have a2:(ys.set p x)[p]=x:=List.getElem_set_self ..;have:=List.set_set_perm (as:=ys.set p x) hp' hq';rw[a1,a2,List.set_set] at this;exact this
theorem Vm{d:Nat}{hp:HP}{i:Nat}{xs:List V}{p:Nat}{x:V}{lt:V->V->Bool}{It:V->Prop}{Q:V->HP->Prop}(o:SW lt)(hi:i < hp.length)(hl:xs.length<=200)(hx:xs[p]? =some x)
  (it: ∀v∈xs,It v) (hlt: ∀a b ys,It a->It b->vlt (hp.set i (.l ys)) a b=some (lt a b)) (hh:HH lt xs p x)
  (q: ∀zs,zs.Perm xs->C9 lt zs->Q .none (hp.set i (.l zs))):As (d+1) 59 [.lst i,.int 0,.int p] (hp.set i (.l xs)) Q:=by
 refine Bf rfl rfl rfl ?_;have hpl:=(aF.mp hx).1;have lg: ∀ys,lget (hp.set i (.l ys)) i=some ys:=λys=>lget_set_self hi;show Wex d b59 [(0,.lst i),(4,.int 0),(5,.int p)] (hp.set i (.l xs)) _;unfold b59;walk_at"go";refine Bg (j:=i) (n:=p) (xs:=xs) (v:=x) (by walk_at"pv") (by walk_at"pv") (lg xs) (by rw[Az];exact hx) ?_;walk_at"ev";let I1:Nat->Rho->HP->Prop:=λk U h=> ∃ys,h=hp.set i (.l ys)/\rget U 0=some (.lst i)/\rget U 4=some (.int 0)/\rget U 5=some (.int k)/\rget U 6=some x/\k < ys.length/\ys.length=xs.length/\(ys.set k x).Perm xs/\HH lt ys k x;refine G2 I1 p ?_ ?_
 ·exact⟨xs,rfl,rfl,rfl,rfl,rfl,hpl,rfl,by rw[Tr hx],hh⟩
 ·clear hh;intro k U h zz;refine x18 zz ?_;clear zz;intro ys z1 r0 r4 r5 r6 hk hlen zz;refine x02 zz ?_;clear zz;intro hperm hH;subst z1
  have itys: ∀(j:Nat) v,j≠k->ys[j]? =some v->It v:=λj v hj hv=>it v (hperm.subset (aU (i:=j) (by rw[aZ (g0F hj)];exact hv)));have itx:It x:=it x (aU hx);have fin: ∀U',rget U' 0=some (.lst i)->rget U' 5=some (.int k)->rget U' 6=some x->(k=0\/∃y,ys[(k - 1) / 2]? =some y/\lt x y=false)->
    Wex d [(.setidx (.var 0) (.var 5) (.var 6))] U' (hp.set i (.l ys)) (λf _ h=>match f with| .ret v=>Q v h| .next=>Q .none h|_=>False):=by
   intro U' r0 r5 r6 he;walk_at"go";refine⟨i,k,ys,rfl,rfl,lg ys,Q169,Ow hk,?_⟩;walk_at"ev";rw[set_set];refine q _ ?_ (hH.close o hk he);simpa using hperm
  walk_at"go";refine⟨decide ((k:Int) > 0),rfl,λht=> ?_,λht=> ?_⟩
  ·have hk0:0 < k:=by simpa using ht
   walk_at"go";refine .some (a:= .int ((k:Int) - 1)) rfl ?_;walk_at"ev";refine .some (a:= .int (((k - 1) / 2:Nat):Int)) (b:=hp.set i (.l ys)) ?_ ?_
   ·have e1:(k:Int) - 1=((k - 1:Nat):Int):=by exact qR (of_decide_eq_true ht)
    show (if _ then _ else _)=_;rw[if_pos]
    ·rw[e1];rfl
    ·have q:=qS (of_decide_eq_true ht) hk hlen hl
     exact aV.2 ⟨aV.2 ⟨decide_eq_true (Int.sub_nonneg_of_le q.1),rfl⟩,Dw q.2⟩
   walk_at"go";refine Do ?_;walk_at"go";have hkp:=Mm hk;have hy:ys[(k - 1) / 2]? =some ys[(k - 1) / 2]:=aD hkp;generalize ys[(k - 1) / 2]=y at hy;refine⟨i,_,ys,y,rfl,rfl,lg ys,by rw[Az];exact hy,?_⟩;walk_at"go";have ity:It y:=itys _ _ (V8 (of_decide_eq_true ht)) hy;refine⟨lt x y,hlt _ _ _ itx ity,λhc=> ?_,λhc=> ?_⟩
   ·walk_at"go"
    refine⟨i,k,ys,rfl,rfl,lg ys,Q169,Ow hk,?_⟩;walk_at"go";refine⟨(k - 1) / 2,qT (of_decide_eq_true ht),ys.set k y,by rw[set_set];simp,by walk_at"rg",by walk_at"rg",by walk_at"rg",by walk_at"rg",by simp;exact qO hk,by simp[hlen],?_,hH.up o hk hk0 hy hc⟩;exact(Vv hk hy (V8 (of_decide_eq_true ht))).trans hperm
   ·walk_at"ev"
    walk_at"ev";walk_at"ev";exact fin _ (by walk_at"rg") (by walk_at"rg") (by walk_at"rg") (.inr ⟨y,hy,hc⟩)
  ·have hk0:k=0:=by simpa using ht
   exact fin _ r0 r5 r6 (.inl hk0)
theorem Vh{d:Nat}{hp:HP}{i:Nat}{xs:List V}{x:V}{lt:V->V->Bool}{It:V->Prop}{Q:V->HP->Prop}(o:SW lt)(hxs:lget hp i=some xs)(hl:xs.length < 200)
  (it: ∀v∈xs,It v) (itx:It x) (hlt: ∀a b ys,It a->It b->vlt (hp.set i (.l ys)) a b=some (lt a b)) (hh:C9 lt xs)
  (q: ∀zs,zs.Perm (xs++[x])->C9 lt zs->Q .none (hp.set i (.l zs))):As (d+2) 45 [.lst i,x] hp Q:=by
 refine Bf rfl rfl rfl ?_;have hi:i < hp.length:=(aF.mp (Fb hxs)).1;show Wex (d+1) b45 [(0,.lst i),(1,x)] hp _;unfold b45;walk_at"go";refine J2 ?_;walk_at"ev";refine⟨i,xs,rfl,hxs,?_⟩;walk_at"go";refine .some (a:= .none) (b:=hp.set i (.l (xs++[x]))) ?_ ⟨rfl,?_⟩
 ·show (lget hp i).bind _=_
  rw[hxs];exact if_pos hl
 have lg:lget (hp.set i (.l (xs++[x]))) i=some (xs++[x]):=lget_set_self hi;walk_at"go";refine OpW.some (a:=V.int ((xs++[x]).length:Nat)) (b:=hp.set i (.l (xs++[x]))) ?_ ?_
 ·show (lget _ i).bind _=_
  rw[lg];rfl
 walk_at"ev";have e1:(((xs++[x]).length:Nat):Int) - 1=((xs.length:Nat):Int):=by simp
 refine OpW.some (a:=V.int (xs.length:Nat)) (b:=hp.set i (.l (xs++[x]))) (by show some (V.int _,_)=_;rw[e1]) ?_;walk_at"ev";refine Vm (lt:=lt) (It:=It) (x:=x) o hi (by simp;exact Q66 hl rfl) (cF) (λv hv=> ?_) hlt ?_ λzs hz1 hz2=>⟨rfl,?_⟩
 ·clear o hxs hl hlt hh q hi lg e1;rcases aY.mp hv with hv|hv
  ·exact it v hv
  ·rw[aK.mp hv];exact itx
 ·refine⟨⟨λk a b hk hkp hpp ha hb=> ?_,λk a b hk hpk _ ha hb=> ?_⟩,λk a hk hpk ha=> ?_⟩
  ·have hkl:=(aF.mp ha).1
   have h1:k < xs.length:=bH (g0X (by simpa using hkl)) hkp;rw[bT h1] at ha;rw[bT (Mm h1)] at hb;exact hh k a b hk ha hb
  ·have hkl:=(aF.mp ha).1
   simp at hkl;exact V9 hpk hkl hk
  ·have hkl:=(aF.mp ha).1
   simp at hkl;exact V9 hpk hkl hk
 ·walk_at"ev"
  exact q zs hz1 hz2
theorem Xx{h:HP}{k:Nat}(hk:k < 1000):B7 .mul (.int 2) (.int (k:Int)) h=some (.int ((2*k:Nat):Int),h):=by
 have hf:(fit 2 && fit (k:Int))=true:=aV.2 ⟨rfl,Gy (Ox hk)⟩;rw[Yr,if_pos hf,Int.natCast_mul];rfl
theorem kW{d:Nat}{hp:HP}{i:Nat}{xs:List V}{x:V}{lt:V->V->Bool}{It:V->Prop}{Q:V->HP->Prop}(o:SW lt)(hi:i < hp.length)(hl:xs.length<=200)(hx:xs[0]? =some x)
  (it: ∀v∈xs,It v) (hlt: ∀a b ys,It a->It b->vlt (hp.set i (.l ys)) a b=some (lt a b)) (hh:HU lt xs 0)
  (q: ∀zs,zs.Perm xs->C9 lt zs->Q .none (hp.set i (.l zs))):As (d+2) 66 [.lst i,.int 0] (hp.set i (.l xs)) Q:=by
 refine Bf rfl rfl rfl ?_;have lg: ∀ys,lget (hp.set i (.l ys)) i=some ys:=λys=>lget_set_self hi;have hpl:=(aF.mp hx).1;have itx:It x:=it x (aU hx);show Wex (d+1) b66 [(0,.lst i),(5,.int 0)] (hp.set i (.l xs)) _;unfold b66;walk_at"go";refine OpW.some (a:=V.int (xs.length:Nat)) (b:=hp.set i (.l xs)) ?_ ?_
 ·show (lget _ i).bind _=_
  rw[lg];rfl
 walk_at"go";refine Bg (j:=i) (n:=0) (xs:=xs) (v:=x) (by walk_at"pv") (by walk_at"pv") (lg xs) (by rw[<-hx];exact Az (k:=0)) ?_;walk_at"go";refine OpW.some (Xx (k:=0) (qU rfl)) ?_;walk_at"go";refine OpW.some (a:=V.int ((2*0+1:Nat):Int)) rfl ?_;walk_at"ev";let I2:Nat->Rho->HP->Prop:=λm U h=> ∃p ys,m=xs.length - p/\h=hp.set i (.l ys)/\rget U 0=some (.lst i)/\rget U 4=some (.int 0)/\rget U 5=some (.int (p:Nat))/\rget U 6=some x/\rget U 9=some (.int (xs.length:Nat))/\rget U 10=some (.int ((2*p+1:Nat):Int))/\p < ys.length/\ys.length=xs.length/\(ys.set p x).Perm xs/\HU lt ys p;refine G2 I2 (xs.length - 0) ?_ ?_
 ·exact⟨0,xs,rfl,rfl,rfl,rfl,rfl,rfl,rfl,rfl,hpl,rfl,by rw[Tr hx],hh⟩
 ·clear hx hh itx;intro m U h zz;refine x28 zz ?_;clear zz;intro p ys z1 z2 r0 r4 r5 r6 r9 zz;refine x05 zz ?_;clear zz;intro r10 hp' hlen hperm hH;subst z1;subst z2
  have itys: ∀(j:Nat) v,j≠p->ys[j]? =some v->It v:=λj v hj hv=>it v (hperm.subset (aU (i:=j) (by rw[aZ (g0F hj)];exact hv)));walk_at"go";refine⟨decide (((2*p+1:Nat):Int) < (xs.length:Nat)),rfl,λht=> ?_,λht=> ?_⟩
  ·have hc:2*p+1 < ys.length:=by simp at ht;exact qV ht hlen
   have key: ∀(c:Nat) U',(c - 1) / 2=p->0 < c->c < ys.length->rget U' 0=some (.lst i)->rget U' 4=some (.int 0)->rget U' 5=some (.int (p:Nat))->rget U' 6=some x->rget U' 9=some (.int (xs.length:Nat))->rget U' 10=some (.int (c:Nat))->
     (∀(k:Nat) a,0 < k->(k - 1) / 2=p->ys[k]? =some a->lt a (ys.getD c .none)=false)->
     Wex (d+1) [(.setidx (.var 0) (.var 5) (.idx (.var 0) (.var 10))),(.assign (.one 5) (.var 10)),(.assign (.one 10) (.bin .add (.bin .mul (.k (.int 2)) (.var 5)) (.k (.int 1))))] U' (hp.set i (.l ys))
      (Ex (d+1) (Seq (d+1) [(.setidx (.var 0) (.var 5) (.var 6)),(.expr (.app (.ref 59) [(.var 0),(.var 4),(.var 5)]))] (λf _ h=>match f with| .ret v=>Q v h| .next=>Q .none h|_=>False)) λU2 h2=> ∃k',k' < xs.length - p/\∃p ys,k'=xs.length - p/\h2=hp.set i (.l ys)/\rget U2 0=some (.lst i)/\rget U2 4=some (.int 0)/\rget U2 5=some (.int (p:Nat))/\rget U2 6=some x/\rget U2 9=some (.int (xs.length:Nat))/\rget U2 10=some (.int ((2*p+1:Nat):Int))/\p < ys.length/\ys.length=xs.length/\(ys.set p x).Perm xs/\HU lt ys p):=by
    intro c U' hcp hc0 hcl r0 r4 r5 r6 r9 r10 hmin;have hy:ys[c]? =some ys[c]:=aD hcl;have hg:ys.getD c .none=ys[c]:=by simp[g8T,hy]
    rw[hg] at hmin;generalize ys[c]=y at hy hmin;walk_at"go";refine Bg (j:=i) (n:=c) (xs:=ys) (v:=y) (by walk_at"pv") (by walk_at"pv") (lg ys) (by rw[Az];exact hy) ?_;walk_at"go";refine⟨i,p,ys,rfl,rfl,lg ys,Q169,qW (of_decide_eq_true ht) hlen,?_⟩;walk_at"go";refine OpW.some (Xx (k:=c) (qX hcl hlen hl rfl)) ?_;walk_at"go";refine OpW.some (a:=V.int ((2*c+1:Nat):Int)) rfl ?_;walk_at"go";refine⟨xs.length - c,qY (of_decide_eq_true ht) hcp hc0,c,ys.set p y,rfl,by rw[set_set];simp,by walk_at"rg",by walk_at"rg",by walk_at"rg",by walk_at"rg",by walk_at"rg",by walk_at"rg",by simpa using hcl,by simp[hlen],?_,hH.down o hp' hcp hc0 hy hmin⟩;exact(Vv hp' hy (V7 hcp hc0)).trans hperm
   walk_at"go";refine OpW.some (a:=V.int ((2*p+1+1:Nat):Int)) rfl ?_;walk_at"go";refine Cv ?_;walk_at"go";have ya:ys[2*p+1]? =some ys[2*p+1]:=aD hc;refine⟨decide (((2*p+1+1:Nat):Int) < (xs.length:Nat)),rfl,λh2=> ?_,λh2=> ?_⟩
   ·have hc2:2*p+2 < ys.length:=by simp at h2;exact qZ h2 hlen
    have yb:ys[2*p+2]? =some ys[2*p+2]:=aD hc2;refine Cv ?_;walk_at"go";refine Bg (j:=i) (xs:=ys) (v:=ys[2*p+1]) (by walk_at"pv") (by walk_at"pv") (lg ys) (by rw[Az];exact ya) ?_;refine Bg (j:=i) (xs:=ys) (v:=ys[2*p+2]) (by walk_at"pv") (by walk_at"pv") (lg ys) (by rw[Az];exact yb) ?_;refine⟨lt ys[2*p+1] ys[2*p+2],hlt _ _ _ (itys _ _ (rA) ya) (itys _ _ (rB) yb),λh3=> ?_,λh3=> ?_⟩
    ·have h3:lt ys[2*p+1] ys[2*p+2]=false:=by simpa using h3
     refine Bs ?_;refine⟨λ_=> ?_,λz=>by cases z⟩;walk_at"ev";walk_at"ev";refine key (2*p+2) _ (rC) (rD) hc2 (by walk_at"rg") (by walk_at"rg") (by walk_at"rg") (by walk_at"rg") (by walk_at"rg") (by walk_at"rg") λk a hk hkp ha=> ?_;have hg:ys.getD (2*p+2) .none=ys[2*p+2]:=by simp[g8T,yb]
     rw[hg];have hk2:k=2*p+1\/k=2*p+2:=R45 hk hkp;clear it hlt q lg r0 r4 r5 r6 r9 r10 hperm hH itys ht key h2 hg;rcases hk2 with rfl|rfl
     ·clear o yb;rw[ya] at ha;cases ha;exact h3
     ·clear ya h3;rw[yb] at ha;cases ha;exact o.irr _
    ·have h3:lt ys[2*p+1] ys[2*p+2]=true:=by simpa using h3
     refine⟨λz=>(by cases z),λ_=> ?_⟩;walk_at"ev";refine key (2*p+1) _ (Wa) (Wb) hc (by walk_at"rg") (by walk_at"rg") (by walk_at"rg") (by walk_at"rg") (by walk_at"rg") (by walk_at"rg") λk a hk hkp ha=> ?_;have hg:ys.getD (2*p+1) .none=ys[2*p+1]:=by simp[g8T,ya]
     rw[hg];have hk2:k=2*p+1\/k=2*p+2:=R45 hk hkp;clear it hlt q lg r0 r4 r5 r6 r9 r10 hperm hH itys ht key h2 hg;rcases hk2 with rfl|rfl
     ·clear yb h3;rw[ya] at ha;cases ha;exact o.irr _
     ·clear ya;rw[yb] at ha;cases ha;exact o.asym _ _ h3
   ·have hc2: ¬2*p+2 < ys.length:=by simp at h2;exact rE h2 hlen
    refine⟨λz=>(by cases z),λ_=> ?_⟩;walk_at"ev";refine key (2*p+1) _ (Wa) (Wb) hc (by walk_at"rg") (by walk_at"rg") (by walk_at"rg") (by walk_at"rg") (by walk_at"rg") (by walk_at"rg") λk a hk hkp ha=> ?_;have hg:ys.getD (2*p+1) .none=ys[2*p+1]:=by simp[g8T,ya]
    rw[hg];have hkl:=(aF.mp ha).1;have hk2:k=2*p+1:=rF (g1U.1 (of_decide_eq_false h2)) hkp hkl hlen.symm hk;clear it hlt q lg r0 r4 r5 r6 r9 r10 hperm hH itys ht key h2 hg;subst hk2;rw[ya] at ha;cases ha;exact o.irr _
  ·have hc: ¬2*p+1 < ys.length:=by simp at ht;exact rG ht hlen
   walk_at"go";refine⟨i,p,ys,rfl,rfl,lg ys,Q169,Ow hp',?_⟩;walk_at"go";rw[set_set];have e2:ys.set (p:Int).toNat x=ys.set p x:=by simp
   rw[e2];refine Vm (lt:=lt) (It:=It) (x:=x) o hi (by simp;exact Q74 hlen hl) (bW hp') (λv hv=>it v (hperm.subset hv)) hlt ?_ λzs hz1 hz2=>⟨rfl,?_⟩
   ·refine⟨⟨λk a b hk hkp hpp ha hb=> ?_,λk a b hk hpk _ ha hb=> ?_⟩,λk a hk hpk ha=> ?_⟩
    ·rw[aZ (g0F hkp)] at ha
     rw[aZ (g0F hpp)] at hb;exact hH.h1 k a b hk hkp hpp ha hb
    ·have hkl:=(aF.mp ha).1
     simp at hkl;exact Wc (g1U.1 (of_decide_eq_false ht)) hpk hlen.symm hkl hk
    ·have hkl:=(aF.mp ha).1
     simp at hkl;exact Wc (g1U.1 (of_decide_eq_false ht)) hpk hlen.symm hkl hk
   ·walk_at"ev"
    exact q zs (hz1.trans hperm) hz2
end
section
theorem Uw{d:Nat}{hp:HP}{i:Nat}{xs:List V}{x0:V}{lt:V->V->Bool}{It:V->Prop}{Q:V->HP->Prop}(o:SW lt)(hxs:lget hp i=some xs)(hl:xs.length<=200)(h0:xs[0]? =some x0)
  (it: ∀v∈xs,It v) (hlt: ∀a b ys,It a->It b->vlt (hp.set i (.l ys)) a b=some (lt a b)) (hh:C9 lt xs)
  (q: ∀zs,(x0::zs).Perm xs->C9 lt zs->(∀a∈xs,lt a x0=false)->Q x0 (hp.set i (.l zs))):As (d+3) 52 [.lst i] hp Q:=by
 refine Bf rfl rfl rfl ?_;have hi:i < hp.length:=(aF.mp (Fb hxs)).1;have lg: ∀ys,lget (hp.set i (.l ys)) i=some ys:=λys=>lget_set_self hi;have hmin: ∀a∈xs,lt a x0=false:=λa ha=>by
  refine x11 (List.mem_iff_getElem?.mp ha) ?_;intro k hk;exact hh.min o h0 k a hk
 have hne:xs≠[]:=by intro z;rw[z] at h0;contradiction
 obtain⟨t,last,rfl⟩: ∃t v,xs=t++[v]:=⟨xs.dropLast,xs.getLast hne,(g3J hne).symm⟩;show Wex (d+2) b52 [(0,.lst i)] hp _;unfold b52;walk_at"go";refine Dz (i:=i) (by walk_at"pv") hxs ?_;walk_at"go";refine OpW.some (a:=last) (b:=hp.set i (.l t)) ?_ ?_
 ·show (lget hp i).bind _=_
  rw[hxs];show ((t++[last]).getLast?.bind _)=_;rw[g9A];show some (last,hp.set i (.l (t++[last]).dropLast))=_;rw[List.dropLast_concat]
 walk_at"go";refine Mp (v:= .lst i) (t:= !t.isEmpty) (by walk_at"rg") (by show (lget _ i).map _=_;rw[lg];rfl) ⟨λht=> ?_,λht=> ?_⟩
 ·clear hxs;obtain⟨y,s,rfl⟩: ∃y s,t=y::s:=by
   clear o hlt hi lg hl h0 it hh q hmin hne;cases t with
   | nil=>cases ht
   | cons y s=>exact⟨y,s,rfl⟩
  have:y=x0:=by exact aB ‹_›
  clear ht;subst this;walk_at"go";refine Bg (j:=i) (n:=0) (xs:=y::s) (v:=y) (by walk_at"pv") (by walk_at"pv") (lg _) rfl ?_;walk_at"go";refine⟨i,0,y::s,rfl,rfl,lg _,Q207,by simp,?_⟩;walk_at"go";rw[set_set];refine kW (lt:=lt) (It:=It) (x:=last) (xs:=last::s) o hi (by simp at hl ⊢;exact Q31 hl rfl) rfl (λv hv=> ?_) hlt ?_ λzs hz1 hz2=>⟨rfl,?_⟩
  ·clear o hlt hi lg hl hh hne h0 q hmin;rcases bM.mp hv with rfl|hv
   ·exact it _ (mmN)
   ·exact it v (by simp[hv])
  ·refine⟨λk a b hk hk0 hpk ha hb=> ?_,λk a b _ _ h0=>absurd h0 (rH)⟩
   clear o hlt lg it h0 q hmin;obtain⟨k,rfl⟩: ∃j,k=j+1:=⟨k - 1,(aC (g4B λz=>hpk (by rw[z]))).symm⟩;obtain⟨q',hq'⟩: ∃j,(k+1 - 1) / 2=j+1:=⟨(k+1 - 1) / 2 - 1,(aC (g4B hpk)).symm⟩;rw[hq'] at hb;simp only[g2O] at ha hb;have hkl:=(aF.mp ha).1;have hql:=(aF.mp hb).1;refine hh (k+1) a b (Io) ?_ ?_
   ·simp only[g6W,g2O]
    rw[bT hkl];exact ha
   ·rw[hq']
    simp only[g6W,g2O];rw[bT hql];exact hb
  ·walk_at"go"
   refine q zs ?_ hz2 hmin;have:(zs).Perm (s++[last]):=hz1.trans (List.perm_append_singleton last s).symm;simpa using this.cons y
 ·clear o hlt lg hxs it hh;obtain rfl:t=[]:=by
   clear hi hl h0 q hmin hne;cases t with
   | nil=>rfl
   | cons y s=>cases ht
  have:last=x0:=by exact aB ‹_›
  clear h0 ht;subst this;walk_at"go";refine q [] (by simp) (λk a b _ ha=>by contradiction) hmin
end
section
theorem Kn{α β:Type}{f:α->β}{l:List α}{x:α}{y:β}(h:f x=y):l.map f++[y]=(l++[x]).map f:=by
 rw[cD,<-h];rfl
theorem G9{α β γ:Type}{f:β->γ}{g:α->β}{l:List α}{x:α}{y:γ}(h:f (g x)=y):(l.map g).map f++[y]=((l++[x]).map g).map f:=by
 rw[cD];exact Kn h
theorem set_last{α:Type}{l:List α}{a b:α}:(l++[a]).set l.length b=l++[b]:=by simp
theorem it_lst{h:HP}{r:Nat}{xs:List V}(e:lget h r=some xs):Gq h (.lst r)=some (.lst r 0):=by
 show (lget h r).bind _=_;rw[e];rfl
theorem Eb{a b:Nat}(h:a≠b):aW a b=false:=by
 cases e:aW a b with
 | false=>rfl
 | true=>exact absurd (aR e) h
theorem Pl{a b:Nat}(h: ¬aW a b=true):aW a b=false:=by
 cases e:aW a b with
 | false=>rfl
 | true=>exact absurd e h
theorem rset_hit{i j:Nat}{u v:V}{r:Rho}(h:aW i j=true):rset ((j,u)::r) i v=(i,v)::r:=by conv=>lhs;dsimp only[rset];rw[h]
theorem rset_miss{i j:Nat}{u v:V}{r:Rho}(h:aW i j=false):rset ((j,u)::r) i v=(j,u)::rset r i v:=by conv=>lhs;dsimp only[rset];rw[h]
theorem nbeq_self{i:Nat}:aW i i=true:=Nat.beq_refl i
theorem Et{U:Rho}{i:Nat}{u v:V}:rset (rset U i u) i v=rset U i v:=by
 induction U with
 | nil=>show rset [(i,u)] i v=[(i,v)];rw[rset_hit nbeq_self]
 | cons p r ih=>
  obtain⟨j,w⟩:=p;cases h:aW i j with
  | true=>rw[rset_hit h,rset_hit nbeq_self,rset_hit h]
  | false=>rw[rset_miss h,rset_miss h,rset_miss h,ih]
theorem Uk{U:Rho}{x y:Nat}{a a' b:V}(h:x≠y):rset (rset (rset U x a) y b) x a'=rset (rset U x a') y b:=by
 have hxy:aW x y=false:=Eb h;have hyx:aW y x=false:=Eb (g0F h);induction U with
 | nil=>
  show rset (rset [(x,a)] y b) x a'=rset [(x,a')] y b;rw[rset_miss hyx,rset_miss hyx,rset_hit nbeq_self]
 | cons p r ih=>
  obtain⟨j,w⟩:=p;by_cases hj:aW x j=true
  ·rw[rset_hit hj,rset_hit hj,rset_miss hyx,rset_miss hyx,rset_hit nbeq_self]
  ·have hj':=Pl hj
   by_cases hk:aW y j=true
   ·rw[rset_miss hj',rset_miss hj',rset_hit hk,rset_hit hk,rset_miss hxy,Et]
   ·have hk':=Pl hk
    rw[rset_miss hj',rset_miss hj',rset_miss hk',rset_miss hk',rset_miss hj',ih]
section
variable {d:Nat} {U:Rho} {hp:HP} {C:Rho->HP->Prop} {Q:V->HP->Prop}
theorem Fu{elt:X}{t:T}{ifs:List X}{rest:List G}{j:Itr}{acc:Nat}(h:Ca hp j=some none)(q:C U hp):Wcl d elt t ifs rest j acc U hp C:=
 .step (g:=λ_=>some (U,hp)) (λr=>by show (Ca hp j).bind _=_;rw[h];rfl) (.some rfl q)
theorem Gw{elt:X}{t:T}{ifs:List X}{j j':Itr}{acc:Nat}{v:V}{U1:Rho}(h:Ca hp j=some (some (v,j')))(hb:bindT t v U=some U1)
  (q:E5 d U1 ifs hp λok h1=>(ok=true->Wev d elt U1 h1 λu h2=> ∃ys,lget h2 acc=some ys/\ys.length < 200/\Wcl d elt t ifs [] j' acc U1 (h2.set acc (.l (ys++[u]))) C)/\(ok=false->Wcl d elt t ifs [] j' acc U1 h1 C)):
  Wcl d elt t ifs [] j acc U hp C:=by
 refine .step (g:=λr=>Dj r d U1 ifs hp >>= λp=>if p.1 then r.ev d elt U1 p.2 >>= λp=>lget p.2 acc >>= λxs=>if xs.length < 200 then r.cl d elt t ifs [] j' acc U1 (p.2.set acc (.l (xs++[p.1]))) else none else r.cl d elt t ifs [] j' acc U1 p.2) (λr=> ?_) (.bind2 (q.mono λok h1 q=> ?_))
 ·show (Ca hp j).bind _=_
  rw[h];show (bindT t v U).bind _=_;rw[hb];rfl
 ·cases ok
  ·exact q.2 rfl
  ·refine .bind2 (f:=λr=>r.ev d elt U1 h1) ((q.1 rfl).mono λu h2 z=> ?_)
   refine x13 z ?_;clear z;intro ys e hl z;have e4:(λr:R=>(lget h2 acc).bind λxs=>if xs.length < 200 then r.cl d elt t ifs [] j' acc U1 (h2.set acc (.l (xs++[u]))) else none)=λr=>r.cl d elt t ifs [] j' acc U1 (h2.set acc (.l (ys++[u]))):=by
    funext r;rw[e];show (if ys.length < 200 then _ else _)=_;rw[if_pos hl]
   show W2 (λr:R=>(lget h2 acc).bind λxs=>if xs.length < 200 then r.cl d elt t ifs [] j' acc U1 (h2.set acc (.l (xs++[u]))) else none) C;rw[e4];exact z
theorem fC{elt:X}{t t':T}{it':It}{ifs':List X}{j j':Itr}{acc:Nat}{v:V}{U1:Rho}(h:Ca hp j=some (some (v,j')))(hb:bindT t v U=some U1)
  (q:Iv d it' U1 hp λk h1=>Wcl d elt t' ifs' [] k acc U1 h1 λU2 h2=>Wcl d elt t [] [.g t' it' ifs'] j' acc U2 h2 C):
  Wcl d elt t [] [.g t' it' ifs'] j acc U hp C:=by
 refine .step (g:=λr=>r.itr d it' U1 hp >>= λp=>r.cl d elt t' ifs' [] p.1 acc U1 p.2 >>= λp=>r.cl d elt t [] [.g t' it' ifs'] j' acc p.1 p.2) (λr=> ?_) (.bind2 (f:=λr=>r.itr d it' U1 hp) (q.mono λk h1 q=> .bind2 (f:=λr=>r.cl d elt t' ifs' [] k acc U1 h1) q))
 ·show (Ca hp j).bind _=_
  rw[h];show (bindT t v U).bind _=_;rw[hb];rfl
theorem Gx{loc:List Nat}{elt:X}{t:T}{it:It}{ifs:List X}{rest:List G}(h:Iv d it U hp λj h1=>Wcl d elt t ifs rest j h1.length (Av loc U) (h1++[.l []]) λ_ h2=>Q (.lst h1.length) h2):
  Wev d (.comp loc elt (.g t it ifs::rest)) U hp Q:=
 .step (λ_=>rfl) (.bind2 (f:=λr=>r.itr d it U hp) (h.mono λj h1 h=> .bind2 (f:=λr=>r.cl d elt t ifs rest j h1.length (Av loc U) (h1++[.l []])) (h.mono λU2 h2 q=> .some rfl q)))
theorem G4{loc:List Nat}{elt:X}{x:Nat}{xs ifs:List X}{a c:Int}{n:Nat}(Inv:Nat->List V->HP->Prop)(hsrc:B6 d xs U hp λvs h1=>h1=hp/\B5 vs=some (.rng a c n))(h0:Inv 0 [] (hp++[.l []]))(hacc: ∀k ys h,Inv k ys h->lget h hp.length=some ys)
  (step: ∀k ys h,k < n->Inv k ys h->E5 d (rset (Av loc U) x (.int (a+k*c))) ifs h λok h1=>
   (ok=true->Wev d elt (rset (Av loc U) x (.int (a+k*c))) h1 λu h2=>lget h2 hp.length=some ys/\ys.length < 200/\Inv (k+1) (ys++[u]) (h2.set hp.length (.l (ys++[u]))))/\(ok=false->Inv (k+1) ys h1))
  (q: ∀ys h,Inv n ys h->Q (.lst hp.length) h):Wev d (.comp loc elt [.g (.one x) (.rng xs) ifs]) U hp Q:=by
 refine Gx (Dp (hsrc.mono λvs h1 h=> ?_));refine x02 h ?_;clear h;intro z0 e;subst z0;refine⟨_,e,?_⟩;have go: ∀(m k:Nat) U' ys h,k+m=n->(∀v,rset U' x v=rset (Av loc U) x v)->Inv k ys h->Wcl d elt (.one x) ifs [] (.rng (a+k*c) c m) h1.length U' h λ_ h2=>Q (.lst h1.length) h2:=by
  intro m;induction m with
  | zero=>intro k U' ys h hk _ hi;exact Fu rfl (q ys h (by rw[<-hk];exact hi))
  | succ m ih=>
   intro k U' ys h hk hU hi;have e2:a+((k+1:Nat):Int)*c=a+k*c+c:=by rw[g3W,g7T];simp[g2Q]
   refine Gw (v:= .int (a+k*c)) (j':= .rng (a+k*c+c) c m) (U1:=rset (Av loc U) x (.int (a+k*c))) rfl (by show some (rset U' x _)=_;rw[hU]) ((step k ys h (D9 hk) hi).mono λok h1' z=>⟨λhok=>((z.1 hok).mono λu h2 z=> ?_),λhok=> ?_⟩)
   ·refine x03 z ?_;clear z;intro z1 z2 z3
    have:=ih (k+1) (rset (Av loc U) x (.int (a+k*c))) _ _ (Cn hk) (λv=>Et) z3;rw[e2] at this;exact⟨ys,z1,z2,this⟩
   ·have:=ih (k+1) (rset (Av loc U) x (.int (a+k*c))) _ _ (Cn hk) (λv=>Et) (z.2 hok)
    rw[e2] at this;exact this
 have:=go n 0 (Av loc U) [] _ (Ff) (λ_=>rfl) h0;simpa using this
theorem G3{loc:List Nat}{elt:X}{x:Nat}{e:X}{ifs:List X}{i:Nat}{us:List V}(Inv:Nat->List V->HP->Prop)(hsrc:Wev d e U hp λv h1=>h1=hp/\v= .lst i)(hu:lget hp i=some us)(h0:Inv 0 [] (hp++[.l []]))(hacc: ∀k ys h,Inv k ys h->lget h hp.length=some ys/\lget h i=some us)
  (step: ∀k ys h v,us[k]? =some v->Inv k ys h->E5 d (rset (Av loc U) x v) ifs h λok h1=>
   (ok=true->Wev d elt (rset (Av loc U) x v) h1 λu h2=>lget h2 hp.length=some ys/\ys.length < 200/\Inv (k+1) (ys++[u]) (h2.set hp.length (.l (ys++[u]))))/\(ok=false->Inv (k+1) ys h1))
  (q: ∀ys h,Inv us.length ys h->Q (.lst hp.length) h):Wev d (.comp loc elt [.g (.one x) (.ex e) ifs]) U hp Q:=by
 refine Gx (Ck (hsrc.mono λvs h1 h=> ?_));refine x02 h ?_;clear h;intro z0 z1;subst z0;subst z1;refine⟨.lst i 0,by show (lget h1 i).bind _=_;rw[hu];rfl,?_⟩;have go: ∀(m k:Nat) U' ys h,k+m=us.length->(∀v,rset U' x v=rset (Av loc U) x v)->Inv k ys h->Wcl d elt (.one x) ifs [] (.lst i k) h1.length U' h λ_ h2=>Q (.lst h1.length) h2:=by
  intro m;induction m with
  | zero=>
   intro k U' ys h hk _ hi;refine Fu ?_ (q ys h (by rw[<-hk];exact hi));show (lget h i).bind _=_;rw[(hacc _ _ _ hi).2];show (match us[k]? with|some v=>_|none=>_)=_;rw[g0H (Ip hk.symm)]
  | succ m ih=>
   intro k U' ys h hk hU hi;refine x11 (show ∃a,us[k]? =some a from ⟨_,aD (D9 hk)⟩) ?_;intro uk hv;refine Gw (v:=uk) (j':= .lst i (k+1)) (U1:=rset (Av loc U) x uk) ?_ (by show some (rset U' x _)=_;rw[hU]) ((step k ys h _ hv hi).mono λok h1' z=>⟨λhok=>((z.1 hok).mono λu h2 z=> ?_),λhok=> ?_⟩)
   ·show (lget h i).bind _=_
    rw[(hacc _ _ _ hi).2];show (match us[k]? with|some v=>_|none=>_)=_;rw[hv]
   ·refine x03 z ?_;clear z;intro z1 z2 z3
    exact⟨ys,z1,z2,ih (k+1) (rset (Av loc U) x uk) _ _ (Cn hk) (λv=>Et) z3⟩
   ·exact ih (k+1) (rset (Av loc U) x uk) _ _ (Cn hk) (λv=>Et) (z.2 hok)
 exact go us.length 0 (Av loc U) [] _ (Ff) (λ_=>rfl) h0
theorem Ss{loc:List Nat}{elt:X}{x y:Nat}{e:X}{i:Nat}{us:List (V×V)}(hxy:x≠y)(Inv:Nat->List V->HP->Prop)(hsrc:Wev d e U hp λv h1=>h1=hp/\v= .lst i)(hu:lget hp i=some (us.map λp=> .tup [p.1,p.2]))(h0:Inv 0 [] (hp++[.l []]))(hacc: ∀k ys h,Inv k ys h->lget h hp.length=some ys/\lget h i=some (us.map λp=> .tup [p.1,p.2]))
  (step: ∀k ys h v,us[k]? =some v->Inv k ys h->Wev d elt (rset (rset (Av loc U) x v.1) y v.2) h λu h2=>lget h2 hp.length=some ys/\ys.length < 200/\Inv (k+1) (ys++[u]) (h2.set hp.length (.l (ys++[u]))))
  (q: ∀ys h,Inv us.length ys h->Q (.lst hp.length) h):Wev d (.comp loc elt [.g (.many [x,y]) (.ex e) []]) U hp Q:=by
 refine Gx (Ck (hsrc.mono λvs h1 h=> ?_));refine x02 h ?_;clear h;intro z0 z1;subst z0;subst z1;refine⟨.lst i 0,by show (lget h1 i).bind _=_;rw[hu];rfl,?_⟩;have go: ∀(m k:Nat) U' ys h,k+m=us.length->(∀a b,rset (rset U' x a) y b=rset (rset (Av loc U) x a) y b)->Inv k ys h->Wcl d elt (.many [x,y]) [] [] (.lst i k) h1.length U' h λ_ h2=>Q (.lst h1.length) h2:=by
  intro m;induction m with
  | zero=>
   intro k U' ys h hk _ hi;refine Fu ?_ (q ys h (by rw[<-hk];exact hi));show (lget h i).bind _=_;rw[(hacc _ _ _ hi).2];show (match (us.map λp=>V.tup [p.1,p.2])[k]? with|some v=>_|none=>_)=_;rw[g0H (by simp;exact Ip hk.symm)]
  | succ m ih=>
   intro k U' ys h hk hU hi;refine x11 (show ∃a,us[k]? =some a from ⟨_,aD (D9 hk)⟩) ?_;intro uk hv;refine Gw (v:= .tup [uk.1,uk.2]) (j':= .lst i (k+1)) (U1:=rset (rset (Av loc U) x uk.1) y uk.2) ?_ (by show some (rset (rset U' x _) y _)=_;rw[hU]) (Bs ⟨λ_=>((step k ys h _ hv hi).mono λu h2 z=> ?_),λz=>(by cases z)⟩)
   ·show (lget h i).bind _=_
    rw[(hacc _ _ _ hi).2];have e3:(us.map λp=>V.tup [p.1,p.2])[k]? =some (.tup [uk.1,uk.2]):=by rw[aL,hv];rfl
    show (match (us.map λp=>V.tup [p.1,p.2])[k]? with|some v=>_|none=>_)=_;rw[e3]
   ·refine x03 z ?_;clear z;intro z1 z2 z3
    refine⟨ys,z1,z2,ih (k+1) _ _ _ (Cn hk) (λa b=> ?_) z3⟩;rw[Uk hxy,Et]
 exact go us.length 0 (Av loc U) [] _ (Ff) (λ_ _=>rfl) h0
end
noncomputable def Aa(W:List Nat)(hp hp':HP):Prop:=hp.length<=hp'.length/\∀(i:Nat) o,hp[i]? =some o->i∉W->hp'[i]? =some o
theorem Aa.refl{W hp}:Aa W hp hp:=⟨bJ _,λ_ _ e _=>e⟩
theorem Aa.trans{W a b c}(h1:Aa W a b)(h2:Aa W b c):Aa W a c:=⟨bR h1.1 h2.1,λi o e hw=>h2.2 i o (h1.2 i o e hw) hw⟩
theorem Aa.mono{W W' a b}(h:Aa W a b)(hw: ∀i∈W,i∈W'):Aa W' a b:=⟨h.1,λi o e z=>h.2 i o e λy=>z (hw i y)⟩
theorem Aa.nil{W a b}(h:Aa [] a b):Aa W a b:=h.mono (mmM)
theorem Aa.push{W hp}{o:O}:Aa W hp (hp++[o]):=⟨mm6,λi o e _=>getElem?_append_of_some e⟩
theorem Aa.set{W hp}{i:Nat}{o:O}(h:i∈W):Aa W hp (hp.set i o):=⟨by simp,λj p e hw=>by rw[aZ (λz=>hw (by rw[<-z];exact h))];exact e⟩
theorem Aa.drop{W W' hp hp'}(h:Aa W hp hp')(hw: ∀i∈W,i∈W'\/hp.length<=i):Aa W' hp hp':=
 ⟨h.1,λi o e z=>h.2 i o e λy=>(hw i y).elim z λl=>absurd (aF.mp e).1 (rI l)⟩
theorem Aa.lget{W hp hp'}(h:Aa W hp hp'){i:Nat}{xs:List V}(e:lget hp i=some xs)(hw:i∉W):Mine.lget hp' i=some xs:=by
 have:=h.2 i _ (Fb e) hw;dsimp only[Mine.lget];rw[this]
theorem An{hp:HP}{i:Nat}{xs:List V}(e:lget hp i=some xs):i < hp.length:=(aF.mp (Fb e)).1
theorem lget_push{hp:HP}{xs:List V}:lget (hp++[.l xs]) hp.length=some xs:=Ic
end
section
theorem Dy{hp:HP}{i:Nat}{xs:List V}{Q:V->HP->Prop}(h:lget hp i=some xs)(q:Q (.int (xs.length:Nat)) hp):OpW (builtin (.builtin "len") [.lst i] hp) Q:=
 .some (by show (lget hp i).bind _=_;rw[h];rfl) q
theorem Ef{d:Nat}{U:Rho}{hp:HP}{P:Fl->Rho->HP->Prop}{x:Nat}{b:List S}{n:Nat}(Inv:Nat->Rho->HP->Prop)(h0:Inv 0 U hp)(hP: ∀U hp,Inv n U hp->P .next U hp)
  (step: ∀k U hp,k < n->Inv k U hp->Wex d b (rset U x (.int (k:Nat))) hp (Ex d P λU2 h2=>Inv (k+1) U2 h2)):Wfl d (.one x) (.rng 0 1 n) b U hp P:=
 P6 Inv h0 hP λk U hp hk h=>by
  have:=step k U hp hk h;simpa using this
theorem Cb{n:Nat}(h:n < 1000):B5 [.int (n:Nat)]=some (.rng 0 1 n):=by
 have hf:fit (n:Int)=true:=Gy (Ox h);have hs:rangeSize 0 (n:Int) 1=n:=by exact g5E _
 rw[Yw,if_pos hf,hs]
theorem Nu{a n:Nat}(h:a<=n)(h2:n < 1000):B5 [.int (a:Nat),.int (n:Nat)]=some (.rng (a:Nat) 1 (n - a)):=by
 have hf:fit (n:Int)=true:=Gy (Ox h2);have hf2:fit (a:Int)=true:=Gy (rJ h h2);have hs:rangeSize (a:Int) (n:Int) 1=n - a:=by simp[rangeSize]
 rw[Yx,hf,hf2,if_pos (by rfl),hs]
structure Mat(hp:HP)(F n b:Nat)(M:Nat->Nat->Int):Prop where
 ex: ∃rows:List Nat,lget hp F=some (rows.map .lst)/\rows.length=n/\(∀(i r:Nat),rows[i]? =some r->lget hp r=some ((aN n).map λj=> .int (M i j)))/\(∀r∈rows,r < b)
 lt:F < b
theorem Mat.keep{hp hp' F n b M W}(h:Mat hp F n b M)(k:Aa W hp hp')(hw: ∀w∈W,b<=w):Mat hp' F n b M:=by
 refine x14 h.ex ?_;intro rows e1 e2 e3 e4;exact⟨⟨rows,k.lget e1 (λz=>by have:=hw _ z;have:=h.lt;exact Wd this ‹_›),e2,λi r hr=>k.lget (e3 i r hr) (λz=>by have:=hw _ z;have:=e4 r (aU hr);exact Wd this ‹_›),e4⟩,h.lt⟩
theorem Mat.len{hp F n b M}(h:Mat hp F n b M): ∃xs,lget hp F=some xs/\xs.length=n:=by
 refine x13 h.ex ?_;intro rows e1 e2 _;exact⟨_,e1,(aO _).trans ‹_›⟩
section
variable {d:Nat} {U:Rho} {hp:HP} {Q:V->HP->Prop} {M:Nat->Nat->Int} {F n b:Nat}
theorem Hw{x y z:X}{I J:Nat}(hM:Mat hp F n b M)(hx:Wev d x U hp λo h=>h=hp/\o= .lst F)(hy:Wev d y U hp λo h=>h=hp/\o= .int (I:Nat))(hz:Wev d z U hp λo h=>h=hp/\o= .int (J:Nat))
  (hI:I < n) (hJ:J < n) (q:Q (.int (M I J)) hp):Wev d (.idx (.idx x y) z) U hp Q:=by
 refine x14 hM.ex ?_;intro rows e1 e2 e3 e4;have hIr:=Nat.lt_of_lt_of_eq hI e2.symm;have er:rows[I]? =some rows[I]:=aD hIr;refine Do (Do (hx.mono λo h1 z1=> ?_));clear hM hx e4;refine x02 z1 ?_;clear z1;intro z0 z1;subst z0;subst z1;refine hy.mono λk h2 z2=> ?_;clear hy;refine x02 z2 ?_;clear z2;intro z0 z1;subst z0;subst z1;refine⟨F,I,_,.lst rows[I],rfl,rfl,e1,by rw[Az,aL,er];rfl,?_⟩;refine hz.mono λk h3 z3=> ?_;clear hz e1;refine x02 z3 ?_;clear z3;intro z0 z1;subst z0;subst z1;exact⟨_,J,_,.int (M I J),rfl,rfl,e3 _ _ er,by rw[Az,aL,g0W hJ];rfl,q⟩
noncomputable def prevOf(ks:List Nat)(k:Nat):Nat:=ks.getD (if k=0 then ks.length - 1 else k - 1) 0
noncomputable def Db(M:Nat->Nat->Int)(ks:List Nat):List Int:=(aN ks.length).map λk=>M (prevOf ks k) (ks.getD k 0)
noncomputable def Ax(M:Nat->Nat->Int)(ks:List Nat):Int:=(Db M ks).sum
noncomputable def Bx(M:Nat->Nat->Int):Prop:= ∀i j,0<=M i j/\M i j<=4
theorem Kv{α:Type}(f:α->Int)(l:List α):intsV (l.map λa=> .int (f a))=some (l.map f):=by
 induction l with
 | nil=>rfl
 | cons a l ih=>exact congrArg _ ‹_›
theorem Nf{i:Nat}{ns:List Int}(h:lget hp i=some (ns.map .int))(hs: ∀a∈ns,0<=a/\a<=1000)(q:Q (.int ns.sum) hp):OpW (builtin (.builtin "sum") [.lst i] hp) Q:=by
 refine .some (a:= .int ns.sum) (b:=hp) ?_ q;show (lget hp i).bind _=_;rw[h];show (intsV (ns.map V.int)).bind _=_;rw[Kv (λa=>a)];have hf:ns.all (λn=>fit (n*1000))=true:=by
  rw[bB];intro a ha;have:=hs a ha;simp[fit];exact R49 this
 show (if(ns.map λa=>a).all (λn=>fit (n*1000))=true then some (V.int (ns.map λa=>a).sum,hp) else none)=_;simp only[List.map_id'',gCH,hf,if_true]
theorem Tq{s:Nat}{ks:List Nat}(hM:Mat hp F n b M)(hS:Bx M)(hs:lget hp s=some (ks.map λk=> .int (k:Nat)))(hk: ∀k∈ks,k < n)(hl:ks.length<=100)
  (q: ∀h',Aa [] hp h'->Q (.int (Ax M ks)) h'):As (d+1) 295 [.lst F,.lst s] hp Q:=by
 refine Bf rfl rfl rfl ?_;show Wex d b295 [(43,.lst F),(61,.lst s)] hp _;unfold b295;walk_at"go";refine G4 (a:=0) (c:=1) (n:=ks.length) (λk ys h=>ys=((Db M ks).take k).map .int/\h=hp++[.l ys]) ?_ ?_ ?_ ?_ ?_
 ·walk_at"go"
  refine Dy hs ?_;walk_at"go";exact⟨rfl,by rw[aO];exact Cb (Q30 hl rfl)⟩
 ·exact⟨rfl,rfl⟩
 ·clear hM hS hs hk hl q;rintro k ys h ⟨_,rfl⟩;exact lget_push
 ·clear hS q;intro k ys h hkn zz;refine x02 zz ?_;clear zz;intro z0 z1;subst z0;subst z1
  have K:Aa [] hp (hp++[.l (((Db M ks).take k).map .int)]):=Aa.push;have hM':=hM.keep K (by simp);have hs':=K.lget hs (aA);have e0:(0:Int)+(k:Int)*1=(k:Nat):=by exact mmS
  rw[e0];clear hM hs K;refine Bs ⟨λ_=> ?_,λz=>by cases z⟩;have ek:ks[k]? =some ks[k]:=aD hkn;have ep:(if k=0 then ks.length - 1 else k - 1) < ks.length:=by
   split
   ·exact gEA (gAK hkn) gDP
   ·exact g5Z (bV _ _) hkn
  have epv:prevOf ks k=ks[if k=0 then ks.length - 1 else k - 1]:=by unfold prevOf;simp[ep]
  refine Hw (I:=prevOf ks k) (J:=ks.getD k 0) hM' ?_ ?_ ?_ ?_ ?_ ?_
  ·walk_at"go";exact⟨rfl,rfl⟩
  ·refine Do ?_
   walk_at"go";refine OpW.some (a:=V.int ((k:Int) - 1)) rfl ?_;refine⟨s,_,_,.int (prevOf ks k:Nat),rfl,rfl,hs',?_,rfl,rfl⟩;rw[epv];unfold A9;clear hk hM' hs' ek;by_cases h0:k=0
   ·subst h0
    rw[if_neg (of_decide_eq_true ‹_›),if_pos (by simp;exact rL hkn)];have:(((0:Nat):Int) - 1+(ks.map λk=>V.int (k:Nat)).length).toNat=ks.length - 1:=by simp;exact rM hkn
    rw[this,aL,aD (rK ep)];rfl
   ·rw[if_pos (rN h0)]
    have:((k:Int) - 1).toNat=k - 1:=Int.toNat_sub k 1;rw[this,aL,aD (R53 ep h0)];simp[h0]
  ·refine Do ?_
   walk_at"go";refine⟨s,_,_,.int (ks.getD k 0:Nat),rfl,rfl,hs',?_,rfl,rfl⟩;rw[Az,aL,ek];simp[ek]
  ·rw[epv];exact hk _ (g0I ..)
  ·have:ks.getD k 0=ks[k]:=by simp[ek]
   rw[this];exact hk _ (g0I ..)
  ·refine⟨lget_push,by simp;exact rO hkn hl rfl,?_,?_⟩
   ·have hlen:(Db M ks).length=ks.length:=by exact mmR
    have ev:(Db M ks)[k]? =some (M (prevOf ks k) (ks.getD k 0)):=by
     unfold Db;rw[aL,g0W hkn];rfl
    rw[bU,ev];exact Kn rfl
   ·exact set_last
 ·clear hM hs hk;intro ys h zz;refine x02 zz ?_;clear zz;intro z0 z1;subst z0;subst z1
  have hlen:(Db M ks).length=ks.length:=by exact mmR
  have et:(Db M ks).take ks.length=Db M ks:=by rw[<-hlen,cE]
  walk_at"go";rw[et];refine Nf (ns:=Db M ks) lget_push (λa ha=> ?_) ?_
  ·unfold Db at ha
   clear q et;refine x12 (bI.mp ha) ?_;intro k _ z2;subst z2;have:=hS (prevOf ks k) (ks.getD k 0);exact We this.1 this.2
  ·walk_at"go"
   exact q _ Aa.push
end
end
section
noncomputable def Cr(M:Nat->Nat->Int)(b:Int)(i j:Nat)(ms:List Int):List Int:=if M i j<=b then ms.map (λm=>if m=ms.getD j 0 then ms.getD i 0 else m) else ms
noncomputable def mIn(M:Nat->Nat->Int)(b:Int)(i:Nat):Nat->List Int->List Int
 | 0,ms=>ms
 | j+1,ms=>Cr M b i j (mIn M b i j ms)
noncomputable def Cg(M:Nat->Nat->Int)(b:Int):Nat->List Int->List Int
 | 0,ms=>ms
 | i+1,ms=>mIn M b i i (Cg M b i ms)
noncomputable def B0(n:Nat):List Int:=(aN n).map fun(k:Nat)=>(k:Int)
noncomputable def E7(M:Nat->Nat->Int)(n:Nat)(b:Int):List Int:=Cg M b n (B0 n)
noncomputable def partsF(M:Nat->Nat->Int)(n:Nat)(b:Int):Nat:=(Bk (E7 M n b)).length
theorem kI{M b i j ms}:(Cr M b i j ms).length=ms.length:=by
 dsimp only[Cr];split
 ·exact aO _
 ·rfl
theorem mIn_len{M b i}: ∀{j ms},(mIn M b i j ms).length=ms.length
 | 0,_=>rfl
 | j+1,ms=>by dsimp only[mIn];rw[kI,mIn_len]
theorem Fc{M b}: ∀{i ms},(Cg M b i ms).length=ms.length
 | 0,_=>rfl
 | i+1,ms=>by dsimp only[Cg];rw[mIn_len,Fc]
theorem Ih: ∀(n:Nat) (a:Nat),B3 (a:Nat) 1 n=(aN n).map fun(k:Nat)=>V.int ((a+k:Nat):Int)
 | 0,_=>rfl
 | n+1,a=>by
  have:=Ih n (a+1);rw[g4U];simp only[B3,cG,cB];have e:(a:Int)+1=((a+1:Nat):Int):=by simp
  rw[e,this];simp only[List.cons.injEq];refine⟨by simp,?_⟩;apply g0V;intro k _;simp only[Function.comp_apply,Nat.succ_eq_add_one];congr 2;exact rP
theorem Sg{hp:HP}{a b:Int}:Bd .eq (.int a) (.int b) hp=some (decide (a=b)):=by
 show some (Ap a b)=_;rw[beqInt_eq]
theorem Ek{α:Type}{f:α->V}(h: ∀a,plain 3 (f a)=true)(l:List α):(l.map f).all (plain 3)=true:=bB.2 λ_ hv=>(bI.1 hv).elim λa z=>z.2▸h a
theorem Mr{α:Type}[DecidableEq α]{g:α->Bool}{k:α}{l:List α}(h: ∀x∈l,g x=decide (x=k)):l.any g=decide (k∈l):=by
 induction l with
 | nil=>rfl
 | cons x l ih=>
  rw[List.any_cons,h x (.head _),ih λy hy=>h y (.tail _ hy),<-gBP];exact decide_eq_decide.2 ⟨λz=>z.elim (λz=>z▸ .head _) (.tail _),λz=>(bM.1 z).imp gBY id⟩
theorem Ka{h:HP}{i j:Nat}{xs ys:List V}{c:Bool}(h1:lget h i=some xs)(h2:lget h j=some ys)(p:xs.all (plain 3)=true)(q:ys.all (plain 3)=true)(e:eqBs xs ys=c):Bd .eq (.lst i) (.lst j) h=some c:=by
 show ((lget h i).bind λa=>(lget h j).bind λb=>if a.all (plain 3) && b.all (plain 3) then some (eqBs a b) else none)=_;rw[h1,h2,<-e];exact if_pos (aV.2 ⟨p,q⟩)
theorem Kb{h:HP}{i j:Nat}{xs ys:List V}{c:Bool}(h1:lget h i=some xs)(h2:lget h j=some ys)(p:xs.all (plain 3)=true)(q:ys.all (plain 3)=true)(e:eqBs xs ys=c):Bd .ne (.lst i) (.lst j) h=some (!c):=congrArg (gCG (!·)) (Ka h1 h2 p q e)
theorem R0{h:HP}{j:Nat}{xs:List V}{a:V}{c:Bool}(e:lget h j=some xs)(p:xs.all (plain 3)=true)(q:plain 3 a=true)(r:(xs.any λx=>eqB x a)=c):Ho h a (.lst j)=some c:=by
 show ((lget h j).bind λxs=>if xs.all (plain 3) && plain 3 a then some (xs.any λx=>eqB x a) else none)=_;rw[e,<-r];exact if_pos (aV.2 ⟨p,q⟩)
section
variable {d:Nat} {hp:HP} {Q:V->HP->Prop} {M:Nat->Nat->Int} {F n b:Nat}
theorem gZ{B:Int}(hM:Mat hp F n b M)(hb:b<=hp.length)(hn:n<=20)(q: ∀h',Aa [] hp h'->Q (.int (partsF M n B:Nat)) h'):As (d+1) 264 [.lst F,.int B] hp Q:=by
 refine Bf rfl rfl rfl ?_;show Wex d b264 [(43,.lst F),(52,.int B)] hp _;dsimp only[b264];refine x12 hM.len ?_;intro fx lf ll;walk_at"go";refine Kt ?_;walk_at"go";refine Dy lf ?_;walk_at"go";rw[ll];refine⟨0,1,n,Cb (Q30 hn rfl),Q31 hn rfl,by have:=Ih n 0;rw[show ((0:Nat):Int)=0 from rfl] at this;rw[this];simp;exact Q31 hn rfl,?_⟩;have e0:B3 0 1 n=(B0 n).map .int:=by
  have:=Ih n 0;simp only[g1E] at this;show B3 ((0:Nat):Int) 1 n=_;rw[this];simp[B0]
 rw[e0];walk_at"go";refine Bu (Dp ?_);walk_at"go";have K0:Aa [] hp (hp++[.l ((B0 n).map .int)]):=Aa.push;obtain⟨fx1,lf1,ll1⟩:=(hM.keep K0 (by simp)).len;refine Dy lf1 ?_;walk_at"go";rw[ll1];refine⟨_,Cb (Q30 hn rfl),?_⟩;let I1:Nat->Rho->HP->Prop:=λi U h=>rget U 43=some (.lst F)/\rget U 52=some (.int B)/\Aa [] hp h/\∃m,rget U 53=some (.lst m)/\lget h m=some ((Cg M B i (B0 n)).map .int);refine Ef I1 ?_ ?_ ?_
 ·exact⟨rfl,rfl,K0,hp.length,rfl,lget_push⟩
 ·intro U h zz;refine x04 zz ?_;clear zz;intro r1 r2 K zz;refine x12 zz ?_;clear zz;intro m r3 hm
  walk_at"go";refine jN ?_;walk_at"go";have:=Kv (λa:Int=>a) (Cg M B n (B0 n));refine⟨m,_,Cg M B n (B0 n),rfl,hm,by simpa using this,by rw[Fc];simp[B0];exact Q88 hn,?_⟩;exact q h K
 ·intro i U h hi zz;refine x04 zz ?_;clear zz;intro r1 r2 K zz;refine x12 zz ?_;clear zz;intro m r3 hm
  refine ex_cons (Bu (Dp ?_));walk_at"go";refine⟨_,Cb (Gf hi hn rfl),?_⟩;let I2:Nat->Rho->HP->Prop:=λj U h=>rget U 43=some (.lst F)/\rget U 52=some (.int B)/\rget U 44=some (.int (i:Nat))/\Aa [] hp h/\∃m,rget U 53=some (.lst m)/\lget h m=some ((mIn M B i j (Cg M B i (B0 n))).map .int);refine Ef I2 ?_ ?_ ?_
  ·exact⟨by walk_at"rg",by walk_at"rg",by walk_at"rg",K,m,by walk_at"rg",hm⟩
  ·intro U h zz;refine x05 zz ?_;clear zz;intro r1 r2 r4 K zz;refine x12 zz ?_;clear zz;intro m r3 hm
   walk_at"ev";exact⟨r1,r2,K,m,r3,hm⟩
  ·intro j U h hj zz;refine x05 zz ?_;clear zz;intro r1 r2 r4 K zz;refine x12 zz ?_;clear zz;intro m r3 hm
   have hM':=hM.keep K (by simp);walk_at"go";refine Hw (I:=i) (J:=j) hM' ?_ ?_ ?_ hi (Q68 hj hi) ?_
   ·walk_at"go";exact⟨rfl,rfl⟩
   ·walk_at"go";exact⟨rfl,rfl⟩
   ·walk_at"go";exact⟨rfl,rfl⟩
   walk_at"go";refine⟨decide (M i j<=B),rfl,λht=> ?_,λht=> ?_⟩
   ·have ht:M i j<=B:=by simpa using ht
    generalize hms:mIn M B i j (Cg M B i (B0 n))=ms at hm;have hlen:ms.length=n:=by rw[<-hms,mIn_len,Fc];exact mmR
    have hmm:=An hm;walk_at"go";refine G3 (i:=m) (us:=ms.map .int) (λk ys h'=>ys=((ms.map (λa=>if a=ms.getD j 0 then ms.getD i 0 else a)).take k).map .int/\h'=h++[.l ys]) ?_ hm ?_ ?_ ?_ ?_
    ·walk_at"go";exact⟨rfl,rfl⟩
    ·exact⟨rfl,rfl⟩
    ·rintro k ys h' ⟨_,rfl⟩;exact⟨lget_push,Aa.push.lget hm (W:=[]) (aA)⟩
    ·intro k ys h' v hv zz;refine x02 zz ?_;clear zz;intro z0 z1;subst z0;subst z1
     have hk:k < ms.length:=by have:=(aF.mp hv).1;simpa using this
     have ek:ms[k]? =some ms[k]:=aD hk;have hv':v= .int ms[k]:=by rw[aL,ek] at hv;exact(aB hv).symm
     subst hv';have ei:ms[i]? =some (ms.getD i 0):=by have:i < ms.length:=(Q154 hi hlen);simp[this]
     have ej:ms[j]? =some (ms.getD j 0):=by have:j < ms.length:=(rQ hj hlen hi);simp[this]
     refine Bs ⟨λ_=> ?_,λz=>by cases z⟩;have nx: ∀u:Int,u=(if ms[k]=ms.getD j 0 then ms.getD i 0 else ms[k])->∃ys',ys'=((ms.map (λa=>if a=ms.getD j 0 then ms.getD i 0 else a)).take k).map V.int/\lget (h++[.l ys']) h.length=some ys'/\ys'.length < 200/\(ys'++[V.int u]=((ms.map (λa=>if a=ms.getD j 0 then ms.getD i 0 else a)).take (k+1)).map V.int/\(h++[O.l ys']).set h.length (.l (ys'++[V.int u]))=h++[O.l (ys'++[V.int u])]):=by
      rintro u rfl;refine⟨_,rfl,lget_push,by simp;exact rR hlen hn rfl,?_,set_last⟩;rw[bU,aL,ek];exact Kn rfl
     refine Jp ?_;walk_at"go";refine Bg (j:=m) (n:=j) (v:= .int (ms.getD j 0)) (by walk_at"pv") (by walk_at"pv") (Aa.push.lget hm (W:=[]) (aA)) (by rw[Az,aL,ej];rfl) ?_;refine⟨_,Sg,λhe=> ?_,λhe=> ?_⟩
     ·have he:ms[k]=ms.getD j 0:=by exact of_decide_eq_true ‹_›
      refine Bg (j:=m) (n:=i) (v:= .int (ms.getD i 0)) (by walk_at"pv") (by walk_at"pv") (Aa.push.lget hm (W:=[]) (aA)) (by rw[Az,aL,ei];rfl) ?_;obtain⟨ys',rfl,a1,a2,a3,a4⟩:=nx (ms.getD i 0) (by rw[if_pos he]);exact⟨a1,a2,a3,a4⟩
     ·have he: ¬ms[k]=ms.getD j 0:=by simpa using he
      walk_at"go";obtain⟨ys',rfl,a1,a2,a3,a4⟩:=nx ms[k] (by rw[if_neg he]);exact⟨a1,a2,a3,a4⟩
    ·intro ys h' zz;refine x02 zz ?_;clear zz;intro z0 z1;subst z0;subst z1
     walk_at"go";refine⟨by walk_at"rg",by walk_at"rg",by walk_at"rg",K.trans Aa.push,h.length,by walk_at"rg",?_⟩;rw[lget_push];have e:mIn M B i (j+1) (Cg M B i (B0 n))=ms.map (λa=>if a=ms.getD j 0 then ms.getD i 0 else a):=by
      show Cr M B i j (mIn M B i j _)=_;rw[hms];dsimp only[Cr];rw[if_pos ht]
     rw[e];have:(ms.map V.int).length=(ms.map (λa=>if a=ms.getD j 0 then ms.getD i 0 else a)).length:=(aO _).trans (aO _).symm;rw[this,cE]
   ·have ht: ¬M i j<=B:=by simpa using ht
    walk_at"go";refine⟨by walk_at"rg",by walk_at"rg",by walk_at"rg",K,m,by walk_at"rg",?_⟩;have e:mIn M B i (j+1) (Cg M B i (B0 n))=mIn M B i j (Cg M B i (B0 n)):=by
     show Cr M B i j (mIn M B i j _)=_;dsimp only[Cr];rw[if_neg ht]
    rw[e];exact hm
end
end
section
structure LV(hp:HP)(lo w:Nat)(L:List (List V)):Prop where
 ex: ∃ids:List Nat,lget hp w=some (ids.map .lst)/\ids.length=L.length/\(∀p∈ids.zip L,lget hp p.1=some p.2)/\w∉ids/\∀id∈ids,lo<=id
 lo:lo<=w
theorem Jg{hp:HP}:LV (hp++[O.l []]++[O.l []]++[O.l [V.lst (hp++[O.l []]).length]]) hp.length (hp++[O.l []]++[O.l []]).length [[]]:=
 ⟨⟨[(hp++[O.l []]).length],lget_push,rfl,λ_ h=>aK.1 h▸Aa.push.lget (W:=[]) lget_push aA,mmD mm7,λ_ h=>aK.1 h▸mm6⟩,mm5⟩
theorem LV_nil{hp:HP}:LV (hp++[O.l []]++[O.l []]) hp.length (hp.length+1) []:=
 ⟨⟨[],mmG (l:=hp) (x:=O.l [])▸lget_push,rfl,λ_ h=>absurd h aA,aA,λ_ h=>absurd h aA⟩,g5Q _⟩
theorem Xw{hp:HP}{a b:O}:hp.length+2<=(hp++[a]++[b]).length:=by
 rw[mmG,mmG];exact bJ _
theorem LV.keep{hp hp' lo w L}(h:LV hp lo w L)(k:Aa [] hp hp'):LV hp' lo w L:=by
 refine x15 h.ex ?_;intro ids e1 e2 e3 e4 e5;exact⟨⟨ids,k.lget e1 (aA),e2,λp hp=>k.lget (e3 p hp) (aA),e4,e5⟩,h.lo⟩
theorem Cm{hp:HP}{i j:Nat}{o:O}(h:i≠j):lget (hp.set i o) j=lget hp j:=by
 dsimp only[lget];rw[aZ h]
theorem Aa.setNew{hp h:HP}{w:Nat}{o:O}(k:Aa [] hp h)(hw:hp.length<=w):Aa [] hp (h.set w o):=
 ⟨by simpa using k.1,λi p e _=>by
  have:=(aF.mp e).1;rw[aZ (Oy this hw)];exact k.2 i p e (by assumption)⟩
theorem LV.append{h:HP}{lo w id:Nat}{L:List (List V)}{o:List V}{Q:V->HP->Prop}(l:LV h lo w L)(e:lget h id=some o)(hne:id≠w)(hid:lo<=id)(hl:L.length < 200)(q: ∀h',LV h' lo w (L++[o])->(∀hp,Aa [] hp h->hp.length<=w->Aa [] hp h')->(∀j,j≠w->lget h' j=lget h j)->h'.length=h.length->Q .none h'):
  OpW (C1 .append (.lst w) [.lst id] h) Q:=by
 refine x15 l.ex ?_;intro ids e1 e2 e3 e4 e5;have hw:=An e1;refine .some (a:= .none) (b:=h.set w (.l (ids.map .lst++[.lst id]))) ?_ (q _ ⟨⟨ids++[id],?_,?_,?_,?_,?_⟩,l.lo⟩ (λhp k hh=>k.setNew hh) (λj hj=>Cm (g0F hj)) (by simp))
 ·show (lget h w).bind _=_
  rw[e1];show (if(ids.map V.lst).length < 200 then _ else _)=_;exact if_pos (by simp;exact Q61 e2 hl)
 ·rw[lget_set_self hw];simp
 ·simp[e2]
 ·intro p hp
  rw[List.zip_append (by assumption)] at hp;clear l hid hl q e1 e2 e5 hw;rcases aY.mp hp with hp|hp
  ·have hm:=(g0Z hp).1
   rw[Cm (λz=>e4 (by rw[z];exact hm))];exact e3 p hp
  ·simp at hp
   clear e3 e4;subst hp;rw[Cm (g0F hne)];exact e
 ·simp[e4,g0F hne]
 ·intro j hj
  clear l e hne hl q e1 e2 e3 e4 hw;rcases aY.mp hj with hj|hj
  ·exact e5 j hj
  ·rw[aK.mp hj];exact hid
noncomputable def ordersN:Nat->List Int->List (List Int)
 | 0,_=>[[]]
 | k+1,xs=>match xs with
  | []=>[[]]
  | xs=>xs.flatMap λone=>(ordersN k (xs.filter λo=> !decide (o=one))).map (one:: ·)
noncomputable def Ee:Nat->Nat
 | 0=>1
 | n+1=>(n+1)*Ee n
theorem Om{α β:Type}{f:α->List β}{c:Nat}: ∀{l:List α},(∀a∈l,(f a).length<=c)->(l.flatMap f).length<=l.length*c
 | [],_=>by exact cL _
 | a::l,h=>by
  have h1:=h a (.head _);have h2:=Om (l:=l) λb hb=>h b (.tail _ ‹_›);simp only[g2B,aP,g2I,g7P,gDQ];exact rS h1 h2
theorem Ub{xs:List Int}{one:Int}(h:one∈xs):(xs.filter λo=> !decide (o=one)).length < xs.length:=
 g4Z.mpr ⟨one,h,by simp⟩
theorem N4: ∀k,1<=Ee k
 | 0=>bJ _
 | n+1=>by dsimp only[Ee];exact bR (N4 n) (Nat.le_mul_of_pos_left _ (Io))
theorem Vj: ∀(k:Nat) (xs:List Int) (o:List Int),o∈ordersN k xs->o.length<=k
 | 0,_,o,h=>by simp[ordersN] at h;simp[h]
 | k+1,[],o,h=>by simp[ordersN] at h;simp[h]
 | k+1,x::xs,o,h=>by
  have h:o∈(x::xs).flatMap λone=>(ordersN k ((x::xs).filter λo=> !decide (o=one))).map (one:: ·):=h;replace h:=g0N.mp h;refine x12 h ?_;clear h;intro one _ h;refine x12 (bI.mp h) ?_;intro o' h' z2;subst z2;have:=Vj k _ o' h';simp;exact Q88 this
theorem Oo: ∀(k:Nat) (xs:List Int),xs.length<=k->(ordersN (k+1) xs).length<=Ee k
 | k,[],_=>by simpa[ordersN] using N4 k
 | 0,x::xs,h=>by exact absurd ‹_› (g7O _)
 | k+1,x::xs,h=>by
  show ((x::xs).flatMap _).length<=_;refine bR (Om (c:=Ee k) λone ho=> ?_) ?_
  ·rw[aO]
   exact Oo k _ (by have:=Ub ho;exact Wf this h)
  ·show _<=(k+1)*Ee k
   exact g5I _ h
theorem Le{h:HP}{i j:Nat}{xs:List Int}(h1:lget h i=some (xs.map .int))(h2:lget h j=some []):Bd .eq (.lst i) (.lst j) h=some xs.isEmpty:=Ka h1 h2 (Ek (λ_=>rfl) xs) rfl (by cases xs <;> rfl)
theorem Qd{hp:HP}{a b:Int}:Bd .ne (.int a) (.int b) hp=some (!decide (a=b)):=by
 show (some (Ap a b)).map _=_;rw[beqInt_eq];rfl
theorem Ny{h:HP}{i j:Nat}{xs ys:List V}{Q:V->HP->Prop}(h1:lget h i=some xs)(h2:lget h j=some ys)(hl:(xs++ys).length<=200)(q:Q (.lst h.length) (h++[.l (xs++ys)])):OpW (B7 .add (.lst i) (.lst j) h) Q:=
 .some (by
  show (lget h i).bind (λx=>(lget h j).bind λy=>alloc h (x++y))=_;rw[h1,h2];show alloc h (xs++ys)=_;dsimp only[alloc];rw[if_pos hl]) q
section
variable {hp:HP} {Q:V->HP->Prop}
theorem kN: ∀(k d:Nat) (hp:HP) (s:Nat) (xs:List Int) (Q:V->HP->Prop),xs.length<=k->k<=4->lget hp s=some (xs.map .int)->
  (∀r h',LV h' hp.length r ((ordersN (k+1) xs).map λo=>o.map .int)->Aa [] hp h'->Q (.lst r) h')->As (d+k+1) 290 [.lst s] hp Q:=by
 intro k;induction k with
 | zero=>
  intro d hp s xs Q hk _ hs q;obtain rfl:xs=[]:=g0R.mp (Li hk);refine Bf rfl rfl rfl ?_;show Wex d b290 [(55,.lst s)] hp _;dsimp only[b290];walk_at"go";refine⟨by simp,true,Le (Aa.push.lget hs (W:=[]) (aA)) lget_push,λ_=> ?_,λz=>by cases z⟩;walk_at"go";refine⟨by simp,?_⟩;walk_at"go";refine⟨g0L _,?_⟩;exact q _ _ Jg ((Aa.push.trans Aa.push).trans Aa.push)
 | succ k ih=>
  intro d hp s xs Q hk hk4 hs q;refine Bf rfl rfl rfl ?_;show Wex (d+k+1) b290 [(55,.lst s)] hp _;dsimp only[b290];walk_at"go";refine⟨cL _,xs.isEmpty,Le (Aa.push.lget hs (W:=[]) (aA)) lget_push,λhz=> ?_,λhz=> ?_⟩
  ·clear ih hs;obtain rfl:xs=[]:=cJ.mp hz
   walk_at"go";refine⟨cL _,?_⟩;walk_at"go";refine⟨g0L _,?_⟩;exact q _ _ Jg ((Aa.push.trans Aa.push).trans Aa.push)
  ·walk_at"go"
   refine⟨cL _,?_⟩;walk_at"ev";have hxne:xs≠[]:=by intro z;rw[z] at hz;cases hz
   have K0:Aa [] hp (hp++[O.l []]++[O.l []]):=Aa.push.trans Aa.push;have hs0:=K0.lget hs (aA);clear hz;generalize hf:(λone:Int=>((ordersN (k+1) (xs.filter λo=> !decide (o=one))).map (one:: ·)).map λo=>o.map V.int)=f;have tot:((ordersN (k+1+1) xs).map λo=>o.map V.int)=xs.flatMap f:=by
    clear ih hk hk4 hs q K0 hs0;subst hf;refine x21 (g3Y hxne) ?_;intro x ys z2;subst z2;show (((x::ys).flatMap _).map _)=_;rw[g6T]
   have tlen:(xs.flatMap f).length<=24:=by
    rw[<-tot,aO];refine bR (Oo (k+1) xs hk) ?_;have:k=0\/k=1\/k=2\/k=3:=R54 hk4;clear ih hs q K0 hs0 hf tot;rcases this with rfl|rfl|rfl|rfl <;> decide
   refine Bu (Ck ?_);walk_at"go";refine⟨.lst s 0,it_lst hs0,?_⟩;refine Fw (xs:=xs.map .int) (λm U h=>rget U 55=some (.lst s)/\rget U 60=some (.lst (hp.length+1))/\Aa [] hp h/\hp.length+2<=h.length/\LV h hp.length (hp.length+1) ((xs.take m).flatMap f)) ?_ ?_ ?_ ?_
   ·refine⟨by walk_at"rg",rget_same.trans (congrArg (λn=>some (V.lst n)) mmG),K0,Xw,LV_nil⟩
   ·clear ih hk hk4 q hxne K0 hs0 hf tot tlen;rintro m U h ⟨_,_,K,_⟩;exact K.lget hs (aA)
   ·intro U h zz;refine x05 zz ?_;clear zz;intro r1 r2 K _ L
    walk_at"go";refine q _ _ ?_ K;rw[tot];have:(xs.map V.int).length=xs.length:=by exact aO _
    rw[this,cE] at L;exact L
   ·intro m v U h hv zz;refine x05 zz ?_;clear zz;intro r1 r2 K hhl L
    have hm:m < xs.length:=by have:=(aF.mp hv).1;simpa using this
    have em:xs[m]? =some xs[m]:=aD hm;have hv':v= .int xs[m]:=by rw[aL,em] at hv;exact(aB hv).symm
    clear q K0 hs0 tot;subst hv';refine⟨_,rfl,?_⟩;refine ex_cons (Bu (Ck ?_));walk_at"go";have hsh:=K.lget hs (aA);have hsl:=An hsh;refine G3 (i:=s) (us:=xs.map .int) (λj ys h'=>ys=((xs.take j).filter λo=> !decide (o=xs[m])).map .int/\h'=h++[.l ys]) ?_ hsh ?_ ?_ ?_ ?_
    ·walk_at"go";exact⟨rfl,rfl⟩
    ·exact⟨rfl,rfl⟩
    ·clear ih hs hf r1 r2 K L em hv;rintro j ys h' ⟨_,rfl⟩;exact⟨lget_push,Aa.push.lget hsh (W:=[]) (aA)⟩
    ·clear ih hs hf r1 r2 K L em hv hsh;intro j ys h' u hu zz;refine x02 zz ?_;clear zz;intro z0 z1;subst z0;subst z1
     have hj:j < xs.length:=by have:=(aF.mp hu).1;simpa using this
     have ej:xs[j]? =some xs[j]:=aD hj;have hu':u= .int xs[j]:=by rw[aL,ej] at hu;exact(aB hu).symm
     clear hu;subst hu';refine Cv ?_;walk_at"go";refine⟨_,Qd,λhc=> ?_,λhc=> ?_⟩
     ·refine Bs ⟨λ_=> ?_,λz=>by cases z⟩
      walk_at"go";refine⟨lget_push,?_,?_,by simp⟩
      ·have:=g0P (λo=> !decide (o=xs[m])) (xs.take j)
       simp at this ⊢;exact rT this hk hk4 rfl
      ·rw[bU,ej]
       simp only[g3U,g1G,cD];congr 1;simp[gCV,hc]
     ·refine⟨λz=>(by cases z),λ_=>⟨?_,rfl⟩⟩
      rw[bU,ej];simp only[g3U,g1G,cD];simp[gCV,hc]
    ·clear hs hsh;intro ys h' zz;refine x02 zz ?_;clear zz;intro z0 z1;subst z0;subst z1
     have e5:(xs.map V.int).length=xs.length:=by exact aO _
     rw[e5,cE];walk_at"go";have hmem:xs[m]∈xs:=g0I ..;refine ih d _ h.length (xs.filter λo=> !decide (o=xs[m])) _ (by have:=Ub hmem;exact Wf this hk) (Q75 hk4) lget_push λr h2 L2 K2=> ?_;refine x15 L2.ex ?_;intro ids g1 g2 g3 g4 g7;have hr:=L2.lo;simp only[aP,g2I,gAT] at hr g7;have L':LV h2 hp.length (hp.length+1) ((xs.take m).flatMap f):=(L.keep Aa.push).keep K2;have K':Aa [] hp h2:=(K.trans Aa.push).trans K2;have hh2:hp.length+2<=h2.length:=by have:=K2.1;simp at this;exact rU hhl this
     clear ih K L hmem L2 K2;have flen:f xs[m]=((ordersN (k+1) (xs.filter λo=> !decide (o=xs[m]))).map λo=>(xs[m]::o).map V.int):=by subst hf;exact cB
     refine⟨.lst r 0,it_lst g1,?_⟩;refine Fw (xs:=ids.map .lst) (λj U h3=>rget U 55=some (.lst s)/\rget U 60=some (.lst (hp.length+1))/\rget U 38=some (.int xs[m])/\Aa [] hp h3/\hp.length+2<=h3.length/\lget h3 r=some (ids.map .lst)/\(∀p∈ids.zip ((ordersN (k+1) (xs.filter λo=> !decide (o=xs[m]))).map λo=>o.map V.int),lget h3 p.1=some p.2)/\LV h3 hp.length (hp.length+1) ((xs.take m).flatMap f++(f xs[m]).take j)) ?_ ?_ ?_ ?_
     ·exact⟨by walk_at"rg",by walk_at"rg",by walk_at"rg",K',hh2,g1,g3,by simpa using L'⟩
     ·clear hf r1 r2 em hv g1 g3 g7 L' K' flen;rintro j U h3 ⟨_,_,_,_,_,z,_⟩;exact z
     ·intro U h3 zz;refine x08 zz ?_;clear zz;intro r1 r2 r3 K3 hh3 _ _ L3
      walk_at"ev";refine⟨r1,r2,K3,hh3,?_⟩;have:(ids.map V.lst).length=(f xs[m]).length:=by rw[flen];simp[g2]
      rw[this,cE] at L3;rw[bU,em,g1R];simpa using L3
     ·intro j v U h3 hv zz;refine x08 zz ?_;clear zz;intro r1 r2 r3 K3 hh3 g5 g6 L3
      have hj:j < ids.length:=by have:=(aF.mp hv).1;simpa using this
      have ej:ids[j]? =some ids[j]:=aD hj;have hv':v= .lst ids[j]:=by rw[aL,ej] at hv;exact(aB hv).symm
      subst hv';have hjo:j < (ordersN (k+1) (xs.filter λo=> !decide (o=xs[m]))).length:=by rw[g2] at hj;simpa using hj
      generalize hod:(ordersN (k+1) (xs.filter λo=> !decide (o=xs[m])))[j]=od;have eo:(ordersN (k+1) (xs.filter λo=> !decide (o=xs[m])))[j]? =some od:=by rw[<-hod];exact aD hjo
      have gid:lget h3 ids[j]=some (od.map .int):=by
       refine g6 (ids[j],od.map .int) (aU (i:=j) ?_);rw[g2H];exact⟨ej,by rw[aL,eo];rfl⟩
      refine⟨_,rfl,?_⟩;walk_at"go";refine J2 ?_;walk_at"go";refine x12 L3.ex ?_;intro ids3 l1 _;refine⟨_,_,rfl,l1,?_⟩;walk_at"go";refine⟨g0L _,?_⟩;walk_at"go";have odl:od.length<=100:=by
       have:=Vj _ _ od (aU eo);exact Wg this hk4 rfl
      refine Ny lget_push (Aa.push.lget gid (W:=[]) (aA)) (by simp;exact Q31 odl rfl) ?_;walk_at"go";have Lx:=(L3.keep (Aa.push (o:=O.l [V.int xs[m]]))).keep (Aa.push (o:=O.l ([V.int xs[m]]++od.map V.int)));have pre:((xs.take m).flatMap f).length+(f xs[m]).length<=24:=by
       have e6:xs.flatMap f=(xs.take (m+1)).flatMap f++(xs.drop (m+1)).flatMap f:=by rw[<-g1R,g8R]
       have e7:(xs.take (m+1)).flatMap f=(xs.take m).flatMap f++f xs[m]:=by rw[bU,em,g1R];simp
       rw[e6,e7] at tlen;simp only[aP] at tlen;exact Wh tlen
      have tk:((f xs[m]).take j).length<=(f xs[m]).length:=by simp;exact Wi
      refine Lx.append (id:=(h3++[O.l [V.int xs[m]]]).length) lget_push (by simp;exact Wj hh3) (by simp;exact Wk hh3) (by simp only[aP];exact Wl pre tk rfl) λh5 L5 KK5 eq5 len5=>⟨rfl,?_⟩;walk_at"ev";have K5:Aa [] hp h5:=KK5 hp ((K3.trans Aa.push).trans Aa.push) (Iq);have keep3:Aa [] h3 ((h3++[O.l [V.int xs[m]]])++[O.l ([V.int xs[m]]++od.map V.int)]):=Aa.push.trans Aa.push;refine⟨by walk_at"rg",by walk_at"rg",by walk_at"rg",K5,by rw[len5];simp;exact Wm hh3,?_,λp hp'=> ?_,?_⟩
      ·rw[eq5 r (Wn hhl hr)];exact keep3.lget g5 (aA)
      ·have:=g7 p.1 (g0Z hp').1
       rw[eq5 p.1 (Wn hhl this)];exact keep3.lget (g6 p hp') (aA)
      ·have e8:(f xs[m])[j]? =some ((xs[m]::od).map V.int):=by rw[flen,aL,eo];rfl
       rw[bU,e8,<-g2C];exact L5
end
end
section
noncomputable abbrev Al(p:Int×Int):V:= .tup [.int p.1,.int p.2]
noncomputable def Aq:Nat->List Int->List (List (Int×Int))
 | 0,_=>[[]]
 | k+1,xs=>match xs with
  | []=>[[]]
  | a::r=>(aN r.length).flatMap λj=>(Aq k (r.eraseIdx j)).map ((a,r.getD j 0):: ·)
theorem Ob: ∀(k:Nat) (xs:List Int) (o:List (Int×Int)),o∈Aq k xs->o.length<=k
 | 0,_,o,h=>by simp[Aq] at h;simp[h]
 | k+1,[],o,h=>by simp[Aq] at h;simp[h]
 | k+1,a::r,o,h=>by
  have h:o∈(aN r.length).flatMap λj=>(Aq k (r.eraseIdx j)).map ((a,r.getD j 0):: ·):=h;replace h:=g0N.mp h;refine x12 h ?_;clear h;intro j _ h;refine x12 (bI.mp h) ?_;intro o' h' z2;subst z2;have:=Ob k _ o' h';simp;exact Q88 this
theorem Oa: ∀(k:Nat) (xs:List Int),xs.length<=k->(Aq (k+1) xs).length<=Ee k
 | k,[],_=>by simpa[Aq] using N4 k
 | 0,x::xs,h=>by exact absurd ‹_› (g7O _)
 | k+1,a::r,h=>by
  show ((aN r.length).flatMap _).length<=_;refine bR (Om (c:=Ee k) λj hj=> ?_) ?_
  ·rw[aO]
   have hj:j < r.length:=by simpa using hj
   exact Oa k _ (by rw[g3H];simp[hj];simp at h;exact Lj h)
  ·show _<=(k+1)*Ee k
   refine g5I _ ?_;simp at h ⊢;exact Lj h
theorem mK{α:Type}{l:List α}{i j:Nat}:slice l (.int i) (.int j)=some ((l.drop (min i l.length)).take (min j l.length - min i l.length)):=by
 rw[<-gCB,<-gCB];rfl
theorem Ul{α:Type}{l:List α}{i:Nat}:slice l (.int i) .none=some (l.drop i):=by
 show some ((l.drop (clipAt l.length i)).take (l.length - clipAt l.length i))=_;rw[gCB,g2R (g4D gAN)];cases g1Y i l.length with
 | inl h=>rw[g5D h]
 | inr h=>rw[g7C h,List.drop_length,List.drop_of_length_le h]
theorem Pj{j:Nat}:(1:Int)+(j:Int)*1=((j+1:Nat):Int):=by rw[g7R,g9D];rfl
theorem kX{a:V}{r:List V}{j:Nat}(hj:j<=r.length):slice (a::r) (.int 1) (.int ((1:Int)+(j:Int)*1))=some (r.take j):=by
 rw[Pj];refine(mK (i:=1)).trans ?_;show some (((a::r).drop (min 1 (r.length+1))).take (min (j+1) (r.length+1) - min 1 (r.length+1)))=_;rw[g5D (g5J hj 1),g5D (gBJ 1 r.length)];rfl
theorem mL{a:V}{r:List V}{j:Nat}:slice (a::r) (.int ((1:Int)+(j:Int)*1+1)) .none=some (r.drop (j+1)):=by
 rw[Pj];exact Ul (l:=a::r) (i:=j+2)
theorem mZ: ∀(k d:Nat) (hp:HP) (s:Nat) (xs:List Int) (Q:V->HP->Prop),xs.length<=k->k<=4->lget hp s=some (xs.map .int)->
  (∀r h',LV h' hp.length r ((Aq (k+1) xs).map λo=>o.map Al)->Aa [] hp h'->Q (.lst r) h')->As (d+k+1) 271 [.lst s] hp Q:=by
 intro k;induction k with
 | zero=>
  intro d hp s xs Q hk _ hs q;obtain rfl:xs=[]:=g0R.mp (Li hk);refine Bf rfl rfl rfl ?_;show Wex d b271 [(55,.lst s)] hp _;unfold b271;walk_at"go";refine⟨by simp,true,Le (Aa.push.lget hs (W:=[]) (aA)) lget_push,λ_=> ?_,λz=>by cases z⟩;walk_at"go";refine⟨by simp,?_⟩;walk_at"go";refine⟨g0L _,?_⟩;exact q _ _ Jg ((Aa.push.trans Aa.push).trans Aa.push)
 | succ k ih=>
  intro d hp s xs Q hk hk4 hs q;refine Bf rfl rfl rfl ?_;show Wex (d+k+1) b271 [(55,.lst s)] hp _;unfold b271;walk_at"go";refine⟨cL _,xs.isEmpty,Le (Aa.push.lget hs (W:=[]) (aA)) lget_push,λhz=> ?_,λhz=> ?_⟩
  ·clear ih hs;obtain rfl:xs=[]:=cJ.mp hz
   walk_at"go";refine⟨cL _,?_⟩;walk_at"go";refine⟨g0L _,?_⟩;exact q _ _ Jg ((Aa.push.trans Aa.push).trans Aa.push)
  ·walk_at"go"
   refine⟨cL _,?_⟩;walk_at"ev";obtain⟨a,t,rfl⟩: ∃a t,xs=a::t:=by
    clear ih hk hk4 hs q;cases xs with
    | nil=>cases hz
    | cons a t=>exact⟨a,t,rfl⟩
   have K0:Aa [] hp (hp++[O.l []]++[O.l []]):=Aa.push.trans Aa.push;have hs0:=K0.lget hs (aA);clear hz;generalize hf:(λj:Nat=>((Aq (k+1) (t.eraseIdx j)).map ((a,t.getD j 0):: ·)).map λo=>o.map Al)=f;have tot:((Aq (k+1+1) (a::t)).map λo=>o.map Al)=(aN t.length).flatMap f:=by
    clear ih hk4 hk hs q K0 hs0;subst hf;show (((aN t.length).flatMap _).map _)=_;rw[g6T]
   have tlen:((aN t.length).flatMap f).length<=24:=by
    rw[<-tot,aO];refine bR (Oa (k+1) (a::t) hk) ?_;have:k=0\/k=1\/k=2\/k=3:=R54 hk4;clear ih hs q K0 hs0 hf tot;rcases this with rfl|rfl|rfl|rfl <;> decide
   refine Bu (Dp ?_);walk_at"go";refine Dy hs0 ?_;walk_at"go";have ht4:t.length+1<=4:=by simp at hk;exact Lg hk hk4
   have hrg:B5 [V.int 1,V.int (((a::t).map V.int).length:Nat)]=some (.rng (1:Nat) 1 (((a::t).map V.int).length - 1)):=Nu (a:=1) (g0L _) (by simp;exact Wo ht4 rfl);have hl1:((a::t).map V.int).length - 1=t.length:=by exact aO _
   rw[hl1] at hrg;refine⟨_,hrg,?_⟩;clear hrg;let I1:Nat->Rho->HP->Prop:=λm U h=>rget U 55=some (.lst s)/\rget U 40=some (.lst (hp.length+1))/\Aa [] hp h/\hp.length+2<=h.length/\LV h hp.length (hp.length+1) ((aN m).flatMap f);refine P6 I1 ?_ ?_ ?_
   ·refine⟨by walk_at"rg",rget_same.trans (congrArg (λn=>some (V.lst n)) mmG),K0,Xw,LV_nil⟩
   ·intro U h zz;refine x05 zz ?_;clear zz;intro r1 r2 K _ L
    walk_at"go";refine q _ _ ?_ K;rw[tot];exact L
   ·intro m U h hm zz;refine x05 zz ?_;clear zz;intro r1 r2 K hhl L
    have em:t[m]? =some (t.getD m 0):=by simp[hm]
    have em1:((a::t).map V.int)[m+1]? =some (.int (t.getD m 0)):=by rw[cG,g2O,aL,em];rfl
    refine ex_cons (Bu (Ck ?_));walk_at"go";have hsh:=K.lget hs (aA);refine M1 (Ei (by walk_at"rg") (Gc (Fg (Gc (Ei (by walk_at"rg") ?_)))));have htm:(t.map V.int).length=t.length:=by assumption
    refine⟨s,_,_,rfl,hsh,kX (r:=t.map V.int) (j:=m) (rV hm htm),by simp;exact rW ht4 rfl,?_⟩;refine M1 (Ei (by walk_at"rg") (Gc (ev_bin (Ei (by walk_at"rg") (Fg ?_)))));refine OpW.some (a:=V.int ((1:Int)+(m:Int)*1+1)) rfl ?_;refine Dr ?_;refine⟨s,_,_,rfl,Aa.push.lget hsh (W:=[]) (aA),mL (r:=t.map V.int) (j:=m),by simp;exact rX ht4 rfl,?_⟩;refine Ny (Aa.push.lget lget_push (W:=[]) (aA)) lget_push (by simp;exact rY ht4 rfl) ?_;walk_at"go";have eer:(t.map V.int).take m++(t.map V.int).drop (m+1)=(t.eraseIdx m).map V.int:=by
     rw[g6G];simp
    rw[eer];clear q K0 hs0 tot em hsh eer;generalize hgh:(h++[O.l ((t.map V.int).take m)])++[O.l ((t.map V.int).drop (m+1))]=g;have Kg:Aa [] h g:=by rw[<-hgh];exact Aa.push.trans Aa.push
    have hgl:h.length+2=g.length:=by rw[<-hgh];simp
    have elen:(t.eraseIdx m).length<=k:=by rw[g3H];simp[hm];simp at hk;exact Lj hk
    refine ih d _ g.length (t.eraseIdx m) _ elen (Q75 hk4) lget_push λr h2 L2 K2=> ?_;refine x15 L2.ex ?_;intro ids g1 g2 g3 g4 g7;have hr:=L2.lo;simp only[aP,g2I,gAT] at hr g7;have L':LV h2 hp.length (hp.length+1) ((aN m).flatMap f):=((L.keep Kg).keep Aa.push).keep K2;have K':Aa [] hp h2:=((K.trans Kg).trans Aa.push).trans K2;have hh2:hp.length+2<=h2.length:=by have:=K2.1;simp at this;exact rZ hhl hgl this
    clear ih K L hgh Kg L2 K2;have flen:f m=((Aq (k+1) (t.eraseIdx m)).map λo=>((a,t.getD m 0)::o).map Al):=by subst hf;exact cB
    refine⟨.lst r 0,it_lst g1,?_⟩;refine Fw (xs:=ids.map .lst) (λj U h3=>rget U 55=some (.lst s)/\rget U 40=some (.lst (hp.length+1))/\rget U 36=some (.int ((1:Int)+(m:Int)*1))/\Aa [] hp h3/\hp.length+2<=h3.length/\lget h3 r=some (ids.map .lst)/\(∀p∈ids.zip ((Aq (k+1) (t.eraseIdx m)).map λo=>o.map Al),lget h3 p.1=some p.2)/\LV h3 hp.length (hp.length+1) ((aN m).flatMap f++(f m).take j)) ?_ ?_ ?_ ?_
    ·exact⟨by walk_at"rg",by walk_at"rg",by walk_at"rg",K',hh2,g1,g3,by simpa using L'⟩
    ·clear hk4 hk hs hf tlen ht4 hl1 hm r1 r2 hhl em1 htm hgl elen g1 g2 g3 g4 hr g7 L' K' hh2 flen;rintro j U h3 ⟨_,_,_,_,_,z,_⟩;exact z
    ·intro U h3 zz;refine x08 zz ?_;clear zz;intro r1 r2 r3 K3 hh3 _ _ L3
     walk_at"ev";refine⟨r1,r2,K3,hh3,?_⟩;have:(ids.map V.lst).length=(f m).length:=by rw[flen];simp[g2]
     rw[this,cE] at L3;rw[g0Y,g1R];simpa using L3
    ·intro j v U h3 hv zz;refine x08 zz ?_;clear zz;intro r1 r2 r3 K3 hh3 g5 g6 L3
     have hj:j < ids.length:=by have:=(aF.mp hv).1;simpa using this
     have ej:ids[j]? =some ids[j]:=aD hj;have hv':v= .lst ids[j]:=by rw[aL,ej] at hv;exact(aB hv).symm
     subst hv';have hjo:j < (Aq (k+1) (t.eraseIdx m)).length:=by rw[g2] at hj;simpa using hj
     generalize hod:(Aq (k+1) (t.eraseIdx m))[j]=od;have eo:(Aq (k+1) (t.eraseIdx m))[j]? =some od:=by rw[<-hod];exact aD hjo
     have gid:lget h3 ids[j]=some (od.map Al):=by
      refine g6 (ids[j],od.map Al) (aU (i:=j) ?_);rw[g2H];exact⟨ej,by rw[aL,eo];rfl⟩
     have hs3:=K3.lget hs (aA);refine⟨_,rfl,?_⟩;walk_at"go";refine J2 ?_;walk_at"go";refine x12 L3.ex ?_;intro ids3 l1 _;refine⟨_,_,rfl,l1,?_⟩;walk_at"go";refine Bg (j:=s) (n:=0) (v:= .int a) (by walk_at"pv") (by walk_at"pv") hs3 rfl ?_;walk_at"go";refine Bg (j:=s) (v:= .int (t.getD m 0)) (by walk_at"pv") (by walk_at"pv") hs3 ?_ ?_
     ·have e9:(1:Int)+(m:Int)*1=((m+1:Nat):Int):=by exact R63
      rw[e9,Az];exact em1
     walk_at"go";refine⟨aT rfl,?_⟩;walk_at"go";refine⟨g0L _,?_⟩;walk_at"go";have odl:od.length<=100:=by
      have:=Ob _ _ od (aU eo);exact Wg this hk4 rfl
     refine Ny lget_push (Aa.push.lget gid (W:=[]) (aA)) (by simp;exact Q31 odl rfl) ?_;walk_at"go";have Lx:=(L3.keep (Aa.push (o:=O.l [Al (a,t.getD m 0)]))).keep (Aa.push (o:=O.l ([Al (a,t.getD m 0)]++od.map Al)));have pre:((aN m).flatMap f).length+(f m).length<=24:=by
      have e6:aN t.length=aN (m+1)++(aN (t.length - (m+1))).map (m+1+ ·):=by rw[<-List.range_add];congr 1;exact sA hm
      have e7:(aN (m+1)).flatMap f=(aN m).flatMap f++f m:=by rw[g0Y,g1R];simp
      rw[e6,g1R,e7] at tlen;simp only[aP] at tlen;exact Wh tlen
     have tk:((f m).take j).length<=(f m).length:=by simp;exact Wi
     refine Lx.append (id:=(h3++[O.l [Al (a,t.getD m 0)]]).length) lget_push (by simp;exact Wj hh3) (by simp;exact Wk hh3) (by simp only[aP];exact Wl pre tk rfl) λh5 L5 KK5 eq5 len5=>⟨rfl,?_⟩;walk_at"ev";have K5:Aa [] hp h5:=KK5 hp ((K3.trans Aa.push).trans Aa.push) (Iq);have keep3:Aa [] h3 ((h3++[O.l [Al (a,t.getD m 0)]])++[O.l ([Al (a,t.getD m 0)]++od.map Al)]):=Aa.push.trans Aa.push;refine⟨by walk_at"rg",by walk_at"rg",by walk_at"rg",K5,by rw[len5];simp;exact Wm hh3,?_,λp hp'=> ?_,?_⟩
     ·rw[eq5 r (Wp hhl hgl hr)];exact keep3.lget g5 (aA)
     ·have:=g7 p.1 (g0Z hp').1
      rw[eq5 p.1 (Wp hhl hgl this)];exact keep3.lget (g6 p hp') (aA)
     ·have e8:(f m)[j]? =some (((a,t.getD m 0)::od).map Al):=by rw[flen,aL,eo];rfl
      rw[bU,e8,<-g2C];exact L5
end
section
noncomputable abbrev En:=Bool×Nat×Nat
noncomputable def nmS(up:Bool)(u:Nat):Str:=Aj [if up then 65+u else 97+u]
noncomputable def ent(e:En):V:= .tup [.str (nmS e.1 e.2.1),.str (nmS false e.2.2)]
noncomputable abbrev strV(w:Nat):V:= .str (nmS false w)
noncomputable def getA(L:List En)(u:Nat):List Nat:=(L.filter λe=>aW e.2.1 u).map (·.2.2)
structure Lk(hp:HP)(i l:Nat)(L:List En):Prop where
 at_:hp[i]? =some (.d l)
 get:lget hp l=some (L.map ent)
 len:L.length<=60
 bd: ∀e∈L,e.2.1 < 5/\e.2.2 < 5
theorem Lk.ne{hp i l L}(h:Lk hp i l L):i≠l:=by
 intro z;subst z;have:=Fb h.get;rw[h.at_] at this;cases this
theorem Lk.keep{hp hp' i l L W}(h:Lk hp i l L)(k:Aa W hp hp')(h1:i∉W)(h2:l∉W):Lk hp' i l L:=⟨k.2 _ _ h.at_ h1,k.lget h.get h2,h.len,h.bd⟩
theorem Hy: ∀{up:Bool} {u:Nat},u < 5->Aj ((chars (nmS up u)).map C0)=nmS false u:=by decide+kernel
theorem plain_nm: ∀{up:Bool} {u:Nat},u < 5->Cl (nmS up u)=true:=by decide+kernel
theorem Gm{u w:Nat}(hu:u < 5)(hw:w < 5):Bb (chars (nmS false u)) (chars (nmS false w))=aW u w:=
 (by decide+kernel: ∀u,u < 5->∀w,w < 5->Bb (chars (nmS false u)) (chars (nmS false w))=aW u w) u hu w hw
theorem Ri{hp:HP}{s t:Str}:Bd .eq (.str s) (.str t) hp=some (Bb (chars s) (chars t)):=rfl
theorem R4{hp:HP}{s t:Str}:Bd .ne (.str s) (.str t) hp=some (!Bb (chars s) (chars t)):=rfl
theorem Gr{hp:HP}{s:Str}{Q:V->HP->Prop}(q:Q (.str (Aj ((chars s).map C0))) hp):OpW (C1 .lower (.str s) [] hp) Q:= .some rfl q
section
variable {d:Nat} {hp:HP} {Q:V->HP->Prop} {i l:Nat} {L:List En}
theorem N8{up:Bool}{u:Nat}(k:Lk hp i l L)(hu:u < 5)(q:Q (.lst hp.length) (hp++[.l ((getA L u).map strV)])):As (d+2) 163 [.hdr i,.str (nmS up u)] hp Q:=by
 refine Bf rfl rfl rfl ?_;show Wex (d+1) b163 [(28,.hdr i),(29,.str (nmS up u))] hp _;unfold b163;walk_at"go";refine Rk (Q93) ?_;walk_at"go";refine⟨i,l,rfl,k.at_,?_⟩;refine Dv ?_;walk_at"go";refine⟨_,rfl,?_⟩;walk_at"go";refine Gr ?_;rw[Hy hu];refine⟨_,l,rfl,k.at_,plain_nm hu,?_⟩;walk_at"go";refine G3 (i:=l) (us:=L.map ent) (λj ys h=>ys=(getA (L.take j) u).map strV/\h=hp++[.l ys]) ?_ k.get ?_ ?_ ?_ ?_
 ·refine Jo ?_
  walk_at"go";exact⟨i,l,rfl,k.at_,rfl,rfl⟩
 ·exact⟨rfl,rfl⟩
 ·clear hu q;rintro j ys h ⟨_,rfl⟩;exact⟨lget_push,Aa.push.lget k.get (W:=[]) (aA)⟩
 ·clear q;intro j ys h v hv zz;refine x02 zz ?_;clear zz;intro z0 z1;subst z0;subst z1
  have hj:j < L.length:=by have:=(aF.mp hv).1;simpa using this
  have ej:L[j]? =some L[j]:=aD hj;have hv':v=ent L[j]:=by rw[aL,ej] at hv;exact(aB hv).symm
  clear hv;subst hv';refine x02 (k.bd L[j] (g0I ..)) ?_;intro b1 b2;generalize L[j]=e at*;have etk:getA (L.take (j+1)) u=getA (L.take j) u++(if aW e.2.1 u then [e.2.2] else []):=by
   unfold getA;rw[bU,ej];simp only[g3U,g1G,cD,g1H,gAU];clear k hu hj ej b1 b2;split <;> rfl
  refine Cv ?_;walk_at"go";refine Dv ?_;refine Mz ?_;walk_at"go";refine⟨_,0,.str (nmS e.1 e.2.1),rfl,rfl,Q207,rfl,_,rfl,?_⟩;walk_at"go";refine Gr ?_;rw[Hy b1];walk_at"go";refine⟨_,Ri,λhc=> ?_,λhc=> ?_⟩
  ·rw[Gm b1 hu] at hc
   clear ej;refine Bs ⟨λ_=> ?_,λz=>by cases z⟩;refine Mz ?_;walk_at"go";refine⟨_,1,strV e.2.2,rfl,rfl,Q256,rfl,lget_push,?_,?_,by simp⟩
   ·have h1:=g0P (λe:En=>aW e.2.1 u) (L.take j)
    have h2:=k.len;simp[getA] at h1 ⊢;exact Wq h1 h2 rfl
   ·rw[etk,hc];simp
  ·rw[Gm b1 hu] at hc
   clear k hu hj ej b1 b2;refine⟨λz=>(by cases z),λ_=>⟨?_,rfl⟩⟩;rw[etk,hc];simp
 ·clear k;intro ys h zz;refine x02 zz ?_;clear zz;intro z0 z1;subst z0;subst z1
  walk_at"go";have:(L.map ent).length=L.length:=by exact aO _
  rw[this,cE];exact q
theorem CB{up:Bool}{u:Nat}(k:Lk hp i l L)(hu:u < 5)(q: ∀h',Lk h' i l (L.filter λe=> !Nat.beq e.2.1 u)->Aa [l] hp h'->Q .none h'):As (d+2) 144 [.hdr i,.str (nmS up u)] hp Q:=by
 refine Bf rfl rfl rfl ?_;show Wex (d+1) b144 [(28,.hdr i),(29,.str (nmS up u))] hp _;unfold b144;walk_at"go";refine Rk (Q93) ?_;walk_at"go";refine⟨i,l,rfl,k.at_,?_⟩;refine Dv ?_;walk_at"go";refine⟨_,rfl,?_⟩;walk_at"go";refine Gr ?_;rw[Hy hu];refine⟨_,l,rfl,k.at_,plain_nm hu,?_⟩;walk_at"go";refine iY ?_;have hlt:=An k.get;refine G3 (i:=l) (us:=L.map ent) (λj ys h=>ys=((L.take j).filter λe=> !Nat.beq e.2.1 u).map ent/\h=hp++[.l ys]) ?_ k.get ?_ ?_ ?_ ?_
 ·refine Jo ?_
  walk_at"go";exact⟨i,l,rfl,k.at_,rfl,rfl⟩
 ·exact⟨rfl,rfl⟩
 ·clear hu q hlt;rintro j ys h ⟨_,rfl⟩;exact⟨lget_push,Aa.push.lget k.get (W:=[]) (aA)⟩
 ·clear q;intro j ys h v hv zz;refine x02 zz ?_;clear zz;intro z0 z1;subst z0;subst z1
  have hj:j < L.length:=by have:=(aF.mp hv).1;simpa using this
  have ej:L[j]? =some L[j]:=aD hj;have hv':v=ent L[j]:=by rw[aL,ej] at hv;exact(aB hv).symm
  clear hv;subst hv';refine x02 (k.bd L[j] (g0I ..)) ?_;intro b1 b2;generalize L[j]=e at*;have etk:((L.take (j+1)).filter λe=> !Nat.beq e.2.1 u)=((L.take j).filter λe=> !Nat.beq e.2.1 u)++(if aW e.2.1 u then [] else [e]):=by
   rw[bU,ej];simp only[g3U,g1G,g1H,gAU];clear k hu hlt hj ej b1 b2;cases aW e.2.1 u <;> rfl
  refine Cv ?_;walk_at"go";refine Dv ?_;refine Mz ?_;walk_at"go";refine⟨_,0,.str (nmS e.1 e.2.1),rfl,rfl,Q207,rfl,_,rfl,?_⟩;walk_at"go";refine Gr ?_;rw[Hy b1];walk_at"go";refine⟨_,R4,λhc=> ?_,λhc=> ?_⟩
  ·rw[Gm b1 hu] at hc
   have hc:aW e.2.1 u=false:=by simpa using hc
   clear ej;refine Bs ⟨λ_=> ?_,λz=>by cases z⟩;walk_at"go";refine⟨lget_push,?_,?_,by simp⟩
   ·have h1:=g0P (λe:En=> !Nat.beq e.2.1 u) (L.take j)
    have h2:=k.len;simp at h1 ⊢;exact Wq h1 h2 rfl
   ·rw[etk,hc];simp
  ·rw[Gm b1 hu] at hc
   have hc:aW e.2.1 u=true:=by simpa using hc
   clear k hu hlt hj ej b1 b2;refine⟨λz=>(by cases z),λ_=>⟨?_,rfl⟩⟩;rw[etk,hc];simp
 ·intro ys h zz;refine x02 zz ?_;clear zz;intro z0 z1;subst z0;subst z1
  have:(L.map ent).length=L.length:=by exact aO _
  rw[this,cE];refine Jo ?_;walk_at"go";refine⟨i,l,rfl,Gz k.at_,?_⟩;refine⟨l,hp.length,_,_,rfl,rfl,Aa.push.lget k.get (W:=[]) (aA),lget_push,Co hlt,?_⟩;walk_at"go";refine q _ ⟨?_,?_,?_,?_⟩ (Aa.push.trans (Aa.set (.head _)))
  ·rw[aZ (g0F k.ne)];exact Gz k.at_
  ·exact lget_set_self (by simp;exact Q82 hlt)
  ·have h1:=g0P (λe:En=> !Nat.beq e.2.1 u) L
   have h2:=k.len;exact Q45 h1 h2
  ·intro e he;exact k.bd e (g3Q.mp he).1
theorem Tc(k:Lk hp i l L)(q:Q (.lst hp.length) (hp++[.l (L.map ent)])):As (d+1) 188 [.hdr i] hp Q:=by
 refine Bf rfl rfl rfl ?_;show Wex d b188 [(28,.hdr i)] hp _;unfold b188;refine ex_cons (x_ret (M1 (Jo (Ei rfl ⟨i,l,rfl,k.at_,Dr (Dr ?_)⟩))));refine⟨l,_,L.map ent,rfl,k.get,?_,?_,q⟩
 ·show some (((L.map ent).drop 0).take ((L.map ent).length - 0))=_
  rw[Nat.sub_zero,gBM,cE]
 ·have:=k.len;simp;exact Q31 this rfl
theorem Qr{up:Bool}{u w:Nat}(hd:3<=d)(k:Lk hp i l L)(hu:u < 5)(hw:w < 5)(hl:L.length < 60)(q: ∀h',Lk h' i l (L++[(up,u,w)])->Aa [l] hp h'->Q .none h'):As d 221 [.hdr i,.str (nmS up u),.str (nmS false w)] hp Q:=by
 have hlt:=An k.get;refine Sp (hp':=(hp.set l (.l (L.map ent++[.tup [.str (nmS up u),.str (nmS false w)]])))++[.l [.str (nmS false w)]]) (v:= .none) hd ?_ ?_
 ·clear q;show ((hp[i]?).bind _).bind _=_
  rw[k.at_];show (lget hp l).bind _=_;rw[k.get];show (if _ then _ else _)=_;rw[if_pos];show (_ && Cl (nmS up u) && Cl (nmS false w))=true;rw[plain_nm hu,plain_nm hw];simp;exact Q6 hl rfl
 ·refine q _ ⟨?_,?_,?_,?_⟩ ((Aa.set (.head _)).trans Aa.push)
  ·refine Gz ?_
   rw[aZ (g0F k.ne)];exact k.at_
  ·refine Td ?_
   rw[lget_set_self hlt];simp[ent]
  ·simp;exact Q66 hl rfl
  ·intro e he
   clear hd hl q hlt;rcases aY.mp he with he|he
   ·exact k.bd e he
   ·rw[aK.mp he];exact⟨hu,hw⟩
end
noncomputable def Ay(L:List En)(u w:Nat):List En:=(L.filter λe=> !Nat.beq e.2.1 u)++((getA L u).erase w).map λx=>(false,u,x)
theorem Mh{α:Type}{p:α->Bool}: ∀L:List α,(L.filter p).length+(L.filter λe=> !p e).length=L.length
 | []=>rfl
 | e::L=>by
  rw[g1H,g1H];cases p e
  ·show (L.filter p).length+((L.filter λe=> !p e).length+1)=L.length+1
   rw[<-g3O,Mh L]
  ·show (L.filter p).length+1+(L.filter λe=> !p e).length=L.length+1
   rw[gAC,Mh L]
theorem Kc(L:List En)(u:Nat):(getA L u).length+(L.filter λe=> !Nat.beq e.2.1 u).length=L.length:=by
 unfold getA;rw[aO];exact Mh L
theorem Vo(L:List En)(u w:Nat):(Ay L u w).length<=L.length:=by
 have h1:=Kc L u;have h2:((getA L u).erase w).length<=(getA L u).length:=g8Z ..;simp only[Ay,aP,aO];exact sB h2 h1.symm
theorem Rp{L:List En}{u:Nat}(bd: ∀e∈L,e.2.1 < 5/\e.2.2 < 5): ∀x∈getA L u,x < 5:=by
 intro x hx;refine x12 (bI.mp hx) ?_;intro e he z2;subst z2;exact(bd e (g3Q.mp he).1).2
theorem fJ{a b:Nat}(ha:a < 5)(hb:b < 5):eqB (strV a) (strV b)=aW a b:=Gm ha hb
theorem gL{h:HP}{j:Nat}{xs:List Nat}{w:Nat}(e:lget h j=some (xs.map strV))(bd: ∀x∈xs,x < 5)(hw:w < 5):Bd .in_ (strV w) (.lst j) h=some (decide (w∈xs)):=by
 exact R0 e (Ek (λ_=>rfl) xs) rfl (gCI.trans (Mr λx hx=>(fJ (bd x hx) hw).trans (M8 (f:=λx=>x) λ_ _ h=>h)))
theorem lC(xs:List Nat):E3 (xs.map strV)=some (xs.map λx=>nmS false x):=by
 induction xs with
 | nil=>rfl
 | cons x xs ih=>exact congrArg _ ‹_›
theorem nE{h:HP}{j:Nat}{xs:List Nat}{w:Nat}{Q:V->HP->Prop}(e:lget h j=some (xs.map strV))(bd: ∀x∈xs,x < 5)(hw:w < 5)(hm:w∈xs)(q:Q .none (h.set j (.l ((xs.erase w).map strV)))):OpW (C1 .remove (.lst j) [strV w] h) Q:=by
 have key: ∃k,(xs.map λx=>nmS false x).findIdx? (λt=>Bb (chars t) (chars (nmS false w)))=some k/\(xs.map strV).eraseIdx k=(xs.erase w).map strV:=by
  clear e q;induction xs with
  | nil=>simp at hm
  | cons x xs ih=>
   rw[cG,g9X,Gm (bd x (.head _)) hw];clear hw;by_cases hxw:x=w
   ·clear ih bd hm;subst hxw
    exact⟨0,by simp,by simp⟩
   ·obtain⟨k,k1,k2⟩:=ih (λy hy=>bd y (.tail _ ‹_›)) (by simpa[g0F hxw] using hm)
    refine⟨k+1,by rw[Eb hxw,k1];rfl,?_⟩;rw[cG,List.eraseIdx_cons_succ,k2,List.erase_cons_tail (by simpa using hxw)];rfl
 refine x12 key ?_;clear key;intro k k1 k2;refine .some (a:= .none) (b:=h.set j (.l ((xs.map strV).eraseIdx k))) ?_ (by rw[k2];exact q);show (lget h j).bind (λys=>(E3 ys).bind _)=_;rw[e];show (E3 (xs.map strV)).bind _=_;rw[lC];show (((xs.map λx=>nmS false x).findIdx? λt=>Bb (chars t) (chars (nmS false w))).bind _)=_;rw[k1];rfl
theorem Un{d:Nat}{hp:HP}{Q:V->HP->Prop}{i l:Nat}{L:List En}{u w:Nat}(k:Lk hp i l L)(hl:L.length < 60)(hu:u < 5)(hw:w < 5)(q: ∀h',Lk h' i l (Ay L u w)->Aa [l] hp h'->Q .none h'):As (d+4) 278 [.hdr i,strV u,strV w] hp Q:=by
 refine Bf rfl rfl rfl ?_;show Wex (d+3) b278 [(46,.hdr i),(51,strV u),(50,strV w)] hp _;unfold b278;walk_at"go";refine F9 rfl (g:=163) rfl ?_;walk_at"go";refine⟨i,l,rfl,k.at_,?_⟩;walk_at"go";refine N8 (up:=false) k hu ?_;walk_at"go";have hAb:=Rp (u:=u) k.bd;have K0:Aa [l] hp (hp++[.l ((getA L u).map strV)]):=Aa.push;have hlt:=An k.get;have k0:Lk (hp++[.l ((getA L u).map strV)]) i l L:=k.keep (W:=[]) Aa.push (aA) (aA);have alen:(getA L u).length<=60:=by have:=Kc L u;exact sC this hl
 have rest: ∀h,Lk h i l L->Aa [l] hp h->lget h hp.length=some (((getA L u).erase w).map strV)->Wex (d+3) [(.del (.var 46) (.var 51)),(.for_ (.one 38) (.ex (.var 56)) [(.expr (.met .addh (.var 46) [(.var 51),(.var 38)]))])] [(46,.hdr i),(51,strV u),(50,strV w),(56,.lst hp.length)] h (λf _ h=>match f with| .ret v=>Q v h| .next=>Q .none h|_=>False):=by
  intro h k1 K1 hA;refine ex_cons (BI ?_);walk_at"go";refine⟨i,l,rfl,k1.at_,?_⟩;refine CB (up:=false) k1 hu λh2 k2 K2=>⟨rfl,?_⟩;have hA2:=K2.lget hA (by simp;exact De hlt);refine ex_cons (Bu (Ck ?_));walk_at"go";refine⟨.lst hp.length 0,it_lst hA2,?_⟩;refine Fw (xs:=((getA L u).erase w).map strV) (λj U h=>rget U 46=some (.hdr i)/\rget U 51=some (strV u)/\lget h hp.length=some (((getA L u).erase w).map strV)/\Aa [l] hp h/\Lk h i l ((L.filter λe=> !Nat.beq e.2.1 u)++(((getA L u).erase w).take j).map λx=>(false,u,x))) ?_ ?_ ?_ ?_
  ·exact⟨rfl,rfl,hA2,K1.trans K2,by simpa using k2⟩
  ·clear k hl hu hw q hAb K0 hlt k0 alen k1 K1 hA k2 K2 hA2;rintro j U h ⟨_,_,z,_⟩;exact z
  ·intro U h zz;refine x05 zz ?_;clear zz;intro r1 r2 hA3 K3 k3
   walk_at"go";have:(((getA L u).erase w).map strV).length=((getA L u).erase w).length:=by exact aO _
   rw[this,cE] at k3;exact q h k3 K3
  ·intro j v U h hv zz;refine x05 zz ?_;clear zz;intro r1 r2 hA3 K3 k3
   have hj:j < ((getA L u).erase w).length:=by have:=(aF.mp hv).1;simpa using this
   have ej:((getA L u).erase w)[j]? =some ((getA L u).erase w)[j]:=aD hj;have hv':v=strV ((getA L u).erase w)[j]:=by rw[aL,ej] at hv;exact(aB hv).symm
   subst hv';have hx5:((getA L u).erase w)[j] < 5:=hAb _ (List.mem_of_mem_erase (g0I ..));generalize ((getA L u).erase w)[j]=x at*;refine⟨_,rfl,?_⟩;walk_at"go";refine F9 rfl (g:=221) rfl ?_;walk_at"go";refine⟨i,l,rfl,k3.at_,?_⟩;walk_at"go";refine Qr (up:=false) (Gg) k3 hu hx5 ?_ λh4 k4 K4=>⟨rfl,?_⟩
   ·have h1:=Kc L u
    have h2:((getA L u).erase w).length<=(getA L u).length:=g8Z ..;simp only[aP,aO,g6U];exact sD h2 h1 hl
   ·walk_at"ev"
    refine⟨by walk_at"rg",by walk_at"rg",K4.lget hA3 (by simp;exact De hlt),K3.trans K4,?_⟩;rw[bU,ej,cD,<-g2C];exact k4
 refine⟨_,gL lget_push hAb hw,λhc=> ?_,λhc=> ?_⟩
 ·have hc:w∈getA L u:=by simpa using hc
  walk_at"go";refine Dz (by walk_at"pv") lget_push ?_;walk_at"go";refine nE lget_push hAb hw hc ⟨rfl,?_⟩;walk_at"ev";refine rest _ (k0.keep (W:=[hp.length]) (Aa.set (.head _)) ?_ ?_) ((Aa.push (W:=[])).setNew (bJ _)).nil ?_
  ·have:=(aF.mp k.at_).1;simp;exact Co this
  ·simp;exact Co hlt
  ·rw[lget_set_self (mm7)]
 ·have hc:w∉getA L u:=by simpa using hc
  walk_at"ev";refine rest _ k0 K0 ?_;rw[List.erase_of_not_mem hc];exact lget_push
end
section
noncomputable abbrev WS:=List Nat×List Nat×List En
noncomputable def Dk:WS->WS
 | (st,wk,L)=>match st.getLast? with
  | none=>(st,wk,L)
  | some h=>match getA L h with
   | []=>(st.dropLast,wk++[h],L)
   | g::_=>(st++[g],wk,Ay (Ay L h g) g h)
theorem Uq{st wk:List Nat}{t:Nat}{L:List En}(h:getA L t=[]):Dk (st++[t],wk,L)=(st,wk++[t],L):=by simp[Dk,h]
theorem Ve{st wk:List Nat}{t g:Nat}{r:List Nat}{L:List En}(h:getA L t=g::r):Dk (st++[t],wk,L)=((st++[t])++[g],wk,Ay (Ay L t g) g t):=by simp[Dk,h]
noncomputable def C7:Nat->WS->Option (List Nat×List En)
 | 0,s=>match s.1 with
  | []=>some s.2
  | _=>none
 | k+1,s=>match s.1 with
  | []=>some s.2
  | _=>C7 k (Dk s)
theorem eq_strsnil{h:HP}{i j:Nat}{xs:List Nat}(h1:lget h i=some (xs.map strV))(h2:lget h j=some []):Bd .eq (.lst i) (.lst j) h=some xs.isEmpty:=Ka h1 h2 (Ek (λ_=>rfl) xs) rfl (by cases xs <;> rfl)
theorem mC{h:HP}{i j:Nat}{xs:List Nat}(h1:lget h i=some (xs.map strV))(h2:lget h j=some []):Bd .ne (.lst i) (.lst j) h=some (!xs.isEmpty):=Kb h1 h2 (Ek (λ_=>rfl) xs) rfl (by cases xs <;> rfl)
theorem F0{h:HP}{j:Nat}{xs:List V}{v:V}{Q:V->HP->Prop}(e:lget h j=some xs)(hl:xs.length < 200)(q:Q .none (h.set j (.l (xs++[v])))):OpW (C1 .append (.lst j) [v] h) Q:=
 .some (by
  show (lget h j).bind _=_;rw[e];exact if_pos hl) q
theorem eP{d:Nat}{hp:HP}{Q:V->HP->Prop}{i l:Nat}{L:List En}{N:Nat}{wk:List Nat}{L':List En}(k:Lk hp i l L)(hl:L.length < 60)(hN:N<=50)(hr:C7 N ([0],[],L)=some (wk,L'))
  (q: ∀a h',lget h' a=some (wk.map strV)->hp.length<=a->Lk h' i l L'->Aa [l] hp h'->(∀x∈wk,x < 5)->wk.length<=60->Q (.lst a) h'):As (d+5) 285 [.hdr i] hp Q:=by
 refine Bf rfl rfl rfl ?_;have hil:=(aF.mp k.at_).1;have hll:=An k.get;show Wex (d+4) b285 [(46,.hdr i)] hp _;unfold b285;walk_at"go";refine⟨g0L _,?_⟩;walk_at"go";refine⟨by simp,?_⟩;walk_at"ev";let I1:Nat->Rho->HP->Prop:=λn U h=> ∃st w L1,C7 n (st,w,L1)=some (wk,L')/\rget U 46=some (.hdr i)/\rget U 57=some (.lst hp.length)/\rget U 58=some (.lst (hp.length+1))/\lget h hp.length=some (st.map strV)/\lget h (hp.length+1)=some (w.map strV)/\Lk h i l L1/\Aa [l] hp h/\(∀x∈st,x < 5)/\(∀x∈w,x < 5)/\st.length+n<=60/\w.length+n<=60/\L1.length < 60;refine G2 I1 N ?_ ?_
 ·refine⟨[0],[],L,hr,rfl,rfl,?_,?_,?_,k.keep (W:=[]) (Aa.push.trans Aa.push) (aA) (aA),Aa.push.trans Aa.push,by simp,by simp,by simp;exact Wr hN rfl,by simp;exact Q31 hN rfl,hl⟩
  ·refine rget_same.trans ?_;simp
  ·exact Aa.push.lget (W:=[]) lget_push (aA)
  ·have:=lget_push (hp:=hp++[O.l [V.str ⟨#[97]⟩]]) (xs:=[])
   simpa using this
 ·intro n U h zz;refine x38 zz ?_;clear zz;intro st w L1 hrun r1 r2 r3 h1 h2 k1 zz;refine x06 zz ?_;clear zz;intro K b1 b2 l1 l2 l3
  have ha:=An h1;have hb:=An h2;walk_at"go";refine⟨by simp,_,mC (Aa.push.lget h1 (W:=[]) (aA)) lget_push,λht=> ?_,λht=> ?_⟩
  ·have hne:st≠[]:=by intro z;rw[z] at ht;cases ht
   obtain⟨n,rfl⟩: ∃m,n=m+1:=by
    clear k hl hN hr q hil hll r1 r2 r3 h1 h2 k1 K b1 b2 l1 l2 l3 ha hb ht;cases n with
    | zero=>
     refine x21 (g3Y hne) ?_;intro x xs z2;subst z2;clear hne;cases hrun
    | succ m=>exact⟨m,rfl⟩
   have hrun:C7 n (Dk (st,w,L1))=some (wk,L'):=by
    clear k hl hN hr q hil hll r1 r2 r3 h1 h2 k1 K b1 b2 l3 ha hb ht l1 l2;refine x21 (g3Y hne) ?_;intro x xs z2;subst z2;exact hrun
   obtain⟨s0,x,rfl⟩: ∃t v,st=t++[v]:=⟨st.dropLast,st.getLast hne,(g3J hne).symm⟩;have hx5:x < 5:=b1 x (mmN);generalize hg:h++[O.l []]=g;have Kg:Aa [] h g:=by rw[<-hg];exact Aa.push
   have g1:=Kg.lget h1 (aA);have g2:=Kg.lget h2 (aA);have kg:=k1.keep Kg (aA) (aA);have KKg:=K.trans Kg.nil;have hgl:h.length < g.length:=by rw[<-hg];exact mm7
   walk_at"go";refine Bg (n:= -1) (v:=strV x) (by walk_at"pv") (by walk_at"pv") g1 ?_ ?_
   ·unfold A9
    rw[if_neg (sE),if_pos (by simp;exact Ws)];have:((-1:Int)+(((s0++[x]).map strV).length:Nat)).toNat=s0.length:=by simp;exact Wt
    rw[this,aL,cF];rfl
   walk_at"go";refine F9 rfl (g:=163) rfl ?_;walk_at"go";refine⟨i,l,rfl,kg.at_,?_⟩;walk_at"go";refine N8 (up:=false) kg hx5 ?_;have K2:Aa [] g (g++[O.l ((getA L1 x).map strV)]):=Aa.push;walk_at"go";have K3:Aa [] (g++[O.l ((getA L1 x).map strV)]) (g++[O.l ((getA L1 x).map strV)]++[O.l []]):=Aa.push;have K23:=K2.trans K3;have hA:lget (g++[O.l ((getA L1 x).map strV)]++[O.l []]) g.length=some ((getA L1 x).map strV):=Aa.push.lget (W:=[]) lget_push (aA);have k3:=kg.keep K23 (aA) (aA);have g13:=K23.lget g1 (aA);have g23:=K23.lget g2 (aA);have KK3:=KKg.trans K23.nil;refine⟨by simp,_,eq_strsnil hA lget_push,λhc=> ?_,λhc=> ?_⟩
   ·have hc:getA L1 x=[]:=cJ.mp hc
    generalize (g++[O.l ((getA L1 x).map strV)]++[O.l []])=g3 at*;have hrun:C7 n (s0,w++[x],L1)=some (wk,L'):=by
     have e:Dk (s0++[x],w,L1)=(s0,w++[x],L1):=Uq hc;rw[e] at hrun;exact hrun
    walk_at"go";refine Dz (by walk_at"pv") g23 ?_;walk_at"ev";refine Dz (by walk_at"pv") g13 ?_;walk_at"go";refine OpW.some (a:=strV x) (b:=g3.set hp.length (.l (s0.map strV))) ?_ ?_
    ·show (lget g3 hp.length).bind _=_
     rw[g13];clear k hl hN hr q hil hll r1 r2 r3 h2 k1 K b2 l3 ha hb l2 h1 b1 ht hne l1 hx5 hg Kg g1 g2 kg KKg hgl K2 hc K3 K23 hA k3 g13 g23 KK3 hrun;show (((s0++[x]).map strV).getLast?.bind _)=_;rw[cD,cG,List.map_nil,g9A];simp
    walk_at"go";have hg3:=An g13;refine F0 (xs:=w.map strV) (by rw[Cm (Oz)];exact g23) (by simp;exact sF l2 rfl) ⟨rfl,?_⟩;walk_at"go";have hlne:l≠hp.length:=Co hll;refine⟨n,Q81,s0,w++[x],L1,hrun,by walk_at"rg",by walk_at"rg",by walk_at"rg",?_,?_,?_,?_,λy hy=>b1 y (g0A _ ‹_›),?_,by simp at l1;exact sG l1,by simp;exact Q94 l2,l3⟩
    ·rw[Cm (Wu),lget_set_self hg3]
    ·rw[lget_set_self (by have:=An g23;simp;exact sH this)];simp
    ·exact(k3.keep (W:=[hp.length]) (Aa.set (.head _)) (by simp;exact Co hil) (by simp;exact Co hll)).keep (W:=[hp.length+1]) (Aa.set (.head _)) (by simp;exact Ll hil) (by simp;exact Ll hll)
    ·have:Aa [l,hp.length,hp.length+1] hp ((g3.set hp.length (O.l (s0.map strV))).set (hp.length+1) (O.l (w.map strV++[strV x]))):=
      ((KK3.mono (by simp)).trans (Aa.set (.tail _ (.head _)))).trans (Aa.set (.tail _ (.tail _ (.head _))))
     exact this.drop λj hj=>by
      simp only[bM,aA,or_false] at hj ⊢;clear k hr q r1 r2 r3 h2 k1 K b2 h1 b1 ht hg Kg g1 g2 kg KKg K2 hc K3 K23 hA k3 g13 g23 KK3 hrun this;rcases hj with rfl|rfl|rfl
      ·exact .inl rfl
      ·exact .inr (bJ _)
      ·exact .inr (Iq)
    ·intro y hy
     clear k hl hN hr q hil hll r1 r2 r3 h2 k1 K l3 ha hb l2 h1 b1 ht hne l1 hg Kg g1 g2 kg KKg hgl K2 hc K3 K23 hA k3 g13 g23 KK3 hrun hg3 hlne;rcases aY.mp hy with hy|hy
     ·exact b2 y hy
     ·rw[aK.mp hy];exact hx5
   ·obtain⟨y,ys,hA2⟩: ∃y ys,getA L1 x=y::ys:=by
     clear k hl hN hr q hil hll r1 r2 r3 h2 k1 K b2 l3 ha hb l2 h1 b1 ht hne l1 hrun hx5 hg Kg g1 g2 kg KKg hgl K2 K3 K23 hA k3 g13 g23 KK3;cases hq:getA L1 x with
     | nil=>rw[hq] at hc;cases hc
     | cons y ys=>exact⟨y,ys,rfl⟩
    have hy5:y < 5:=Rp k1.bd y (by rw[hA2];exact .head _);rw[hA2] at hA g13 g23 k3 KK3;rw[hA2];generalize (g++[O.l ((y::ys).map strV)]++[O.l []])=g3 at*;have hrun:C7 n ((s0++[x])++[y],w,Ay (Ay L1 x y) y x)=some (wk,L'):=by
     have e:Dk (s0++[x],w,L1)=((s0++[x])++[y],w,Ay (Ay L1 x y) y x):=Ve hA2;rw[e] at hrun;exact hrun
    walk_at"go";refine Bg (n:=0) (v:=strV y) (by walk_at"pv") (by walk_at"pv") hA rfl ?_;walk_at"go";refine Un k3 l3 hx5 hy5 λh4 k4 K4=>⟨rfl,?_⟩;have hl4:(Ay L1 x y).length < 60:=by have:=Vo L1 x y;exact Lg this l3
    have hA4:=K4.lget hA (by simp;exact Wv hll hb hgl);walk_at"go";refine Bg (n:=0) (v:=strV y) (by walk_at"pv") (by walk_at"pv") hA4 rfl ?_;walk_at"go";refine Un k4 hl4 hy5 hx5 λh5 k5 K5=>⟨rfl,?_⟩;have hl5:(Ay (Ay L1 x y) y x).length < 60:=by have:=Vo (Ay L1 x y) y x;exact Lg this hl4
    have hA5:=K5.lget hA4 (by simp;exact Wv hll hb hgl);have g15:=(K4.trans K5).lget g13 (by simp;exact De hll);have g25:=(K4.trans K5).lget g23 (by simp;exact Ww hll);walk_at"go";refine Dz (by walk_at"pv") g15 ?_;walk_at"go";refine Bg (n:=0) (v:=strV y) (by walk_at"pv") (by walk_at"pv") hA5 rfl ?_;walk_at"go";refine F0 g15 (by simp at l1 ⊢;exact sI l1 rfl) ⟨rfl,?_⟩;walk_at"go";have hg5:=An g15;refine⟨n,Q81,(s0++[x])++[y],w,_,hrun,by walk_at"rg",by walk_at"rg",by walk_at"rg",?_,?_,k5.keep (W:=[hp.length]) (Aa.set (.head _)) (by simp;exact Co hil) (by simp;exact Co hll),?_,?_,b2,by simp at l1 ⊢;exact sJ l1,Q280 l2,hl5⟩
    ·rw[lget_set_self hg5];simp
    ·rw[Cm (Oz)];exact g25
    ·have:Aa [l,hp.length] hp (h5.set hp.length (O.l ((s0++[x]).map strV++[strV y]))):=(((KK3.trans K4).trans K5).mono (mmK)).trans (Aa.set (.tail _ (.head _)))
     exact this.drop λj hj=>by
      simp only[bM,aA,or_false] at hj ⊢;clear k hl hN hr q hil hll r1 r2 r3 h2 k1 K b2 l3 ha hb l2 h1 b1 ht hne l1 hx5 hg Kg g1 g2 kg KKg hgl K2 K3 K23 hc hA2 hy5 KK3 k3 g23 g13 hA hrun k4 K4 hl4 hA4 k5 K5 hl5 hA5 g15 g25 hg5 this;rcases hj with rfl|rfl
      ·exact .inl rfl
      ·exact .inr (bJ _)
    ·intro z hz
     clear k hl hN hr q hil hll r1 r2 r3 h2 k1 K b2 l3 ha hb l2 h1 ht hne l1 hx5 hg Kg g1 g2 kg KKg hgl K2 K3 K23 hc hA2 KK3 k3 g23 g13 hA hrun k4 K4 hl4 hA4 k5 K5 hl5 hA5 g15 g25 hg5;rcases aY.mp hz with hz|hz
     ·exact b1 z hz
     ·rw[aK.mp hz];exact hy5
  ·have hne:st=[]:=by
    clear k hl hN hr q hil hll hrun r1 r2 r3 h1 h2 k1 K b1 b2 l1 l2 l3 ha hb;cases st with
    | nil=>rfl
    | cons a b=>cases ht
   subst hne;have hfin:w=wk/\L1=L':=by
    clear k hl hN hr q hil hll r1 r2 r3 h2 k1 K b2 l2 l3 ha hb h1 b1 l1 ht;cases n <;> (simp[C7] at hrun;exact hrun)
   refine x02 hfin ?_;clear hfin;intro z0 z1;subst z0;subst z1;walk_at"go";refine q _ _ (Aa.push.lget h2 (W:=[]) (aA)) (Iq) (k1.keep (W:=[]) Aa.push (aA) (aA)) (K.trans Aa.push) b2 (Q84 l2)
end
section
theorem cons_dec{x y:Int}{P Q:List Int}:decide (x::P < y::Q)=cond (decide (x=y)) (decide (P < Q)) (decide (x < y)):=by
 by_cases h:x=y
 ·subst h;rw[decide_eq_true rfl]
  exact decide_eq_decide.2 (g1X.trans ⟨λz=>z.elim (λz=>absurd z (Int.lt_irrefl x)) And.right,λz=> .inr ⟨rfl,z⟩⟩)
 ·rw[decide_eq_false h]
  exact decide_eq_decide.2 (g1X.trans ⟨λz=>z.elim id λz=>absurd z.1 h,.inl⟩)
noncomputable def Cp(key:V->List Int)(a b:V):Bool:=decide (key a < key b)
theorem swK(key:V->List Int):SW (Cp key) where
 asym a b h:=by
  have h:key a < key b:=of_decide_eq_true h;exact decide_eq_false (List.lt_asymm h)
 ntr a b c h1 h2:=by
  have h1: ¬key a < key b:=of_decide_eq_false h1;have h2: ¬key b < key c:=of_decide_eq_false h2;exact decide_eq_false (g2J.mpr (List.le_trans (g2J.mp h2) (g2J.mp h1)))
noncomputable abbrev trip(a b c:Int):V:= .tup [.int a,.int b,.int c]
noncomputable def Ea:V->List Int
 | .tup [.int a,.int b,.int c]=>[a,b,c]
 | _=>[]
theorem zL{h:HP}{a b c a' b' c':Int}:vlt h (trip a b c) (trip a' b' c')=some (Cp Ea (trip a b c) (trip a' b' c')):=by
 show (match some (Ap a a') with
  | none=>none
  | some true=>(match some (Ap b b') with
   | none=>none
   | some true=>(match some (Ap c c') with
    | none=>none
    | some true=>some false
    | some false=>some (decide (c < c')))
   | some false=>some (decide (b < b')))
  | some false=>some (decide (a < a')))=_
 rw[beqInt_eq,beqInt_eq,beqInt_eq];show _=some (decide ([a,b,c] < [a',b',c']));rw[cons_dec,cons_dec,cons_dec];cases decide (a=a') <;> cases decide (b=b') <;> cases decide (c=c') <;> rfl
theorem dY{h:HP}{i j:Nat}{xs:List V}(h1:lget h i=some xs)(h2:lget h j=some [])(hp:xs.all (plain 3)=true):Bd .ne (.lst i) (.lst j) h=some (!xs.isEmpty):=Kb h1 h2 hp rfl (by cases xs <;> rfl)
noncomputable def natsV(S:List Nat):List V:=S.map λk=> .int (k:Nat)
theorem Oj{h:HP}{j:Nat}{S:List Nat}{k:Nat}(e:lget h j=some (natsV S)):Bd .notin (.int (k:Nat)) (.lst j) h=some (!decide (k∈S)):=by
 exact congrArg (gCG (!·)) (R0 (a:= .int (k:Nat)) e (Ek (λ_=>rfl) S) rfl (gCI.trans (Mr (k:=k) λx _=>(beqInt_eq x k).trans (decide_eq_decide.2 bF))))
inductive Bc(M:Nat->Nat->Int)(n:Nat):List Nat->List (Nat×Nat)->Int->Prop
 | start:Bc M n [0] [] 0
 | more {S h c t p}:Bc M n S h c->t < n->t∉S->p∈S->(∀s∈S,∀k,k < n->k∉S->M p t<=M s k)->Bc M n (S++[t]) (h++[(t,p)]) (c+M p t)
theorem Bc.bd{M n S h c}(g:Bc M n S h c)(hn:0 < n):(∀s∈S,s < n)/\(∀e∈h,e.1 < n/\e.2 < n)/\0∈S/\h.length+1=S.length:=by
 induction g with
 | start=>exact⟨by simpa using hn,by simp,.head _,rfl⟩
 | more g ht hnt hp _ ih=>
  refine x04 ih ?_;clear ih;intro i1 i2 i3 i4;refine⟨λs hs=> ?_,λe he=> ?_,g0A _ ‹_›,by simp;exact sK i4⟩
  ·clear hn g hnt hp i2 i3 i4;rcases aY.mp hs with hs|hs
   ·exact i1 s hs
   ·rw[aK.mp hs];exact ht
  ·clear hn g hnt i3 i4;rcases aY.mp he with he|he
   ·exact i2 e he
   ·rw[aK.mp he];exact⟨ht,i1 _ hp⟩
noncomputable def netL(h:List (Nat×Nat)):List En:=h.flatMap λe=>[(false,e.1,e.2),(true,e.2,e.1)]
noncomputable def Dn(n:Nat)(S:List Nat):Nat:=((aN n).filter λk=> !decide (k∈S)).length
theorem Op{n t:Nat}{S:List Nat}(h1:t < n)(h2:t∉S):Dn n (S++[t])+1<=Dn n S:=by
 unfold Dn;have:((aN n).filter λk=> !decide (k∈S++[t]))=((aN n).filter λk=> !decide (k∈S)).filter λk=> !decide (k=t):=by
  rw[g9Y];apply gAF;intro k _;simp only[aY,aK];rw[gBP,Bool.not_or,Bool.and_comm]
 rw[this];have:=g4Z (p:=λk=> !decide (k=t)) (l:=(aN n).filter λk=> !decide (k∈S))|>.mpr ⟨t,by simp[h1,h2],by simp⟩;exact Q24 this
theorem Uo{n:Nat}{S:List Nat}:Dn n S<=n:=by
 unfold Dn;have:=g0P (λk=> !decide (k∈S)) (aN n);simpa using this
theorem Ym: ∀{u:Nat},u < 5->A9 (chars ⟨#[97,98,99,100,101]⟩) (u:Int)=some (97+u):=by decide+kernel
theorem BG: ∀{u:Nat},u < 5->A9 (chars ⟨#[65,66,67,68,69]⟩) (u:Int)=some (65+u):=by decide+kernel
section
variable {d:Nat} {U:Rho} {hp:HP} {Q:V->HP->Prop} {M:Nat->Nat->Int} {F n b:Nat}
theorem Fv{x:X}{u:Nat}(hu:u < 5)(h:Wev d x U hp λv h1=>h1=hp/\v= .int (u:Nat))(q:Q (strV u) hp):Wev d (.idx (.k (.str ⟨#[97,98,99,100,101]⟩)) x) U hp Q:=
 My (Fg (h.mono λv h1 z=>by obtain⟨rfl,rfl⟩:=z;exact⟨_,_,_,rfl,rfl,Ym hu,q⟩))
theorem X9{x:X}{u:Nat}(hu:u < 5)(h:Wev d x U hp λv h1=>h1=hp/\v= .int (u:Nat))(q:Q (.str (nmS true u)) hp):Wev d (.idx (.k (.str ⟨#[65,66,67,68,69]⟩)) x) U hp Q:=
 My (Fg (h.mono λv h1 z=>by obtain⟨rfl,rfl⟩:=z;exact⟨_,_,_,rfl,rfl,BG hu,q⟩))
theorem J1{o x y:X}{i l:Nat}{L:List En}{up:Bool}{u w:Nat}(hd:3<=d)(k:Lk hp i l L)(hu:u < 5)(hw:w < 5)(hl:L.length < 60)(ho:Wev d o U hp λv h1=>h1=hp/\v= .hdr i)
  (hx:Wev d x U hp λv h1=>h1=hp/\v= .str (nmS up u)) (hy:Wev d y U hp λv h1=>h1=hp/\v=strV w) (q: ∀h',Lk h' i l (L++[(up,u,w)])->Aa [l] hp h'->Q .none h'):Wev d (.met .addh o [x,y]) U hp Q:=by
 refine F9 rfl (g:=221) rfl (ho.mono λv h1 z=> ?_);clear ho;refine x02 z ?_;clear z;intro z0 z1;subst z0;subst z1;refine⟨i,l,rfl,k.at_,evs_cons (hx.mono λv h2 z=> ?_)⟩;clear hx;refine x02 z ?_;clear z;intro z0 z1;subst z0;subst z1;refine evs_cons (hy.mono λv h3 z=> ?_);clear hy;refine x02 z ?_;clear z;intro z0 z1;subst z0;subst z1;exact M2 (Qr hd k hu hw hl q)
end
end
section
noncomputable def IsTrip(v:V):Prop:= ∃a b c,v=trip a b c
theorem Tv{hp:HP}{i:Nat}: ∀a b ys,IsTrip a->IsTrip b->vlt (hp.set i (.l ys)) a b=some (Cp Ea a b):=by
 rintro a b ys ⟨x,y,z,rfl⟩ ⟨x',y',z',rfl⟩;exact zL
theorem nK{ys:List V}(h: ∀v∈ys,IsTrip v):ys.all (plain 3)=true:=by
 rw[bB];intro v hv;refine x31 (h v hv) ?_;intro a b c z3;subst z3;rfl
section
variable {d:Nat} {hp:HP} {Q:V->HP->Prop} {M:Nat->Nat->Int} {F n b i l:Nat} {L:List En}
structure C4(hp:HP)(M:Nat->Nat->Int)(F n i l:Nat)(L:List En)(U:Rho)(h:HP)(ys:List V)(S:List Nat)(h0:List (Nat×Nat))(c:Int):Prop where
 r43:rget U 43=some (.lst F)
 r46:rget U 46=some (.hdr i)
 r0:rget U 0=some (.lst hp.length)
 r47:rget U 47=some (.lst (hp.length+1))
 r48:rget U 48=some (.int c)
 ga:lget h hp.length=some ys
 gs:lget h (hp.length+1)=some (natsV S)
 lk:Lk h i l (L++netL h0)
 kp:Aa [l] hp h
 hl:C9 (Cp Ea) ys
noncomputable def Ed(M:Nat->Nat->Int)(n:Nat)(ys:List V)(S:List Nat):Prop:= ∀v∈ys,∃s∈S,∃k,k < n/\v=trip (M s k) (k:Nat) (s:Nat)
theorem Ed.trip{ys S}(h:Ed M n ys S): ∀v∈ys,IsTrip v:=λv hv=>let ⟨_,_,_,_,e⟩:=h v hv;⟨_,_,_,e⟩
theorem C4.heap{U h ys S h0 c ws}(N:C4 hp M F n i l L U h ys S h0 c)(hil:i < hp.length)(hll:l < hp.length)(hw:C9 (Cp Ea) ws):C4 hp M F n i l L U (h.set hp.length (.l ws)) ws S h0 c:=by
 have ha:=An N.ga;refine⟨N.r43,N.r46,N.r0,N.r47,N.r48,lget_set_self ha,by rw[Cm (Oz)];exact N.gs,N.lk.keep (W:=[hp.length]) (Aa.set (.head _)) (by simp;exact Co hil) (by simp;exact Co hll),?_,hw⟩;have:Aa [l,hp.length] hp (h.set hp.length (.l ws)):=(N.kp.mono (mmK)).trans (Aa.set (.tail _ (.head _)));exact this.drop λj hj=>by
  simp only[bM,aA,or_false] at hj ⊢;clear N hil hll hw ha this;rcases hj with rfl|rfl
  ·exact .inl rfl
  ·exact .inr (bJ _)
noncomputable abbrev oM(hp:HP)(M:Nat->Nat->Int)(F n i l:Nat)(L:List En)(m:Nat)(U:Rho)(h:HP):Prop:= ∃ys S h0 c,C4 hp M F n i l L U h ys S h0 c/\ys.length+6*Dn n S<=40/\m=100*Dn n S+ys.length/\
 ((S=[]/\ys=[trip 0 0 0]/\c=0/\h0=[])\/(Bc M n S h0 c/\Ed M n ys S/\∀s∈S,∀k,k < n->k∉S->trip (M s k) (k:Nat) (s:Nat)∈ys))
theorem Ti{P:Fl->Rho->HP->Prop}{U:Rho}{h:HP}{zs:List V}{S:List Nat}{h0:List (Nat×Nat)}{c:Int}{t:Nat}(hM:Mat hp F n b M)(hbl:b<=l)(hil:i < hp.length)(hll:l < hp.length)(hn5:n<=5)(N:C4 hp M F n i l L U h zs S h0 c)(r50:rget U 50=some (.int (t:Nat)))(ht:t < n)(htS:t∈S)
  (hG:Bc M n S h0 c) (hI:Ed M n zs S) (hall: ∀s∈S,s≠t->∀k,k < n->k∉S->trip (M s k) (k:Nat) (s:Nat)∈zs) (hz:zs.length+5<=60)
  (q: ∀U' h' ws,C4 hp M F n i l L U' h' ws S h0 c->Ed M n ws S->(∀s∈S,∀k,k < n->k∉S->trip (M s k) (k:Nat) (s:Nat)∈ws)->ws.length<=zs.length+n->P .next U' h'):
  Bi (d+3) (.for_ (.one 36) (.rng [(.app (.builtin "len") [(.var 43)])]) [
    (.if_ (.cmp .notin (.var 36) (.var 47)) [
     (.expr (.app (.ref 45) [(.var 0),(.tup [(.idx (.idx (.var 43) (.var 50)) (.var 36)),(.var 36),(.var 50)])]))] [])]) U h P:=by
 have r43:=N.r43;have hMh:=hM.keep N.kp (by simp;exact Q88 hbl);refine x12 hMh.len ?_;intro fx lf ll;refine Bu (Dp ?_);walk_at"go";refine Dy lf ?_;walk_at"go";rw[ll];refine⟨_,Cb (Q30 hn5 rfl),?_⟩;let I1:Nat->Rho->HP->Prop:=λj U h=>rget U 50=some (.int (t:Nat))/\∃ws,C4 hp M F n i l L U h ws S h0 c/\Ed M n ws S/\(∀v∈zs,v∈ws)/\(∀k,k < j->k∉S->trip (M t k) (k:Nat) (t:Nat)∈ws)/\ws.length<=zs.length+j;refine Ef I1 ?_ ?_ ?_
 ·exact⟨r50,zs,N,hI,λ_ h=>h,λk hk=>(λhz=>Lh hk),Q89⟩
 ·intro U' h' zz;refine x02 zz ?_;clear zz;intro _ zz;refine x15 zz ?_;clear zz;intro ws N' I' sub new len
  refine q U' h' ws N' I' (λs hs k hk hkS=> ?_) len;clear hM hbl hil hll hn5 N r50 ht htS hG hI hz q r43 hMh lf ll N' I' len;by_cases hst:s=t
  ·clear hall sub hs;subst hst;exact new k hk hkS
  ·exact sub _ (hall s hs hst k hk hkS)
 ·intro j U' h' hj zz;refine x02 zz ?_;clear zz;intro r50 zz;refine x15 zz ?_;clear zz;intro ws N' I' sub new len
  have r0:=N'.r0;have r47:=N'.r47;have r43:=N'.r43;walk_at"go";refine⟨_,Oj N'.gs,λhc=> ?_,λhc=> ?_⟩
  ·have hc:j∉S:=by simpa using hc
   walk_at"go";refine Hw (I:=t) (J:=j) (hM.keep N'.kp (by simp;exact Q88 hbl)) ?_ ?_ ?_ ht hj ?_
   ·walk_at"go";exact⟨rfl,rfl⟩
   ·walk_at"go";exact⟨rfl,rfl⟩
   ·walk_at"go";exact⟨rfl,rfl⟩
   walk_at"go";refine⟨aT rfl,?_⟩;walk_at"go";refine Vh (lt:=Cp Ea) (It:=IsTrip) (swK Ea) N'.ga (sL len hz hj hn5 rfl) (Ed.trip I') ⟨_,_,_,rfl⟩ Tv N'.hl λzs' hp1 hp2=>⟨rfl,?_⟩;walk_at"go";have N2:C4 hp M F n i l L (rset U' 36 (.int (j:Nat))) h' ws S h0 c:=⟨by walk_at"rg",by have:=N'.r46;walk_at"rg",by walk_at"rg",by walk_at"rg",by have:=N'.r48;walk_at"rg",N'.ga,N'.gs,N'.lk,N'.kp,N'.hl⟩;refine⟨by walk_at"rg",zs',N2.heap hil hll hp2,λv hv=> ?_,λv hv=> ?_,λk hk hkS=> ?_,?_⟩
   ·clear hM hbl hil hll hn5 N ht hG hI hall hz q hMh lf ll r50 N' sub new len r0 r47 r43 hc hp2 N2;rcases aY.mp (hp1.subset hv) with hv|hv
    ·exact I' v hv
    ·rw[aK.mp hv];exact⟨t,htS,j,hj,rfl⟩
   ·exact hp1.symm.subset (g0A _ (sub v hv))
   ·clear hM N htS hG hI hall q hMh lf r50 N' I' sub r0 r47 r43 hp2 N2;by_cases hkj:k=j
    ·clear hbl hil hll hn5 ht hz ll hj new len hc hk hkS;subst hkj;exact hp1.symm.subset (mmN)
    ·exact hp1.symm.subset (g0A _ (new k (Ge hk hkj) hkS))
   ·have:=hp1.length_eq;simp at this;exact sM this len
  ·have hc:j∈S:=by simpa using hc
   walk_at"go";have N2:C4 hp M F n i l L (rset U' 36 (.int (j:Nat))) h' ws S h0 c:=⟨by walk_at"rg",by have:=N'.r46;walk_at"rg",by walk_at"rg",by walk_at"rg",by have:=N'.r48;walk_at"rg",N'.ga,N'.gs,N'.lk,N'.kp,N'.hl⟩;refine⟨by walk_at"rg",ws,N2,I',sub,λk hk hkS=> ?_,Q285 len⟩;clear hM N htS hG hI hall q hMh lf r50 N' I' sub r0 r47 r43 N2;by_cases hkj:k=j
   ·clear new;subst hkj;exact absurd hc hkS
   ·exact new k (Ge hk hkj) hkS
end
end
section
theorem Bc.size{M n S h c}(g:Bc M n S h c)(hn:0 < n):S.length+Dn n S<=n:=by
 induction g with
 | start=>
  have:=Op (n:=n) (t:=0) (S:=[]) hn (aA);have h2:=Uo (n:=n) (S:=[]);simp at this ⊢;exact sN this h2
 | more g ht hnt hp _ ih=>
  have:=Op ht hnt;simp;exact sO ih this
theorem kL{h:List (Nat×Nat)}{t p:Nat}:netL (h++[(t,p)])=netL h++[(false,t,p)]++[(true,p,t)]:=by simp[netL]
theorem Ie{h:List (Nat×Nat)}:(netL h).length=2*h.length:=by
 induction h with
 | nil=>rfl
 | cons a r ih=>show ([_,_]++netL r).length=_;simp[ih];exact sP
theorem fV{a b c a' b' c':Int}(h:Cp Ea (trip a b c) (trip a' b' c')=false):a'<=a:=by
 have h: ¬[a,b,c] < [a',b',c']:=of_decide_eq_false h;by_cases z:a < a'
 ·exact absurd (g1X.mpr (.inl z)) h
 ·exact Wx (g1U.1 z)
section
variable {d:Nat} {hp:HP} {Q:V->HP->Prop} {M:Nat->Nat->Int} {F n b i l:Nat}
theorem Yt(hM:Mat hp F n b M)(hbl:b<=l)(hil:i < hp.length)(hll:l < hp.length)(hn0:0 < n)(hn5:n<=5)(k:Lk hp i l [])
  (q: ∀S h c h',Bc M n S h c->(∀k,k < n->k∈S)->Lk h' i l (netL h)->Aa [l] hp h'->Q (.int c) h'):As (d+4) 259 [.lst F,.hdr i] hp Q:=by
 refine Bf rfl rfl rfl ?_;show Wex (d+3) b259 [(43,.lst F),(46,.hdr i)] hp _;unfold b259;walk_at"go";refine⟨aT rfl,?_⟩;walk_at"go";refine⟨g0L _,?_⟩;walk_at"go";refine⟨by simp,?_⟩;walk_at"go";have K0:Aa [] hp (hp++[O.l [trip 0 0 0]]++[O.l []]):=Aa.push.trans Aa.push;refine G2 (oM hp M F n i l []) (100*Dn n []+1) ?_ ?_
 ·refine⟨[trip 0 0 0],[],[],0,⟨by walk_at"rg",by walk_at"rg",by walk_at"rg",(congrArg (λn=>some (V.lst n)) mmG),by walk_at"rg",?_,?_,k.keep K0 (aA) (aA),K0.nil,?_⟩,?_,rfl,.inl ⟨rfl,rfl,rfl,rfl⟩⟩
  ·exact Aa.push.lget (W:=[]) lget_push (aA)
  ·exact mmG (l:=hp) (x:=O.l [trip 0 0 0])▸lget_push
  ·intro k a b hk ha
   have:=(aF.mp ha).1;simp at this;exact(λhz=>V6 this hk)
  ·have:=Uo (n:=n) (S:=[]);simp;exact sQ this hn5 rfl
 clear K0;intro m U h zz;refine x44 zz ?_;clear zz;intro ys S h0 c N hb z6 hc;subst z6;replace N:=And.intro N hb;refine x02 N ?_;clear N;intro N hw;have r43:=N.r43;have r46:=N.r46;have r0:=N.r0;have r47:=N.r47;have r48:=N.r48;have hIt: ∀v∈ys,IsTrip v:=by
  clear hM hbl hil hll hn0 hn5 k q hb N hw r43 r46 r0 r47 r48;rcases hc with ⟨_,rfl,_⟩|⟨_,I,_⟩
  ·intro v hv;rw[aK.mp hv];exact⟨_,_,_,rfl⟩
  ·exact Ed.trip I
 walk_at"go";refine⟨by simp,?_⟩;walk_at"go";have K1:Aa [] h (h++[O.l []]):=Aa.push;refine⟨_,dY (K1.lget N.ga (aA)) lget_push (nK hIt),λht=> ?_,λht=> ?_⟩
 ·clear q;obtain⟨x0,xt,rfl⟩: ∃x xt,ys=x::xt:=by
   clear hM hbl hil hll hn0 hn5 k hb hc N hw r43 r46 r0 r47 r48 hIt K1;cases ys with
   | nil=>cases ht
   | cons x xt=>exact⟨x,xt,rfl⟩
  have N1:C4 hp M F n i l [] U (h++[O.l []]) (x0::xt) S h0 c:=⟨r43,r46,r0,r47,r48,K1.lget N.ga (aA),K1.lget N.gs (aA),N.lk.keep K1 (aA) (aA),N.kp.trans Aa.push,N.hl⟩;generalize (h++[O.l []])=g at*;clear K1 N;walk_at"ev";refine Oh ?_;walk_at"go";refine Uw (lt:=Cp Ea) (It:=IsTrip) (x0:=x0) (swK Ea) N1.ga (by simp at hw ⊢;exact sR hw rfl) rfl hIt Tv N1.hl λzs z1 z2 z3=> ?_;obtain⟨a,t,p,rfl,hS⟩: ∃a t p,x0=trip a (t:Nat) (p:Nat)/\((S=[]/\a=0/\t=0/\p=0/\c=0/\h0=[]/\xt=[])\/(Bc M n S h0 c/\Ed M n (trip a (t:Nat) (p:Nat)::xt) S/\(∀s∈S,∀k,k < n->k∉S->trip (M s k) (k:Nat) (s:Nat)∈(trip a (t:Nat) (p:Nat)::xt))/\a=M p t/\p∈S/\t < n)):=by
   clear hM hbl hil hll hn0 hn5 r43 r46 r0 r47 r48 hb hw hIt ht N1 z1 z2 z3;rcases hc with ⟨e1,e2,e3,e4⟩|⟨g1,I,al⟩
   ·clear k;obtain⟨rfl,rfl⟩:=g3K e2
    exact⟨0,0,0,rfl,.inl ⟨e1,rfl,rfl,rfl,e3,e4,rfl⟩⟩
   ·obtain⟨s,hs,k,hk,rfl⟩:=I x0 (.head _)
    exact⟨_,_,_,rfl,.inr ⟨g1,I,al,rfl,hs,hk⟩⟩
  refine⟨rset (rset (rset U 49 (.int a)) 50 (.int (t:Nat))) 51 (.int (p:Nat)),rfl,?_⟩;have N2:=N1.heap hil hll z2;have hzl:zs.length=xt.length:=by have:=z1.length_eq;simpa using this
  have hzp:zs.Perm xt:=List.Perm.cons_inv z1;generalize g.set hp.length (.l zs)=g2 at*;clear N1 hc hIt z1 z2;have hS0:h0.length<=5:=by
   clear hM k r43 r46 r0 r47 r48 ht z3 hzp N2;rcases hS with ⟨_,_,_,_,_,rfl,_⟩|⟨g1,_⟩
   ·simp
   ·have h1:=g1.size hn0;have h2:=(g1.bd hn0).2.2.2;exact sS h2 h1 hn5
  walk_at"go";refine⟨_,Oj N2.gs,λhc=> ?_,λhc=> ?_⟩
  ·have htS:t∉S:=by simpa using hc
   have hun:t < n->Dn n (S++[t])+1<=Dn n S:=λh=>Op h htS;walk_at"go";refine Dz (by walk_at"pv") N2.gs ?_;walk_at"go";have hSl:S.length<=5:=by
    clear hM k r43 r46 r0 r47 r48 ht z3 hzp N2 hc hun;rcases hS with ⟨rfl,_⟩|⟨g1,_⟩
    ·simp
    ·have h1:=g1.size hn0;exact sT h1 hn5
   refine F0 N2.gs (by simp[natsV];exact Q30 hSl rfl) ⟨rfl,?_⟩;walk_at"go";refine Ma (m:=c) (by walk_at"rg") ?_;walk_at"go";refine⟨a,.int (c+a),rfl,rfl,?_⟩;have hsl:=An N2.gs;have hal:=An N2.ga;have N3:C4 hp M F n i l [] (rset (rset (rset (rset U 49 (.int a)) 50 (.int (t:Nat))) 51 (.int (p:Nat))) 48 (.int (c+a))) (g2.set (hp.length+1) (.l (natsV S++[.int (t:Nat)]))) zs (S++[t]) h0 (c+a):=
    ⟨by walk_at"rg",by walk_at"rg",by walk_at"rg",by walk_at"rg",by walk_at"rg",by rw[Cm (Wu)];exact N2.ga,by rw[lget_set_self hsl];simp[natsV],N2.lk.keep (W:=[hp.length+1]) (Aa.set (.head _)) (by simp;exact Ll hil) (by simp;exact Ll hll),(((N2.kp.mono (mmK)).trans (Aa.set (.tail _ (.head _))):Aa [l,hp.length+1] hp _)).drop (by simp),N2.hl⟩
   clear N2 hc;generalize (g2.set (hp.length+1) (.l (natsV S++[.int (t:Nat)])))=g3 at*;have r43':=N3.r43;have r46':=N3.r46;have r50':rget (rset (rset (rset (rset U 49 (.int a)) 50 (.int (t:Nat))) 51 (.int (p:Nat))) 48 (.int (c+a))) 50=some (.int (t:Nat)):=by walk_at"rg"
   have r51':rget (rset (rset (rset (rset U 49 (.int a)) 50 (.int (t:Nat))) 51 (.int (p:Nat))) 48 (.int (c+a))) 51=some (.int (p:Nat)):=by walk_at"rg"
   generalize (rset (rset (rset (rset U 49 (.int a)) 50 (.int (t:Nat))) 51 (.int (p:Nat))) 48 (.int (c+a)))=U3 at*;clear r43 r46 r0 r47 r48;walk_at"go";refine⟨_,rfl,λhtp=> ?_,λhtp=> ?_⟩
   ·have htp:t≠p:=by
     clear hM hbl hil hll hn0 hn5 k hS hb hw ht z3 hzl hzp hS0 htS hun hSl hsl hal N3 r43' r46' r50' r51';intro z;subst z;have:Ap (t:Nat) (t:Nat)=true:=by rw[beqInt_eq];exact mmT
     have htp:(!Ap (t:Nat) (t:Nat))=true:=htp;rw[this] at htp;cases htp
    rcases hS with ⟨_,_,e1,e2,_⟩|⟨g1,I,al,ea,hp1,htn⟩
    ·exact absurd (e1.trans e2.symm) htp
    subst ea;have hpn:=(g1.bd hn0).1 p hp1;have hun:=hun htn;have hG:=Bc.more g1 htn htS hp1 λs hs k hk hkS=>by
     have:=z3 _ (al s hs k hk hkS);exact fV this
    walk_at"go";refine J1 (up:=false) (u:=t) (w:=p) (Gg) N3.lk (Bw htn hn5) (Bw hpn hn5) (by simp[Ie];exact sU hS0 rfl) ?_ ?_ ?_ λh4 k4 K4=>⟨rfl,?_⟩
    ·walk_at"go";exact⟨rfl,rfl⟩
    ·refine Fv (Bw htn hn5) ?_ ⟨rfl,rfl⟩
     walk_at"go";exact⟨rfl,rfl⟩
    ·refine Fv (Bw hpn hn5) ?_ ⟨rfl,rfl⟩
     walk_at"go";exact⟨rfl,rfl⟩
    walk_at"go";refine J1 (up:=true) (u:=p) (w:=t) (Gg) k4 (Bw hpn hn5) (Bw htn hn5) (by simp[Ie];exact sV hS0 rfl) ?_ ?_ ?_ λh5 k5 K5=>⟨rfl,?_⟩
    ·walk_at"go";exact⟨rfl,rfl⟩
    ·refine X9 (Bw hpn hn5) ?_ ⟨rfl,rfl⟩
     walk_at"go";exact⟨rfl,rfl⟩
    ·refine Fv (Bw htn hn5) ?_ ⟨rfl,rfl⟩
     walk_at"go";exact⟨rfl,rfl⟩
    walk_at"go";have K45:=K4.trans K5;have N5:C4 hp M F n i l [] U3 h5 zs (S++[t]) (h0++[(t,p)]) (c+M p t):=⟨r43',r46',N3.r0,N3.r47,N3.r48,K45.lget N3.ga (by simp;exact De hll),K45.lget N3.gs (by simp;exact Ww hll),by rw[kL];exact k5,N3.kp.trans K45,N3.hl⟩;refine Ti hM hbl hil hll hn5 N5 r50' htn (mmN) hG ?_ ?_ ?_ λU' h' ws N' I' al' len=> ?_
    ·intro v hv
     refine x12 (I v (aX _ (hzp.subset hv))) ?_;intro s hs r;exact⟨s,g0A _ hs,r⟩
    ·intro s hs hst k hk hkS
     have hs:s∈S:=by
      rcases aY.mp hs with hs|hs
      ·exact hs
      ·exact absurd (aK.mp hs) hst
     rw[aY,aK] at hkS;clear hM r43' r46' r50' r51' g1 hp1 ht z3 N3 I hG k4 K4 k5 K5 K45 N5;rcases bM.mp (al s hs k hk (λz=>hkS (.inl z))) with e|e
     ·injection e with e
      injection e with _ e
      injection e with e _
      injection e with e
      exact absurd (.inr (Ir e)) hkS
     ·exact hzp.symm.subset e
    ·simp at hw;exact sW hw hzl rfl
    ·walk_at"go"
     refine⟨_,?_,ws,_,_,_,N',?_,rfl,.inr ⟨hG,I',al'⟩⟩
     ·simp at len hw ⊢;exact yI hun len hzl.symm hn5 rfl
     ·simp at len hw ⊢;exact yJ hw len hun hzl.symm hn5 rfl
   ·have htp:t=p:=by
     have htp:(!Ap (t:Nat) (p:Nat))=false:=htp;rw[beqInt_eq] at htp;simp at htp;exact Ir htp
    clear k z3 hzp r43' r46' r51';rcases hS with ⟨rfl,rfl,rfl,rfl,rfl,rfl,rfl⟩|⟨g1,I,al,ea,hp1,ht⟩
    ·clear ht;obtain rfl:zs=[]:=by simpa using hzl
     have hun:=hun hn0;walk_at"go";refine Ti hM hbl hil hll hn5 N3 r50' hn0 (.head _) .start (λ_ h=>absurd h aA) (λs h z=>absurd (aK.1 h) z) (aT rfl) λU' h' ws N' I' al' len=> ?_;walk_at"go";refine⟨_,?_,ws,_,_,_,N',?_,rfl,.inr ⟨.start,I',al'⟩⟩
     ·simp at hun len hw ⊢;exact sX hun len hn5 rfl
     ·simp at hun len hw ⊢;exact sY len hun hn5 hw rfl
    ·exact absurd (htp▸hp1) htS
  ·have htS:t∈S:=by simpa using hc
   walk_at"go";rcases hS with ⟨rfl,_⟩|⟨g1,I,al,ea,hp1,ht⟩
   ·clear hM hbl hil hll hn0 hn5 k r43 r46 r0 r47 r48 ht z3 hzl hzp hS0 hb hw N2 hc;cases htS
   refine⟨_,?_,zs,S,h0,c,⟨by walk_at"rg",by walk_at"rg",by walk_at"rg",by walk_at"rg",by walk_at"rg",N2.ga,N2.gs,N2.lk,N2.kp,N2.hl⟩,by simp at hw;exact sZ hw hzl,rfl,.inr ⟨g1,λv hv=>I v (aX _ (hzp.subset hv)),λs hs k hk hkS=> ?_⟩⟩
   ·simp;exact tC hzl
   ·clear hM r43 r46 r0 r47 r48 z3 N2 hc g1 I hp1;rcases bM.mp (al s hs k hk hkS) with e|e
    ·clear hzp al hs;injection e with e
     injection e with _ e
     injection e with e _
     injection e with e
     have:k=t:=Ir e;subst this;exact absurd htS hkS
    ·exact hzp.symm.subset e
 ·obtain rfl:ys=[]:=by
   clear hM hbl hil hll hn0 hn5 k q hb hc N hw r43 r46 r0 r47 r48 hIt K1;cases ys with
   | nil=>rfl
   | cons x xt=>cases ht
  rcases hc with ⟨_,e,_⟩|⟨g,_,al⟩
  ·clear hM hbl hil hll hn0 hn5 k q r43 r46 r0 r47 r48 K1 hb N hw hIt ht;cases e
  walk_at"go";refine q S h0 c _ g (λk hk=> ?_) (N.lk.keep K1 (aA) (aA)) (N.kp.trans Aa.push);clear hM q r43 r46 r0 r47 r48 K1 N hIt ht;by_cases hkS:k∈S
  ·exact hkS
  ·exact absurd (al 0 (g.bd hn0).2.2.1 k hk hkS) (aA)
end
end
section
noncomputable abbrev strC(l:List Nat):V:= .str (Aj l)
theorem chars_of{l:List Nat}:chars (Aj l)=l:=by simp[chars,Aj]
section
variable {d:Nat} {U:Rho} {hp:HP} {Q:V->HP->Prop} {T:Bool->HP->Prop}
theorem E9{a:X}{lo hi:Option X}(h:Wev d a U hp λo h1=>Gk d lo U h1 λl h2=>Gk d hi U h2 λu h3=> ∃A C,o=strC A/\slice A l u=some C/\Q (strC C) h3):Wev d (.slc a lo hi) U hp Q:=
 .step (λ_=>rfl) (.bind2 (h.mono λo h1 h=> .bind2 (h.mono λl h2 h=> .bind2 (h.mono λu h3 h=>by
  refine x23 h ?_;clear h;intro A C z2 e q;subst z2;refine .some (a:=strC C) (b:=h3) ?_ q;show (slice (chars (Aj A)) l u).map _=_;rw[chars_of,e];rfl))))
theorem Jw{a:X}{lo hi:Option X}(h:Wev d (.slc a lo hi) U hp λv h1=> ∃t,truthy h1 v=some t/\T t h1):Wtr d (.slc a lo hi) U hp T:=
 .step (λ_=>rfl) (.bind2 (f:=λr=>r.ev d (.slc a lo hi) U hp) (h.mono λv h1 h=>let ⟨t,e,q⟩:=h;.some (a:=t) (b:=h1) (by show (truthy h1 v).bind _=_;rw[e];rfl) q))
theorem Z8{a b:X}(h:Wev d a U hp λv h1=> ∃t,truthy h1 v=some t/\(t=true->Q v h1)/\(t=false->Wev d b U h1 Q)):Wev d (.lor [a,b]) U hp Q:=by
 refine .step (λ_=>rfl) (.bind2 (f:=λr=>r.ev d a U hp) (h.mono λv h1 h=> ?_));refine x13 h ?_;clear h;intro t e q1 q2;show W2 (λr=>(truthy h1 v).bind λt=>if t=true then some (v,h1) else Hf r d U [b] h1) Q;rw[e];cases t
 ·exact q2 rfl
 ·exact .some rfl (q1 rfl)
theorem truthy_str{A:List Nat}:truthy hp (strC A)=some (!A.isEmpty):=by show some (!(chars (Aj A)).isEmpty)=_;rw[chars_of]
theorem lH{x y:Nat}{e:X}{P:Fl->Rho->HP->Prop}(h:Wev d e U hp λv h1=>P .next (rset (rset U x v) y v) h1):Bi d (.assign2 x y e) U hp P:=
 W2.bind3 (f:=λr=>r.ev d e U hp) (h.mono λ_ _ q=> .some rfl q)
theorem len_str{A:List Nat}(q:Q (.int (A.length:Nat)) hp):OpW (builtin (.builtin "len") [strC A] hp) Q:= .some (a:= .int (A.length:Nat)) (b:=hp) (by show some (V.int (chars (Aj A)).length,hp)=_;rw[chars_of]) q
theorem F8{A B:List Nat}:Bd .eq (strC A) (strC B) hp=some (Bb A B):=by rw[Ri,chars_of,chars_of]
theorem Kl{A:List Nat}(q:Q (strC (A.map C0)) hp):OpW (C1 .lower (strC A) [] hp) Q:=Gr (by rw[chars_of];exact q)
noncomputable def Ct(a b:Nat):Int:=if aW a b then 0 else if aW (C0 a) (C0 b) then 1 else 2
theorem C8{a b:Nat}:Bb [a] [b]=aW a b:=by
 dsimp only[Bb];cases aW a b <;> rfl
theorem Nc{a b:Nat}(q:Q (.int (Ct a b)) hp):As (d+1) 240 [strC [a],strC [b]] hp Q:=by
 refine Bf rfl rfl rfl ?_;show Wex d b240 [(38,strC [a]),(39,strC [b])] hp _;dsimp only[b240];unfold Ct at q;walk_at"go";refine⟨_,F8,λh=> ?_,λh=> ?_⟩
 ·rw[C8] at h;rw[h] at q
  walk_at"go";exact q
 ·rw[C8] at h;rw[h] at q
  walk_at"go";refine Jp ?_;walk_at"go";refine Dv ?_;walk_at"go";refine⟨_,rfl,?_⟩;walk_at"go";refine Kl ?_;walk_at"go";refine Dv ?_;walk_at"go";refine⟨_,rfl,?_⟩;walk_at"go";refine Kl ?_;refine⟨_,F8,λh=> ?_,λh=> ?_⟩
  ·rw[g1F,g1F,C8] at h;rw[h] at q
   walk_at"go";exact q
  ·rw[g1F,g1F,C8] at h;rw[h] at q
   walk_at"go";exact q
theorem iO{a b:Nat}(q:Q (.int (Ct a b)) hp):As (d+1) 73 [strC [a],strC [b]] hp Q:=by
 refine Bf rfl rfl rfl ?_;show Wex d b73 [(12,strC [a]),(13,strC [b])] hp _;dsimp only[b73];unfold Ct at q;walk_at"go";refine⟨_,F8,λh=> ?_,λh=> ?_⟩
 ·rw[C8] at h;rw[h] at q
  walk_at"go";exact q
 ·rw[C8] at h;rw[h] at q
  walk_at"go";refine Dv ?_;walk_at"go";refine⟨_,rfl,?_⟩;walk_at"go";refine Kl ?_;walk_at"go";refine Dv ?_;walk_at"go";refine⟨_,rfl,?_⟩;walk_at"go";refine Kl ?_;refine⟨_,F8,λh=> ?_,λh=> ?_⟩
  ·rw[g1F,g1F,C8] at h;rw[h] at q
   walk_at"go";exact q
  ·rw[g1F,g1F,C8] at h;rw[h] at q
   walk_at"go";exact q
end
end
section
noncomputable def preF:List Nat->List Nat->Nat
 | a::as,b::bs=>if aW a b then preF as bs+1 else 0
 | _,_=>0
theorem Uh{a b as bs}:preF (a::as) (b::bs)=if aW a b then preF as bs+1 else 0:=rfl
theorem R9{A B:List Nat}:preF A B<=A.length/\preF A B<=B.length:=by
 induction A generalizing B with
 | nil=>simp[preF]
 | cons a as ih=>
  cases B with
  | nil=>simp[preF]
  | cons b bs=>
   dsimp only[preF];have:=ih (B:=bs);split <;> simp <;> exact tD this.1 this.2
theorem Ld{A:List Nat}{k:Nat}(_:k<=A.length):slice A (.int (k:Nat)) .none=some (A.drop k):=Ul
theorem Kq{A:List Nat}{k:Nat}(_:k<=A.length):slice A .none (if k=0 then .none else .int (-(k:Nat)))=some (A.take (A.length - k)):=by
 by_cases h0:k=0
 ·subst h0;rfl
 ·rw[if_neg h0,<-clipAt_neg _ _ (g4B h0)];rfl
section
variable {d:Nat} {U:Rho} {hp:HP} {Q:V->HP->Prop} {T:Bool->HP->Prop} {P:Fl->Rho->HP->Prop}
theorem Mx{a i:X}{A:List Nat}{n:Int}{c:Nat}(h:Wev d a U hp λo h1=>o=strC A/\Wev d i U h1 λk h2=>k= .int n/\A9 A n=some c/\Q (strC [c]) h2):Wev d (.idx a i) U hp Q:=by
 refine My (h.mono λo h1 z=> ?_);refine x02 z ?_;clear z;intro z0 z;subst z0;refine z.mono λk h2 z=> ?_;refine x03 z ?_;clear z;intro z0 z q;subst z0;exact⟨_,_,_,rfl,rfl,by rw[chars_of];exact z,q⟩
theorem Fa{a i:X}{A:List Nat}{n:Int}{c:Nat}(h:Pv d U hp a (strC A))(k:Pv d U hp i (.int n))(g:A9 A n=some c)(q:Q (strC [c]) hp):Wev d (.idx a i) U hp Q:=Mx (ev_pv h ⟨rfl,ev_pv k ⟨rfl,g,q⟩⟩)
theorem hX{A B:List Nat}(r14:rget U 14=some (strC A))(r15:rget U 15=some (strC B))(r16:rget U 16=some (.int 99))(r17:rget U 17=some (.int 0))
  (q: ∀U',rget U' 14=some (strC A)->rget U' 15=some (strC B)->rget U' 16=some (.int 99)->rget U' 17=some (.int (preF A B:Nat))->P .next U' hp):
  Bi d (.while_ (.land [(.slc (.var 14) (some (.var 17)) none),(.slc (.var 15) (some (.var 17)) none),(.cmp .eq (.idx (.var 14) (.var 17)) (.idx (.var 15) (.var 17)))]) [
  (.aug 17 .add (.k (.int 1)))]) U hp P:=by
 let I1:Nat->Rho->HP->Prop:=λm U h=>h=hp/\∃k,m=A.length - k/\k<=A.length/\k<=B.length/\rget U 14=some (strC A)/\rget U 15=some (strC B)/\rget U 16=some (.int 99)/\rget U 17=some (.int (k:Nat))/\k+preF (A.drop k) (B.drop k)=preF A B;refine G2 I1 A.length ⟨rfl,0,by simp,by simp,by simp,r14,r15,r16,r17,g1E _⟩ ?_;intro m U' h zz;refine x02 zz ?_;clear zz;intro z1 zz;refine x18 zz ?_;clear zz;intro k z2 hkA hkB r14 r15 r16 r17 hk;subst z1;subst z2;walk_at"go";refine Cv (Jw (E9 ?_));walk_at"go";refine Dr ⟨A,A.drop k,rfl,Ld hkA,_,truthy_str,λt1=> ?_,λt1=> ?_⟩
 ·obtain⟨a,as,ea⟩: ∃a as,A.drop k=a::as:=by
   cases hq:A.drop k with
   | nil=>rw[hq] at t1;cases t1
   | cons a as=>exact⟨a,as,rfl⟩
  have hkl:k < A.length:=by have:=congrArg g2K ea;simp at this;exact Q21 hkA this
  have ga:A[k]? =some a:=by have:=congrArg (·[0]?) ea;simpa using this
  refine Cv (Jw (E9 ?_));walk_at"go";refine Dr ⟨B,B.drop k,rfl,Ld hkB,_,truthy_str,λt2=> ?_,λt2=> ?_⟩
  ·obtain⟨b,bs,eb⟩: ∃a as,B.drop k=a::as:=by
    cases hq:B.drop k with
    | nil=>rw[hq] at t2;cases t2
    | cons a as=>exact⟨a,as,rfl⟩
   have hkl2:k < B.length:=by have:=congrArg g2K eb;simp at this;exact Q21 hkB this
   have gb:B[k]? =some b:=by have:=congrArg (·[0]?) eb;simpa using this
   have e1:A.drop (k+1)=as:=by have:=congrArg (g8U 1) ea;simpa using this
   have e2:B.drop (k+1)=bs:=by have:=congrArg (g8U 1) eb;simpa using this
   rw[ea,eb] at hk;rw[Uh] at hk;refine Cv ?_;walk_at"go";refine Fa (A:=A) (n:=(k:Nat)) (c:=a) (by walk_at"pv") (by walk_at"pv") (by rw[Az,ga]) ?_;refine Fa (A:=B) (n:=(k:Nat)) (c:=b) (by walk_at"pv") (by walk_at"pv") (by rw[Az,gb]) ?_;refine⟨_,F8,λt=> ?_,λt=> ?_⟩
   ·rw[C8] at t
    rw[if_pos t] at hk;refine Bs ⟨λ_=> ?_,λz=>(by cases z)⟩;walk_at"go";refine Ma (m:=(k:Nat)) (by walk_at"rg") ?_;walk_at"go";refine⟨1,.int (k+1:Nat),rfl,rfl,?_⟩;walk_at"go";exact⟨_,Wy hkl hkA,rfl,k+1,rfl,Q24 hkl,Q24 hkl2,by walk_at"rg",by walk_at"rg",by walk_at"rg",by walk_at"rg",by rw[e1,e2];exact Cn hk⟩
   ·rw[C8] at t
    refine⟨λz=>(by cases z),λ_=> ?_⟩;rw[if_neg (by rw[t];exact bD)] at hk;exact q U' r14 r15 r16 (by rw[<-hk];exact r17)
  ·have eb:B.drop k=[]:=by
    cases hq:B.drop k with
    | nil=>rfl
    | cons a as=>rw[hq] at t2;cases t2
   rw[eb,ea] at hk;refine⟨λz=>(by cases z),λ_=> ?_⟩;exact q U' r14 r15 r16 (by rw[<-hk];exact r17)
 ·have ea:A.drop k=[]:=by
   cases hq:A.drop k with
   | nil=>rfl
   | cons a as=>rw[hq] at t1;cases t1
  rw[ea] at hk;refine⟨λz=>(by cases z),λ_=> ?_⟩;exact q U' r14 r15 r16 (by rw[<-hk];exact r17)
end
end
section
section
variable {d:Nat} {U:Rho} {hp:HP} {Q:V->HP->Prop} {T:Bool->HP->Prop} {P:Fl->Rho->HP->Prop}
theorem Jn{k:Nat}(r18:rget U 18=some (.int (-(k:Nat))))(q:Q (if k=0 then .none else .int (-(k:Nat))) hp):Wev d (.lor [(.var 18),(.k .none)]) U hp Q:=by
 refine Z8 ?_;walk_at"go";refine⟨_,rfl,λt=> ?_,λt=> ?_⟩
 ·have t:(!Ap (-(k:Nat)) 0)=true:=t
  rw[beqInt_eq] at t;have h0:k≠0:=by simp at t;exact tE t
  rw[if_neg h0] at q;exact q
 ·have t:(!Ap (-(k:Nat)) 0)=false:=t
  rw[beqInt_eq] at t;have h0:k=0:=by simp at t;exact Q1 t
  rw[if_pos h0] at q;walk_at"go";exact q
theorem Qu{A:List Nat}{k a:Nat}{as:List Nat}(h:A.reverse.drop k=a::as)(hk:k < A.length):A9 A (-(k:Int) - 1)=some a:=by
 have g:A.reverse[k]? =some a:=by have:=congrArg (·[0]?) h;simpa using this
 unfold A9;rw[if_neg (tF),if_pos (tG hk)];have e:(-(k:Int) - 1+A.length).toNat=A.length - 1 - k:=tH hk;rw[e];rw[List.getElem?_reverse hk] at g;exact g
theorem kP{A B:List Nat}(r14:rget U 14=some (strC A))(r15:rget U 15=some (strC B))(r16:rget U 16=some (.int 99))(r18:rget U 18=some (.int 0))
  (q: ∀U',rget U' 14=some (strC A)->rget U' 15=some (strC B)->rget U' 16=some (.int 99)->rget U' 18=some (.int (-(preF A.reverse B.reverse:Nat)))->P .next U' hp):
  Bi d (.while_ (.land [(.slc (.var 14) none (some (.lor [(.var 18),(.k .none)]))),(.slc (.var 15) none (some (.lor [(.var 18),(.k .none)]))),(.cmp .eq (.idx (.var 14) (.bin .sub (.var 18) (.k (.int 1)))) (.idx (.var 15) (.bin .sub (.var 18) (.k (.int 1)))))]) [
  (.aug 18 .sub (.k (.int 1)))]) U hp P:=by
 let I1:Nat->Rho->HP->Prop:=λm U h=>h=hp/\∃k,m=A.length - k/\k<=A.length/\k<=B.length/\rget U 14=some (strC A)/\rget U 15=some (strC B)/\rget U 16=some (.int 99)/\rget U 18=some (.int (-(k:Nat)))/\k+preF (A.reverse.drop k) (B.reverse.drop k)=preF A.reverse B.reverse;refine G2 I1 A.length ⟨rfl,0,by simp,by simp,by simp,r14,r15,r16,r18,g1E _⟩ ?_;intro m U' h zz;refine x02 zz ?_;clear zz;intro z1 zz;refine x18 zz ?_;clear zz;intro k z2 hkA hkB r14 r15 r16 r18 hk;subst z1;subst z2;walk_at"go";refine Cv (Jw (E9 ?_));walk_at"go";refine Dr (Gc (Jn r18 ⟨A,A.take (A.length - k),rfl,Kq hkA,_,truthy_str,λt1=> ?_,λt1=> ?_⟩))
 ·have hkl:k < A.length:=by
   rcases g6S k A.length with z|z
   ·exact z
   ·have:A.length - k=0:=by exact Wz z hkA
    rw[this] at t1;cases t1
  obtain⟨a,as,ea⟩: ∃a as,A.reverse.drop k=a::as:=by
   cases hq:A.reverse.drop k with
   | nil=>have:=congrArg g2K hq;simp at this;exact W0 this hkl
   | cons a as=>exact⟨a,as,rfl⟩
  refine Cv (Jw (E9 ?_));walk_at"go";refine Dr (Gc (Jn r18 ⟨B,B.take (B.length - k),rfl,Kq hkB,_,truthy_str,λt2=> ?_,λt2=> ?_⟩))
  ·have hkl2:k < B.length:=by
    rcases g6S k B.length with z|z
    ·exact z
    ·have:B.length - k=0:=by exact Wz z hkB
     rw[this] at t2;cases t2
   obtain⟨b,bs,eb⟩: ∃a as,B.reverse.drop k=a::as:=by
    cases hq:B.reverse.drop k with
    | nil=>have:=congrArg g2K hq;simp at this;exact W0 this hkl2
    | cons a as=>exact⟨a,as,rfl⟩
   have e1:A.reverse.drop (k+1)=as:=by have:=congrArg (g8U 1) ea;rw[g2Y] at this;assumption
   have e2:B.reverse.drop (k+1)=bs:=by have:=congrArg (g8U 1) eb;rw[g2Y] at this;assumption
   rw[ea,eb] at hk;rw[Uh] at hk;refine Cv ?_;walk_at"go";refine Mx (A:=A) (n:= -(k:Nat) - 1) (c:=a) ?_;walk_at"go";refine⟨rfl,?_⟩;walk_at"go";refine OpW.some (a:= .int (-(k:Nat) - 1)) rfl ⟨rfl,Qu ea hkl,?_⟩;refine Mx (A:=B) (n:= -(k:Nat) - 1) (c:=b) ?_;walk_at"go";refine⟨rfl,?_⟩;walk_at"go";refine OpW.some (a:= .int (-(k:Nat) - 1)) rfl ⟨rfl,Qu eb hkl2,?_⟩;refine⟨_,F8,λt=> ?_,λt=> ?_⟩
   ·rw[C8] at t
    rw[if_pos t] at hk;refine Bs ⟨λ_=> ?_,λz=>(by cases z)⟩;walk_at"go";refine Ma (m:=(-(k:Nat))) (by walk_at"rg") ?_;walk_at"go";have e3: -(k:Int) - 1= -((k+1:Nat):Int):=tI;refine⟨1,.int (-(k+1:Nat)),rfl,by rw[<-e3];rfl,?_⟩;walk_at"go";exact⟨_,Wy hkl hkA,rfl,k+1,rfl,Q24 hkl,Q24 hkl2,by walk_at"rg",by walk_at"rg",by walk_at"rg",by walk_at"rg",by rw[e1,e2];exact Cn hk⟩
   ·rw[C8] at t
    refine⟨λz=>(by cases z),λ_=> ?_⟩;rw[if_neg (by rw[t];exact bD)] at hk;exact q U' r14 r15 r16 (by rw[<-hk];exact r18)
  ·have eb:B.reverse.drop k=[]:=by
    have t2:(B.take (B.length - k))=[]:=by
     cases hq:B.take (B.length - k) with
     | nil=>rfl
     | cons a as=>rw[hq] at t2;cases t2
    have:=congrArg g2K t2;simp at this;exact g8O (by simp;exact Q22 this)
   rw[eb,ea] at hk;refine⟨λz=>(by cases z),λ_=> ?_⟩;exact q U' r14 r15 r16 (by rw[<-hk];exact r18)
 ·have ea:A.reverse.drop k=[]:=by
   have t2:(A.take (A.length - k))=[]:=by
    cases hq:A.take (A.length - k) with
    | nil=>rfl
    | cons a as=>rw[hq] at t1;cases t1
   have:=congrArg g2K t2;simp at this;exact g8O (by simp;exact Q22 this)
  rw[ea] at hk;refine⟨λz=>(by cases z),λ_=> ?_⟩;exact q U' r14 r15 r16 (by rw[<-hk];exact r18)
end
end
section
structure LS where
 dist:Int
 res:Int
 mn:Int
 row:List Int
noncomputable def B9(bc a j:Nat)(s:LS):LS:=
 let sub:=s.dist+Ct bc a;let dist':=s.row.getD j 0;let ins:=(if dist' < s.res then dist' else s.res)+2;let res':=if sub < ins then sub else ins
 ⟨dist',res',if res' < s.mn then res' else s.mn,s.row.set j res'⟩
noncomputable def igo(bc:Nat):Nat->List Nat->LS->LS
 | _,[],s=>s
 | j,a::r,s=>igo bc (j+1) r (B9 bc a j s)
section
variable {d:Nat} {U:Rho} {hp:HP} {Q:V->HP->Prop} {T:Bool->HP->Prop} {P:Fl->Rho->HP->Prop}
theorem lT{A B:List Nat}{bc g:Nat}{s s':LS}(r14:rget U 14=some (strC A))(r15:rget U 15=some (strC B))(r16:rget U 16=some (.int 99))(r22:rget U 22=some (strC [bc]))(r19:rget U 19=some (.lst g))(r23:rget U 23=some (.int s.dist))(r20:rget U 20=some (.int s.res))(r24:rget U 24=some (.int s.mn))
  (hg:lget hp g=some (s.row.map .int)) (hl:s.row.length=A.length) (hA:A.length<=60) (hs:igo bc 0 A s=s')
  (q: ∀U' h',rget U' 14=some (strC A)->rget U' 15=some (strC B)->rget U' 16=some (.int 99)->rget U' 19=some (.lst g)->rget U' 20=some (.int s'.res)->rget U' 24=some (.int s'.mn)->lget h' g=some (s'.row.map .int)->s'.row.length=A.length->Aa [g] hp h'->P .next U' h'):
  Bi (d+1) (.for_ (.one 25) (.rng [(.app (.builtin "len") [(.var 14)])]) [
   (.assign (.one 26) (.bin .add (.var 23) (.app (.ref 73) [(.var 22),(.idx (.var 14) (.var 25))]))),
   (.assign (.one 23) (.idx (.var 19) (.var 25))),
   (.assign (.one 27) (.bin .add (.app (.builtin "min") [(.var 20),(.var 23)]) (.k (.int 2)))),
   (.assign (.one 20) (.app (.builtin "min") [(.var 27),(.var 26)])),
   (.setidx (.var 19) (.var 25) (.var 20)),
   (.if_ (.cmp .lt (.var 20) (.var 24)) [
    (.assign (.one 24) (.var 20))] [])]) U hp P:=by
 refine Bu (Dp ?_);walk_at"go";refine len_str ?_;walk_at"go";refine⟨_,Cb (Q30 hA rfl),?_⟩;let I1:Nat->Rho->HP->Prop:=λk U h=>rget U 14=some (strC A)/\rget U 15=some (strC B)/\rget U 16=some (.int 99)/\rget U 22=some (strC [bc])/\rget U 19=some (.lst g)/\∃s:LS,rget U 23=some (.int s.dist)/\rget U 20=some (.int s.res)/\rget U 24=some (.int s.mn)/\lget h g=some (s.row.map .int)/\s.row.length=A.length/\igo bc k (A.drop k) s=s'/\Aa [g] hp h;refine Ef I1 ⟨r14,r15,r16,r22,r19,s,r23,r20,r24,hg,hl,by assumption,.refl⟩ ?_ ?_
 ·intro U' h zz;refine x06 zz ?_;clear zz;intro a1 a2 a3 _ a5 zz;refine x17 zz ?_;clear zz;intro s2 _ b2 b3 b4 b5 b6 b7
  have:A.drop A.length=[]:=by simp
  rw[this] at b6;have b6:s2=s':=b6;subst b6;exact q U' h a1 a2 a3 a5 b2 b3 b4 b5 b7
 ·intro k U' h hk zz;refine x06 zz ?_;clear zz;intro a1 a2 a3 a4 a5 zz;refine x17 zz ?_;clear zz;intro s2 b1 b2 b3 b4 b5 b6 b7
  clear q r14 r15 r16 r22 r19 r23 r20 r24 hg hs;have ek:A[k]? =some A[k]:=aD hk;have ed:A.drop k=A[k]::A.drop (k+1):=g7X hk;rw[ed] at b6;have b6:igo bc (k+1) (A.drop (k+1)) (B9 bc A[k] k s2)=s':=b6;have er:s2.row[k]? =some (s2.row.getD k 0):=by
   rw[aS,aD (Q154 hk b5)];rfl
  have hgl:=An b4;walk_at"go";refine Fa (A:=A) (n:=(k:Nat)) (c:=A[k]) (by walk_at"pv") (by walk_at"pv") (by rw[Az,ek]) ?_;walk_at"go";refine iO ?_;refine OpW.some (a:= .int (s2.dist+Ct bc A[k])) rfl ?_;walk_at"go";refine Bg (j:=g) (n:=k) (v:= .int (s2.row.getD k 0)) (by walk_at"pv") (by walk_at"pv") b4 (by rw[Az,aL,er];rfl) ?_;walk_at"go";refine OpW.some (a:= .int (if s2.row.getD k 0 < s2.res then s2.row.getD k 0 else s2.res)) rfl ?_;walk_at"go";refine OpW.some (a:= .int ((if s2.row.getD k 0 < s2.res then s2.row.getD k 0 else s2.res)+2)) rfl ?_;walk_at"go";refine OpW.some (a:= .int (B9 bc A[k] k s2).res) rfl ?_;walk_at"go";refine⟨g,k,_,rfl,rfl,b4,Q169,by simp;exact Q154 hk b5,?_⟩;walk_at"go";have hn:lget (h.set g (.l ((s2.row.map V.int).set (k:Int).toNat (V.int (B9 bc A[k] k s2).res)))) g=some ((B9 bc A[k] k s2).row.map .int):=by
   rw[lget_set_self hgl];show some ((s2.row.map V.int).set k _)=some ((s2.row.set k (B9 bc A[k] k s2).res).map V.int);rw[List.map_set]
  have hK:Aa [g] hp (h.set g (.l ((s2.row.map V.int).set (k:Int).toNat (V.int (B9 bc A[k] k s2).res)))):=b7.trans (Aa.set (.head _));have hL:(B9 bc A[k] k s2).row.length=A.length:=by show (s2.row.set k _).length=_;simpa using b5
  generalize h.set g (.l ((s2.row.map V.int).set (k:Int).toNat (V.int (B9 bc A[k] k s2).res)))=h2 at*;refine⟨_,rfl,λt=> ?_,λt=> ?_⟩
  ·have t:(B9 bc A[k] k s2).res < s2.mn:=of_decide_eq_true t
   walk_at"go";refine⟨by walk_at"rg",by walk_at"rg",by walk_at"rg",by walk_at"rg",by walk_at"rg",B9 bc A[k] k s2,by walk_at"rg",by walk_at"rg",?_,hn,hL,b6,hK⟩;have:(B9 bc A[k] k s2).mn=(B9 bc A[k] k s2).res:=if_pos t;rw[this];walk_at"rg"
  ·have t: ¬(B9 bc A[k] k s2).res < s2.mn:=of_decide_eq_false t
   walk_at"go";refine⟨by walk_at"rg",by walk_at"rg",by walk_at"rg",by walk_at"rg",by walk_at"rg",B9 bc A[k] k s2,by walk_at"rg",by walk_at"rg",?_,hn,hL,b6,hK⟩;have:(B9 bc A[k] k s2).mn=s2.mn:=if_neg t;rw[this];walk_at"rg"
end
end
section
noncomputable def ogo(A:List Nat):Nat->List Nat->List Int×Int->Option Int
 | _,[],(_,res)=>some res
 | k,b::r,(row,_)=>
  let s:=igo b 0 A ⟨(k:Nat)*2,(k:Nat)*2,9223372036854775807,row⟩
  if s.mn > 99 then none else ogo A (k+1) r (s.row,s.res)
noncomputable def Fz(a c:Int):Nat->List Int
 | 0=>[]
 | n+1=>a::Fz (a+c) c n
theorem Lc{a c:Int}{n:Nat}:B3 a c n=(Fz a c n).map .int:=by
 induction n generalizing a with
 | zero=>rfl
 | succ n ih=>show V.int a::B3 (a+c) c n=V.int a::(Fz (a+c) c n).map .int;rw[ih]
theorem Lb{a c:Int}{n:Nat}:(Fz a c n).length=n:=by
 induction n generalizing a with
 | zero=>rfl
 | succ n ih=>show (Fz (a+c) c n).length+1=_;rw[ih]
noncomputable def dpF(A B:List Nat):Option Int:=
 if((B.length:Int) - A.length)*2 > 99 then none else ogo A 0 B (Fz 2 2 A.length,0)
noncomputable def Hd(A B:List Nat):Option Int:=
 if Bb A B then some 0 else
 let p:=preF A B;let A1:=A.drop p;let B1:=B.drop p;let s:=preF A1.reverse B1.reverse;let A2:=A1.take (A1.length - s);let B2:=B1.take (B1.length - s)
 if A2.isEmpty||B2.isEmpty then some (2*((A2.length:Int)+B2.length))
 else if B2.length < A2.length then dpF B2 A2 else dpF A2 B2
theorem Em{m n:Int}{hp:HP}(h1:fit m=true)(h2:fit n=true):B7 .mul (.int m) (.int n) hp=some (.int (m*n),hp):=by
 show (if(fit m && fit n)=true then some (V.int (m*n),hp) else none)=_;rw[h1,h2];rfl
section
variable {d:Nat} {U:Rho} {hp:HP} {Q:V->HP->Prop} {T:Bool->HP->Prop} {P:Fl->Rho->HP->Prop}
theorem mH{A B:List Nat}{g:Nat}{row:List Int}{m:Int}(r14:rget U 14=some (strC A))(r15:rget U 15=some (strC B))(r16:rget U 16=some (.int 99))(r19:rget U 19=some (.lst g))(r20:rget U 20=some (.int 0))
  (hg:lget hp g=some (row.map .int)) (hl:row.length=A.length) (hA:A.length<=60) (hB:B.length<=60) (hs:ogo A 0 B (row,0)=some m)
  (q: ∀U' h',rget U' 20=some (.int m)->Aa [g] hp h'->P .next U' h'):
  Bi (d+1) (.for_ (.one 21) (.rng [(.app (.builtin "len") [(.var 15)])]) [
  (.assign (.one 22) (.idx (.var 15) (.var 21))),
  (.assign2 23 20 (.bin .mul (.var 21) (.k (.int 2)))),
  (.assign (.one 24) (.k (.int 9223372036854775807))),
  (.for_ (.one 25) (.rng [(.app (.builtin "len") [(.var 14)])]) [
   (.assign (.one 26) (.bin .add (.var 23) (.app (.ref 73) [(.var 22),(.idx (.var 14) (.var 25))]))),
   (.assign (.one 23) (.idx (.var 19) (.var 25))),
   (.assign (.one 27) (.bin .add (.app (.builtin "min") [(.var 20),(.var 23)]) (.k (.int 2)))),
   (.assign (.one 20) (.app (.builtin "min") [(.var 27),(.var 26)])),
   (.setidx (.var 19) (.var 25) (.var 20)),
   (.if_ (.cmp .lt (.var 20) (.var 24)) [
    (.assign (.one 24) (.var 20))] [])]),
  (.if_ (.cmp .gt (.var 24) (.var 16)) [
   (.ret (.bin .add (.var 16) (.k (.int 1))))] [])]) U hp P:=by
 refine Bu (Dp ?_);walk_at"go";refine len_str ?_;walk_at"go";refine⟨_,Cb (Q30 hB rfl),?_⟩;let I1:Nat->Rho->HP->Prop:=λk U h=>rget U 14=some (strC A)/\rget U 15=some (strC B)/\rget U 16=some (.int 99)/\rget U 19=some (.lst g)/\∃row res,rget U 20=some (.int res)/\lget h g=some (row.map .int)/\row.length=A.length/\ogo A k (B.drop k) (row,res)=some m/\Aa [g] hp h;refine Ef I1 ⟨r14,r15,r16,r19,row,0,r20,hg,hl,by assumption,.refl⟩ ?_ ?_
 ·intro U' h zz;refine x05 zz ?_;clear zz;intro _ _ _ _ zz;refine x25 zz ?_;clear zz;intro row' res' b2 _ _ b6 b7
  have:B.drop B.length=[]:=by simp
  rw[this] at b6;have b6:some res'=some m:=b6;obtain rfl:=aB b6;exact q U' h b2 b7
 ·intro k U' h hk zz;refine x05 zz ?_;clear zz;intro a1 a2 a3 a5 zz;refine x25 zz ?_;clear zz;intro row' res' b2 b4 b5 b6 b7
  clear q r14 r15 r16 r19 r20 hg hs;have ek:B[k]? =some B[k]:=aD hk;have ed:B.drop k=B[k]::B.drop (k+1):=g7X hk;rw[ed] at b6;have b6:(if(igo B[k] 0 A ⟨(k:Nat)*2,(k:Nat)*2,9223372036854775807,row'⟩).mn > 99 then none else ogo A (k+1) (B.drop (k+1)) ((igo B[k] 0 A ⟨(k:Nat)*2,(k:Nat)*2,9223372036854775807,row'⟩).row,(igo B[k] 0 A ⟨(k:Nat)*2,(k:Nat)*2,9223372036854775807,row'⟩).res))=some m:=b6;walk_at"go";refine Fa (A:=B) (n:=(k:Nat)) (c:=B[k]) (by walk_at"pv") (by walk_at"pv") (by rw[Az,ek]) ?_;walk_at"go";refine lH ?_;walk_at"go";have hf:fit (k:Nat)=true:=Gy (tJ hk hB);refine OpW.some (a:= .int ((k:Nat)*2)) (Em hf (rfl)) ?_;clear hf;walk_at"go";refine lT (A:=A) (B:=B) (bc:=B[k]) (g:=g) (s:=⟨(k:Nat)*2,(k:Nat)*2,9223372036854775807,row'⟩) (by walk_at"rg") (by walk_at"rg") (by walk_at"rg") (by walk_at"rg") (by walk_at"rg") (by walk_at"rg") (by walk_at"rg") (by walk_at"rg") b4 b5 hA rfl
   λU2 h2 c1 c2 c3 c4 c5 c6 c7 c8 c9=> ?_
  generalize igo B[k] 0 A ⟨(k:Nat)*2,(k:Nat)*2,9223372036854775807,row'⟩=s' at*;walk_at"go";refine⟨_,rfl,λt=> ?_,λt=> ?_⟩
  ·rw[if_pos (of_decide_eq_true t)] at b6
   cases b6
  ·rw[if_neg (of_decide_eq_false t)] at b6
   walk_at"go";exact⟨c1,c2,c3,c4,s'.row,s'.res,c5,c7,c8,b6,b7.trans c9⟩
end
end
section
noncomputable def dpB:List S:=[
 (.if_ (.cmp .gt (.bin .mul (.bin .sub (.app (.builtin "len") [(.var 15)]) (.app (.builtin "len") [(.var 14)])) (.k (.int 2))) (.var 16)) [
  (.ret (.bin .add (.var 16) (.k (.int 1))))] []),
 (.assign (.one 19) (.lrange [(.k (.int 2)),(.bin .mul (.k (.int 2)) (.bin .add (.app (.builtin "len") [(.var 14)]) (.k (.int 1)))),(.k (.int 2))])),
 (.assign (.one 20) (.k (.int 0))),
 (.for_ (.one 21) (.rng [(.app (.builtin "len") [(.var 15)])]) [
  (.assign (.one 22) (.idx (.var 15) (.var 21))),
  (.assign2 23 20 (.bin .mul (.var 21) (.k (.int 2)))),
  (.assign (.one 24) (.k (.int 9223372036854775807))),
  (.for_ (.one 25) (.rng [(.app (.builtin "len") [(.var 14)])]) [
   (.assign (.one 26) (.bin .add (.var 23) (.app (.ref 73) [(.var 22),(.idx (.var 14) (.var 25))]))),
   (.assign (.one 23) (.idx (.var 19) (.var 25))),
   (.assign (.one 27) (.bin .add (.app (.builtin "min") [(.var 20),(.var 23)]) (.k (.int 2)))),
   (.assign (.one 20) (.app (.builtin "min") [(.var 27),(.var 26)])),
   (.setidx (.var 19) (.var 25) (.var 20)),
   (.if_ (.cmp .lt (.var 20) (.var 24)) [
    (.assign (.one 24) (.var 20))] [])]),
  (.if_ (.cmp .gt (.var 24) (.var 16)) [
   (.ret (.bin .add (.var 16) (.k (.int 1))))] [])]),
 (.ret (.var 20))]
theorem zK{n:Nat}(h:1<=n):((2*((n:Int)+1) - 2 - 1) / 2+1).toNat=n:=by
 obtain⟨m,rfl⟩: ∃m,n=m+1:=⟨n - 1,(aC h).symm⟩;have e:2*(((m+1:Nat):Int)+1) - 2 - 1=1+2*(m:Int):=yK;rw[e,Int.add_mul_ediv_left _ _ (by decide)];show ((0:Int)+m+1).toNat=_;rw[g2N];rfl
section
variable {d:Nat} {U:Rho} {hp:HP} {Q:V->HP->Prop} {T:Bool->HP->Prop} {P:Fl->Rho->HP->Prop}
theorem X8{A B:List Nat}{m:Int}(r14:rget U 14=some (strC A))(r15:rget U 15=some (strC B))(r16:rget U 16=some (.int 99))(hA:A.length<=60)(hA1:1<=A.length)(hB:B.length<=60)(h:dpF A B=some m)(q: ∀U' h',Aa [] hp h'->P (.ret (.int m)) U' h'):
  Wex (d+1) dpB U hp P:=by
 unfold dpB;unfold dpF at h;have h2: ¬(((B.length:Int) - A.length)*2 > 99):=by
  intro z;rw[if_pos z] at h;exact nn h
 rw[if_neg h2] at h;walk_at"go";refine len_str ?_;walk_at"go";refine len_str ?_;refine OpW.some (a:= .int ((B.length:Int) - A.length)) rfl ?_;walk_at"go";refine OpW.some (a:= .int (((B.length:Int) - A.length)*2)) (Em (Dw (R67 hA h2)) (rfl)) ?_;walk_at"go";refine⟨_,rfl,λt=>absurd (of_decide_eq_true t) h2,λ_=> ?_⟩;walk_at"go";refine Kt ?_;walk_at"go";refine len_str ?_;walk_at"go";refine OpW.some (a:= .int ((A.length:Int)+1)) rfl ?_;refine OpW.some (a:= .int (2*((A.length:Int)+1))) (Em (rfl) (Dw (tK hA))) ?_;walk_at"go";have hsz:rangeSize 2 (2*((A.length:Int)+1)) 2=A.length:=by
  unfold rangeSize;rw[if_neg (by decide),if_pos (tL hA1)];exact zK hA1
 have hr:B5 [.int 2,.int (2*((A.length:Int)+1)),.int 2]=some (.rng 2 2 A.length):=by
  rw[Yz,hsz,if_pos];simp[fit];exact tM hA
 refine⟨_,_,_,hr,Q31 hA rfl,by rw[Lc,aO,Lb];exact Q31 hA rfl,?_⟩;clear hr hsz;rw[Lc];walk_at"go";refine mH (A:=A) (B:=B) (g:=hp.length) (row:=Fz 2 2 A.length) (m:=m) (by walk_at"rg") (by walk_at"rg") (by walk_at"rg") (by walk_at"rg") (by walk_at"rg") lget_push Lb hA hB h λU' h' e1 e2=> ?_;walk_at"go";refine q _ _ ?_;have:Aa [hp.length] hp h':=Aa.push.trans e2;exact this.drop (mm1)
theorem Yk{A B:List Nat}{m:Int}(hA:A.length<=40)(hB:B.length<=40)(h:Hd A B=some m)(q: ∀h',Aa [] hp h'->Q (.int m) h'):
  As (d+2) 80 [strC A,strC B,.int 99] hp Q:=by
 refine Bf rfl rfl rfl ?_;show Wex (d+1) b80 [(14,strC A),(15,strC B),(16,.int 99)] hp _;unfold b80;unfold Hd at h;walk_at"go";refine⟨_,F8,λt=> ?_,λt=> ?_⟩
 ·rw[if_pos t] at h
  clear t;obtain rfl:=aB h;walk_at"go";exact q _ .refl
 rw[if_neg (by rw[t];exact bD)] at h;dsimp only at h;walk_at"go";refine hX (A:=A) (B:=B) (by walk_at"rg") (by walk_at"rg") (by walk_at"rg") (by walk_at"rg") λU1 a1 a2 a3 a4=> ?_;have hp1:=R9 (A:=A) (B:=B);generalize preF A B=p at*;walk_at"go";refine E9 ?_;walk_at"go";refine Dr ⟨A,A.drop p,rfl,Ld hp1.1,?_⟩;walk_at"go";refine E9 ?_;walk_at"go";refine Dr ⟨B,B.drop p,rfl,Ld hp1.2,?_⟩;walk_at"go";have hA1:(A.drop p).length<=40:=by simp;exact Lm hA
 have hB1:(B.drop p).length<=40:=by simp;exact Lm hB
 clear hp1;generalize A.drop p=A1 at*;generalize B.drop p=B1 at*;refine kP (A:=A1) (B:=B1) (by walk_at"rg") (by walk_at"rg") (by walk_at"rg") (by walk_at"rg") λU2 b1 b2 b3 b4=> ?_;have hs1:=R9 (A:=A1.reverse) (B:=B1.reverse);rw[g9K,g9K] at hs1;generalize preF A1.reverse B1.reverse=s at*;walk_at"go";refine E9 ?_;walk_at"go";refine Dr (Gc (Jn b4 ⟨A1,A1.take (A1.length - s),rfl,Kq hs1.1,?_⟩));walk_at"go";refine E9 ?_;walk_at"go";refine Dr (Gc (Jn (by walk_at"rg") ⟨B1,B1.take (B1.length - s),rfl,Kq hs1.2,?_⟩));walk_at"go";have hA2:(A1.take (A1.length - s)).length<=40:=by simp;exact Lm hA1
 have hB2:(B1.take (B1.length - s)).length<=40:=by simp;exact Lm hB1
 clear hs1;generalize A1.take (A1.length - s)=A2 at*;generalize B1.take (B1.length - s)=B2 at*;have r14:rget (rset (rset U2 14 (strC A2)) 15 (strC B2)) 14=some (strC A2):=by walk_at"rg"
 have r15:rget (rset (rset U2 14 (strC A2)) 15 (strC B2)) 15=some (strC B2):=by walk_at"rg"
 have r16:rget (rset (rset U2 14 (strC A2)) 15 (strC B2)) 16=some (.int 99):=by walk_at"rg"
 generalize rset (rset U2 14 (strC A2)) 15 (strC B2)=U3 at*;clear a1 a2 a3 a4 b1 b2 b3 b4;have hemp: ∀{U h1} (t:(A2.isEmpty||B2.isEmpty)=true) (r14:rget U 14=some (strC A2)) (r15:rget U 15=some (strC B2)) {P:Fl->Rho->HP->Prop} (q':P (.ret (.int m)) U h1),Wex (d+1) [(.ret (.bin .mul (.k (.int 2)) (.bin .add (.app (.builtin "len") [(.var 14)]) (.app (.builtin "len") [(.var 15)]))))] U h1 P:=by
  intro U h1 t r14 r15 P q';rw[if_pos t] at h;obtain rfl:=aB h;clear h t;walk_at"go";refine len_str ?_;walk_at"go";refine len_str ?_;refine OpW.some (a:= .int ((A2.length:Int)+B2.length)) rfl ?_;exact OpW.some (Em (rfl) (Dw (tN hA2 hB2))) q'
 walk_at"go";refine Fd ?_;walk_at"go";refine Mp r14 truthy_str ⟨λt=> ?_,λt=> ?_⟩
 ·clear hA hB hA1 hB1 hA2 hB2 h r16;refine⟨λ_=>hemp (by simp at t;simp[t]) r14 r15 ?_,λz=>(by cases z)⟩
  exact q _ .refl
 have tA:A2.isEmpty=false:=by simpa using t
 refine Fd ?_;walk_at"go";refine Mp r15 truthy_str ⟨λt=> ?_,λt=> ?_⟩
 ·clear hA hB hA1 hB1 hA2 hB2 h r16 tA;refine⟨λ_=>hemp (by simp at t;simp[t]) r14 r15 ?_,λz=>(by cases z)⟩
  exact q _ .refl
 have tB:B2.isEmpty=false:=by simpa using t
 refine Kk ?_;refine⟨λz=>(by cases z),λ_=> ?_⟩;rw[if_neg (by simp[tA,tB])] at h;have hA3:1<=A2.length:=by
  clear hA hB q hA1 hB1 hA2 hB2 h r14 r15 r16 hemp t tB;cases A2 with
  | nil=>cases tA
  | cons a b=>simp
 have hB3:1<=B2.length:=by
  clear hA hB q hA1 hB1 hA2 hB2 h r14 r15 r16 hemp tA t hA3;cases B2 with
  | nil=>cases tB
  | cons a b=>simp
 clear hemp t;walk_at"go";refine Fd ?_;walk_at"go";refine len_str ?_;walk_at"go";clear tA tB;refine⟨false,by show some (decide ((A2.length:Int) > 40))=_;rw[decide_eq_false (W4 hA2)],λz=>(by cases z),λ_=> ?_⟩;refine Fd ?_;walk_at"go";refine len_str ?_;walk_at"go";refine⟨false,by show some (decide ((B2.length:Int) > 40))=_;rw[decide_eq_false (W4 hB2)],λz=>(by cases z),λ_=> ?_⟩;refine Kk ?_;refine⟨λz=>(by cases z),λ_=> ?_⟩;walk_at"go";refine len_str ?_;walk_at"go";refine len_str ?_;refine⟨_,rfl,λt=> ?_,λt=> ?_⟩
 ·have t:(B2.length:Int) < A2.length:=of_decide_eq_true t
  rw[if_pos (O0 (of_decide_eq_true ‹_›))] at h;refine ex_cons (Oh ?_);walk_at"go";refine⟨aT rfl,rset (rset U3 14 (strC B2)) 15 (strC A2),rfl,?_⟩;walk_at"ev";exact X8 (A:=B2) (B:=A2) (by walk_at"rg") (by walk_at"rg") (by walk_at"rg") (tO (of_decide_eq_true ‹_›) hA2) hB3 (Q31 hA2 rfl) h λ_ _ k=>q _ k
 ·have t: ¬(B2.length:Int) < A2.length:=of_decide_eq_false t
  rw[if_neg (W5 (g1U.1 (of_decide_eq_false ‹_›)))] at h;walk_at"ev";exact X8 (A:=A2) (B:=B2) r14 r15 r16 (Q31 hA2 rfl) hA3 (Q31 hB2 rfl) h λ_ _ k=>q _ k
end
end
section
section
variable {d:Nat} {U:Rho} {hp:HP} {Q:V->HP->Prop} {T:Bool->HP->Prop} {P:Fl->Rho->HP->Prop}
theorem P7{x:Nat}{b:List S}{l:List Nat}(Inv:List Nat->Rho->HP->Prop)(h0:Inv l U hp)(hP: ∀U hp,Inv [] U hp->P .next U hp)
  (step: ∀c r U hp,Inv (c::r) U hp->W3 (λf=>f.ex d b (rset U x (strC [c])) hp) (Ex d P λU2 h2=>Inv r U2 h2)):Wfl d (.one x) (.str l) b U hp P:=by
 induction l generalizing U hp with
 | nil=>exact Mi rfl (hP _ _ h0)
 | cons c r ih=>
  refine M3 (v:=strC [c]) (j':= .str r) rfl rfl ((step c r U hp h0).mono λf U2 h2 q=> ?_);cases f with
  | next=>exact ih q
  | cont=>exact ih q
  | brk=>exact q
  | ret v=>exact q
theorem Kh{A:List Nat}:Gq hp (strC A)=some (.str A):=by show some (Itr.str (chars (Aj A)))=_;rw[chars_of]
theorem add_str{A B:List Nat}(hl:A.length+B.length<=100)(q:Q (strC (A++B)) hp):OpW (B7 .add (strC A) (strC B) hp) Q:=by
 refine .some (a:=strC (A++B)) (b:=hp) ?_ q;show (if(chars (Aj A)).length+(chars (Aj B)).length<=100 then some (V.str (Aj (chars (Aj A)++chars (Aj B))),hp) else none)=_;rw[chars_of,chars_of,if_pos hl]
noncomputable def Fs(A B:List Nat)(a b:Nat):Int:=2*(A.length+B.length:Nat) - 4+Ct a b
noncomputable def Eh(A B:List Nat):List Int:=A.flatMap (λa=>B.map λb=>Fs A B a b)
noncomputable def I4:List Nat->List Nat->List Int
 | [a,b],[c,e]=>[Ct a c+Ct b e]
 | _,_=>[]
noncomputable def Pb(A B:List Nat):Int:=C6 (2*(A.length+B.length:Nat)) (Eh A B++I4 A B)
theorem fM{α β:Type}{A:List α}{f:α->List β}{k:Nat}(h: ∀a,(f a).length<=k):(A.flatMap f).length<=A.length*k:=by
 induction A with
 | nil=>simp
 | cons a r ih=>rw[g2B,aP,g2I,g7P];have:=h a;exact tP this ih
theorem R3{i:Nat}{m:Int}{ms:List Int}(e:lget hp i=some ((m::ms).map .int))(q:Q (.int (C6 m ms)) hp):OpW (builtin (.builtin "min") [.lst i] hp) Q:=by
 refine .some (a:= .int (C6 m ms)) (b:=hp) ?_ q;show (lget hp i).bind _=_;rw[e];show (intsV ((m::ms).map V.int)).bind _=_;rw[Kv (λa=>a)];simp;rfl
theorem Qo{A:List Nat}(h:A.length=2): ∃a b,A=[a,b]:=l2 h
theorem Zt{A B:List Nat}(z: ¬(A.length=2/\B.length=2)):I4 A B=[]:=by
 match A,B with
 | [a,b],[c,e]=>simp at z
 | [],_=>rfl
 | [_],_=>rfl
 | _::_::_::_,_=>rfl
 | [_,_],[]=>rfl
 | [_,_],[_]=>rfl
 | [_,_],_::_::_::_=>rfl
theorem CE{A B:List Nat}(hA:A.length<=10)(hB:B.length<=10)(q: ∀h',Aa [] hp h'->Q (.int (Pb A B)) h'):
  As (d+2) 247 [strC A,strC B] hp Q:=by
 refine Bf rfl rfl rfl ?_;show Wex (d+1) b247 [(38,strC A),(39,strC B)] hp _;unfold b247;walk_at"go";refine add_str (W6 hA hB rfl) ?_;walk_at"go";refine len_str ?_;refine OpW.some (Em rfl (by rw[aP,g3W];exact Dw (W7 hA hB))) ?_;walk_at"go";refine⟨by simp,?_⟩;walk_at"go";have hw:(Eh A B).length<=100:=by
  have:=fM (A:=A) (f:=λa=>B.map λb=>Fs A B a b) (k:=10) (by simp;exact Q88 hB);unfold Eh;exact R68 hA this
 refine Bu (Ck ?_);walk_at"go";refine⟨_,Kh,?_⟩;let I1:List Nat->Rho->HP->Prop:=λr U h=>rget U 38=some (strC A)/\rget U 39=some (strC B)/\rget U 40=some (.lst hp.length)/\∃ws:List Int,lget h hp.length=some ((2*((A.length+B.length:Nat):Int)::ws).map .int)/\ws++r.flatMap (λa=>B.map λb=>Fs A B a b)=Eh A B/\Aa [] hp h;refine P7 I1 ⟨by walk_at"rg",by walk_at"rg",by walk_at"rg",[],by rw[aP];exact lget_push,rfl,Aa.push⟩ ?_ ?_
 ·intro U h zz;refine x04 zz ?_;clear zz;intro a1 a2 a3 zz;refine x13 zz ?_;clear zz;intro ws b1 b2 b3
  obtain rfl:ws=Eh A B:=by simpa using b2
  have hfin: ∀{U h},rget U 40=some (.lst hp.length)->lget h hp.length=some ((2*((A.length+B.length:Nat):Int)::(Eh A B++I4 A B)).map .int)->Aa [] hp h->Wex (d+1) [(.ret (.app (.builtin "min") [(.var 40)]))] U h λf _ h=>match f with| .ret v=>Q v h| .next=>Q .none h|_=>False:=by
   intro U h e1 e2 e3;walk_at"go";refine R3 e2 ?_;walk_at"go";exact q _ e3
  have hno: ¬(A.length=2/\B.length=2)->I4 A B=[]:=Zt;walk_at"go";refine Cv ?_;walk_at"go";refine len_str ?_;walk_at"go";refine⟨_,rfl,λt=> ?_,λt=> ?_⟩
  ·have t:Ap (A.length:Nat) 2=true:=t
   rw[beqInt_eq] at t;have tA:A.length=2:=by simp at t;exact W8 t
   refine Cv ?_;walk_at"go";refine len_str ?_;walk_at"go";refine⟨_,rfl,λt=> ?_,λt=> ?_⟩
   ·have t:Ap (B.length:Nat) 2=true:=t
    rw[beqInt_eq] at t;have tB:B.length=2:=by simp at t;exact W8 t
    obtain⟨a,b,rfl⟩:=Qo tA;obtain⟨c,e,rfl⟩:=Qo tB;refine Bs ⟨λ_=> ?_,λz=>(by cases z)⟩;walk_at"go";refine Dz (by walk_at"pv") b1 ?_;walk_at"go";refine Fa (A:=[a,b]) (n:=0) (c:=a) (by walk_at"pv") (by walk_at"pv") rfl ?_;walk_at"go";refine Fa (A:=[c,e]) (n:=0) (c:=c) (by walk_at"pv") (by walk_at"pv") rfl ?_;walk_at"go";refine Nc ?_;walk_at"go";refine Fa (A:=[a,b]) (n:=1) (c:=b) (by walk_at"pv") (by walk_at"pv") rfl ?_;walk_at"go";refine Fa (A:=[c,e]) (n:=1) (c:=e) (by walk_at"pv") (by walk_at"pv") rfl ?_;walk_at"go";refine Nc ?_;refine OpW.some rfl ?_;walk_at"go";refine F0 b1 (by simp;exact tQ hw rfl) ⟨rfl,?_⟩;have hn:=An b1;walk_at"ev";refine hfin a3 ?_ ?_
    ·rw[lget_set_self hn]
     exact congrArg some (cD (l₁:=2*(([a,b].length+[c,e].length:Nat):Int)::Eh [a,b] [c,e]) (l₂:=[Ct a c+Ct b e])).symm
    ·have:Aa [hp.length] hp (h.set hp.length (O.l (g7E V.int (2*(([a,b].length+[c,e].length:Nat):Int)::Eh [a,b] [c,e])++[V.int (Ct a c+Ct b e)]))):=b3.nil.trans (Aa.set (by simp))
     exact this.drop (by simp)
   ·have t:Ap (B.length:Nat) 2=false:=t
    rw[beqInt_eq] at t;refine⟨λz=>(by cases z),λ_=> ?_⟩;walk_at"ev";refine hfin a3 ?_ b3;rw[hno (by simp at t;exact R69 t),gAV];exact b1
  ·have t:Ap (A.length:Nat) 2=false:=t
   rw[beqInt_eq] at t;refine⟨λz=>(by cases z),λ_=> ?_⟩;walk_at"ev";refine hfin a3 ?_ b3;rw[hno (by simp at t;exact R70 t),gAV];exact b1
 ·intro c r U h zz;refine x04 zz ?_;clear zz;intro a1 a2 a3 zz;refine x13 zz ?_;clear zz;intro ws b1 b2 b3
  walk_at"go";refine Bu (Ck ?_);walk_at"go";refine⟨_,Kh,?_⟩;let I2:List Nat->Rho->HP->Prop:=λs U h=>rget U 38=some (strC A)/\rget U 39=some (strC B)/\rget U 40=some (.lst hp.length)/\rget U 41=some (strC [c])/\∃ws:List Int,lget h hp.length=some ((2*((A.length+B.length:Nat):Int)::ws).map .int)/\ws++(s.map (λb=>Fs A B c b)++r.flatMap (λa=>B.map λb=>Fs A B a b))=Eh A B/\Aa [] hp h;refine P7 I2 ⟨by walk_at"rg",by walk_at"rg",by walk_at"rg",by walk_at"rg",ws,b1,by rw[<-b2];simp,b3⟩ ?_ ?_
  ·intro U h zz;refine x05 zz ?_;clear zz;intro a1 a2 a3 a4 zz;refine x13 zz ?_;clear zz;intro ws b1 b2 b3
   walk_at"go";exact⟨a1,a2,a3,ws,b1,by simpa using b2,b3⟩
  ·clear a1 a2 a3 b1 b2 b3 ws U h
   intro e s U h zz;refine x05 zz ?_;clear zz;intro a1 a2 a3 a4 zz;refine x13 zz ?_;clear zz;intro ws b1 b2 b3;walk_at"go";refine Dz (by walk_at"pv") b1 ?_;walk_at"go";refine add_str (W6 hA hB rfl) ?_;walk_at"go";refine len_str ?_;refine OpW.some (Em rfl (by rw[aP,g3W];exact Dw (W7 hA hB))) ?_;walk_at"go";refine OpW.some rfl ?_;walk_at"go";refine Nc ?_;refine OpW.some rfl ?_;walk_at"go";have hl:ws.length < 100:=by
    have:=congrArg g2K b2;simp at this;exact tR this hw
   refine F0 b1 (by simp;exact Wo hl rfl) ⟨rfl,?_⟩;walk_at"go";have hn:=An b1;refine⟨by walk_at"rg",by walk_at"rg",by walk_at"rg",by walk_at"rg",ws++[Fs A B c e],?_,by rw[<-b2];simp,?_⟩
   ·rw[lget_set_self hn,aP]
    exact congrArg some (cD (l₁:=2*((A.length+B.length:Nat):Int)::ws) (l₂:=[Fs A B c e])).symm
   ·have:Aa [hp.length] hp (h.set hp.length (O.l (g7E V.int (2*((A.length+B.length:Nat):Int)::ws)++[V.int (2*((A++B).length:Nat) - 4+Ct c e)]))):=b3.nil.trans (Aa.set (by simp))
    exact this.drop (by simp)
end
end
section
noncomputable def kindL:List (List Nat):=[[],[97],[65],[98],[66],[97,97],[97,65],[97,98],[97,66],[65,97],[65,65],[65,98],[65,66],[98,97],[98,65],[98,98],[98,66],[66,97],[66,65],[66,98],[66,66]]
noncomputable def kind(k:Nat):List Nat:=kindL.getD k []
noncomputable def Ch:List (List Nat):=[
 [0,2,2,2,2,4,4,4,4,4,4,4,4,4,4,4,4,4,4,4,4],
 [2,0,1,2,2,2,2,2,2,2,3,3,3,2,3,4,4,2,3,4,4],
 [2,1,0,2,2,3,2,3,3,2,2,2,2,3,2,4,4,3,2,4,4],
 [2,2,2,0,1,4,4,2,3,4,4,2,3,2,2,2,2,3,3,2,3],
 [2,2,2,1,0,4,4,3,2,4,4,3,2,3,3,3,2,2,2,2,2],
 [4,2,3,4,4,0,1,2,2,1,2,3,3,2,3,4,4,2,3,4,4],
 [4,2,2,4,4,1,0,2,2,2,1,3,3,3,2,4,4,3,2,4,4],
 [4,2,3,2,3,2,2,0,1,3,3,1,2,4,4,2,3,4,4,2,3],
 [4,2,3,3,2,2,2,1,0,3,3,2,1,4,4,3,2,4,4,3,2],
 [4,2,2,4,4,1,2,3,3,0,1,2,2,2,3,4,4,2,3,4,4],
 [4,3,2,4,4,2,1,3,3,1,0,2,2,3,2,4,4,3,2,4,4],
 [4,3,2,2,3,3,3,1,2,2,2,0,1,4,4,2,3,4,4,2,3],
 [4,3,2,3,2,3,3,2,1,2,2,1,0,4,4,3,2,4,4,3,2],
 [4,2,3,2,3,2,3,4,4,2,3,4,4,0,1,2,2,1,2,3,3],
 [4,3,2,2,3,3,2,4,4,3,2,4,4,1,0,2,2,2,1,3,3],
 [4,4,4,2,3,4,4,2,3,4,4,2,3,2,2,0,1,3,3,1,2],
 [4,4,4,2,2,4,4,3,2,4,4,3,2,2,2,1,0,3,3,2,1],
 [4,2,3,3,2,2,3,4,4,2,3,4,4,1,2,3,3,0,1,2,2],
 [4,3,2,3,2,3,2,4,4,3,2,4,4,2,1,3,3,1,0,2,2],
 [4,4,4,2,2,4,4,2,3,4,4,2,3,3,3,1,2,2,2,0,1],
 [4,4,4,3,2,4,4,3,2,4,4,3,2,3,3,2,1,2,2,1,0]]
noncomputable def tabD(a b:Nat):Nat:=(Ch.getD a []).getD b 0
noncomputable abbrev D(a b:Nat):Int:=(tabD a b:Nat)
noncomputable def O9(a b:Nat):Bool:=(match Hd (kind a) (kind b) with|some m=>Ap m (D a b)|none=>false) && Ap (Pb (kind b) (kind a)) (D a b)
theorem Qy:((aN 21).all λa=>(aN 21).all λb=>O9 a b)=true:=by decide+kernel
theorem dK{a b:Nat}(ha:a < 21)(hb:b < 21):Hd (kind a) (kind b)=some (D a b):=by
 have:=bB.mp (bB.mp Qy a (bQ.mpr ha)) b (bQ.mpr hb);unfold O9 at this;rw[aI] at this;have:=this.1;cases h:Hd (kind a) (kind b) with
 | none=>rw[h] at this;cases this
 | some m=>
  rw[h] at this;dsimp only at this;rw[beqInt_eq] at this;simp at this;rw[this]
theorem Z4{a b:Nat}(ha:a < 21)(hb:b < 21):Pb (kind b) (kind a)=D a b:=by
 have:=bB.mp (bB.mp Qy a (bQ.mpr ha)) b (bQ.mpr hb);unfold O9 at this;rw[aI] at this;have:=this.2;rw[beqInt_eq] at this;simpa using this
theorem Ki{a:Nat}:(kind a).length<=2:=by
 have:kindL.all (λk=>decide (k.length<=2))=true:=by rfl
 unfold kind;by_cases h:a < kindL.length
 ·rw[aS,aD h]
  exact of_decide_eq_true (bB.mp this _ (g0I h))
 ·rw[aS,g0H (Q88 (cH.1 h))];exact cL _
theorem Zk: ∀a b,tabD a b<=4:=by
 intro a b;have h1:Ch.all (λr=>r.all λv=>decide (v<=4))=true:=by rfl
 unfold tabD;simp only[aS];cases e:Ch[a]? with
 | none=>exact cL _
 | some r=>
  have hr:=bB.mp h1 r (aU e);simp only[g6E];cases e2:r[b]? with
  | none=>simp
  | some v=>exact of_decide_eq_true (bB.mp hr v (aU e2))
noncomputable def yU:Bool:=(aN 21).all λa=>aW (tabD a a) 0 && (aN 21).all λb=>aW (tabD a b) (tabD b a)
theorem Qz:yU=true:=by decide+kernel
theorem eL{a b:Nat}(ha:a < 21)(hb:b < 21):tabD a b=tabD b a:=by
 have:=bB.mp Qz a (bQ.mpr ha);rw[aI] at this;exact aR (bB.mp this.2 b (bQ.mpr hb))
theorem iP{a:Nat}(ha:a < 21):tabD a a=0:=by
 have:=bB.mp Qz a (bQ.mpr ha);rw[aI] at this;exact aR this.1
noncomputable def yV:Bool:=Ch.all λra=>(ra.zip Ch).all λp=>(ra.zip p.2).all λq=>bK q.1 (p.1+q.2)
theorem Zx:yV=true:=by decide+kernel
theorem lD:Ch.length=21/\Ch.all (λr=>aW r.length 21)=true:=by exact⟨rfl,rfl⟩
theorem eM{a b c:Nat}(ha:a < 21)(hb:b < 21)(hc:c < 21):tabD a c<=tabD a b+tabD b c:=by
 obtain⟨hl,hr⟩:=lD;have rl: ∀i (h:i < 21),(Ch[i]'(Q154 h hl)).length=21:=λi h=>aR (bB.mp hr _ (g0I _));have ea:=rl a ha;have eb:=rl b hb;have e: ∀i j (hi:i < 21) (hj:j < 21),tabD i j=(Ch[i]'(Q154 hi hl))[j]'(by rw[rl i hi];exact hj):=λi j hi hj=>by
  unfold tabD;rw[aS,aS,aD (by exact Q154 hi hl:i < Ch.length),g6E,aD (by rw[rl i hi];exact hj),g6E]
 have h1:=bB.mp Zx _ (g0I (by exact Q154 ha hl:a < Ch.length));have hz:b < ((Ch[a]'(Q154 ha hl)).zip Ch).length:=by rw[g4Y,ea,hl];assumption
 have h2:=bB.mp h1 _ (g0I hz);rw[g4Q] at h2;have hz2:c < ((Ch[a]'(Q154 ha hl)).zip (Ch[b]'(Q154 hb hl))).length:=by rw[g4Y,ea,eb];assumption
 have h3:=bB.mp h2 _ (g0I hz2);rw[g4Q] at h3;have:=aT h3;rw[e a c ha hc,e a b ha hb,e b c hb hc];exact this
end
section
section
variable {d:Nat} {U:Rho} {hp:HP} {Q:V->HP->Prop} {T:Bool->HP->Prop} {P:Fl->Rho->HP->Prop}
theorem Zm{c acc:Nat}{l:List Nat}{ys:List V}(r38:rget U 38=some (strC [c]))(e:lget hp acc=some ys)(hl:ys.length+l.length<=200):
  Wcl d (.bin .add (.var 38) (.var 39)) (.one 39) [] [] (.str l) acc U hp λ_ h2=>lget h2 acc=some (ys++l.map λb=>strC [c,b])/\Aa [acc] hp h2:=by
 induction l generalizing U hp ys with
 | nil=>exact Fu rfl ⟨by simpa using e,.refl⟩
 | cons a r ih=>
  refine Gw (v:=strC [a]) (j':= .str r) rfl rfl (Bs ⟨λ_=> ?_,λz=>(by cases z)⟩);walk_at"go";refine add_str (A:=[c]) (B:=[a]) (of_decide_eq_true ‹_›) ?_;refine⟨ys,e,by simp at hl;exact Q90 hl,?_⟩;refine(ih (ys:=ys++[strC [c,a]]) (by walk_at"rg") (by rw[lget_set_self (An e)];rfl) (by simp at hl ⊢;exact Q94 hl)).mono λ_ h2 z=>⟨by rw[z.1];simp,(Aa.set (.head _)).trans z.2⟩
theorem eO{acc:Nat}{l l2:List Nat}{ys:List V}(e:lget hp acc=some ys)(hl:ys.length+l.length*l2.length<=200):
  Wcl d (.bin .add (.var 38) (.var 39)) (.one 38) [] [.g (.one 39) (.ex (.k (strC l2))) []] (.str l) acc U hp λ_ h2=>lget h2 acc=some (ys++l.flatMap λc=>l2.map λb=>strC [c,b])/\Aa [acc] hp h2:=by
 induction l generalizing U hp ys with
 | nil=>exact Fu rfl ⟨by simpa using e,.refl⟩
 | cons a r ih=>
  refine fC (v:=strC [a]) (j':= .str r) rfl rfl (Ck (Fg ⟨_,Kh,?_⟩));rw[g2I,g7P] at hl;refine(Zm (c:=a) (by walk_at"rg") e (tS hl)).mono λU2 h2 z=> ?_;refine(ih z.1 (by simp;exact tT hl)).mono λ_ h3 z3=>⟨by rw[z3.1];simp,z.2.trans z3.2⟩
noncomputable def Gp(ns:List Int)(k:Nat)(g:Int):Nat:=((g+(if k < ns.length then ns.getD k 0 % 21 else 0)) % 21).toNat
theorem iW{ns k g}:Gp ns k g < 21:=by unfold Gp;exact R71
theorem iX{ns gs:List Int}{g:Nat}(hg:lget hp g=some (gs.map .int))(hgl:gs.length<=100)
  (q: ∀(ws:List Nat) h' W,lget h' W=some (ws.map λk=>strC (kind k))->ws.length=gs.length->(∀k∈ws,k < 21)->W < h'.length->Aa [] hp h'->Q (.lst W) h'):
  As (d+1) 233 [.ro ns,.lst g] hp Q:=by
 refine Bf rfl rfl rfl ?_;show Wex d b233 [(32,.ro ns),(33,.lst g)] hp _;unfold b233;walk_at"go";refine⟨aT rfl,?_⟩;have K1:Aa [] hp (hp++[O.l [V.str ⟨#[]⟩,V.str ⟨#[97]⟩,V.str ⟨#[65]⟩,V.str ⟨#[98]⟩,V.str ⟨#[66]⟩]]):=Aa.push;have e1:lget (hp++[O.l [V.str ⟨#[]⟩,V.str ⟨#[97]⟩,V.str ⟨#[65]⟩,V.str ⟨#[98]⟩,V.str ⟨#[66]⟩]]) hp.length=some [strC [],strC [97],strC [65],strC [98],strC [66]]:=lget_push;generalize hp++[O.l [V.str ⟨#[]⟩,V.str ⟨#[97]⟩,V.str ⟨#[65]⟩,V.str ⟨#[98]⟩,V.str ⟨#[66]⟩]]=h1 at*;refine Gx (Ck (Fg ⟨_,Kh (A:=[97,65,98,66]),?_⟩));refine(eO (l:=[97,65,98,66]) (l2:=[97,65,98,66]) lget_push (aT rfl)).mono λU2 h2 z=> ?_;refine x02 z ?_;clear z;intro z1 z2;have z3:Aa [h1.length] h1 h2:=Aa.push.trans z2;have z3:Aa [] h1 h2:=z3.drop (mm1);have e2:=z3.lget e1 (aA);have K2:Aa [] hp h2:=K1.trans z3;have e3:B7 .add (.lst hp.length) (.lst h1.length) h2=some (.lst h2.length,h2++[.l (kindL.map strC)]):=by
  show (lget h2 hp.length).bind (λx=>(lget h2 h1.length).bind λy=>alloc h2 (x++y))=_;rw[e2,z1];rfl
 refine OpW.some e3 ?_;have K3:Aa [] hp (h2++[.l (kindL.map strC)]):=K2.trans Aa.push;have e4:lget (h2++[.l (kindL.map strC)]) h2.length=some (kindL.map strC):=lget_push;have h5:h2.length < (h2++[O.l (kindL.map strC)]).length:=by exact mm7
 generalize h2++[O.l (kindL.map strC)]=h3 at*;clear z1 z2 z3 e1 e2 K1 K2 e3;have h6:hp.length<=h3.length:=K3.1;generalize h2.length=c at*;walk_at"go";refine⟨cL _,?_⟩;walk_at"go";refine Bu (Dp ?_);walk_at"go";refine Dy ((K3.trans Aa.push).lget hg (aA)) ?_;walk_at"go";refine⟨_,Cb (by simp;exact Q30 hgl rfl),?_⟩;let I1:Nat->Rho->HP->Prop:=λk U h=>rget U 32=some (.ro ns)/\rget U 33=some (.lst g)/\rget U 34=some (.lst c)/\rget U 35=some (.lst h3.length)/\∃ws:List Nat,lget h h3.length=some (ws.map λk=>strC (kind k))/\ws.length=k/\(∀k∈ws,k < 21)/\lget h c=some (kindL.map strC)/\Aa [] hp h;refine Ef I1 ⟨by walk_at"rg",by walk_at"rg",by walk_at"rg",by walk_at"rg",[],lget_push,rfl,by simp,Aa.push.lget (W:=[]) e4 (aA),K3.trans Aa.push⟩ ?_ ?_
 ·intro U h zz;refine x05 zz ?_;clear zz;intro _ _ _ a4 zz;refine x15 zz ?_;clear zz;intro ws b1 b2 b3 b4 b5
  walk_at"go";exact q ws h h3.length b1 (by simpa using b2) b3 (An b1) b5
 ·intro k U h hk zz;refine x05 zz ?_;clear zz;intro a1 a2 a3 a4 zz;refine x15 zz ?_;clear zz;intro ws b1 b2 b3 b4 b5
  have hk:k < gs.length:=by simpa using hk
  have eg:gs[k]? =some gs[k]:=aD hk;have hg2:=b5.lget hg (aA);walk_at"go";refine Bg (j:=g) (n:=k) (v:= .int gs[k]) (by walk_at"pv") (by walk_at"pv") hg2 (by rw[Az,aL,eg];rfl) ?_;refine Jp ?_;walk_at"go";refine OpW.some (a:= .int (ns.length:Nat)) rfl ?_;have hlast: ∀(r:Int),r=(if k < ns.length then ns.getD k 0 % 21 else 0)->OpW (B7 .add (.int gs[k]) (.int r) h) λv h1=>Seq d [(.expr (.met .append (.var 35) [(.idx (.var 34) (.bin .mod (.var 37) (.k (.int 21))))]))] (Ex d (Seq d [(.ret (.var 35))] λf _ h=>match f with| .ret v=>Q v h| .next=>Q .none h|_=>False) λU2 h2=>rget U2 32=some (.ro ns)/\rget U2 33=some (.lst g)/\rget U2 34=some (.lst c)/\rget U2 35=some (.lst h3.length)/\∃ws:List Nat,lget h2 h3.length=some (ws.map λk=>strC (kind k))/\ws.length=k+1/\(∀k∈ws,k < 21)/\lget h2 c=some (kindL.map strC)/\Aa [] hp h2) .next (rset (rset U 36 (.int (k:Nat))) 37 v) h1:=by
   rintro r hr;refine OpW.some (a:= .int (gs[k]+r)) rfl ?_;walk_at"go";refine Dz (by walk_at"pv") b1 ?_;walk_at"go";refine Do ?_;walk_at"go";refine OpW.some (a:= .int (Gp ns k gs[k]:Nat)) (b:=h) ?_ ?_
   ·show some (V.int ((gs[k]+r) % 21),h)=some (V.int ((((gs[k]+(if k < ns.length then ns.getD k 0 % 21 else 0)) % 21).toNat:Nat):Int),h)
    rw[<-hr];congr 3;exact R72
   have hw:=iW (ns:=ns) (k:=k) (g:=gs[k]);have ekl:kindL.length=21:=rfl;refine⟨c,_,_,strC (kind (Gp ns k gs[k])),rfl,rfl,b4,?_,?_⟩
   ·rw[Az,aL]
    unfold kind;rw[aS,aD (Q154 hw ekl)];rfl
   walk_at"go";refine F0 b1 (by simp;exact tU b2 hk hgl rfl) ⟨rfl,?_⟩;walk_at"go";have hl:=An b1;refine⟨by walk_at"rg",by walk_at"rg",by walk_at"rg",by walk_at"rg",ws++[Gp ns k gs[k]],by rw[lget_set_self hl];simp,by simp;exact W9 b2,?_,by rw[Cm (De h5)];exact b4,?_⟩
   ·intro x hx
    rcases aY.mp hx with hx|hx
    ·exact b3 x hx
    ·rw[aK.mp hx];exact hw
   ·have:Aa [h3.length] hp (h.set h3.length (O.l ((ws.map λk=>strC (kind k))++[strC (kind (Gp ns k gs[k]))]))):=b5.nil.trans (Aa.set (.head _))
    exact this.drop (by simp;exact Q88 h6)
  refine⟨_,rfl,λt=> ?_,λt=> ?_⟩
  ·have t:(k:Int) < (ns.length:Nat):=of_decide_eq_true t
   have en:ns[k]? =some (ns.getD k 0):=by rw[aS,aD (O0 (of_decide_eq_true ‹_›))];rfl
   walk_at"go";refine Z7 ?_;walk_at"go";refine⟨ns,k,ns.getD k 0,rfl,rfl,Q169,en,?_⟩;walk_at"go";refine OpW.some (a:= .int (ns.getD k 0 % 21)) rfl ?_;exact hlast _ (by rw[if_pos (O0 (of_decide_eq_true ‹_›))])
  ·have t: ¬(k:Int) < (ns.length:Nat):=of_decide_eq_false t
   walk_at"go";exact hlast _ (by rw[if_neg (W5 (g1U.1 (of_decide_eq_false ‹_›)))])
end
end
section
noncomputable def upd(T:Nat->Nat->Int)(i j:Nat)(v:Int):Nat->Nat->Int:=λa b=>if a=i/\b=j then v else T a b
noncomputable def Cq(T:Nat->Nat->Int)(n i:Nat):List V:=(aN n).map λj=> .int (T i j)
theorem Nb{T n i j}(h:j < n):(Cq T n i)[j]? =some (.int (T i j)):=by dsimp only[Cq];rw[aL,g0W h];rfl
theorem Nv{T n i}:(Cq T n i).length=n:=(aO _).trans g2A
theorem iC{T n i j v}:(Cq T n i).set j (.int v)=Cq (upd T i j v) n i:=by
 apply gAG;intro k;by_cases hk:k < n
 ·rw[Nb hk]
  by_cases hjk:j=k
  ·subst hjk
   rw[bW (by rw[Nv];exact hk)];exact congrArg (λx=>some (V.int x)) (if_pos ⟨rfl,rfl⟩).symm
  ·rw[aZ hjk,Nb hk]
   exact congrArg (λx=>some (V.int x)) (if_neg λz=>hjk z.2.symm).symm
 ·rw[g0H (by rw[List.length_set,Nv];exact cH.1 hk),g0H (by rw[Nv];exact cH.1 hk)]
theorem eG{T n i i' j v}(h:i'≠i):Cq (upd T i j v) n i'=Cq T n i':=by dsimp only[Cq,upd];simp[h]
structure C3(hp:HP)(F n:Nat)(T:Nat->Nat->Int):Prop where
 top:lget hp F=some ((aN n).map λi=> .lst (F+1+i))
 row: ∀i,i < n->lget hp (F+1+i)=some (Cq T n i)
theorem C3.keep{hp hp' F n T W}(h:C3 hp F n T)(k:Aa W hp hp')(hw: ∀w∈W,w < F):C3 hp' F n T:=
 ⟨k.lget h.top (λz=>by have:=hw _ z;exact tV this),λi hi=>k.lget (h.row i hi) (λz=>by have:=hw _ z;exact tW this)⟩
theorem C3.put{hp F n T i j v}(h:C3 hp F n T)(hi:i < n):C3 (hp.set (F+1+i) (.l ((Cq T n i).set j (.int v)))) F n (upd T i j v):=by
 refine⟨by rw[Cm (tX)];exact h.top,λk hk=> ?_⟩;by_cases e:k=i
 ·clear hi;subst e
  rw[lget_set_self (An (h.row k hk)),iC]
 ·rw[Cm (R73 e),eG e];exact h.row k hk
section
variable {d:Nat} {U:Rho} {hp:HP} {Q:V->HP->Prop} {P:Fl->Rho->HP->Prop}
theorem CG{x y z:X}{F n I J:Nat}{T:Nat->Nat->Int}(hT:C3 hp F n T)(hx:Wev d x U hp λo h=>h=hp/\o= .lst F)(hy:Wev d y U hp λo h=>h=hp/\o= .int (I:Nat))(hz:Wev d z U hp λo h=>h=hp/\o= .int (J:Nat))
  (hI:I < n) (hJ:J < n) (q:Q (.int (T I J)) hp):Wev d (.idx (.idx x y) z) U hp Q:=by
 refine Do (Do (hx.mono λo h1 z1=> ?_));clear hx;refine x02 z1 ?_;clear z1;intro z0 z1;subst z0;subst z1;refine hy.mono λk h2 z2=> ?_;clear hy;refine x02 z2 ?_;clear z2;intro z0 z1;subst z0;subst z1;refine⟨F,I,_,.lst (F+1+I),rfl,rfl,hT.top,by rw[Az,aL,g0W hI];rfl,?_⟩;refine hz.mono λk h3 z3=> ?_;clear hz;refine x02 z3 ?_;clear z3;intro z0 z1;subst z0;subst z1;exact⟨_,J,_,_,rfl,rfl,hT.row I hI,by rw[Az];exact Nb hJ,q⟩
theorem Tx{x y z e:X}{F n I J:Nat}{v:Int}{T:Nat->Nat->Int}(he:Wev d e U hp λo h=>o= .int v/\C3 h F n T/\
   (Wev d x U h λo h'=>h'=h/\o= .lst F)/\(Wev d y U h λo h'=>h'=h/\o= .int (I:Nat))/\(Wev d z U h λo h'=>h'=h/\o= .int (J:Nat))/\I < n/\J < n/\
   (∀h',C3 h' F n (upd T I J v)->Aa [F+1+I] h h'->P .next U h')):Bi d (.setidx (.idx x y) z e) U hp P:=by
 refine x_setidx (he.mono λo h1 z1=> ?_);clear he;refine x08 z1 ?_;clear z1;intro z0 hT hx hy hz hI hJ q;subst z0;refine Do (hx.mono λo h2 z1=> ?_);clear hx;refine x02 z1 ?_;clear z1;intro z0 z1;subst z0;subst z1;refine hy.mono λk h3 z2=> ?_;clear hy;refine x02 z2 ?_;clear z2;intro z0 z1;subst z0;subst z1;refine⟨F,I,_,.lst (F+1+I),rfl,rfl,hT.top,by rw[Az,aL,g0W hI];rfl,?_⟩;refine hz.mono λk h4 z3=> ?_;clear hz;refine x02 z3 ?_;clear z3;intro z0 z1;subst z0;subst z1;refine⟨_,J,_,rfl,rfl,hT.row I hI,Q169,by simp[Cq];exact Q24 hJ,?_⟩;exact q _ (hT.put hI) (Aa.set (.head _))
theorem iZ{i:Nat}{us:List V}(r35:rget U 35=some (.lst i))(hu:lget hp i=some us)(hl:us.length<=5)(q: ∀h',C3 h' hp.length us.length (λ_ _=>0)->Aa [] hp h'->h'.length=hp.length+1+us.length->Q (.lst hp.length) h'):
  Wev d (.comp [30,38] (.comp [30,39] (.k (.int 0)) [(.g (.one 39) (.ex (.var 35)) [])]) [(.g (.one 38) (.ex (.var 35)) [])]) U hp Q:=by
 have hi:=An hu;refine G3 (i:=i) (us:=us) (λk ys h=>ys=((aN k).map λi=> .lst (hp.length+1+i))/\lget h hp.length=some ys/\k<=us.length/\(∀j,j < k->lget h (hp.length+1+j)=some (Cq (λ_ _=>0) us.length j))/\Aa [] hp h/\h.length=hp.length+1+k) ?_ hu ?_ ?_ ?_ ?_
 ·walk_at"go";exact⟨rfl,rfl⟩
 ·exact⟨rfl,lget_push,Q15,λj hj=>Lh hj,Aa.push,aP⟩
 ·intro k ys h zz;refine x06 zz ?_;clear zz;intro _ e _ _ K _
  exact⟨e,K.lget hu (aA)⟩
 ·intro k ys h v hv zz;refine x06 zz ?_;clear zz;intro z0 e hk er K hn;subst z0
  have hk:=(aF.mp hv).1;refine Bs ⟨λ_=> ?_,λz=>(by cases z)⟩;refine G3 (i:=i) (us:=us) (λk ys g=>ys=gBL k (.int 0)/\lget g h.length=some ys/\Aa [] h g/\g.length=h.length+1) ?_ (K.lget hu (aA)) ⟨rfl,lget_push,Aa.push,aP⟩ ?_ ?_ ?_
  ·walk_at"go";exact⟨rfl,rfl⟩
  ·intro k ys g zz;refine x04 zz ?_;clear zz;intro _ e2 K2 _
   exact⟨e2,K2.lget (K.lget hu (aA)) (aA)⟩
  ·clear r35 hu q er K e;intro k ys g v hv zz;refine x04 zz ?_;clear zz;intro z0 e2 K2 hg;subst z0
   have hk:=(aF.mp hv).1;clear hv;refine Bs ⟨λ_=> ?_,λz=>(by cases z)⟩;walk_at"go";refine⟨e2,by simp;exact Gf hk hl rfl,by rw[List.replicate_succ'],lget_set_self (An e2),?_,by simpa using hg⟩;have:Aa [h.length] h (g.set h.length (O.l (gBL k (V.int 0)++[V.int 0]))):=K2.nil.trans (Aa.set (.head _));exact this.drop (mm1)
  ·clear r35 hu q hv;intro ys g zz;refine x04 zz ?_;clear zz;intro z0 e2 K2 hg;subst z0
   have e3:=K2.lget e (aA);have hh:=An e3;refine⟨e3,by simp;exact Gf hk hl rfl,by rw[g0Y];simp;lia,lget_set_self hh,Q24 hk,λj hj=> ?_,?_,by simp;exact tY hn.symm hg⟩
   ·rw[Cm (tZ)]
    clear K e e3;by_cases hjk:j=k
    ·clear hl hi er hk K2 hg hh hj;subst hjk
     rw[<-hn,e2];dsimp only[Cq];congr 1;apply g4R
     ·simp
     ·intro m h1 h2;simp
    ·exact K2.lget (er j (Ge hj hjk)) (aA)
   ·have:Aa [hp.length] hp (g.set hp.length (O.l (((aN k).map λi=>V.lst (hp.length+1+i))++[V.lst h.length]))):=(K.trans K2).nil.trans (Aa.set (.head _))
    exact this.drop (mm1)
 ·clear r35 hu hl hi;intro ys h zz;refine x06 zz ?_;clear zz;intro z0 e _ er K hn;subst z0
  exact q h ⟨e,er⟩ K hn
end
end
section
noncomputable def Mw(ws:List Nat)(i j:Nat):Int:=D (ws.getD i 0) (ws.getD j 0)
theorem eR(ws:List Nat):Bx (Mw ws):=λi j=>by
 have:=Zk (ws.getD i 0) (ws.getD j 0);dsimp only[Mw,D];exact uA this
theorem Dx{ws:List Nat}(h: ∀k∈ws,k < 21)(i:Nat):ws.getD i 0 < 21:=by
 rw[aS];cases e:ws[i]? with
 | none=>simp
 | some v=>exact h v (aU e)
theorem Py{ws:List Nat}(h: ∀k∈ws,k < 21)(i j:Nat):Mw ws i j=Mw ws j i:=by
 dsimp only[Mw,D];rw[eL (Dx h i) (Dx h j)]
theorem Qp{ws:List Nat}(h: ∀k∈ws,k < 21)(i:Nat):Mw ws i i=0:=by
 dsimp only[Mw,D];rw[iP (Dx h i)];rfl
theorem BJ{ws:List Nat}(h: ∀k∈ws,k < 21)(i j k:Nat):Mw ws i k<=Mw ws i j+Mw ws j k:=by
 have:=eM (Dx h i) (Dx h j) (Dx h k);dsimp only[Mw,D];exact uB this
section
variable {d:Nat} {U:Rho} {hp:HP} {Q:V->HP->Prop} {P:Fl->Rho->HP->Prop}
theorem CL{w:Nat}{ws:List Nat}(hw:lget hp w=some (ws.map λk=>strC (kind k)))(hl:ws.length<=5)(hk: ∀k∈ws,k < 21)
  (q: ∀F h',Mat h' F ws.length h'.length (Mw ws)->Aa [] hp h'->Q (.lst F) h'):
  As (d+3) 252 [.lst w] hp Q:=by
 refine Bf rfl rfl rfl ?_;show Wex (d+2) b252 [(35,.lst w)] hp _;dsimp only[b252];walk_at"go";refine iZ (by walk_at"rg") hw (by simpa using hl) λh0 hT0 K0 _=> ?_;rw[aO] at hT0;walk_at"go";refine Bu (Dp ?_);walk_at"go";refine Dy (K0.lget hw (aA)) ?_;walk_at"go";refine⟨_,Cb (by simp;exact Q30 hl rfl),?_⟩;rw[aO];let I1:Nat->Rho->HP->Prop:=λi U h=>rget U 35=some (.lst w)/\rget U 43=some (.lst hp.length)/\Aa [] hp h/\∃T,C3 h hp.length ws.length T/\∀a b,T a b=if a < i/\b < i then Mw ws a b else 0;refine Ef I1 ⟨by walk_at"rg",by walk_at"rg",K0,_,hT0,by simp⟩ ?_ ?_
 ·intro U h zz;refine x04 zz ?_;clear zz;intro a1 a2 K zz;refine x12 zz ?_;clear zz;intro T hT eT
  walk_at"go";refine q hp.length h ⟨⟨(aN ws.length).map λi=>hp.length+1+i,?_,mmR,λi r hr=> ?_,λr hr=> ?_⟩,An hT.top⟩ K
  ·rw[hT.top,cB];rfl
  ·have hi:i < ws.length:=by
    have:=(aF.mp hr).1;simpa using this
   rw[aL,g0W hi] at hr;clear hw hl hk q hT0 K0 a1 a2 K;obtain rfl:=aB hr;rw[hT.row i hi];dsimp only[Cq];congr 1;apply g0V;intro j hj;have hj:=bQ.mp hj;rw[eT i j,if_pos ⟨hi,hj⟩]
  ·clear hw hl hk q hT0 K0 a1 a2 K eT;refine x12 (bI.mp hr) ?_;intro i hi z2;subst z2
   exact An (hT.row i (bQ.mp hi))
 ·intro i U h hi zz;refine x04 zz ?_;clear zz;intro a1 a2 K zz;refine x12 zz ?_;clear zz;intro T hT eT
  walk_at"go";refine Bu (Dp ?_);walk_at"go";refine⟨_,Cb (Gf hi hl rfl),?_⟩;let I2:Nat->Rho->HP->Prop:=λj U h=>rget U 35=some (.lst w)/\rget U 43=some (.lst hp.length)/\rget U 44=some (.int (i:Nat))/\Aa [] hp h/\∃T,C3 h hp.length ws.length T/\∀a b,T a b=if(a < i/\b < i)\/(a=i/\b < j)\/(b=i/\a < j) then Mw ws a b else 0;refine Ef I2 ⟨by walk_at"rg",by walk_at"rg",by walk_at"rg",K,T,hT,λa b=>by rw[eT a b];simp⟩ ?_ ?_
  ·intro U h zz;refine x05 zz ?_;clear zz;intro a1 a2 a3 K zz;refine x12 zz ?_;clear zz;intro T hT eT
   walk_at"go";refine⟨a1,a2,K,T,hT,λa b=> ?_⟩;rw[eT a b];clear hw q hT0 K0 a1 a2 a3 K hT eT;by_cases h1:a=i/\b=i
   ·clear hl hi;refine x02 h1 ?_;clear h1;intro z0 z1;subst z0;subst z1
    rw[Qp hk];simp
   ·have:((a < i/\b < i)\/(a=i/\b < i)\/(b=i/\a < i))↔(a < i+1/\b < i+1):=⟨λz=>z.elim (λz=>⟨g1O z.1,g1O z.2⟩) λz=>z.elim (λz=>⟨g2W (g4D z.1),g1O z.2⟩) λz=>⟨g1O z.2,g2W (g4D z.1)⟩,λz=>(g5Y (g0X z.1)).elim (λp=>(g5Y (g0X z.2)).elim (λq=> .inl ⟨p,q⟩) λq=> .inr (.inr ⟨q,p⟩)) λp=>(g5Y (g0X z.2)).elim (λq=> .inr (.inl ⟨p,q⟩)) λq=>absurd ⟨p,q⟩ h1⟩
    simp only[this]
  ·clear a1 a2 K T hT eT
   intro j U h hj zz;refine x05 zz ?_;clear zz;intro a1 a2 a3 K zz;refine x12 zz ?_;clear zz;intro T hT eT;have hw2:=K.lget hw (aA);have hji:j < ws.length:=Q68 hj hi;have ei:ws[i]? =some (ws.getD i 0):=by rw[aS,aD hi];rfl
   have ej:ws[j]? =some (ws.getD j 0):=by rw[aS,aD hji];rfl
   have ki:ws.getD i 0 < 21:=Dx hk i;have kj:ws.getD j 0 < 21:=Dx hk j;refine ex_cons (Tx (I:=i) (J:=j) (T:=T) (v:=Mw ws i j) (n:=ws.length) (F:=hp.length) ?_);walk_at"go";refine Bg (j:=w) (n:=i) (v:=strC (kind (ws.getD i 0))) (by walk_at"pv") (by walk_at"pv") hw2 (by rw[Az,aL,ei];rfl) ?_;walk_at"go";refine Bg (j:=w) (n:=j) (v:=strC (kind (ws.getD j 0))) (by walk_at"pv") (by walk_at"pv") hw2 (by rw[Az,aL,ej];rfl) ?_;walk_at"go";have l1:=Ki (a:=ws.getD i 0);have l2:=Ki (a:=ws.getD j 0);refine Yk (Ln l1 rfl) (Ln l2 rfl) (dK ki kj) λh1 K1=>⟨rfl,hT.keep K1 (by simp),?_,?_,?_,hi,hji,λh2 hT2 K2=> ?_⟩
   ·walk_at"go";exact⟨rfl,rfl⟩
   ·walk_at"go";exact⟨rfl,rfl⟩
   ·walk_at"go";exact⟨rfl,rfl⟩
   refine ex_cons (Tx (I:=j) (J:=i) (T:=upd T i j (Mw ws i j)) (v:=Mw ws i j) (n:=ws.length) (F:=hp.length) ?_);refine CG (I:=i) (J:=j) hT2 ?_ ?_ ?_ hi hji ?_
   ·walk_at"go";exact⟨rfl,rfl⟩
   ·walk_at"go";exact⟨rfl,rfl⟩
   ·walk_at"go";exact⟨rfl,rfl⟩
   refine⟨by dsimp only[upd];simp,hT2,?_,?_,?_,hji,hi,λh3 hT3 K3=> ?_⟩
   ·walk_at"go";exact⟨rfl,rfl⟩
   ·walk_at"go";exact⟨rfl,rfl⟩
   ·walk_at"go";exact⟨rfl,rfl⟩
   walk_at"go";refine⟨by walk_at"rg",by walk_at"rg",by walk_at"rg",?_,_,hT3,λa b=> ?_⟩
   ·have:Aa [hp.length+1+i,hp.length+1+j] hp h3:=((K.trans K1).nil.trans (K2.mono (mmK))).trans (K3.mono (mmL))
    exact this.drop (by simp;exact uC)
   ·dsimp only[upd]
    clear hw q hT0 K0 a1 a2 a3 K hT hw2 ei ej K1 hT2 K2 hT3 K3;by_cases h1:a=j/\b=i
    ·clear eT;refine x02 h1 ?_;clear h1;intro z0 z1;subst z0;subst z1
     rw[if_pos ⟨rfl,rfl⟩,if_pos (R75),Py hk]
    ·rw[if_neg h1]
     clear hk;by_cases h2:a=i/\b=j
     ·clear eT;refine x02 h2 ?_;clear h2;intro z0 z1;subst z0;subst z1
      rw[if_pos ⟨rfl,rfl⟩,if_pos (.inr (.inl ⟨rfl,g1N _⟩))]
     ·rw[if_neg h2,eT a b]
      have:((a < i/\b < i)\/(a=i/\b < j)\/(b=i/\a < j))↔((a < i/\b < i)\/(a=i/\b < j+1)\/(b=i/\a < j+1)):=pj h1 h2;simp only[this]
end
end
section
noncomputable def Af(wk:List Nat):List (Nat×Nat):=wk.zip wk.tail
theorem gone_snoc{s:List Nat}{a b:Nat}:Af (s++[a]++[b])=Af (s++[a])++[(a,b)]:=by
 unfold Af;induction s with
 | nil=>rfl
 | cons x s ih=>
  cases s with
  | nil=>rfl
  | cons y s=>exact congrArg _ ‹_›
noncomputable def cnt(L:List En)(x y:Nat):Nat:=(getA L x).count y
noncomputable def sc(G:List (Nat×Nat))(x y:Nat):Nat:=G.count (x,y)+G.count (y,x)
theorem sc_app{G H x y}:sc (G++H) x y=sc G x y+sc H x y:=by unfold sc;simp;exact Xa
theorem Qi{x y}:sc [] x y=0:=rfl
theorem H7{a b x y}:sc [(a,b)] x y=(if x=a/\y=b then 1 else 0)+(if x=b/\y=a then 1 else 0):=by
 unfold sc;simp only[g9B,beq_iff_eq,g5U];congr 1
 ·by_cases h:a=x/\b=y
  ·rw[if_pos h,if_pos ⟨h.1.symm,h.2.symm⟩]
  ·rw[if_neg h,if_neg λz=>h ⟨z.1.symm,z.2.symm⟩]
 ·by_cases h:a=y/\b=x
  ·rw[if_pos h,if_pos ⟨h.2.symm,h.1.symm⟩]
  ·rw[if_neg h,if_neg λz=>h ⟨z.2.symm,z.1.symm⟩]
theorem getA_app{L M:List En}{x:Nat}:getA (L++M) x=getA L x++getA M x:=by unfold getA;simp
theorem getA_strike{L:List En}{u w x:Nat}:getA (Ay L u w) x=if x=u then(getA L u).erase w else getA L x:=by
 unfold Ay;rw[getA_app];have h1:getA (L.filter λe=> !Nat.beq e.2.1 u) x=if x=u then [] else getA L x:=by
  unfold getA;rw[g9Y];by_cases h:x=u
  ·subst h
   rw[if_pos rfl];have:(L.filter λa:En=>aW a.2.1 x && !Nat.beq a.2.1 x)=[]:=by
    rw[List.filter_eq_nil_iff];intro a _;cases aW a.2.1 x <;> exact bD
   rw[this];rfl
  ·rw[if_neg h]
   congr 1;apply gAF;intro a _;by_cases e:a.2.1=x
   ·rw[e,Eb h];simp
   ·rw[Eb e];rfl
 have h2: ∀l:List Nat,getA (l.map λy=>(false,u,y)) x=if x=u then l else []:=by
  intro l;clear h1;induction l with
  | nil=>unfold getA;simp
  | cons a l ih=>
   have:getA ((a::l).map λy=>(false,u,y)) x=(if aW u x then [a] else [])++getA (l.map λy=>(false,u,y)) x:=by
    unfold getA;rw[cG,g1H];clear ih;cases h:aW u x <;> rfl
   rw[this,ih];clear ih this;by_cases h:x=u
   ·subst h;simp[nbeq_self]
   ·rw[Eb (g0F h)];simp[h]
 rw[h1,h2];clear h1 h2;by_cases h:x=u
 ·simp[h]
 ·simp[h]
theorem Vp{L:List En}{u w:Nat}(h:w∈getA L u):(Ay L u w).length+1=L.length:=by
 unfold Ay;have:=Kc L u;have h2:=g4J h;have h3:=g1L h;simp;exact uD h2 this.symm h3
theorem N7{L:List En}{h g x:Nat}(hne:g≠h):getA (Ay (Ay L h g) g h) x=if x=g then(getA L g).erase h else if x=h then(getA L h).erase g else getA L x:=by
 rw[getA_strike,getA_strike,getA_strike];by_cases h1:x=g
 ·simp[h1,hne]
 ·by_cases h2:x=h
  ·clear h1;subst h2;simp[g0F hne]
  ·simp[h1,h2]
theorem fE{L:List En}{h g x y:Nat}(hne:g≠h)(h1:0 < cnt L h g)(h2:0 < cnt L g h):cnt (Ay (Ay L h g) g h) x y+(if x=h/\y=g then 1 else 0)+(if x=g/\y=h then 1 else 0)=cnt L x y:=by
 unfold cnt at*;rw[N7 hne];by_cases e1:x=g
 ·subst e1
  rw[if_pos rfl,gAP];by_cases e2:y=h
  ·subst e2;simp[hne];exact Xb h2
  ·have: ¬h=y:=g0F e2
   simp[e2,this,hne]
 ·rw[if_neg e1]
  by_cases e2:x=h
  ·subst e2
   rw[if_pos rfl,gAP];by_cases e3:y=g
   ·subst e3;simp[e1];exact Xb h1
   ·have: ¬g=y:=g0F e3
    simp[e3,this,e1]
  ·simp[e1,e2]
theorem kR{N:Nat}{st:List Nat}{t:Nat}{wk:List Nat}{L:List En}:C7 (N+1) (st++[t],wk,L)=C7 N (Dk (st++[t],wk,L)):=by
 cases st <;> rfl
theorem runW_nil{N:Nat}{wk:List Nat}{L:List En}:C7 N ([],wk,L)=some (wk,L):=by cases N <;> rfl
noncomputable def Gh(wk:List Nat)(c:Nat):List (Nat×Nat):=match wk.getLast? with
 | none=>[]
 | some w=>[(w,c)]
theorem Uc{wk:List Nat}{c:Nat}:Af (wk++[c])=Af wk++Gh wk c:=by
 rcases g1A wk with rfl|⟨s,a,rfl⟩
 ·rfl
 ·rw[g1B,gone_snoc];unfold Gh;simp
structure Eu(L0:List En)(st:List Nat)(t:Nat)(wk:List Nat)(L:List En)(c:Nat):Prop where
 sym: ∀x y,cnt L x y=cnt L y x
 loop: ∀x,cnt L x x=0
 par: ∀x,(getA L x).length % 2=((if x=t then 1 else 0)+(if x=c then 1 else 0)) % 2
 tr: ∀x y,cnt L0 x y=cnt L x y+sc (Af (st++[t])) x y+sc (Af wk) x y+sc (Gh wk c) x y
 fst:wk=[]->c=0
 hd:wk≠[]->wk.head? =some 0
 bot:(st++[t]).head? =some 0
 dead: ∀x∈wk,getA L x=[]
structure BK(L0:List En)(wk:List Nat)(L:List En):Prop where
 tr: ∀x y,cnt L0 x y=cnt L x y+sc (Af wk) x y
 hd:wk.head? =some 0
 lst:wk.getLast? =some 0
 dead: ∀x∈wk,getA L x=[]
theorem zU{L0:List En}: ∀(N:Nat) (st:List Nat) (t:Nat) (wk:List Nat) (L:List En) (c:Nat),Eu L0 st t wk L c->L.length+st.length+1<=N->∃wk' L',C7 N (st++[t],wk,L)=some (wk',L')/\BK L0 wk' L':=by
 intro N;induction N with
 | zero=>intro st t wk L c _ h;exact uE h
 | succ N ih=>
  intro st t wk L c E hN;rw[kR];cases hA:getA L t with
  | nil=>
   have e:Dk (st++[t],wk,L)=(st,wk++[t],L):=Uq hA;rw[e];have htc:t=c:=by
    have:=E.par t;rw[hA] at this;clear ih E hN hA e;by_cases h:t=c
    ·exact h
    ·simp[h] at this
   clear e;subst htc;have hd':(wk++[t]).head? =some 0:=by
    clear ih hN hA;cases wk with
    | nil=>rw[E.fst rfl];rfl
    | cons a w=>simpa using E.hd (g0J _ _)
   have dead': ∀x∈wk++[t],getA L x=[]:=by
    intro x hx;clear ih hN hd';rcases aY.mp hx with hx|hx
    ·exact E.dead x hx
    ·rw[aK.mp hx];exact hA
   clear hA;rcases g1A st with rfl|⟨s,a,rfl⟩
   ·refine⟨_,_,runW_nil,λx y=> ?_,hd',?_,dead'⟩
    ·have:=E.tr x y
     rw[Uc,sc_app];have h0:Af ([]++[t])=[]:=rfl;rw[h0,Qi] at this;exact uF this.symm
    ·have:=E.bot
     simpa using this
   ·rw[g1B] at*
    refine ih s a (wk++[t]) L a ⟨E.sym,E.loop,λx=> ?_,λx y=> ?_,by simp,λ_=>hd',?_,dead'⟩ (by simp at hN;exact uG hN)
    ·have:=E.par x
     have z: ∀i:Nat,(i+i) % 2=0:=λi=>pa _;rw[this,z,z]
    ·have:=E.tr x y
     rw[gone_snoc,sc_app] at this;rw[Uc (wk:=wk) (c:=t),sc_app (G:=Af wk)];have h2:Gh (wk++[t]) a=[(t,a)]:=by unfold Gh;simp
     rw[h2,H7];rw[H7] at this;exact uH this.symm
    ·have:=E.bot
     clear ih hd' dead' hN E;cases s with
     | nil=>assumption
     | cons b s=>assumption
  | cons g r=>
   have e:Dk (st++[t],wk,L)=((st++[t])++[g],wk,Ay (Ay L t g) g t):=Ve hA;rw[e];have hg:g∈getA L t:=by rw[hA];exact .head _
   have hc1:0 < cnt L t g:=g2P.mpr hg;have hc2:0 < cnt L g t:=by rw[E.sym];exact hc1
   have hne:g≠t:=by
    clear ih hA e hg;rintro rfl;have:=E.loop g;exact Xc this hc1
   have ht:t∈getA L g:=g2P.mp hc2;have cp:=λx y=>fE (x:=x) (y:=y) hne hc1 hc2;refine ih (st++[t]) g wk _ c ⟨λx y=> ?_,λx=> ?_,λx=> ?_,λx y=> ?_,E.fst,E.hd,?_,λx hx=> ?_⟩ ?_
   ·have h1:=cp x y
    have h2:=cp y x;have h3:=E.sym x y;have e1:(if y=t/\x=g then 1 else 0)=(if x=g/\y=t then 1 else 0):=by simp only[and_comm]
    have e2:(if y=g/\x=t then 1 else 0)=(if x=t/\y=g then 1 else 0):=by simp only[and_comm]
    rw[e1,e2] at h2;exact uI h1 h2 h3
   ·have h1:=cp x x
    have h2:=E.loop x;exact uJ h1 h2
   ·have h1:=E.par x
    have l1:=g4J hg;have l2:=g4J ht;have p1:=g1L hg;have p2:=g1L ht;rw[N7 hne];clear ih E hA e hg ht cp;by_cases a1:x=g
    ·subst a1
     rw[if_neg hne] at h1;rw[if_pos rfl,l2,if_pos rfl];exact pm h1 p2
    ·rw[if_neg a1]
     by_cases a2:x=t
     ·subst a2
      rw[if_pos rfl] at h1;rw[if_pos rfl,l1,if_neg a1];exact pl h1 p1
     ·rw[if_neg a2] at h1
      rw[if_neg a2,if_neg a1];exact uK h1
   ·have h1:=cp x y
    have h2:=E.tr x y;rw[gone_snoc,sc_app,H7];have h3:sc [(t,g)] x y=(if x=t/\y=g then 1 else 0)+(if x=g/\y=t then 1 else 0):=H7;exact uL h2.symm h1
   ·have:=E.bot
    clear ih E hN hA e hg hc1 hc2 hne ht cp;cases st with
    | nil=>assumption
    | cons b s=>assumption
   ·have h1:=E.dead x hx
    rw[N7 hne];clear ih E hN hA e hc1 hc2 hne cp hx;have n1:x≠g:=by rintro rfl;rw[h1] at ht;cases ht
    clear ht;have n2:x≠t:=by rintro rfl;rw[h1] at hg;cases hg
    rw[if_neg n1,if_neg n2];exact h1
   ·have l1:=Vp hg
    have l2:(Ay (Ay L t g) g t).length+1=(Ay L t g).length:=Vp (by rw[getA_strike,if_neg hne];exact ht);simp;exact uM l2 l1 hN
end
section
noncomputable def Am(p:Int×Int):Nat×Nat:=(p.1.toNat,p.2.toNat)
noncomputable def addP(P:List (Int×Int)):List En:=P.flatMap λp=>[(true,(Am p).1,(Am p).2),(false,(Am p).2,(Am p).1)]
noncomputable def A6(n:Nat)(L:List En):List Nat:=(aN n).filter λk=>aW ((getA L k).length % 2) 1
theorem getA_cons{e:En}{L:List En}{x:Nat}:getA (e::L) x=(if aW e.2.1 x then [e.2.2] else [])++getA L x:=by
 unfold getA;rw[g1H];cases h:aW e.2.1 x <;> rfl
theorem cnt_cons{e:En}{L:List En}{x y:Nat}:cnt (e::L) x y=(if x=e.2.1/\y=e.2.2 then 1 else 0)+cnt L x y:=by
 unfold cnt;rw[getA_cons];by_cases h:e.2.1=x
 ·rw[h,nbeq_self,if_pos rfl,g4K,g9B]
  congr 1;clear h;by_cases h2:e.2.2=y
  ·simp[h2]
  ·simp[h2,g0F h2]
 ·rw[Eb h,if_neg (bD),if_neg (λz=>h z.1.symm)];simp
theorem Rd{L M:List En}{x y:Nat}:cnt (L++M) x y=cnt L x y+cnt M x y:=by unfold cnt;rw[getA_app,g4K]
theorem Sa{e:Nat×Nat}{G x y}:sc (e::G) x y=(if x=e.1/\y=e.2 then 1 else 0)+(if x=e.2/\y=e.1 then 1 else 0)+sc G x y:=by
 have:e::G=[(e.1,e.2)]++G:=rfl;rw[this,sc_app,H7]
theorem Zb{G x y}:sc G x y=sc G y x:=by unfold sc;exact uN
theorem cnt_net{h:List (Nat×Nat)}{x y:Nat}:cnt (netL h) x y=sc h x y:=by
 induction h with
 | nil=>rfl
 | cons e h ih=>
  have:netL (e::h)=(false,e.1,e.2)::(true,e.2,e.1)::netL h:=rfl;rw[this,cnt_cons,cnt_cons,ih,Sa];dsimp only;exact Xd
theorem fD{P:List (Int×Int)}{x y:Nat}:cnt (addP P) x y=sc (P.map Am) x y:=by
 induction P with
 | nil=>rfl
 | cons e h ih=>
  have:addP (e::h)=(true,(Am e).1,(Am e).2)::(false,(Am e).2,(Am e).1)::addP h:=rfl;rw[this,cnt_cons,cnt_cons,ih,cG,Sa];dsimp only;exact Xd
theorem deg_addP{P:List (Int×Int)}{x:Nat}:(getA (addP P) x).length=((P.map Am).flatMap λp=>[p.1,p.2]).count x:=by
 induction P with
 | nil=>rfl
 | cons e h ih=>
  have:addP (e::h)=(true,(Am e).1,(Am e).2)::(false,(Am e).2,(Am e).1)::addP h:=rfl;rw[this,getA_cons,getA_cons,cG,g2B,g4K,aP,aP,ih];dsimp only;have e2: ∀a b:Nat,(if aW a x=true then [b] else []).length=if a=x then 1 else 0:=by
   intro a b;clear ih this;by_cases z:a=x
   ·subst z;rw[nbeq_self];simp
   ·rw[Eb z];simp[z]
  rw[e2,e2,g3T,g3T,List.count_nil];simp only[beq_iff_eq];exact uO
theorem fR{α:Type}{r:List α}{j:Nat}(hj:j < r.length):(r[j]::r.eraseIdx j).Perm r:=by
 rw[g6G];have:r=r.take j++r[j]::r.drop (j+1):=by rw[List.getElem_cons_drop,g8R]
 conv=>rhs;rw[this]
 exact gAM.symm
theorem Ok: ∀(k:Nat) (xs:List Int) (P:List (Int×Int)),P∈Aq k xs->xs.length<=k->xs.length % 2=0->(P.flatMap λp=>[p.1,p.2]).Perm xs:=by
 intro k;induction k with
 | zero=>
  intro xs P hP hl _;obtain rfl:xs=[]:=g0R.mp (Li hl);have hP:P∈[[]]:=hP;rw[aK.mp hP];exact .refl _
 | succ k ih=>
  intro xs P hP hl h2;cases xs with
  | nil=>
   have hP:P∈[[]]:=hP;rw[aK.mp hP];exact .refl _
  | cons a r=>
   have hP:P∈(aN r.length).flatMap λj=>(Aq k (r.eraseIdx j)).map ((a,r.getD j 0):: ·):=hP;replace hP:=g0N.mp hP;refine x12 hP ?_;clear hP;intro j hj hP;have hj:=bQ.mp hj;refine x12 (bI.mp hP) ?_;intro P' hP' z2;subst z2;have hl2:(r.eraseIdx j).length+1=r.length:=by rw[List.length_eraseIdx_of_lt hj];exact uP hj
   have:=ih (r.eraseIdx j) P' hP' (by simp at hl;exact uQ hl2 hl) (by simp at h2;exact pg h2 hl2);rw[g2B];have hr:r.getD j 0=r[j]:=by rw[aS,aD hj];rfl
   rw[hr];show (a::r[j]::P'.flatMap λp=>[p.1,p.2]).Perm (a::r);exact(((this.cons r[j]).trans (fR hj))).cons a
theorem Tf{wk:List Nat}{a b:Nat}(h:(a,b)∈Af wk):a∈wk/\b∈wk:=by
 have:=g0Z h;exact⟨this.1,List.mem_of_mem_tail this.2⟩
theorem cW{wk:List Nat}{x:Nat}(h:x∈wk)(hl:2<=wk.length): ∃y,(x,y)∈Af wk\/(y,x)∈Af wk:=by
 induction wk with
 | nil=>cases h
 | cons a r ih=>
  cases r with
  | nil=>simp at hl
  | cons b r=>
   have e:Af (a::b::r)=(a,b)::Af (b::r):=rfl;rw[e];clear hl e;rcases bM.mp h with rfl|h
   ·exact⟨b,.inl (.head _)⟩
   ·cases r with
    | nil=>
     have:x=b:=by exact aK.1 ‹_›
     clear ih h;subst this;exact⟨a,.inr (.head _)⟩
    | cons c r=>
     replace h:=ih h (aT rfl);refine x11 h ?_;clear h;intro y h;exact⟨y,h.imp (aX _) (aX _)⟩
theorem sc_pos{G:List (Nat×Nat)}{x y:Nat}:0 < sc G x y↔(x,y)∈G\/(y,x)∈G:=by
 unfold sc;rw[<-g2P,<-g2P (a:=(y,x))];exact R77
end
section
theorem Rn: ∀{G:List (Nat×Nat)},(G.flatMap λp=>[p.1,p.2]).Nodup->∀p∈G,p.1≠p.2
 | [],_,p,hp=>by cases hp
 | e::G,h,p,hp=>by
  have h:(e.1::e.2::G.flatMap λp=>[p.1,p.2]).Nodup:=h;rw[g1I,g1I] at h;rcases bM.mp hp with rfl|hp
  ·exact λz=>h.1 (by rw[z];exact .head _)
  ·exact Rn h.2.2 p hp
theorem S8{G:List (Nat×Nat)}{p:Nat×Nat}(h:p∈G):p.1∈(G.flatMap λp=>[p.1,p.2])/\p.2∈(G.flatMap λp=>[p.1,p.2]):=
 ⟨g0N.mpr ⟨p,h,.head _⟩,g0N.mpr ⟨p,h,.tail _ (.head _)⟩⟩
theorem fN{P:List (Int×Int)}{o:List Nat}(h:(P.flatMap λp=>[p.1,p.2]).Perm (o.map fun(k:Nat)=>(k:Int))):((P.map Am).flatMap λp=>[p.1,p.2]).Perm o:=by
 have e:((P.map Am).flatMap λp=>[p.1,p.2])=(P.flatMap λp=>[p.1,p.2]).map bZ:=by
  rw[gAO,g6T];rfl
 have e2:(o.map fun(k:Nat)=>(k:Int)).map bZ=o:=by
  rw[cB];have:(bZ ∘ fun(k:Nat)=>(k:Int))=_root_.id:=by funext k;simp
  rw[this,g9J]
 rw[e,<-e2]
 conv=>rhs;rw[e2,<-e2]
 exact h.map _
theorem dA{M n S h c}(g:Bc M n S h c): ∀e∈h,e.1≠e.2:=by
 induction g with
 | start=>simp
 | more g ht hnt hp _ ih=>
  intro e he;clear g ht;rcases aY.mp he with he|he
  ·exact ih e he
  ·rw[aK.mp he]
   intro z;have z:_=_:=z;dsimp only at z;exact hnt (by rw[z];exact hp)
theorem cZ{M n S h c}(g:Bc M n S h c){wk:List Nat}(h0:0∈wk)(hc: ∀t p,(t,p)∈h->p∈wk->t∈wk): ∀s∈S,s∈wk:=by
 induction g with
 | start=>simpa using h0
 | more g ht hnt hp _ ih=>
  intro s hs;have ih:=ih λt p h=>hc t p (g0A _ h);clear h0 g ht hnt;rcases aY.mp hs with hs|hs
  ·exact ih s hs
  ·rw[aK.mp hs]
   exact hc _ _ (mmN) (ih _ hp)
theorem E8{n:Nat}{L:List En}{x:Nat}:x∈A6 n L↔x < n/\(getA L x).length % 2=1:=by
 unfold A6;rw[g3Q,bQ];constructor
 ·rintro⟨a,b⟩;exact⟨a,aR b⟩
 ·rintro⟨a,b⟩;exact⟨a,by rw[b];rfl⟩
theorem N0{n:Nat}{L:List En}:(A6 n L).Nodup:=List.Nodup.sublist g3S g4P
theorem mA{L:List En}{x y:Nat}:(L.map (·.2)).count (x,y)=cnt L x y:=by
 induction L with
 | nil=>rfl
 | cons e L ih=>
  rw[cG,g3T,cnt_cons,ih];have:(e.2==(x,y))=true↔(x=e.2.1/\y=e.2.2):=by
   rw[beq_iff_eq,g8P];exact⟨λh=>⟨h.1.symm,h.2.symm⟩,λh=>⟨h.1.symm,h.2.symm⟩⟩
  simp only[this];exact uR
theorem swap_count{G:List (Nat×Nat)}{x y:Nat}:(G.map λp=>(p.2,p.1)).count (x,y)=G.count (y,x):=by
 induction G with
 | nil=>rfl
 | cons e G ih=>
  rw[cG,g3T,g3T,ih];congr 1;have:((e.2,e.1)==(x,y))=(e==(y,x)):=by
   rw[gAW,beq_iff_eq,beq_iff_eq,g8P,g8P];exact⟨λh=>⟨h.2,h.1⟩,λh=>⟨h.2,h.1⟩⟩
  rw[this]
theorem Zn{M:Nat->Nat->Int}{n:Nat}{S:List Nat}{h:List (Nat×Nat)}{c:Int}{P:List (Int×Int)}(g:Bc M n S h c)(hn:2<=n)(hn5:n<=5)(hall: ∀k,k < n->k∈S)
  (hP:P∈Aq 5 ((A6 n (netL h)).map fun(k:Nat)=>(k:Int))) (hev:(A6 n (netL h)).length % 2=0):
  ∃wk,C7 50 ([0],[],netL h++addP P)=some (wk,[])/\wk.head? =some 0/\wk.getLast? =some 0/\(∀k,k < n->k∈wk)/\(∀x∈wk,x < n)/\((netL h++addP P).map (·.2)).Perm (Af wk++(Af wk).map λp=>(p.2,p.1)):=by
 have hodd5:(A6 n (netL h)).length<=5:=by
  unfold A6;have:=g0P (λk=>aW ((getA (netL h) k).length % 2) 1) (aN n);simp at this;exact Q45 this hn5
 have fl:=fN (Ok 5 _ P hP (by simpa using hodd5) (by simpa using hev));have fnd:((P.map Am).flatMap λp=>[p.1,p.2]).Nodup:=fl.nodup_iff.mpr N0;have bd:=g.bd (Xe hn);have Pne:=Rn fnd;have Pbd: ∀p∈P.map Am,p.1 < n/\p.2 < n:=λp hp=>⟨(E8.mp (fl.subset (S8 hp).1)).1,(E8.mp (fl.subset (S8 hp).2)).1⟩;have hcnt: ∀x y,cnt (netL h++addP P) x y=sc (h++P.map Am) x y:=λx y=>by rw[Rd,cnt_net,fD,sc_app]
 have hlt: ∀x y,0 < cnt (netL h++addP P) x y->x < n/\y < n:=by
  intro x y hxy;rw[hcnt,sc_pos] at hxy;have: ∀a b,(a,b)∈h++P.map Am->a < n/\b < n:=by
   intro a b hab;clear g hn hn5 hall hP hev hodd5 fl fnd Pne hcnt hxy;rcases aY.mp hab with hab|hab
   ·exact bd.2.1 _ hab
   ·exact Pbd _ hab
  clear g hn hn5 hall hP hev hodd5 fl fnd bd Pne Pbd hcnt;rcases hxy with hxy|hxy
  ·exact this _ _ hxy
  ·exact(this _ _ hxy).symm
 have hPl:2*P.length<=5:=by
  have h1:=fl.length_eq;have h2: ∀G:List (Nat×Nat),(G.flatMap λp=>[p.1,p.2]).length=2*G.length:=by
   intro G;clear g hall hP fl fnd bd Pne Pbd hcnt hlt;induction G with
   | nil=>rfl
   | cons e G ih=>rw[g2B,aP,ih];simp;exact O1
  rw[h2,aO] at h1;exact uS h1.symm hodd5
 have haddl:(addP P).length=2*P.length:=by
  have: ∀P:List (Int×Int),(addP P).length=2*P.length:=by
   intro P;clear g hall hP fl fnd bd Pne Pbd hcnt hlt;induction P with
   | nil=>rfl
   | cons e P ih=>
    show ([_,_]++addP P).length=_;rw[aP,ih];simp;exact O1
  exact this P
 have hsz:=g.size (Xe hn);have hE:Eu (netL h++addP P) [] 0 [] (netL h++addP P) 0:=by
  refine⟨λx y=>by rw[hcnt,hcnt,Zb],λx=> ?_,λx=> ?_,λx y=> ?_,λ_=>rfl,λz=>absurd rfl z,rfl,by simp⟩
  ·clear hall hP fl fnd bd Pbd hlt;rcases gAB (cnt (netL h++addP P) x x) with z|z
   ·exact z
   ·rw[hcnt] at z
    have z:=sc_pos.mp z;have z:(x,x)∈h++P.map Am:=z.elim id id;clear hcnt;rcases aY.mp z with z|z
    ·exact absurd rfl (dA g _ z)
    ·exact absurd rfl (Pne _ z)
  ·have z: ∀i:Nat,(i+i) % 2=0:=λi=>by exact pa _
   rw[z,getA_app,aP,deg_addP,fl.count_eq];clear g hall hP fl fnd bd Pne Pbd hcnt;by_cases hx:x∈A6 n (netL h)
   ·rw[N0.count,if_pos hx]
    have:=(E8.mp hx).2;exact pc this
   ·rw[List.count_eq_zero.mpr hx]
    rcases g6S x n with hxn|hxn
    ·have: ¬(getA (netL h) x).length % 2=1:=λz=>hx (E8.mpr ⟨hxn,z⟩)
     exact pb this
    ·have:getA (netL h) x=[]:=by
      cases e:getA (netL h) x with
      | nil=>rfl
      | cons y r=>
       have:0 < cnt (netL h) x y:=g2P.mpr (by rw[e];exact .head _);have:=(hlt x y (by rw[Rd];exact uT this)).1;exact V3 this hxn
     rw[this];rfl
  ·have e1:Af ([]++[0])=[]:=rfl
   have e2:Af []=[]:=rfl;have e3:Gh [] 0=[]:=rfl;rw[e1,e2,e3,Qi];rfl
 obtain⟨wk,L',hr,W⟩:=zU 50 [] 0 [] (netL h++addP P) 0 hE (by rw[aP,haddl,Ie];simp;exact uU bd.2.2.2 hsz hn5 hPl rfl);have h0:0∈wk:=List.mem_of_mem_head? W.hd;have hin: ∀k,k < n->k∈wk:=λk hk=>cZ g h0 (λt p htp hpw=>by
  have h1:0 < cnt (netL h++addP P) p t:=by rw[hcnt,sc_pos];exact .inr (g0A _ htp)
  have h2:=W.tr p t;have h3:cnt L' p t=0:=by unfold cnt;rw[W.dead p hpw];rfl
  have h4:0 < sc (Af wk) p t:=uV h2.symm h3 h1;clear g hn hn5 hP hev hodd5 fl fnd bd Pne Pbd hcnt hlt hPl haddl hsz hE hr W h0 htp hpw h1 h2 h3;rcases sc_pos.mp h4 with h4|h4
  ·exact(Tf h4).2
  ·exact(Tf h4).1) k (hall k hk)
 have hL:L'=[]:=by
  clear g hall hP fl fnd bd Pne Pbd hcnt hE hr h0;cases L' with
  | nil=>rfl
  | cons e r=>
   have h1:0 < cnt (e::r) e.2.1 e.2.2:=by rw[cnt_cons,if_pos ⟨rfl,rfl⟩];exact uW
   have h2:=W.tr e.2.1 e.2.2;have h3:=(hlt e.2.1 e.2.2 (uX h2 h1)).1;have h4:=W.dead _ (hin _ h3);unfold cnt at h1;rw[h4] at h1;clear hn hn5 hev hodd5 hlt hPl haddl hsz hin W h2 h3 h4;cases h1
 clear g hall hP fl fnd bd Pne Pbd hcnt hE;subst hL;have hlen:2<=wk.length:=by
  have h1:=hin 1 (uY hn);clear hlt hin hr W;match wk,h0,h1 with
  | [a],h0,h1=>simp at h0 h1;exact uZ h0.symm h1.symm
  | _::_::_,_,_=>simp
 refine⟨wk,hr,W.hd,W.lst,hin,λx hx=> ?_,?_⟩
 ·refine x11 (cW hx hlen) ?_;intro y hy
  have h2:=W.tr x y;have:=sc_pos.mpr hy;exact(hlt x y (vA h2 this)).1
 ·rw[List.perm_iff_count]
  clear hlt h0 hin hr;rintro⟨x,y⟩;rw[mA,g4K,swap_count,W.tr x y];show 0+_=_;unfold sc;exact vB
end
section
theorem sum_ind{a:Nat}: ∀n,((aN n).map λk=>if a=k then 1 else 0).sum=if a < n then 1 else 0
 | 0=>rfl
 | n+1=>by
  rw[g0Y,cD,g4X,sum_ind n];by_cases h1:a < n
  ·have: ¬a=n:=by exact Co h1
   simp[h1,this];exact Q82 h1
  ·by_cases h2:a=n
   ·clear h1;subst h2;simp
   ·have: ¬a < n+1:=by exact vC h2 (cH.1 h1)
    simp[h1,h2,this]
theorem Sf{n:Nat}: ∀{L:List En},(∀e∈L,e.2.1 < n)->((aN n).map λk=>(getA L k).length).sum=L.length
 | [],_=>by
  have:((aN n).map λk=>(getA [] k).length)=(aN n).map λ_=>0:=rfl;rw[this];induction n with
  | zero=>rfl
  | succ n ih=>rw[g0Y,cD,g4X];simpa using ih (by simp) rfl
 | e::L,h=>by
  have:((aN n).map λk=>(getA (e::L) k).length)=(aN n).map λk=>(if e.2.1=k then 1 else 0)+(getA L k).length:=by
   apply g0V;intro k _;rw[getA_cons,aP];congr 1;clear h;by_cases z:e.2.1=k
   ·rw[z,nbeq_self];simp
   ·rw[Eb z];simp[z]
  rw[this];have add: ∀(l:List Nat) (f g:Nat->Nat),(l.map λk=>f k+g k).sum=(l.map f).sum+(l.map g).sum:=by
   intro l f g;clear h this;induction l with
   | nil=>rfl
   | cons a l ih=>simp[ih];exact Xa
  rw[add,sum_ind,Sf (λx hx=>h x (aX _ hx)),if_pos (h e (.head _))];simp;exact Xf
theorem Rg{L:List En}: ∀n,(A6 n L).length % 2=((aN n).map λk=>(getA L k).length).sum % 2
 | 0=>rfl
 | n+1=>by
  have:=Rg (L:=L) n;unfold A6 at*;rw[g0Y,g1G,aP,cD,g4X];have e:([n].filter λk=>aW ((getA L k).length % 2) 1).length=(getA L n).length % 2:=by
   rw[g1H];by_cases z:(getA L n).length % 2=1
   ·rw[z];rfl
   ·have z2:(getA L n).length % 2=0:=by exact pb z
    rw[z2];rfl
  rw[e];simp;exact pd this
theorem dZ{h:List (Nat×Nat)}{n:Nat}(hb: ∀e∈h,e.1 < n/\e.2 < n): ∀e∈netL h,e.2.1 < n:=by
 intro e he;replace he:=g0N.mp he;refine x12 he ?_;clear he;intro x hx he;simp at he;rcases he with rfl|rfl
 ·exact(hb x hx).1
 ·exact(hb x hx).2
theorem Tk{h:List (Nat×Nat)}{n:Nat}(hb: ∀e∈h,e.1 < n/\e.2 < n):(A6 n (netL h)).length % 2=0:=by
 rw[Rg,Sf (dZ hb),Ie];exact gAL 2 _
noncomputable def wt(M:Nat->Nat->Int)(G:List (Nat×Nat)):Int:=(G.map λp=>M p.1 p.2).sum
theorem wt_app{M G H}:wt M (G++H)=wt M G+wt M H:=by dsimp only[wt];rw[cD,g4X]
theorem wt_nil{M}:wt M []=0:=rfl
theorem wt_one{M a b}:wt M [(a,b)]=M a b:=by dsimp only[wt];exact g6Y _
theorem wt_cons{M e G}:wt M (e::G)=M e.1 e.2+wt M G:=rfl
theorem eQ{M G H}(h:G.Perm H):wt M G=wt M H:=by
 dsimp only[wt];have:=h.map λp=>M p.1 p.2;generalize G.map (λp=>M p.1 p.2)=a at*;generalize H.map (λp=>M p.1 p.2)=b at*;clear h;induction this with
 | nil=>rfl
 | cons x _ ih=>simp[ih]
 | swap x y l=>simp;exact vD
 | trans _ _ i1 i2=>rw[i1,i2]
theorem wt_swap{M G}(hs: ∀i j,M i j=M j i):wt M (G.map λp=>(p.2,p.1))=wt M G:=by
 dsimp only[wt];rw[cB];congr 1;apply g0V;intro p _;exact hs _ _
theorem wt_net{M:Nat->Nat->Int}(hs: ∀i j,M i j=M j i): ∀h:List (Nat×Nat),wt M ((netL h).map (·.2))=2*wt M h
 | []=>rfl
 | e::h=>by
  have:(netL (e::h)).map (·.2)=(e.1,e.2)::(e.2,e.1)::(netL h).map (·.2):=rfl;rw[this,wt_cons,wt_cons,wt_cons,wt_net hs h,hs e.2 e.1];dsimp only;exact Xg
theorem Si{M:Nat->Nat->Int}(hs: ∀i j,M i j=M j i): ∀P:List (Int×Int),wt M ((addP P).map (·.2))=2*wt M (P.map Am)
 | []=>rfl
 | e::h=>by
  have:(addP (e::h)).map (·.2)=((Am e).1,(Am e).2)::((Am e).2,(Am e).1)::(addP h).map (·.2):=rfl;rw[this,wt_cons,wt_cons,cG,wt_cons,Si hs h,hs (Am e).2 (Am e).1];dsimp only;exact Xg
theorem Rq{M:Nat->Nat->Int}(hs: ∀i j,M i j=M j i){n S h c}(g:Bc M n S h c):wt M h=c:=by
 induction g with
 | start=>rfl
 | more g _ _ _ _ ih=>rw[wt_app,wt_one,ih,hs]
noncomputable def E2(acc:List Nat)(x:Nat):List Nat:=if x∈acc then acc else acc++[x]
noncomputable def Br(wk:List Nat):List Nat:=wk.foldl E2 []
theorem stops_snoc{wk:List Nat}{x:Nat}:Br (wk++[x])=E2 (Br wk) x:=by dsimp only[Br];rw[gAE];rfl
theorem snoc_ind{α:Type}{C:List α->Prop}(h0:C [])(h1: ∀l a,C l->C (l++[a]))(l:List α):C l:=by
 have: ∀n (l:List α),l.length=n->C l:=by
  intro n;induction n with
  | zero=>intro l hl;rw[g0R.mp hl];exact h0
  | succ n ih=>
   intro l hl;clear h0;rcases g1A l with rfl|⟨s,a,rfl⟩
   ·clear h1 ih;cases hl
   ·rw[g1B] at*
    exact h1 s a (ih s (by simpa using hl))
 exact this _ l rfl
set_option tactic.hygienic true in
theorem Od{wk:List Nat}: ∀x,x∈Br wk↔x∈wk:=by
 induction wk using snoc_ind with
 | h0=>simp[Br]
 | h1 wk a ih=>
  intro x;rw[stops_snoc];dsimp only[E2];split
  ·rename_i h
   rw[ih,aY,aK];exact⟨.inl,λz=>z.elim id λz=>by rw[z];exact(ih a).mp h⟩
  ·rw[aY,aY,ih]
set_option tactic.hygienic true in
theorem Vn{wk:List Nat}:(Br wk).Nodup:=by
 induction wk using snoc_ind with
 | h0=>simp[Br]
 | h1 wk a ih=>
  rw[stops_snoc];dsimp only[E2];split
  ·exact ih
  ·rename_i h
   rw[g2T];exact⟨ih,by simp,λx hx y hy=>by rw[aK.mp hy];rintro rfl;exact h hx⟩
theorem kZ{M:Nat->Nat->Int}(h0: ∀i,M i i=0)(ht: ∀i j k,M i k<=M i j+M j k)(v:List Nat): ∀x,∃s y,Br (v++[x])=s++[y]/\(s++[y]).head? =(v++[x]).head? /\wt M (Af (s++[y]))+M y x<=wt M (Af (v++[x])):=by
 induction v using snoc_ind with
 | h0=>
  intro x;refine⟨[],x,rfl,rfl,?_⟩;have:Af ([]++[x])=[]:=rfl;rw[this,wt_nil,h0];exact Xh
 | h1 v z ih=>
  intro x;refine x23 (ih z) ?_;intro s y e1 e2 e3;rw[gone_snoc,wt_app,wt_one,stops_snoc,e1];dsimp only[E2];have t1:=ht y z x;clear ht ih e1;have hh:(v++[z]++[x]).head? =(v++[z]).head? :=by cases v <;> rfl
  split
  ·exact⟨s,y,rfl,by rw[hh];exact e2,Q386 e3 t1⟩
  ·refine⟨s++[y],x,rfl,?_,?_⟩
   ·clear h0 e3 t1;rw[hh,<-e2];cases s <;> rfl
   ·rw[gone_snoc,wt_app,wt_one,h0];exact Xi e3 t1
theorem On{ks:List Nat}:Af ks=(aN (ks.length - 1)).map λk=>(ks.getD k 0,ks.getD (k+1) 0):=by
 dsimp only[Af];apply g4R
 ·rw[g4Y,List.length_tail,aO,g2A];exact g7C (bV _ _)
 ·intro i h1 h2
  simp at h1 h2;have e1:ks.getD i 0=ks[i]'(O2 h1):=by rw[aS,aD (O2 h1)];rfl
  have e2:ks.getD (i+1) 0=ks[i+1]'(Xj h1):=by rw[aS,aD (Xj h1)];rfl
  simp only[g4Q,List.getElem_tail,g3G,g5X,e1,e2]
theorem G7{M:Nat->Nat->Int}{s:List Nat}{a y:Nat}(h:(s++[y]).head? =some a):Ax M (s++[y])=M y a+wt M (Af (s++[y])):=by
 dsimp only[Ax,Db];have hl:(s++[y]).length=s.length+1:=by exact aP
 rw[hl,g4U,cG,List.sum_cons,cB];have ea:(s++[y]).getD 0 0=a:=by
  clear hl;cases s with
  | nil=>exact aB ‹_›
  | cons b s=>exact aB ‹_›
 have ey:prevOf (s++[y]) 0=y:=by
  dsimp only[prevOf];rw[if_pos rfl,hl];show (s++[y]).getD s.length 0=y;rw[aS,cF];rfl
 rw[ea,ey,On,hl];dsimp only[wt];rw[cB];congr 1
end
section
theorem iB{M:Nat->Nat->Int}(h0: ∀i,M i i=0)(ht: ∀i j k,M i k<=M i j+M j k){wk:List Nat}(hh:wk.head? =some 0)(hl:wk.getLast? =some 0):Ax M (Br wk)<=wt M (Af wk):=by
 rcases g1A wk with rfl|⟨v,x,rfl⟩
 ·cases hh
 ·rw[g1B] at*
  have:x=0:=by simpa using hl
  subst this;refine x23 (kZ h0 ht v 0) ?_;intro s y e1 e2 e3;rw[e1,G7 (e2.trans hh)];exact vE e3
section
variable {M:Nat->Nat->Int} {b:Int} {n:Nat}
theorem mstep_at{i j k:Nat}{ms:List Int}(hk:k < ms.length):(Cr M b i j ms).getD k 0=if M i j<=b then(if ms.getD k 0=ms.getD j 0 then ms.getD i 0 else ms.getD k 0) else ms.getD k 0:=by
 dsimp only[Cr];split
 ·rw[aS,aL,aD hk]
  have:ms.getD k 0=ms[k]:=by rw[aS,aD hk];rfl
  rw[this];rfl
 ·rfl
theorem Th{i j k l:Nat}{ms:List Int}(hk:k < ms.length)(hl:l < ms.length)(h:ms.getD k 0=ms.getD l 0):(Cr M b i j ms).getD k 0=(Cr M b i j ms).getD l 0:=by
 rw[mstep_at hk,mstep_at hl,h]
theorem kK{i j:Nat}{ms:List Int}(hi:i < ms.length)(hj:j < ms.length)(h:M i j<=b):(Cr M b i j ms).getD i 0=(Cr M b i j ms).getD j 0:=by
 rw[mstep_at hi,mstep_at hj,if_pos h,if_pos h,if_pos rfl];split <;> rfl
theorem Qb{i k l:Nat}{ms:List Int}(hk:k < ms.length)(hl:l < ms.length)(h:ms.getD k 0=ms.getD l 0): ∀J,(mIn M b i J ms).getD k 0=(mIn M b i J ms).getD l 0
 | 0=>h
 | J+1=>Th (by rw[mIn_len];exact hk) (by rw[mIn_len];exact hl) (Qb hk hl h J)
theorem Ry{i:Nat}{ms:List Int}(hi:i < ms.length): ∀J,J<=i->∀j,j < J->M i j<=b->(mIn M b i J ms).getD i 0=(mIn M b i J ms).getD j 0
 | 0,_,j,hj,_=>absurd hj (Xk)
 | J+1,hJ,j,hj,h=>by
  by_cases e:j=J
  ·subst e
   exact kK (by rw[mIn_len];exact hi) (by rw[mIn_len];exact Q68 hJ hi) h
  ·exact Th (by rw[mIn_len];exact hi) (by rw[mIn_len];exact vF hj hJ hi) (Ry hi J (Q75 hJ) j (Ge hj e) h)
theorem Nr{ms:List Int}: ∀I,I<=ms.length->∀i j,i < I->j < i->M i j<=b->(Cg M b I ms).getD i 0=(Cg M b I ms).getD j 0
 | 0,_,i,j,hi,_,_=>absurd hi (Xk)
 | I+1,hI,i,j,hi,hj,h=>by
  by_cases e:i=I
  ·subst e
   exact Ry (by rw[Fc];exact Q24 hI) i (bJ _) j hj h
  ·exact Qb (by rw[Fc];exact vG hi hI) (by rw[Fc];exact vH hj hi hI) (Nr I (Q75 hI) i j (Ge hi e) hj h) I
theorem La{n:Nat}:(B0 n).length=n:=by dsimp only[B0];exact mmR
noncomputable abbrev mk(M:Nat->Nat->Int)(n:Nat)(b:Int)(k:Nat):Int:=(E7 M n b).getD k 0
theorem mk_le(hs: ∀i j,M i j=M j i){i j:Nat}(hi:i < n)(hj:j < n)(h:M i j<=b):mk M n b i=mk M n b j:=by
 dsimp only[mk,E7];rcases g2V i j with z|z|z
 ·exact(Nr n (by rw[La];exact Iu) j i hj z (by rw[hs];exact h)).symm
 ·rw[z]
 ·exact Nr n (by rw[La];exact Iu) i j hi z h
noncomputable def Sep(C:Nat->Prop)(n:Nat)(ms:List Int):Prop:= ∀x y,x < n->y < n->C x->¬C y->ms.getD x 0≠ms.getD y 0
set_option tactic.hygienic true in
theorem iD{C:Nat->Prop}{ms:List Int}{i j:Nat}(hl:ms.length=n)(hi:i < n)(hj:j < n)(hc:M i j<=b->(C i↔C j))(h:Sep C n ms):Sep C n (Cr M b i j ms):=by
 intro x y hx hy cx cy;rw[mstep_at (Q154 hx hl),mstep_at (Q154 hy hl)];split
 ·rename_i hb
  have hc:=hc hb;have h1:=h x y hx hy cx cy;by_cases z1:ms.getD x 0=ms.getD j 0
  ·have cj:C j:=g3P λz=>h x j hx hj cx z z1
   have ci:=hc.mpr cj;rw[if_pos z1];split
   ·rename_i z2;exact absurd z2.symm (h j y hj hy cj cy)
   ·exact h i y hi hy ci cy
  ·rw[if_neg z1]
   split
   ·rename_i z2
    have cj: ¬C j:=λz=>h j y hj hy z cy z2.symm;exact h x i hx hi cx (λz=>cj (hc.mp z))
   ·exact h1
 ·exact h x y hx hy cx cy
theorem Qj{C:Nat->Prop}{ms:List Int}{i:Nat}(hl:ms.length=n)(hi:i < n)(hc: ∀j,j < n->M i j<=b->(C i↔C j))(h:Sep C n ms): ∀J,J<=n->Sep C n (mIn M b i J ms)
 | 0,_=>h
 | J+1,hJ=>iD (by rw[mIn_len];exact hl) hi (Q24 hJ) (hc J (Q24 hJ)) (Qj hl hi hc h J (Q75 hJ))
theorem Sb{C:Nat->Prop}{ms:List Int}(hl:ms.length=n)(hc: ∀i j,i < n->j < n->M i j<=b->(C i↔C j))(h:Sep C n ms): ∀I,I<=n->Sep C n (Cg M b I ms)
 | 0,_=>h
 | I+1,hI=>Qj (by rw[Fc];exact hl) (Q24 hI) (λj hj=>hc I j (Q24 hI) hj) (Sb hl hc h I (Q75 hI)) I (Q75 hI)
theorem Yq{C:Nat->Prop}(hc: ∀i j,i < n->j < n->M i j<=b->(C i↔C j)){x y:Nat}(hx:x < n)(hy:y < n)(cx:C x)(cy: ¬C y):mk M n b x≠mk M n b y:=by
 refine Sb (ms:=B0 n) La hc (λx y hx hy cx cy=> ?_) n (bJ _) x y hx hy cx cy;have e: ∀k,k < n->(B0 n).getD k 0=(k:Int):=by
  intro k hk;dsimp only[B0];rw[aS,aL,g0W hk];rfl
 rw[e x hx,e y hy];intro z;have:x=y:=Ir z;exact cy (this▸cx)
end
end
section
theorem Zo{l:List Int}{x:Int}:(l.any λb=>Ap b x)=decide (x∈l):=Mr λ_ _=>beqInt_eq _ _
theorem Mt{l:List Int}{x:Int}:Bk (l++[x])=if x∈Bk l then Bk l else Bk l++[x]:=by
 unfold Bk;rw[gAE];show (if((l.foldl (λacc k=>if acc.any (λb=>Ap b k) then acc else acc++[k]) []).any λb=>Ap b x)=true then _ else _)=_;rw[Zo];simp only[decide_eq_true_eq]
set_option tactic.hygienic true in
theorem dd_mem{l:List Int}: ∀x,x∈Bk l↔x∈l:=by
 induction l using snoc_ind with
 | h0=>intro x;exact Iff.rfl
 | h1 l a ih=>
  intro x;rw[Mt];split
  ·rename_i h
   rw[ih,aY,aK];exact⟨.inl,λz=>z.elim id λz=>by rw[z];exact(ih a).mp h⟩
  ·rw[aY,aY,ih]
set_option tactic.hygienic true in
theorem Sv{l:List Int}:(Bk l).Nodup:=by
 induction l using snoc_ind with
 | h0=>exact g4F
 | h1 l a ih=>
  rw[Mt];split
  ·exact ih
  ·rename_i h
   rw[g2T];exact⟨ih,by simp,λx hx y hy=>by rw[aK.mp hy];rintro rfl;exact h hx⟩
theorem P4{l:List Int}{x:Int}:(Bk (l++[x])).length=(Bk l).length+if x∈l then 0 else 1:=by
 rw[Mt];by_cases h:x∈l
 ·rw[if_pos ((dd_mem x).mpr h),if_pos h];rfl
 ·rw[if_neg (λz=>h ((dd_mem x).mp z)),if_neg h];exact aP
theorem Z1{l l':List Int}(h: ∀x,x∈l↔x∈l'):(Bk l).length=(Bk l').length:=
 ((g2D Sv Sv).mpr λa=>by rw[dd_mem,dd_mem,h]).length_eq
section
variable {M:Nat->Nat->Int} {b:Int} {n:Nat}
noncomputable def cl(M:Nat->Nat->Int)(n:Nat)(b:Int)(S:List Nat):Nat:=(Bk (S.map (mk M n b))).length
theorem Q0{S:List Nat}{t:Nat}:cl M n b (S++[t])=cl M n b S+if mk M n b t∈S.map (mk M n b) then 0 else 1:=by
 unfold cl;rw[cD];exact P4
theorem BY{x:Nat}:cl M n b [x]=1:=rfl
theorem J0{S S':List Nat}(h: ∀x,x∈S↔x∈S'):cl M n b S=cl M n b S':=by
 unfold cl;apply Z1;intro x;rw[bI,bI];exact⟨fun⟨a,ha,e⟩=>⟨a,(h a).mp ha,e⟩,fun⟨a,ha,e⟩=>⟨a,(h a).mpr ha,e⟩⟩
theorem Ue:(E7 M n b).length=n:=by unfold E7;rw[Fc,La]
theorem parts_cl:partsF M n b=cl M n b (aN n):=by
 unfold partsF cl;congr 2;apply g4R
 ·simp[Ue]
 ·intro i h1 h2
  rw[g3G,g5X];unfold mk;rw[aS,aD h1];rfl
noncomputable def pot(M:Nat->Nat->Int)(n:Nat)(S:List Nat):Int:=((cl M n 0 S:Int) - 1)+((cl M n 1 S:Int) - 1)+((cl M n 2 S:Int) - 1)+((cl M n 3 S:Int) - 1)
theorem Nt{S S':List Nat}(h: ∀x,x∈S↔x∈S'):pot M n S=pot M n S':=by
 unfold pot;rw[J0 (b:=0) h,J0 (b:=1) h,J0 (b:=2) h,J0 (b:=3) h]
theorem R8{x:Nat}:pot M n [x]=0:=by unfold pot;simp only[BY];rfl
theorem J4(hs: ∀i j,M i j=M j i){S h c t p}(g:Bc M n S h c)(hn:0 < n)(ht:t < n)(hp:p∈S)(hm: ∀s∈S,∀k,k < n->k∉S->M p t<=M s k)(hnt:t∉S):(cl M n b (S++[t]):Int)=cl M n b S+if M p t<=b then 0 else 1:=by
 rw[Q0];have bd:=g.bd hn;by_cases hb:M p t<=b
 ·rw[if_pos hb,if_pos (bI.mpr ⟨p,hp,mk_le hs (bd.1 p hp) ht hb⟩)];rfl
 ·rw[if_neg hb,if_neg]
  ·simp
  ·intro hz
   refine x12 (bI.mp hz) ?_;intro s hsS e;refine Yq (M:=M) (b:=b) (C:=λx=>x∈S) (λi j hi hj hij=> ?_) (bd.1 s hsS) ht hsS hnt e;constructor
   ·intro hi'
    refine g3P λhj'=> ?_;have:=hm i hi' j hj hj';exact Xl (g2Z.1 hb) this hij
   ·intro hj'
    refine g3P λhi'=> ?_;have:=hm j hj' i hi hi';rw[hs j i] at this;exact Xl (g2Z.1 hb) this hij
theorem Zi: ∀k:Nat,k < 5->(k:Int)=(if(k:Int)<=0 then 0 else 1)+(if(k:Int)<=1 then 0 else 1)+(if(k:Int)<=2 then 0 else 1)+(if(k:Int)<=3 then 0 else 1):=by decide
theorem Pt{m:Int}(h:0<=m/\m<=4):m=(if m<=0 then 0 else 1)+(if m<=1 then 0 else 1)+(if m<=2 then 0 else 1)+(if m<=3 then 0 else 1):=by
 obtain⟨k,rfl⟩:=Int.eq_ofNat_of_zero_le h.1;exact Zi k (g2W (aH.1 h.2))
theorem BE{m a b c d i j k l A B C D w:Int}(h:m=i+j+k+l)(k0:A<=a+i)(k1:B<=b+j)(k2:C<=c+k)(k3:D<=d+l)(h1:a - 1+(b - 1)+(c - 1)+(d - 1)<=w):A - 1+(B - 1)+(C - 1)+(D - 1)<=w+m:=
 g3E (g5N (g5N (g5N (g3L k0 1) (g3L k1 1)) (g3L k2 1)) (g3L k3 1)) (g3E (gCZ (Xr h.symm).symm) (Int.add_le_add_right h1 m))
theorem S9(hs: ∀i j,M i j=M j i)(hS:Bx M){S h c}(g:Bc M n S h c)(hn:0 < n):c=pot M n S:=by
 induction g with
 | start=>rw[R8]
 | @more S h c t p g ht hnt hp hm ih=>
  have:=hS p t;rw[ih];unfold pot;rw[J4 (b:=0) hs g hn ht hp hm hnt,J4 (b:=1) hs g hn ht hp hm hnt,J4 (b:=2) hs g hn ht hp hm hnt,J4 (b:=3) hs g hn ht hp hm hnt];exact Xr (Pt this).symm
theorem kM(hs: ∀i j,M i j=M j i)(hS:Bx M){S h c}(g:Bc M n S h c)(hn:0 < n)(hall: ∀k,k < n->k∈S):c=((partsF M n 0:Int) - 1)+((partsF M n 1:Int) - 1)+((partsF M n 2:Int) - 1)+((partsF M n 3:Int) - 1):=by
 rw[S9 hs hS g hn,Nt (S':=aN n) λx=>⟨λh=>bQ.mpr ((g.bd hn).1 x h),λh=>hall x (bQ.mp h)⟩];unfold pot;rw[parts_cl,parts_cl,parts_cl,parts_cl]
theorem hF(hs: ∀i j,M i j=M j i)(hS:Bx M)(v:List Nat): ∀x,(∀y∈v++[x],y < n)->pot M n (v++[x])<=wt M (Af (v++[x])):=by
 induction v using snoc_ind with
 | h0=>intro x _;rw[List.nil_append,R8];exact g3X _
 | h1 v x ih=>
  intro z hz;rw[gone_snoc,wt_app,wt_one];have h1:=ih x λy hy=>hz y (g0A _ hy);have hx:=hz x (g0A _ (g3B _ (.head _)));have hzn:=hz z (mmN);have h2:=hS x z;have key: ∀b:Int,(cl M n b (v++[x]++[z]):Int)<=cl M n b (v++[x])+if M x z<=b then 0 else 1:=by
   intro b;rw[Q0];by_cases hb:M x z<=b
   ·rw[if_pos hb,if_pos (bI.mpr ⟨x,mmN,mk_le hs hx hzn hb⟩)];simp
   ·rw[if_neg hb]
    split
    ·exact vJ
    ·simp
  have k0:=key 0;have k1:=key 1;have k2:=key 2;have k3:=key 3;unfold pot at*;exact BE (Pt h2) k0 k1 k2 k3 h1
end
end
section
section
variable {M:Nat->Nat->Int} {n:Nat}
theorem Ej(hs: ∀i j,M i j=M j i)(hS:Bx M){l:List Nat}(h: ∀x,x∈l↔x < n)(hl:l≠[]):pot M n (aN n)<=wt M (Af l):=by
 rcases g1A l with rfl|⟨v,x,rfl⟩
 ·exact absurd rfl hl
 ·rw[g1B] at*
  rw[Nt (S':=v++[x]) λy=>by rw[h,bQ]];exact hF hs hS v x λy hy=>(h y).mp hy
theorem Ga{a x:Nat}{r:List Nat}:x∈r++[a]↔x∈a::r:=by rw[aY,aK,bM,or_comm]
theorem mD(hs: ∀i j,M i j=M j i)(hS:Bx M){a b c d:Nat}(h: ∀x,x∈[a,b,c,d]↔x < n):pot M n (aN n)*4<=Ax M [a,b,c,d]*3:=by
 have e:Ax M [a,b,c,d]=M d a+wt M (Af [a,b,c,d]):=G7 (s:=[a,b,c]) rfl;have h2: ∀x,x∈[b,c,d,a]↔x < n:=λx=>(Ga (r:=[b,c,d])).trans (h x);have h3: ∀x,x∈[c,d,a,b]↔x < n:=λx=>(Ga (r:=[c,d,a])).trans (h2 x);have p1:=Ej hs hS h (g0J _ _);have p2:=Ej hs hS h2 (g0J _ _);have p3:=Ej hs hS h3 (g0J _ _);have p4:=Ej hs hS (l:=[d,a,b,c]) (λx=>(Ga (r:=[d,a,b])).trans (h3 x)) (g0J _ _);clear h h2 h3;have g: ∀a b c d,Af [a,b,c,d]=[(a,b),(b,c),(c,d)]:=λ_ _ _ _=>rfl;rw[g] at e p1 p2 p3 p4;simp only[wt_cons,wt_nil] at e p1 p2 p3 p4;exact xZ e p1 p2 p3 p4
theorem mF(hs: ∀i j,M i j=M j i)(hS:Bx M){a b c d f:Nat}(h: ∀x,x∈[a,b,c,d,f]↔x < n):pot M n (aN n)*5<=Ax M [a,b,c,d,f]*4:=by
 have e:Ax M [a,b,c,d,f]=M f a+wt M (Af [a,b,c,d,f]):=G7 (s:=[a,b,c,d]) rfl;have h2: ∀x,x∈[b,c,d,f,a]↔x < n:=λx=>(Ga (r:=[b,c,d,f])).trans (h x);have h3: ∀x,x∈[c,d,f,a,b]↔x < n:=λx=>(Ga (r:=[c,d,f,a])).trans (h2 x);have h4: ∀x,x∈[d,f,a,b,c]↔x < n:=λx=>(Ga (r:=[d,f,a,b])).trans (h3 x);have p1:=Ej hs hS h (g0J _ _);have p2:=Ej hs hS h2 (g0J _ _);have p3:=Ej hs hS h3 (g0J _ _);have p4:=Ej hs hS h4 (g0J _ _);have p5:=Ej hs hS (l:=[f,a,b,c,d]) (λx=>(Ga (r:=[f,a,b,c])).trans (h4 x)) (g0J _ _);clear h h2 h3 h4;have g: ∀a b c d f,Af [a,b,c,d,f]=[(a,b),(b,c),(c,d),(d,f)]:=λ_ _ _ _ _=>rfl;rw[g] at e p1 p2 p3 p4 p5;simp only[wt_cons,wt_nil] at e p1 p2 p3 p4 p5;exact yA e p1 p2 p3 p4 p5
theorem fU(h0: ∀i,M i i=0)(ht: ∀i j k,M i k<=M i j+M j k){p:Nat->Bool}{a:Nat}(hp:p a=true)(v:List Nat): ∀x,(v++[x]).head? =some a->∃s y,(v++[x]).filter p=s++[y]/\wt M (Af (s++[y]))+M y x<=wt M (Af (v++[x])):=by
 induction v using snoc_ind with
 | h0=>
  intro x hx;have:x=a:=by simpa using hx
  clear ht hx;subst this;refine⟨[],x,by simp[hp],?_⟩;have:Af ([]++[x])=[]:=rfl;rw[this,wt_nil,h0];exact Xh
 | h1 v z ih=>
  intro x hx;clear hp;have hh:(v++[z]++[x]).head? =(v++[z]).head? :=by cases v <;> rfl
  refine x22 (ih z (hh▸hx)) ?_;intro s y e1 e3;rw[gone_snoc,wt_app,wt_one,g1G,e1];have t1:=ht y z x;clear ht ih hx hh e1;by_cases hpx:p x=true
  ·refine⟨s++[y],x,by simp[hpx],?_⟩
   rw[gone_snoc,wt_app,wt_one,h0];exact Xi e3 t1
  ·refine⟨s,y,by simp[hpx],Q386 e3 t1⟩
theorem round_close{a:Nat}{r:List Nat}:Ax M (a::r)=wt M (Af (a::r++[a])):=by
 rcases g1A (a::r) with h|⟨s,y,h⟩
 ·cases h
 ·rw[g1B] at h
  have hh:(s++[y]).head? =some a:=by rw[<-h];rfl
  rw[h,gone_snoc,wt_app,wt_one,G7 hh];exact Xm
theorem round_turn{a:Nat}{r:List Nat}:Ax M (a::r)=Ax M (r++[a]):=by
 cases r with
 | nil=>rfl
 | cons b r=>
  have e:b::r++[a]=b::(r++[a]):=rfl;rw[e,round_close,round_close];have e2:Af (a::b::r++[a])=(a,b)::Af (b::r++[a]):=rfl;have e3:Af (b::(r++[a])++[b])=Af (b::r++[a])++[(a,b)]:=gone_snoc (s:=b::r);rw[e2,e3,wt_cons,wt_app,wt_one];dsimp only;exact Xm
theorem Uj: ∀(u w:List Nat),Ax M (u++w)=Ax M (w++u)
 | [],w=>by simp
 | a::u,w=>by
  have e:a::u++w=a::(u++w):=rfl;rw[e,round_turn,g2C,Uj u (w++[a])];simp
theorem mI(h0: ∀i,M i i=0)(ht: ∀i j k,M i k<=M i j+M j k){p:Nat->Bool}{a:Nat}{r:List Nat}(hp:p a=true):Ax M ((a::r).filter p)<=Ax M (a::r):=by
 refine x22 (fU (M:=M) h0 ht hp (a::r) a rfl) ?_;intro s y e1 e3;have e4:(a::r++[a]).filter p=(a::r).filter p++[a]:=by rw[g1G];simp[hp]
 rw[e4] at e1;have e5:(a::r).filter p=a::r.filter p:=by simp[hp]
 refine x02 (List.append_inj' e1 rfl) ?_;intro es ey;have:a=y:=by simpa using ey
 clear ht hp e1 e4 ey;subst this;rw[round_close (r:=r),e5,round_close,<-e5,es];rw[h0] at e3;exact vK e3
theorem Ik(hS:Bx M): ∀G:List (Nat×Nat),0<=wt M G
 | []=>g3X _
 | e::G=>by rw[wt_cons];have:=hS e.1 e.2;have:=Ik hS G;exact yB ‹_› this
theorem Ja(hs: ∀i j,M i j=M j i){x0 x1 a b:Nat}(ha:a=x0\/a=x1)(hb:b=x0\/b=x1)(n:a≠b):M a b=M x0 x1:=
 ha.elim (λe=>(hb.resolve_left λz=>n (e.trans z.symm))▸e▸rfl) λe=>(hb.resolve_right λz=>n (e.trans z.symm))▸e▸hs a b
theorem Jb(hs: ∀i j,M i j=M j i){m:Int}{x0 x1 x2 x3 b c d:Nat}(m1:m<=M x0 x1+M x2 x3)(m2:m<=M x0 x2+M x1 x3)(m3:m<=M x0 x3+M x1 x2)(hb:b=x1\/b=x2\/b=x3)(hc:c=x1\/c=x2\/c=x3)(hd:d=x1\/d=x2\/d=x3)(n1:b≠c)(n2:b≠d)(n3:c≠d):m<=M x0 b+M c d:=by
 refine hb.elim (λe=> ?_) λhb=>hb.elim (λe=> ?_) λe=> ?_
 ·rw[Ja hs (hc.resolve_left λz=>n1 (e.trans z.symm)) (hd.resolve_left λz=>n2 (e.trans z.symm)) n3,e];exact m1
 ·rw[Ja hs (hc.imp_right λh=>h.resolve_left λz=>n1 (e.trans z.symm)) (hd.imp_right λh=>h.resolve_left λz=>n2 (e.trans z.symm)) n3,e];exact m2
 ·rw[Ja hs (hc.imp_right λh=>h.resolve_right λz=>n1 (e.trans z.symm)) (hd.imp_right λh=>h.resolve_right λz=>n2 (e.trans z.symm)) n3,e];exact m3
theorem Pn(hs: ∀i j,M i j=M j i){m:Int}{x0 x1 x2 x3 a b c d:Nat}(m1:m<=M x0 x1+M x2 x3)(m2:m<=M x0 x2+M x1 x3)(m3:m<=M x0 x3+M x1 x2)
  (ha:a=x0\/a=x1\/a=x2\/a=x3) (hb:b=x0\/b=x1\/b=x2\/b=x3) (hc:c=x0\/c=x1\/c=x2\/c=x3) (hd:d=x0\/d=x1\/d=x2\/d=x3)
  (n1:a≠b) (n2:a≠c) (n3:a≠d) (n4:b≠c) (n5:b≠d) (n6:c≠d) (he:x0=a\/x0=b\/x0=c\/x0=d):m<=M a b+M c d:=by
 refine he.elim (λe=> ?_) λhe=>he.elim (λe=> ?_) λhe=>he.elim (λe=> ?_) λe=> ?_
 ·rw[<-e] at n1 n2 n3 ⊢;exact Jb hs m1 m2 m3 (hb.resolve_left n1.symm) (hc.resolve_left n2.symm) (hd.resolve_left n3.symm) n4 n5 n6
 ·rw[<-e] at n1 n4 n5 ⊢;rw[hs a x0];exact Jb hs m1 m2 m3 (ha.resolve_left n1) (hc.resolve_left n4.symm) (hd.resolve_left n5.symm) n2 n3 n6
 ·rw[<-e] at n2 n4 n6 ⊢;rw[g9D];exact Jb hs m1 m2 m3 (hd.resolve_left n6.symm) (ha.resolve_left n2) (hb.resolve_left n4) n3.symm n5.symm n1
 ·rw[<-e] at n3 n5 n6 ⊢;rw[g9D,hs c x0];exact Jb hs m1 m2 m3 (hc.resolve_left n6) (ha.resolve_left n3) (hb.resolve_left n5) n2.symm n4.symm n1
theorem in2{a x y:Nat}(h:a∈[x,y]):a=x\/a=y:=(bM.1 h).imp_right aK.1
theorem in4{a x y z w:Nat}(h:a∈[x,y,z,w]):a=x\/a=y\/a=z\/a=w:=(bM.1 h).imp_right λh=>(bM.1 h).imp_right in2
theorem nd4{a b c d:Nat}(h:[a,b,c,d].Nodup):(a≠b/\a≠c/\a≠d)/\(b≠c/\b≠d)/\c≠d:=by simpa[g1I] using h
theorem wt2{a b c d:Nat}:wt M [(a,b),(c,d)]=M a b+M c d:=by rw[wt_cons,wt_one]
theorem mY(hs: ∀i j,M i j=M j i)(hS:Bx M)(h0: ∀i,M i i=0)(ht: ∀i j k,M i k<=M i j+M j k){ks o:List Nat}{m:Int}(hk:ks.Nodup)(ho:o.Nodup)(hsub: ∀x∈o,x∈ks)(hks:ks≠[])(hev:o.length % 2=0)(h5:o.length<=5)
  (hmin: ∀P∈Aq 5 (o.map fun(k:Nat)=>(k:Int)),m<=wt M (P.map Am)):2*m<=Ax M ks:=by
 cases o with
 | nil=>
  have h1:=hmin [] (.head _);have h1:m<=0:=h1;clear hs h0 ht hk ho hsub hmin;obtain⟨a,r,rfl⟩: ∃a r,ks=a::r:=by
   clear hS;cases ks with
   | nil=>exact absurd rfl hks
   | cons a r=>exact⟨a,r,rfl⟩
  rw[round_close];have:=Ik hS (Af (a::r++[a]));exact vM this h1
 | cons x0 o=>
  clear hS;obtain⟨u,w,rfl⟩:=List.append_of_mem (hsub x0 (.head _));rw[Uj];have h1:=mI (M:=M) h0 ht (p:=λx=>decide (x∈x0::o)) (a:=x0) (r:=w++u) (by simp);have hp:((x0::(w++u)).filter λx=>decide (x∈x0::o)).Perm (x0::o):=by
   have hnd:(x0::(w++u)).Nodup:=(g8S (l₁:=u) (l₂:=x0::w)).nodup_iff.mp hk;refine(g2D (hnd.sublist g3S) ho).mpr λy=> ?_;rw[g3Q];constructor
   ·clear hs h0 ht ho hev h5 hmin hk hks hsub h1 hnd;rintro⟨_,h⟩;exact of_decide_eq_true h
   ·intro h
    refine⟨?_,decide_eq_true h⟩;have:=hsub y h;exact(g8S (l₁:=u) (l₂:=x0::w)).subset this
  have h2:x0::w++u=x0::(w++u):=rfl;rw[h2];clear h0 ht hk hsub;generalize (x0::(w++u)).filter (λx=>decide (x∈x0::o))=o' at*;refine g3E ?_ h1;clear h1 h2;have nat1: ∀a b:Nat,Am ((a:Int),(b:Int))=(a,b):=λa b=>rfl;have hl1:o.length=1\/o.length=3:=by simp at hev h5;exact pi1 hev h5
  rcases hl1 with hl1|hl1
  ·obtain⟨x1,rfl⟩: ∃x1,o=[x1]:=by
    exact g8N.1 hl1
   have m1:m<=M x0 x1+0:=hmin [((x0:Nat),(x1:Nat))] (.head _);have hl:=hp.length_eq;clear nat1 hmin;obtain⟨a,b,rfl⟩: ∃a b,o'=[a,b]:=by
    exact l2 hl
   ·skip
    have e:Ax M [a,b]=M b a+wt M (Af [a,b]):=G7 (s:=[a]) rfl;have g:Af [a,b]=[(a,b)]:=rfl;rw[g,wt_one] at e;have ha:a=x0\/a=x1:=in2 (hp.subset (.head _));have hb:b=x0\/b=x1:=in2 (hp.subset (.tail _ (.head _)));have hn:a≠b:=by simpa using hp.nodup_iff.mpr ho
    rw[e,hs b a,Ja hs ha hb hn];exact vN m1
  ·obtain⟨x1,x2,x3,rfl⟩: ∃x1 x2 x3,o=[x1,x2,x3]:=by
    exact l3 hl1
   have ee:Aq 5 ([x0,x1,x2,x3].map fun(k:Nat)=>(k:Int))=[[((x0:Int),(x1:Int)),(x2,x3)],[((x0:Int),(x2:Int)),(x1,x3)],[((x0:Int),(x3:Int)),(x1,x2)]]:=rfl;rw[ee] at hmin;have m1:m<=M x0 x1+M x2 x3:=wt2▸hmin [((x0:Int),(x1:Int)),(x2,x3)] (.head _);have m2:m<=M x0 x2+M x1 x3:=wt2▸hmin [((x0:Int),(x2:Int)),(x1,x3)] (.tail _ (.head _));have m3:m<=M x0 x3+M x1 x2:=wt2▸hmin [((x0:Int),(x3:Int)),(x1,x2)] (.tail _ (.tail _ (.head _)));clear hmin ee;have hl:=hp.length_eq;clear nat1;obtain⟨a,b,c,d,rfl⟩: ∃a b c d,o'=[a,b,c,d]:=by
    exact l4 hl
   ·skip
    have e:Ax M [a,b,c,d]=M d a+wt M (Af [a,b,c,d]):=G7 (s:=[a,b,c]) rfl;have g:Af [a,b,c,d]=[(a,b),(b,c),(c,d)]:=rfl;rw[g] at e;simp only[wt_cons,wt_nil] at e;rw[e];have ha:a=x0\/a=x1\/a=x2\/a=x3:=in4 (hp.subset (.head _));have hb:b=x0\/b=x1\/b=x2\/b=x3:=in4 (hp.subset (.tail _ (.head _)));have hc:c=x0\/c=x1\/c=x2\/c=x3:=in4 (hp.subset (.tail _ (.tail _ (.head _))));have hd:d=x0\/d=x1\/d=x2\/d=x3:=in4 (hp.subset (.tail _ (.tail _ (.tail _ (.head _)))));have hn:=hp.nodup_iff.mpr ho;have he:x0=a\/x0=b\/x0=c\/x0=d:=in4 (hp.symm.subset (.head _));have n1:(a≠b/\a≠c/\a≠d)/\(b≠c/\b≠d)/\c≠d:=nd4 hn;have k1:=Pn hs m1 m2 m3 ha hb hc hd n1.1.1 n1.1.2.1 n1.1.2.2 n1.2.1.1 n1.2.1.2 n1.2.2 he;have k2:=Pn hs m1 m2 m3 hd ha hb hc n1.1.2.2.symm n1.2.1.2.symm n1.2.2.symm n1.1.1 n1.1.2.1 n1.2.1.1 (he.elim (λe=> .inr (.inl e)) λhe=>he.elim (λe=> .inr (.inr (.inl e))) λhe=>he.elim (λe=> .inr (.inr (.inr e))) .inl);clear hs m1 m2 m3 ha hb hc hd n1 he hn hp ho;exact vO k2 k1
end
end
section
noncomputable abbrev pV(p:Nat×Nat):V:= .tup [strV p.1,strV p.2]
noncomputable def pK(p:Nat×Nat):List Nat×List Nat:=(chars (nmS false p.1),chars (nmS false p.2))
theorem pV_K(p:Nat×Nat):Fy (pV p)=some (pK p):=rfl
theorem Rz: ∀G:List (Nat×Nat),(G.map pV).mapM Fy=some (G.map pK)
 | []=>rfl
 | p::G=>by rw[cG,g2X,pV_K,Rz G];rfl
theorem dC{p:Nat×Nat}{G:List V}:intsV (pV p::G)=none:=rfl
theorem oJ{a b:List (List Nat×List Nat)}(p:a.Perm b):isort ltPair a=isort ltPair b:=
 Vi ((Kz a).trans p) (Vs (lt:=ltPair) (λa b c h1 h2=>g2F (O:=Ep) h1 h2) (λa b h=>g1W (O:=Ep) h) a)
theorem Um{hp:HP}{i:Nat}{G:List (Nat×Nat)}{Q:V->HP->Prop}(e:lget hp i=some (G.map pV))(h2:2<=G.length)(h64:G.length < 64)(q:Q (.lst hp.length) (hp++[.l ((isort ltPair (G.map pK)).map Be)])):OpW (builtin (.builtin "sorted") [.lst i] hp) Q:=by
 refine .some (a:= .lst hp.length) (b:=hp++[.l ((isort ltPair (G.map pK)).map Be)]) ?_ q;show (lget hp i).bind (λxs=>if(2<=xs.length && xs.length < 64)=true then(Eg xs).bind λys=>alloc hp ys else none)=_;rw[e];show (if(2<=(G.map pV).length && (G.map pV).length < 64)=true then _ else none)=_;rw[if_pos (by simp;exact Xn h64 h2)];have e2:Eg (G.map pV)=some ((isort ltPair (G.map pK)).map Be):=by
  dsimp only[Eg];clear e h64 q;obtain⟨p,r,rfl⟩: ∃p r,G=p::r:=by
   cases G with
   | nil=>exact absurd ‹_› (g7O _)
   | cons p r=>exact⟨p,r,rfl⟩
  rw[cG,dC];rw[<-cG,Rz];rfl
 rw[e2];show alloc hp _=_;dsimp only[alloc];rw[if_pos (by rw[aO,(Kz _).length_eq,aO];exact Q66 h64 rfl)]
theorem Kp: ∀l:List Nat,Bb l l=true
 | []=>rfl
 | a::l=>by dsimp only[Bb];rw[nbeq_self];exact Kp l
theorem Sy: ∀ps:List (List Nat×List Nat),eqBs (ps.map Be) (ps.map Be)=true
 | []=>rfl
 | p::ps=>by
  show (eqB (Be p) (Be p) && eqBs (ps.map Be) (ps.map Be))=true;rw[Sy ps];show ((Bb _ _ && (Bb _ _ && true)) && true)=true;rw[Kp,Kp];rfl
theorem gN{h:HP}{i j:Nat}{ps:List (List Nat×List Nat)}(h1:lget h i=some (ps.map Be))(h2:lget h j=some (ps.map Be)):Bd .ne (.lst i) (.lst j) h=some false:=Kb h1 h2 (Ek (λ_=>rfl) ps) (Ek (λ_=>rfl) ps) (Sy ps)
theorem Rh: ∀ns:List Int,eqBs (ns.map V.int) (ns.map V.int)=true
 | []=>rfl
 | n::ns=>by
  show (Ap n n && eqBs (ns.map V.int) (ns.map V.int))=true;rw[Rh ns,beqInt_eq];simp
theorem M9{h:HP}{i j:Nat}{ns:List Int}(h1:lget h i=some (ns.map .int))(h2:lget h j=some (ns.map .int)):Bd .ne (.lst i) (.lst j) h=some false:=Kb h1 h2 (Ek (λ_=>rfl) ns) (Ek (λ_=>rfl) ns) (Rh ns)
theorem sorted_ints{hp:HP}{i:Nat}{ns ms:List Int}{Q:V->HP->Prop}(e:lget hp i=some (ns.map .int))(h2:2<=ns.length)(h64:ns.length < 64)(p:ms.Perm ns)(s:ms.Pairwise (· <= ·))(q:Q (.lst hp.length) (hp++[.l (ms.map .int)])):OpW (builtin (.builtin "sorted") [.lst i] hp) Q:=by
 refine .some (a:= .lst hp.length) (b:=hp++[.l (ms.map .int)]) ?_ q;show (lget hp i).bind (λxs=>if(2<=xs.length && xs.length < 64)=true then(Eg xs).bind λys=>alloc hp ys else none)=_;rw[e];show (if(2<=(ns.map V.int).length && (ns.map V.int).length < 64)=true then _ else none)=_;rw[if_pos (by simp;exact Xn h64 h2)];have e2:Eg (ns.map V.int)=some (ms.map .int):=by
  dsimp only[Eg];rw[Kv (λa=>a)];show some ((isort _ (ns.map λa=>a)).map V.int)=_;rw[gCH,Ux p s]
 rw[e2];show alloc hp _=_;dsimp only[alloc];rw[if_pos (by rw[aO,p.length_eq];exact Q66 h64 rfl)]
section
variable {d:Nat} {U:Rho} {hp:HP} {Q:V->HP->Prop} {C:Rho->HP->Prop}
theorem fK{a b c:X}(h:Wev d a U hp λv h1=>v= .bool true/\Wev d b U h1 λv h2=>v= .bool true/\Wev d c U h2 Q):Wev d (.land [a,b,c]) U hp Q:=by
 refine .step (λ_=>rfl) (.bind2 (f:=λr=>r.ev d a U hp) (h.mono λv h1 h=> ?_));refine x02 h ?_;clear h;intro z0 h;subst z0;refine .bind2 (f:=λr=>r.ev d b U h1) (h.mono λv h2 h=> ?_);refine x02 h ?_;clear h;intro z0 h;subst z0;exact h
theorem BX{elt:X}{x:Nat}{ifs:List X}{i acc:Nat}{us ys0:List V}(Inv:Nat->List V->HP->Prop)(hu:lget hp i=some us)(h0:Inv 0 ys0 hp)(hacc: ∀k ys h,Inv k ys h->lget h acc=some ys/\lget h i=some us)
  (step: ∀k ys h v,us[k]? =some v->Inv k ys h->E5 d (rset U x v) ifs h λok h1=>
   (ok=true->Wev d elt (rset U x v) h1 λu h2=>lget h2 acc=some ys/\ys.length < 200/\Inv (k+1) (ys++[u]) (h2.set acc (.l (ys++[u]))))/\(ok=false->Inv (k+1) ys h1))
  (q: ∀U ys h,Inv us.length ys h->C U h):Wcl d elt (.one x) ifs [] (.lst i 0) acc U hp C:=by
 have go: ∀(m k:Nat) U' ys h,k+m=us.length->(∀v,rset U' x v=rset U x v)->Inv k ys h->Wcl d elt (.one x) ifs [] (.lst i k) acc U' h C:=by
  intro m;clear hu h0;induction m with
  | zero=>
   intro k U' ys h hk _ hi;refine Fu ?_ (q U' ys h (by rw[<-hk];exact hi));show (lget h i).bind _=_;rw[(hacc _ _ _ hi).2];clear hacc step q hi;show (match us[k]? with|some v=>_|none=>_)=_;rw[g0H (Ip hk.symm)]
  | succ m ih=>
   intro k U' ys h hk hU hi;refine x11 (show ∃a,us[k]? =some a from ⟨_,aD (D9 hk)⟩) ?_;intro uk hv;refine Gw (v:=uk) (j':= .lst i (k+1)) (U1:=rset U x uk) ?_ (by show some (rset U' x _)=_;rw[hU]) ((step k ys h _ hv hi).mono λok h1' z=>⟨λhok=>((z.1 hok).mono λu h2 z=> ?_),λhok=> ?_⟩)
   ·show (lget h i).bind _=_
    rw[(hacc _ _ _ hi).2];clear hacc step q ih hU hi;show (match us[k]? with|some v=>_|none=>_)=_;rw[hv]
   ·refine x03 z ?_;clear z;intro z1 z2 z3
    exact⟨ys,z1,z2,ih (k+1) (rset U x uk) _ _ (Cn hk) (λv=>Et) z3⟩
   ·exact ih (k+1) (rset U x uk) _ _ (Cn hk) (λv=>Et) (z.2 hok)
 exact go us.length 0 U ys0 hp (Ff) (λ_=>rfl) h0
theorem BZ{elt:X}{x y:Nat}{i acc:Nat}{us:List (V×V)}{ys0:List V}(hxy:x≠y)(Inv:Nat->List V->HP->Prop)(h0:Inv 0 ys0 hp)(hacc: ∀k ys h,Inv k ys h->lget h acc=some ys/\lget h i=some (us.map λp=> .tup [p.1,p.2]))
  (step: ∀k ys h v,us[k]? =some v->Inv k ys h->Wev d elt (rset (rset U x v.1) y v.2) h λu h2=>lget h2 acc=some ys/\ys.length < 200/\Inv (k+1) (ys++[u]) (h2.set acc (.l (ys++[u]))))
  (q: ∀U ys h,Inv us.length ys h->C U h):Wcl d elt (.many [x,y]) [] [] (.lst i 0) acc U hp C:=by
 have go: ∀(m k:Nat) U' ys h,k+m=us.length->(∀a b,rset (rset U' x a) y b=rset (rset U x a) y b)->Inv k ys h->Wcl d elt (.many [x,y]) [] [] (.lst i k) acc U' h C:=by
  intro m;clear h0;induction m with
  | zero=>
   intro k U' ys h hk _ hi;refine Fu ?_ (q U' ys h (by rw[<-hk];exact hi));show (lget h i).bind _=_;rw[(hacc _ _ _ hi).2];clear hacc step q hi;show (match (us.map λp=>V.tup [p.1,p.2])[k]? with|some v=>_|none=>_)=_;rw[g0H (by simp;exact Ip hk.symm)]
  | succ m ih=>
   intro k U' ys h hk hU hi;refine x11 (show ∃a,us[k]? =some a from ⟨_,aD (D9 hk)⟩) ?_;intro uk hv;clear q;refine Gw (v:= .tup [uk.1,uk.2]) (j':= .lst i (k+1)) (U1:=rset (rset U x uk.1) y uk.2) ?_ (by show some (rset (rset U' x _) y _)=_;rw[hU]) (Bs ⟨λ_=>((step k ys h _ hv hi).mono λu h2 z=> ?_),λz=>(by cases z)⟩)
   ·show (lget h i).bind _=_
    rw[(hacc _ _ _ hi).2];have e3:(us.map λp=>V.tup [p.1,p.2])[k]? =some (.tup [uk.1,uk.2]):=by rw[aL,hv];rfl
    clear hacc step ih hU hi hv;show (match (us.map λp=>V.tup [p.1,p.2])[k]? with|some v=>_|none=>_)=_;rw[e3]
   ·refine x03 z ?_;clear z;intro z1 z2 z3
    refine⟨ys,z1,z2,ih (k+1) _ _ _ (Cn hk) (λa b=> ?_) z3⟩;rw[Uk hxy,Et]
 exact go us.length 0 U ys0 hp (Ff) (λ_ _=>rfl) h0
end
end
section
noncomputable def Di(P:List (Int×Int)):List Int:=P.flatMap λp=>[p.1,p.2]
theorem hR{p q:Int×Int}:peq (Al p) (Al q)=some (decide (p.1=q.1) && decide (p.2=q.2)):=by
 show some (Ap p.1 q.1 && (Ap p.2 q.2 && true))=_;rw[beqInt_eq,beqInt_eq,g8C]
theorem lt1_pair{p q:Int×Int}:lt1 (Al p) (Al q)=some (cond (decide (p.1=q.1)) (cond (decide (p.2=q.2)) false (decide (p.2 < q.2))) (decide (p.1 < q.1))):=by
 show (match some (Ap p.1 q.1) with
  | none=>none
  | some true=>(match some (Ap p.2 q.2) with
   | none=>none
   | some true=>some false
   | some false=>some (decide (p.2 < q.2)))
  | some false=>some (decide (p.1 < q.1)))=_
 rw[beqInt_eq,beqInt_eq];cases decide (p.1=q.1) <;> cases decide (p.2=q.2) <;> rfl
theorem Rx: ∀P Q:List (Int×Int),Bz peq lt1 (P.map Al) (Q.map Al)=some (decide (Di P < Di Q))
 | [],[]=>rfl
 | [],q::Q=>congrArg some (decide_eq_true (List.nil_lt_cons _ _)).symm
 | p::P,[]=>congrArg some (decide_eq_false (List.not_lt_nil _)).symm
 | p::P,q::Q=>by
  show (match peq (Al p) (Al q) with
   | none=>none
   | some true=>Bz peq lt1 (P.map Al) (Q.map Al)
   | some false=>lt1 (Al p) (Al q))=some (decide (p.1::p.2::Di P < q.1::q.2::Di Q))
  rw[hR,lt1_pair,Rx P Q,cons_dec,cons_dec];cases decide (p.1=q.1) <;> cases decide (p.2=q.2) <;> rfl
theorem Ut: ∀P Q:List (Int×Int),eqBs (P.map Al) (Q.map Al)=decide (P=Q)
 | [],[]=>rfl
 | [],_::_=>rfl
 | _::_,[]=>rfl
 | p::P,q::Q=>by
  show ((Ap p.1 q.1 && (Ap p.2 q.2 && true)) && eqBs (P.map Al) (Q.map Al))=_;rw[Ut P Q,beqInt_eq,beqInt_eq,g8C,<-gAX,<-gAX];exact decide_eq_decide.2 ⟨λh=>by rw[g9R h.1.1 h.1.2,h.2],λh=>⟨⟨congrArg Prod.fst (g3K h).1,congrArg Prod.snd (g3K h).1⟩,(g3K h).2⟩⟩
theorem Tz(P:List (Int×Int)):(P.map Al).all (plain 3)=true:=by
 rw[bB];intro v hv;refine x12 (bI.mp hv) ?_;intro p _ z2;subst z2;rfl
theorem iU{h:HP}{s s':Int}{i j:Nat}{P Q:List (Int×Int)}(h1:lget h i=some (P.map Al))(h2:lget h j=some (Q.map Al)):vlt h (.tup [.int s,.lst i]) (.tup [.int s',.lst j])=some (decide (s::Di P < s'::Di Q)):=by
 have e1:veq h (.lst i) (.lst j)=some (decide (P=Q)):=Ka h1 h2 (Tz P) (Tz Q) (Ut P Q);have e2:lt2 h (.lst i) (.lst j)=some (decide (Di P < Di Q)):=by
  clear e1;show ((lget h i).bind λa=>(lget h j).bind λb=>Bz peq lt1 a b)=_;rw[h1,h2];exact Rx P Q
 clear h1 h2;show (match some (Ap s s') with
  | none=>none
  | some true=>(match veq h (.lst i) (.lst j) with
   | none=>none
   | some true=>some false
   | some false=>lt2 h (.lst i) (.lst j))
  | some false=>some (decide (s < s')))=_
 rw[beqInt_eq,e1,e2,cons_dec];clear e1 e2;by_cases hP:P=Q
 ·subst hP
  rw[decide_eq_true rfl,decide_eq_false (g5K (Di P))];cases decide (s=s') <;> rfl
 ·rw[decide_eq_false hP]
  cases decide (s=s') <;> rfl
noncomputable def Pa:V->List Int
 | .tup [.int a,.int b]=>[a,b]
 | _=>[]
noncomputable def Ez(H:HP):V->List Int
 | .tup [.int s,.lst j]=>s::(match lget H j with
  | some xs=>xs.flatMap Pa
  | none=>[])
 | _=>[]
theorem fG(P:List (Int×Int)):(P.map Al).flatMap Pa=Di P:=by rw[gAO];rfl
theorem Rr{H:HP}{s:Int}{j:Nat}{P:List (Int×Int)}(e:lget H j=some (P.map Al)):Ez H (.tup [.int s,.lst j])=s::Di P:=by
 show s::(match lget H j with
  | some xs=>xs.flatMap Pa
  | none=>[])=_
 rw[e];dsimp only;rw[fG]
noncomputable def ItP(H:HP)(i:Nat)(v:V):Prop:= ∃(s:Int) (j:Nat) (P:List (Int×Int)),v= .tup [.int s,.lst j]/\lget H j=some (P.map Al)/\j≠i
theorem Te{H hp:HP}{i:Nat}(K:Aa [i] H hp): ∀a b ys,ItP H i a->ItP H i b->vlt (hp.set i (.l ys)) a b=some (Cp (Ez H) a b):=by
 rintro a b ys ⟨s,j,P,rfl,e1,n1⟩ ⟨s',j',P',rfl,e2,n2⟩;unfold Cp;rw[Rr e1,Rr e2];refine iU ?_ ?_
 ·rw[Cm (g0F n1)];exact K.lget e1 (mm4 ‹_›)
 ·rw[Cm (g0F n2)];exact K.lget e2 (mm4 ‹_›)
theorem gJ{H:HP}{s s':Int}{j j':Nat}(h:Cp (Ez H) (.tup [.int s',.lst j']) (.tup [.int s,.lst j])=false):s<=s':=by
 have h: ¬(s'::_:List Int) < s::_:=of_decide_eq_false h;by_cases z:s' < s
 ·exact absurd (g1X.mpr (.inl z)) h
 ·exact Wx (g1U.1 z)
end
section
section
variable {d:Nat} {U:Rho} {hp:HP} {Q:V->HP->Prop} {C:Rho->HP->Prop} {P:Fl->Rho->HP->Prop} {M:Nat->Nat->Int} {F n b i l:Nat} {L:List En}
theorem Us{k:Nat}:A6 (k+1) L=A6 k L++if(getA L k).length % 2=1 then [k] else []:=by
 unfold A6;rw[g0Y,g1G];congr 1;by_cases z:(getA L k).length % 2=1
 ·rw[if_pos z,g1H,z];rfl
 ·have z2:(getA L k).length % 2=0:=by exact pb z
  rw[if_neg z,g1H,z2];rfl
theorem Ks{k:Nat}:(A6 k L).length<=k:=by
 unfold A6;have:=g0P (λk=>aW ((getA L k).length % 2) 1) (aN k);simpa using this
theorem Yv(k:Lk hp i l L)(r46:rget U 46=some (.hdr i))(r62:rget U 62=some (.int (n:Nat)))(hn:n<=5)(q: ∀h',lget h' hp.length=some (natsV (A6 n L))->Lk h' i l L->Aa [] hp h'->Q (.lst hp.length) h'):
  Wev (d+2) (.comp [30,36] (.var 36) [(.g (.one 36) (.rng [(.var 62)]) [(.cmp .eq (.bin .mod (.app (.builtin "len") [(.met .getall (.var 46) [(.idx (.k (.str ⟨#[97,98,99,100,101]⟩)) (.var 36))])]) (.k (.int 2))) (.k (.int 1)))])]) U hp Q:=by
 have hi:=(aF.mp k.at_).1;have hl:=An k.get;refine G4 (a:=0) (c:=1) (n:=n) (λm ys h=>ys=natsV (A6 m L)/\lget h hp.length=some ys/\Lk h i l L/\Aa [] hp h) ?_ ⟨rfl,lget_push,k.keep (W:=[]) Aa.push (aA) (aA),Aa.push⟩ (λ_ _ _ z=>z.2.1) ?_ ?_
 ·walk_at"go";exact⟨rfl,Cb (Q30 hn rfl)⟩
 ·intro m ys h hm zz;refine x04 zz ?_;clear zz;intro z0 e k K;subst z0
  have e0:(0:Int)+(m:Int)*1=(m:Nat):=by exact mmS
  rw[e0];refine Cv ?_;walk_at"go";refine F9 rfl (g:=163) rfl ?_;walk_at"go";refine⟨i,l,rfl,k.at_,?_⟩;walk_at"go";refine Fv (u:=m) (Bw hm hn) ?_ ?_
  ·walk_at"go";exact⟨rfl,rfl⟩
  walk_at"go";refine N8 (up:=false) k (Bw hm hn) ?_;walk_at"go";refine Dy lget_push ?_;walk_at"go";rw[aO];refine OpW.some (a:= .int ((getA L m).length % 2:Nat)) rfl ?_;walk_at"go";have K2:Aa [] h (h++[O.l ((getA L m).map strV)]):=Aa.push;have e2:=K2.lget e (aA);have k2:=k.keep K2 (aA) (aA);have K3:=K.trans K2;generalize (h++[O.l ((getA L m).map strV)])=h2 at*;refine⟨_,Sg,λt=> ?_,λt=> ?_⟩
  ·have t:(getA L m).length % 2=1:=by have:=of_decide_eq_true t;exact vP (of_decide_eq_true t)
   refine Bs ⟨λ_=> ?_,λz=>(by cases z)⟩;walk_at"go";have hb:=An e2;have hdl:=Ks (L:=L) (k:=m);refine⟨e2,by simp[natsV];exact vQ hdl hm hn rfl,by rw[Us,if_pos t];simp[natsV],lget_set_self hb,k2.keep (W:=[hp.length]) (Aa.set (.head _)) (by simp;exact Co hi) (by simp;exact Co hl),?_⟩;have:Aa [hp.length] hp (h2.set hp.length (O.l (natsV (A6 m L)++[V.int (m:Nat)]))):=K3.nil.trans (Aa.set (.head _));exact this.drop (mm1)
  ·have t: ¬(getA L m).length % 2=1:=by have:=of_decide_eq_false t;exact vR (of_decide_eq_false t)
   exact⟨λz=>(by cases z),λ_=>⟨by rw[Us,if_neg t];simp,e2,k2,K3⟩⟩
 ·intro ys h zz;refine x04 zz ?_;clear zz;intro z0 e k K;subst z0
  exact q h e k K
theorem Tm{o:List Nat}{Ps:List (Int×Int)}(hP:Ps∈Aq 5 (o.map fun(k:Nat)=>(k:Int)))(ho:o.length<=5)(hev:o.length % 2=0):Ps=(Ps.map Am).map (λp=>((p.1:Int),(p.2:Int)))/\∀p∈Ps.map Am,p.1∈o/\p.2∈o:=by
 have fl:=Ok 5 _ Ps hP (by simpa using ho) (by simpa using hev);have hm: ∀p∈Ps,(∃a∈o,p.1=(a:Int))/\∃a∈o,p.2=(a:Int):=by
  intro p hp;have h1:=fl.subset (g0N.mpr ⟨p,hp,bN⟩);have h2:=fl.subset (g0N.mpr ⟨p,hp,aX _ bN⟩);refine x12 (bI.mp h1) ?_;intro a ha e1;refine x12 (bI.mp h2) ?_;intro c hc e2;exact⟨⟨a,ha,e1.symm⟩,⟨c,hc,e2.symm⟩⟩
 refine⟨?_,λp hp=> ?_⟩
 ·rw[cB]
  conv=>lhs;rw[<-g9J Ps]
  apply g0V;intro p hp;obtain⟨⟨a,_,e1⟩,⟨c,_,e2⟩⟩:=hm p hp;show p=((p.1.toNat:Int),(p.2.toNat:Int));rw[e1,e2];exact g9R e1 e2
 ·refine x12 (bI.mp hp) ?_;intro x hx z2;subst z2
  obtain⟨⟨a,ha,e1⟩,⟨c,hc,e2⟩⟩:=hm x hx;show x.1.toNat∈o/\x.2.toNat∈o;rw[e1,e2];exact⟨ha,hc⟩
theorem hZ{ps:List (Nat×Nat)}{j:Nat}(hM:Mat hp F n b M)(hS:Bx M)(r43:rget U 43=some (.lst F))(r65:rget U 65=some (.lst j))(hj:lget hp j=some ((ps.map λp=>((p.1:Int),(p.2:Int))).map Al))(hb: ∀p∈ps,p.1 < n/\p.2 < n)(hl:ps.length<=10)(hbl:b<=hp.length)
  (q: ∀h',Aa [] hp h'->Q (.int (wt M ps)) h'):
  Wev d (.app (.builtin "sum") [(.comp [30,44,45] (.idx (.idx (.var 43) (.var 44)) (.var 45)) [(.g (.many [44,45]) (.ex (.var 65)) [])])]) U hp Q:=by
 walk_at"go";have hj':lget hp j=some ((ps.map λp=>(V.int (p.1:Nat),V.int (p.2:Nat))).map λp=> .tup [p.1,p.2]):=by rw[hj,cB,cB];rfl
 refine Ss (i:=j) (us:=ps.map λp=>(V.int (p.1:Nat),V.int (p.2:Nat))) ((g4S _).symm) (λk ys h=>ys=((ps.take k).map λp=>M p.1 p.2).map .int/\lget h hp.length=some ys/\Aa [] hp h) ?_ hj' ⟨rfl,lget_push,Aa.push⟩ ?_ ?_ ?_
 ·walk_at"go";exact⟨rfl,rfl⟩
 ·intro k ys h zz;refine x03 zz ?_;clear zz;intro _ e K
  exact⟨e,K.lget hj' (aA)⟩
 ·intro k ys h v hv zz;refine x03 zz ?_;clear zz;intro z0 e K;subst z0
  rw[aL] at hv;refine x12 (bP.mp hv) ?_;intro p hp1 z2;subst z2;have hk:=(aF.mp hp1).1;have hb:=hb p (aU hp1);refine Hw (I:=p.1) (J:=p.2) (hM.keep K (by simp)) ?_ ?_ ?_ hb.1 hb.2 ?_
  ·walk_at"go";exact⟨rfl,rfl⟩
  ·walk_at"go";exact⟨rfl,rfl⟩
  ·walk_at"go";exact⟨rfl,rfl⟩
  have hh:=An e;refine⟨e,by simp;exact Xo hl rfl,?_,lget_set_self hh,?_⟩
  ·rw[bU,hp1];exact G9 rfl
  ·have:Aa [hp.length] hp (h.set hp.length (O.l (((ps.take k).map λp=>M p.1 p.2).map V.int++[V.int (M p.1 p.2)]))):=K.nil.trans (Aa.set (.head _))
   exact this.drop (mm1)
 ·intro ys h zz;refine x03 zz ?_;clear zz;intro z0 e K;subst z0
  rw[aO,cE] at e;walk_at"go";refine Nf e (λa ha=> ?_) ?_
  ·refine x12 (bI.mp ha) ?_;intro p _ z2;subst z2
   have:=hS p.1 p.2;exact We this.1 this.2
  ·exact q h K
end
end
section
theorem Tl: ∀(k:Nat) (xs:List Int),xs.length<=k->xs.length % 2=0->∃P,P∈Aq k xs
 | 0,_,_,_=>⟨[],.head _⟩
 | k+1,[],_,_=>⟨[],.head _⟩
 | k+1,a::r,h,h2=>by
  have hr:0 < r.length:=by simp at h2;exact pe h2
  obtain⟨P,hP⟩:=Tl k (r.eraseIdx 0) (by rw[g3H];simp[hr];simp at h;exact Lj h) (by rw[g3H];simp[hr];simp at h2;exact pf h2);refine⟨(a,r.getD 0 0)::P,?_⟩;show _∈(aN r.length).flatMap λj=>(Aq k (r.eraseIdx j)).map ((a,r.getD j 0):: ·);exact g0N.mpr ⟨0,bQ.mpr hr,bI.mpr ⟨P,hP,rfl⟩⟩
structure LNm(U:Rho)(F i n:Nat)(c:Int):Prop where
 r43:rget U 43=some (.lst F)
 r46:rget U 46=some (.hdr i)
 r62:rget U 62=some (.int (n:Nat))
 r63:rget U 63=some (.int c)
theorem LNm.set{U F i n c}(h:LNm U F i n c){x:Nat}{v:V}(hx:x≠43/\x≠46/\x≠62/\x≠63):LNm (rset U x v) F i n c:=
 ⟨(D0 (g0F hx.1)).trans h.r43,(D0 (g0F hx.2.1)).trans h.r46,(D0 (g0F hx.2.2.1)).trans h.r62,(D0 (g0F hx.2.2.2)).trans h.r63⟩
section
variable {d:Nat} {U:Rho} {hp:HP} {P:Fl->Rho->HP->Prop} {M:Nat->Nat->Int} {F n b i:Nat} {c:Int} {od:List Nat} {o:Nat}
theorem gK{rest:List S}(hM:Mat hp F n b M)(hS:Bx M)(hbl:b<=hp.length)(hn:n<=5)(nm:LNm U F i n c)(r64:rget U 64=some (.lst o))(ho:lget hp o=some (natsV od))(hod: ∀x∈od,x < n)(hl:od.length<=4)(hev:od.length % 2=0)
  (q: ∀U' h' m j Ps,LNm U' F i n c->rget U' 66=some (.int m)->rget U' 67=some (.lst j)->lget h' j=some (g7E Al Ps)->Ps∈Aq 5 (od.map fun(k:Nat)=>(k:Int))->m=wt M (Ps.map Am)->(∀P'∈Aq 5 (od.map fun(k:Nat)=>(k:Int)),m<=wt M (P'.map Am))->hp.length<=j->Aa [] hp h'->Wex (d+5) rest U' h' P):
  Wex (d+5) ((.assign (.one 0) (.list []))::
 (.for_ (.one 65) (.ex (.app (.ref 271) [(.var 64)])) [
  (.expr (.app (.ref 45) [(.var 0),(.tup [(.app (.builtin "sum") [(.comp [30,44,45] (.idx (.idx (.var 43) (.var 44)) (.var 45)) [(.g (.many [44,45]) (.ex (.var 65)) [])])]),(.var 65)])]))])::
 (.assign (.many [66,67]) (.app (.ref 52) [(.var 0)]))::rest) U hp P:=by
 have r43:=nm.r43;walk_at"go";refine⟨by simp,?_⟩;walk_at"go";refine Bu (Ck ?_);walk_at"go";have K1:Aa [] hp (hp++[O.l []]):=Aa.push;have hodv:natsV od=(od.map fun(k:Nat)=>(k:Int)).map V.int:=by unfold natsV;rw[cB];rfl
 refine mZ 4 d _ o (od.map fun(k:Nat)=>(k:Int)) _ (by simpa using hl) (Iu) (by rw[<-hodv];exact K1.lget ho (aA)) λr H hLV K2=> ?_;refine x15 hLV.ex ?_;intro ids e1 e2 e3 e4 e5;have e2:ids.length=(Aq 5 (od.map fun(k:Nat)=>(k:Int))).length:=by rw[aO] at e2;exact e2
 have hcnt:ids.length<=24:=by rw[e2];exact Oa 4 _ (by simpa using hl)
 refine⟨.lst r 0,it_lst e1,?_⟩;have eA:lget H hp.length=some []:=K2.lget lget_push (aA);have KH:=K1.trans K2;have hA:=An eA;have hlo: ∀id∈ids,hp.length+1<=id:=λid h=>by have:=e5 id h;simpa using this
 have hrl:hp.length+1<=r:=by have:=hLV.lo;simpa using this
 clear r64 ho K1 hodv hLV K2 e5;have hk: ∀k (h:k < ids.length),∃Pk,(Aq 5 (od.map fun(k:Nat)=>(k:Int)))[k]? =some Pk/\lget H ids[k]=some (Pk.map Al):=by
  intro k h;have h2:k < (Aq 5 (od.map fun(k:Nat)=>(k:Int))).length:=Q154 h e2.symm;refine⟨_,aD h2,?_⟩;have:=e3 (ids[k],((Aq 5 (od.map fun(k:Nat)=>(k:Int)))[k]).map Al) (by
   rw[g2G];refine⟨k,by simp;exact Xp h e2,by simp⟩)
  exact this
 clear e3;generalize hPP:Aq 5 (od.map fun(k:Nat)=>(k:Int))=PP at*;have itm: ∀p∈ids.zip PP,lget H p.1=some (p.2.map Al):=by
  intro p hp';clear hM hS nm hod r43 e1 eA KH hlo hPP q;obtain⟨k,hkl,e⟩:=g2G.mp hp';have hkl2:k < ids.length/\k < PP.length:=by rw[g4Y] at hkl;exact vU hkl
  refine x12 (hk k hkl2.1) ?_;intro Pk f1 f2;have hk2:=hkl2.2;rw[g4Q] at e;rw[<-e];have:PP[k]=Pk:=by rw[aD hk2] at f1;exact aB f1
  rw[this];exact f2
 refine Fw (xs:=ids.map V.lst) (λk U h=>LNm U F i n c/\rget U 0=some (.lst hp.length)/\Aa [hp.length] H h/\∃zs,lget h hp.length=some zs/\C9 (Cp (Ez H)) zs/\zs.Perm (((ids.zip PP).take k).map λp=>V.tup [.int (wt M (p.2.map Am)),.lst p.1])) ⟨nm.set (by decide),by walk_at"rg",.refl,[],eA,?_,.nil⟩ ?_ ?_ ?_
 ·intro k a b' _ ha;contradiction
 ·intro k U h zz;refine x04 zz ?_;clear zz;intro _ _ K _
  exact K.lget e1 (by simp;exact De hrl)
 ·clear hM hS hod e1 eA hk;rintro U h ⟨nm,r0,K,zs,hz1,hz2,hz3⟩
  clear r43;rw[g2R (by simp;exact vV)] at hz3;refine ex_cons (Oh ?_);walk_at"go";have hIt: ∀v∈zs,ItP H hp.length v:=by
   intro v hv;clear KH hPP q nm r0 K hz1 hz2;refine x12 (bI.mp (hz3.subset hv)) ?_;intro p hp1 z2;subst z2;refine⟨_,_,_,rfl,itm p hp1,?_⟩;have:=hlo p.1 (g0Z hp1).1;exact De this
  have hzl:zs.length<=24:=by rw[hz3.length_eq];simp;exact vW hcnt
  have hne:zs≠[]:=by
   clear KH hlo q itm nm r0 K hz1 hz2 hIt;rintro rfl;have h1:=hz3.length_eq;simp at h1;clear hz3;obtain⟨P0,hP0⟩:=Tl 5 (od.map fun(k:Nat)=>(k:Int)) (by simp;exact Q31 hl rfl) (by simpa using hev);rw[hPP] at hP0;have:=g1L hP0;exact yC e2 h1 this
  clear hPP r0;obtain⟨x0,xt,rfl⟩: ∃x xt,zs=x::xt:=by
   clear KH hlo q itm nm K hz1 hz2 hz3 hIt;cases zs with
   | nil=>exact absurd rfl hne
   | cons x xt=>exact⟨x,xt,rfl⟩
  refine Uw (d:=d+2) (lt:=Cp (Ez H)) (It:=ItP H hp.length) (x0:=x0) (swK (Ez H)) hz1 (Q31 hzl rfl) rfl hIt (Te K) hz2 λzs' _ _ hmin=> ?_;clear hz1 hz2 hIt;refine x12 (bI.mp (hz3.subset (bN (a:=x0) (l:=xt)))) ?_;intro p hp1 z2;subst z2;refine⟨rset (rset U 66 (.int (wt M (p.2.map Am)))) 67 (.lst p.1),rfl,?_⟩;have hlp:=hlo p.1 (g0Z hp1).1;refine q _ _ _ p.1 p.2 ((nm.set (by decide)).set (by decide)) (by walk_at"rg") (by walk_at"rg") ?_ (g0Z hp1).2 rfl ?_ (Q75 hlp) ?_
  ·rw[Cm (Co hlp)];exact K.lget (itm p hp1) (by simp;exact De hlp)
  ·intro P' hP'
   clear KH hlo q itm nm K hp1;obtain⟨k,hkl,rfl⟩:=g2G.mp hP';have hz:(ids[k]'(Q154 hkl e2),PP[k])∈ids.zip PP:=by
    rw[g2G];exact⟨k,by simp;exact vX hkl e2,by simp⟩
   have hm:=hz3.symm.subset (bI.mpr ⟨_,hz,rfl⟩);exact gJ (hmin _ hm)
  ·have:Aa [hp.length] hp (h.set hp.length (.l zs')):=(KH.nil.trans K).trans (Aa.set (.head _))
   exact this.drop (mm1)
 ·clear e1 eA q;rintro k v U h hv ⟨nm,r0,K,zs,hz1,hz2,hz3⟩
  clear r43;refine⟨rset U 65 v,rfl,?_⟩;rw[aL] at hv;refine x12 (bP.mp hv) ?_;intro id hid z2;subst z2;have hkl:=(aF.mp hid).1;refine x12 (hk k hkl) ?_;intro Pk f1 f2;have hidk:ids[k]=id:=by rw[aD hkl] at hid;exact aB hid
  rw[hidk] at f2;have hPk:Pk∈PP:=aU f1;have hPk':=hPk;rw[<-hPP] at hPk';obtain⟨pn1,pn2⟩:=Tm hPk' (Q31 hl rfl) hev;have hid2:hp.length+1<=id:=hlo id (aU hid);have f3:=K.lget f2 (by simp;exact De hid2);have hlen:Pk.length<=5:=Ob 5 _ Pk hPk';have r43:=nm.r43;walk_at"ev";walk_at"ev";refine ev_call (evs_cons (Ei (v:= .lst hp.length) (by walk_at"rg") (evs_cons (ev_tup (evs_cons ?_)))));have KhM:Aa [hp.length] hp h:=KH.nil.trans K;refine hZ (ps:=Pk.map Am) (j:=id) (hM.keep KhM (by simp;exact Q88 hbl)) hS (by walk_at"rg") (by walk_at"rg") (by rw[<-pn1];exact f3) (λp hp'=>⟨hod _ (pn2 p hp').1,hod _ (pn2 p hp').2⟩) (by simp;exact Q31 hlen rfl) (by have:=KhM.1;exact Q45 hbl this) λh2 K2'=> ?_;have hz1':=K2'.lget hz1 (aA);have Kh2:Aa [hp.length] H h2:=K.trans K2'.nil;walk_at"go";refine⟨aT rfl,?_⟩;walk_at"go";refine Vh (d:=d+3) (lt:=Cp (Ez H)) (It:=ItP H hp.length) (swK (Ez H)) hz1' ?_ ?_ ⟨_,_,_,rfl,f2,De hid2⟩ (Te Kh2) hz2 λzs' g1 g2=>⟨rfl,?_⟩
  ·rw[hz3.length_eq];simp;exact vY hkl hcnt rfl
  ·intro v hv
   clear hM hS hod KH hPP hk nm r0 K hz1 hz2 hid f1 f2 hPk hPk' pn1 pn2 f3 r43 KhM K2' hz1' Kh2;refine x12 (bI.mp (hz3.subset hv)) ?_;intro p hp1 z2;subst z2;have hp1:=g8Y hp1;refine⟨_,_,_,rfl,itm p hp1,?_⟩;have:=hlo p.1 (g0Z hp1).1;exact De this
  walk_at"go";refine⟨nm.set (by decide),by walk_at"rg",Kh2.trans (Aa.set (.head _)),zs',lget_set_self (An hz1'),g2,?_⟩;refine g1.trans ?_;have hz:(ids.zip PP)[k]? =some (id,Pk):=by
   rw[g2H];exact⟨hid,f1⟩
  rw[bU,hz,cD];exact hz3.append_right _
end
end
section
section
variable {d:Nat} {U:Rho} {hp:HP} {P:Fl->Rho->HP->Prop} {F n i l j:Nat} {c m:Int} {L:List En} {Ps:List (Int×Int)} {ps:List (Nat×Nat)}
theorem eS{A B:List (Int×Int)}:addP (A++B)=addP A++addP B:=by unfold addP;simp
theorem addP_len{A:List (Int×Int)}:(addP A).length=2*A.length:=by
 induction A with
 | nil=>rfl
 | cons a r ih=>
  show ([_,_]++addP r).length=_;rw[aP,ih];simp;exact O1
theorem gA(hn:n<=5)(nm:LNm U F i n c)(r66:rget U 66=some (.int m))(r67:rget U 67=some (.lst j))(hj:lget hp j=some (g7E Al Ps))(hP:Ps=ps.map λp=>((p.1:Int),(p.2:Int)))(hb: ∀p∈ps,p.1 < n/\p.2 < n)(k:Lk hp i l L)(hl:L.length+2*Ps.length < 60)(hjl:j≠l)
  (q: ∀U' h',LNm U' F i n c->rget U' 66=some (.int m)->Lk h' i l (L++addP Ps)->Aa [l] hp h'->P .next U' h'):
  Bi (d+3) (.for_ (.many [44,45]) (.ex (.var 67)) [
  (.expr (.met .addh (.var 46) [(.idx (.k (.str ⟨#[65,66,67,68,69]⟩)) (.var 44)),(.idx (.k (.str ⟨#[97,98,99,100,101]⟩)) (.var 45))])),
  (.expr (.met .addh (.var 46) [(.idx (.k (.str ⟨#[97,98,99,100,101]⟩)) (.var 45)),(.idx (.k (.str ⟨#[97,98,99,100,101]⟩)) (.var 44))]))]) U hp P:=by
 refine Bu (Ck ?_);walk_at"go";refine⟨.lst j 0,it_lst hj,?_⟩;refine Fw (xs:=g7E Al Ps) (λk U h=>LNm U F i n c/\rget U 66=some (.int m)/\Lk h i l (L++addP (Ps.take k))/\Aa [l] hp h) ⟨nm,r66,by simpa[addP] using k,.refl⟩ ?_ ?_ ?_
 ·intro k U h zz;refine x04 zz ?_;clear zz;intro _ _ _ K
  exact K.lget hj (mm4 ‹_›)
 ·intro U h zz;refine x04 zz ?_;clear zz;intro nm r66 k K
  rw[aO,cE] at k;exact q U h nm r66 k K
 ·intro k v U h hv zz;refine x04 zz ?_;clear zz;intro nm r66 lk K
  rw[aL] at hv;refine x12 (bP.mp hv) ?_;intro p hp1 z2;subst z2;have hkl:=(aF.mp hp1).1;have hp2:=hp1;rw[hP,aL] at hp2;obtain⟨⟨u,w⟩,hx,rfl⟩:=bP.mp hp2;have hbx:=hb _ (aU hx);dsimp only at hbx;refine⟨rset (rset U 44 (.int (u:Nat))) 45 (.int (w:Nat)),rfl,?_⟩;have r46:=nm.r46;have hlen:(L++addP (Ps.take k)).length < 58:=by rw[aP,addP_len,g6U];exact vZ hl hkl rfl
  walk_at"go";refine J1 (up:=true) (u:=u) (w:=w) (Gg) lk (Bw hbx.1 hn) (Bw hbx.2 hn) (Q6 hlen rfl) ?_ ?_ ?_ λh4 k4 K4=>⟨rfl,?_⟩
  ·walk_at"go";exact⟨rfl,rfl⟩
  ·refine X9 (Bw hbx.1 hn) ?_ ⟨rfl,rfl⟩
   walk_at"go";exact⟨rfl,rfl⟩
  ·refine Fv (Bw hbx.2 hn) ?_ ⟨rfl,rfl⟩
   walk_at"go";exact⟨rfl,rfl⟩
  walk_at"go";refine J1 (up:=false) (u:=w) (w:=u) (Gg) k4 (Bw hbx.2 hn) (Bw hbx.1 hn) (by simp at hlen ⊢;exact wA hlen rfl) ?_ ?_ ?_ λh5 k5 K5=>⟨rfl,?_⟩
  ·walk_at"go";exact⟨rfl,rfl⟩
  ·refine Fv (Bw hbx.2 hn) ?_ ⟨rfl,rfl⟩
   walk_at"go";exact⟨rfl,rfl⟩
  ·refine Fv (Bw hbx.1 hn) ?_ ⟨rfl,rfl⟩
   walk_at"go";exact⟨rfl,rfl⟩
  walk_at"go";refine⟨(nm.set (by decide)).set (by decide),by walk_at"rg",?_,(K.trans K4).trans K5⟩;rw[bU,hp1,eS];have e:addP (some ((u:Int),(w:Int))).toList=[(true,u,w),(false,w,u)]:=rfl;rw[e];simpa using k5
end
end
section
section
variable {d:Nat} {U:Rho} {hp:HP} {Q:V->HP->Prop} {P:Fl->Rho->HP->Prop} {F n i l j:Nat} {c m:Int} {L:List En}
theorem dD(k:Lk hp i l L)(r46:rget U 46=some (.hdr i))(h2:2<=L.length)
  (q: ∀h' a,lget h' a=some ((isort ltPair ((L.map (·.2)).map pK)).map Be)->Lk h' i l L->Aa [] hp h'->hp.length<=a->Q (.lst a) h'):
  Wev (d+1) (.app (.builtin "sorted") [(.comp [30,29,71] (.tup [(.met .lower (.var 29) []),(.var 71)]) [(.g (.many [29,71]) (.ex (.met .items (.var 46) [])) [])])]) U hp Q:=by
 have hL:=k.len;walk_at"go";refine Gx (Ck ?_);refine F9 rfl (g:=188) rfl ?_;walk_at"go";refine⟨i,l,rfl,k.at_,?_⟩;walk_at"go";refine Tc k ?_;have K1:Aa [] hp (hp++[O.l (L.map ent)]):=Aa.push;have e1:lget (hp++[O.l (L.map ent)]) hp.length=some ((L.map λe=>(V.str (nmS e.1 e.2.1),V.str (nmS false e.2.2))).map λp=> .tup [p.1,p.2]):=by rw[lget_push,cB];rfl
 have k1:=k.keep K1 (aA) (aA);have hg:hp.length < (hp++[O.l (L.map ent)]).length:=by exact mm7
 generalize (hp++[O.l (L.map ent)])=h1 at*;refine⟨.lst hp.length 0,it_lst e1,?_⟩;refine BZ (i:=hp.length) (us:=L.map λe=>(V.str (nmS e.1 e.2.1),V.str (nmS false e.2.2))) (ys0:=[]) (by decide) (λk ys h=>ys=((L.take k).map (·.2)).map pV/\lget h h1.length=some ys/\Aa [] h1 h) ⟨rfl,lget_push,Aa.push⟩ ?_ ?_ ?_
 ·intro k ys h zz;refine x03 zz ?_;clear zz;intro _ e K
  exact⟨e,K.lget e1 (aA)⟩
 ·intro k ys h v hv zz;refine x03 zz ?_;clear zz;intro z0 e K;subst z0
  rw[aL] at hv;refine x12 (bP.mp hv) ?_;intro x hx z2;subst z2;have hkl:=(aF.mp hx).1;have hb:=k1.bd x (aU hx);have hh:=An e;walk_at"go";refine Dv ?_;walk_at"go";refine⟨_,rfl,?_⟩;walk_at"go";refine Gr ?_;rw[Hy hb.1];walk_at"go";refine⟨aT rfl,e,by simp;exact Xo hL rfl,?_,lget_set_self hh,?_⟩
  ·rw[bU,hx];exact G9 rfl
  ·have:Aa [h1.length] h1 (h.set h1.length (O.l (((L.take k).map (·.2)).map pV++[V.tup [V.str (nmS false x.2.1),V.str (nmS false x.2.2)]]))):=K.nil.trans (Aa.set (.head _))
   exact this.drop (mm1)
 ·intro U' ys h zz;refine x03 zz ?_;clear zz;intro z0 e K;subst z0
  rw[aO,cE] at e;walk_at"go";refine Um e (by simpa using h2) (by simp;exact Q30 hL rfl) ?_;walk_at"go";refine q _ _ lget_push (k1.keep (K.trans Aa.push) (aA) (aA)) ((K1.trans K).trans Aa.push) ?_;have:=K1.1;have:=K.1;exact wB hg this
theorem cY{wk:List Nat}{w:Nat}(r58:rget U 58=some (.lst w))(e:lget hp w=some (wk.map strV))(hl:wk.length<=60)(h1:1<=wk.length)
  (q: ∀h',lget h' hp.length=some ((Af wk).map pV)->Aa [] hp h'->Q (.lst hp.length) h'):
  Wev d (.comp [30,36] (.tup [(.idx (.var 58) (.bin .sub (.var 36) (.k (.int 1)))),(.idx (.var 58) (.var 36))]) [(.g (.one 36) (.rng [(.k (.int 1)),(.app (.builtin "len") [(.var 58)])]) [])]) U hp Q:=by
 refine G4 (a:=1) (c:=1) (n:=wk.length - 1) (λk ys h=>ys=((Af wk).take k).map pV/\lget h hp.length=some ys/\Aa [] hp h) ?_ ⟨rfl,lget_push,Aa.push⟩ (λ_ _ _ z=>z.2.1) ?_ ?_
 ·walk_at"go"
  refine Dy e ?_;walk_at"go";rw[aO];exact⟨rfl,Nu (a:=1) h1 (Q30 hl rfl)⟩
 ·intro k ys h hk zz;refine x03 zz ?_;clear zz;intro z0 e2 K;subst z0
  have e0:(1:Int)+(k:Int)*1=((k+1:Nat):Int):=by simp;exact wC
  rw[e0];have ew:=K.lget e (aA);refine Bs ⟨λ_=> ?_,λz=>(by cases z)⟩;walk_at"go";refine Do ?_;walk_at"go";refine OpW.some (a:= .int (k:Nat)) (b:=h) (by show some (V.int (((k+1:Nat):Int) - 1),h)=_;congr 3;exact Q73) ?_;have g1:wk[k]? =some (wk.getD k 0):=by rw[aS,aD (O2 hk)];rfl
  have g2:wk[k+1]? =some (wk.getD (k+1) 0):=by rw[aS,aD (wD hk h1)];rfl
  refine⟨w,_,_,strV (wk.getD k 0),rfl,rfl,ew,by rw[Az,aL,g1];rfl,?_⟩;walk_at"go";refine Bg (j:=w) (v:=strV (wk.getD (k+1) 0)) (by walk_at"pv") (by walk_at"pv") ew (by rw[Az,aL,g2];rfl) ?_;walk_at"go";have hh:=An e2;refine⟨of_decide_eq_true ‹_›,e2,by simp;exact wE hk hl rfl,?_,lget_set_self hh,?_⟩
  ·have gg:(Af wk)[k]? =some (wk.getD k 0,wk.getD (k+1) 0):=by rw[On,aL,g0W (Q24 hk)];rfl
   rw[bU,gg];exact Kn rfl
  ·have:Aa [hp.length] hp (h.set hp.length (O.l (((Af wk).take k).map pV++[V.tup [strV (wk.getD k 0),strV (wk.getD (k+1) 0)]]))):=K.nil.trans (Aa.set (.head _))
   exact this.drop (mm1)
 ·intro ys h zz;refine x03 zz ?_;clear zz;intro z0 e2 K;subst z0
  have hgl:(Af wk).length=wk.length - 1:=by rw[On];exact mmR
  rw[<-hgl,cE] at e2;exact q h e2 K
end
end
section
section
variable {d:Nat} {U:Rho} {hp:HP} {Q:V->HP->Prop} {T:Bool->HP->Prop} {P:Fl->Rho->HP->Prop} {F n i l j:Nat} {c m:Int} {L:List En}
theorem Qq{a b:Nat}{xs ys:List V}(e1:lget hp a=some xs)(e2:lget hp b=some ys)(hl:xs.length+ys.length<=200)(q:Q (.lst hp.length) (hp++[.l (xs++ys)])):OpW (B7 .add (.lst a) (.lst b) hp) Q:=by
 refine .some (a:= .lst hp.length) (b:=hp++[.l (xs++ys)]) ?_ q;show (lget hp a).bind (λx=>(lget hp b).bind λy=>alloc hp (x++y))=_;rw[e1,e2];show alloc hp (xs++ys)=_;unfold alloc;rw[if_pos (by rw[aP];exact hl)]
theorem fB{G GG:List (Nat×Nat)}{g a:Nat}(r69:rget U 69=some (.lst g))(r68:rget U 68=some (.lst a))(r46:rget U 46=some (.hdr i))(eg:lget hp g=some (G.map pV))(ea:lget hp a=some ((isort ltPair (GG.map pK)).map Be))(k:Lk hp i l [])
  (hp':GG.Perm (G++G.map λp=>(p.2,p.1))) (h2:1<=G.length) (h3:G.length < 32) (q: ∀h',Aa [] hp h'->Lk h' i l []->T false h'):
  Wtr (d+1) (.lor [(.cmp .ne (.app (.builtin "sorted") [(.bin .add (.var 69) (.comp [30,51,50] (.tup [(.var 50),(.var 51)]) [(.g (.many [51,50]) (.ex (.var 69)) [])]))]) (.var 68)),(.cmp .ne (.met .items (.var 46) []) (.list []))]) U hp T:=by
 walk_at"go";refine Fd ?_;walk_at"go";have eg':lget hp g=some ((G.map λp=>(strV p.1,strV p.2)).map λp=> .tup [p.1,p.2]):=by rw[eg,cB];rfl
 refine Ss (i:=g) (us:=G.map λp=>(strV p.1,strV p.2)) (g4S _) (λk ys h=>ys=((G.take k).map λp=>(p.2,p.1)).map pV/\lget h hp.length=some ys/\Aa [] hp h) ?_ eg' ⟨rfl,lget_push,Aa.push⟩ ?_ ?_ ?_
 ·walk_at"go";exact⟨rfl,rfl⟩
 ·intro k ys h zz;refine x03 zz ?_;clear zz;intro _ e K
  exact⟨e,K.lget eg' (aA)⟩
 ·intro k ys h v hv zz;refine x03 zz ?_;clear zz;intro z0 e K;subst z0
  rw[aL] at hv;refine x12 (bP.mp hv) ?_;intro x hx z2;subst z2;have hkl:=(aF.mp hx).1;have hh:=An e;walk_at"go";refine⟨aT rfl,e,by simp;exact wF h3 rfl,?_,lget_set_self hh,?_⟩
  ·rw[bU,hx];exact G9 rfl
  ·have:Aa [hp.length] hp (h.set hp.length (O.l (((G.take k).map λp=>(p.2,p.1)).map pV++[V.tup [strV x.2,strV x.1]]))):=K.nil.trans (Aa.set (.head _))
   exact this.drop (mm1)
 ·intro ys h zz;refine x03 zz ?_;clear zz;intro z0 e K;subst z0
  rw[aO,cE] at e;refine Qq (K.lget eg (aA)) e (by simp;exact wG h3 rfl) ?_;walk_at"go";have K2:Aa [] h (h++[O.l (G.map pV++(G.map λp=>(p.2,p.1)).map pV)]):=Aa.push;have e3:lget (h++[O.l (G.map pV++(G.map λp=>(p.2,p.1)).map pV)]) h.length=some ((G++G.map λp=>(p.2,p.1)).map pV):=by rw[lget_push,cD]
  have KK:=K.trans K2;generalize (h++[O.l (G.map pV++(G.map λp=>(p.2,p.1)).map pV)])=h4 at*;refine Um e3 (by simp;exact wH h2) (by simp;exact wI h3 rfl) ?_;walk_at"go";have K3:Aa [] h4 (h4++[O.l ((isort ltPair ((G++G.map λp=>(p.2,p.1)).map pK)).map Be)]):=Aa.push;have e5:lget (h4++[O.l ((isort ltPair ((G++G.map λp=>(p.2,p.1)).map pK)).map Be)]) h4.length=some ((isort ltPair (GG.map pK)).map Be):=by rw[lget_push,oJ (hp'.map pK)]
  have KK2:=KK.trans K3;generalize (h4++[O.l ((isort ltPair ((G++G.map λp=>(p.2,p.1)).map pK)).map Be)])=h5 at*;refine⟨_,gN e5 (KK2.lget ea (aA)),λz=>(by cases z),λ_=> ?_⟩;have k5:=k.keep KK2 (aA) (aA);refine Fd ?_;walk_at"go";refine F9 rfl (g:=188) rfl ?_;walk_at"go";refine⟨i,l,rfl,k5.at_,?_⟩;walk_at"go";refine Tc k5 ?_;walk_at"go";refine⟨cL _,?_⟩;have K4:Aa [] h5 (h5++[O.l ((([]:List En)).map ent)]):=Aa.push;have e6:lget (h5++[O.l ((([]:List En)).map ent)]) h5.length=some ([].map V.int):=lget_push;have KK3:=KK2.trans K4;have k6:=k5.keep K4 (aA) (aA);generalize (h5++[O.l ((([]:List En)).map ent)])=h6 at*;have K5:Aa [] h6 (h6++[O.l []]):=Aa.push;refine⟨_,M9 (ns:=[]) (K5.lget e6 (aA)) lget_push,λz=>(by cases z),λ_=> ?_⟩;exact Kk (q _ (KK3.trans K5) (k6.keep K5 (aA) (aA)))
end
end
section
section
variable {d:Nat} {U:Rho} {hp:HP} {Q:V->HP->Prop} {T:Bool->HP->Prop} {P:Fl->Rho->HP->Prop} {F n i l j:Nat} {c m:Int} {L:List En}
theorem fT{u:Nat}(hu:u < 5)(q:Q (.int (u:Nat)) hp):OpW (C1 .index (.str ⟨#[97,98,99,100,101]⟩) [strV u] hp) Q:=by
 refine .some (a:= .int (u:Nat)) (b:=hp) ?_ q;clear q;rcases R64 hu with rfl|rfl|rfl|rfl|rfl <;> rfl
theorem Sz{e:X}{u:Nat}(hu:u < 5)(h:Wev d e U hp λv h=>h=hp/\v=strV u)(q:Q (.int (u:Nat)) hp):Wev d (.met .index (.k (.str ⟨#[97,98,99,100,101]⟩)) [e]) U hp Q:=by
 refine Dv (Fg ⟨_,rfl,evs_cons (h.mono λv h1 z=> ?_)⟩);clear h;refine x02 z ?_;clear z;intro z0 z1;subst z0;subst z1;exact M2 (fT hu q)
theorem iK{rest:List S}{wk:List Nat}{w:Nat}(nm:LNm U F i n c)(r66:rget U 66=some (.int m))(r58:rget U 58=some (.lst w))(e:lget hp w=some (wk.map strV))(hb: ∀x∈wk,x < 5)(hl:wk.length<=60)
  (q: ∀U' h' s,LNm U' F i n c->rget U' 66=some (.int m)->rget U' 58=some (.lst w)->rget U' 61=some (.lst s)->lget h' s=some (natsV (Br wk))->Aa [] hp h'->Wex d rest U' h' P):
  Wex d ((.assign (.one 61) (.list []))::
 (.for_ (.one 38) (.ex (.var 58)) [
  (.if_ (.cmp .notin (.met .index (.k (.str ⟨#[97,98,99,100,101]⟩)) [(.var 38)]) (.var 61)) [
   (.expr (.met .append (.var 61) [(.met .index (.k (.str ⟨#[97,98,99,100,101]⟩)) [(.var 38)])]))] [])])::rest) U hp P:=by
 walk_at"go";refine⟨cL _,?_⟩;walk_at"go";have K1:Aa [] hp (hp++[O.l []]):=Aa.push;refine Bu (Ck ?_);walk_at"go";refine⟨.lst w 0,it_lst (K1.lget e (aA)),?_⟩;refine Fw (xs:=wk.map strV) (λk U h=>LNm U F i n c/\rget U 66=some (.int m)/\rget U 58=some (.lst w)/\rget U 61=some (.lst hp.length)/\lget h hp.length=some (natsV (Br (wk.take k)))/\Aa [] hp h) ⟨nm.set (by decide),by walk_at"rg",by walk_at"rg",by walk_at"rg",lget_push,K1⟩ ?_ ?_ ?_
 ·intro k U h zz;refine x06 zz ?_;clear zz;intro _ _ _ _ _ K
  exact K.lget e (aA)
 ·intro U h zz;refine x06 zz ?_;clear zz;intro nm r66 r58 r61 e2 K
  rw[aO,cE] at e2;exact q U h _ nm r66 r58 r61 e2 K
 ·intro k v U h hv zz;refine x06 zz ?_;clear zz;intro nm r66 r58 r61 e2 K
  rw[aL] at hv;refine x12 (bP.mp hv) ?_;intro x hx z2;subst z2;have hx5:=hb x (aU hx);have hkl:=(aF.mp hx).1;refine⟨rset U 38 (strV x),rfl,?_⟩;have etk:Br (wk.take (k+1))=E2 (Br (wk.take k)) x:=by rw[bU,hx];exact stops_snoc
  walk_at"go";refine Sz hx5 ?_ ?_
  ·walk_at"go";exact⟨rfl,rfl⟩
  walk_at"go";refine⟨_,Oj e2,λt=> ?_,λt=> ?_⟩
  ·have t:x∉Br (wk.take k):=by simpa using t
   walk_at"go";refine Dz (by walk_at"pv") e2 ?_;walk_at"go";refine Sz hx5 ?_ ?_
   ·walk_at"go";exact⟨rfl,rfl⟩
   walk_at"go";have hsl:(Br (wk.take k)).length<=60:=by
    have h1:(Br (wk.take k)).length<=(wk.take k).length:=by
     have:=List.Nodup.length_le_of_subset (Vn (wk:=wk.take k)) (l₂:=wk.take k) λy hy=>(Od y).mp hy;exact this
    simp at h1;exact wJ h1 hl
   refine F0 e2 (by simp[natsV];exact Q30 hsl rfl) ⟨rfl,?_⟩;walk_at"go";refine⟨nm.set (by decide),by walk_at"rg",by walk_at"rg",by walk_at"rg",?_,?_⟩
   ·rw[lget_set_self (An e2),etk]
    unfold E2;rw[if_neg t];simp[natsV]
   ·have:Aa [hp.length] hp (h.set hp.length (O.l (natsV (Br (wk.take k))++[V.int (x:Nat)]))):=K.nil.trans (Aa.set (.head _))
    exact this.drop (mm1)
  ·have t:x∈Br (wk.take k):=by simpa using t
   walk_at"go";refine⟨nm.set (by decide),by walk_at"rg",by walk_at"rg",by walk_at"rg",?_,K⟩;rw[e2,etk];unfold E2;rw[if_pos t]
end
end
section
section
variable {d:Nat} {U:Rho} {hp:HP} {Q:V->HP->Prop} {T:Bool->HP->Prop} {P:Fl->Rho->HP->Prop} {F n i l j:Nat} {c m:Int} {L:List En}
theorem jK{wk st:List Nat}{w s:Nat}(r58:rget U 58=some (.lst w))(r61:rget U 61=some (.lst s))(r62:rget U 62=some (.int (n:Nat)))(ew:lget hp w=some (wk.map strV))(es:lget hp s=some (natsV st))(hh:wk.head? =some 0)(hla:wk.getLast? =some 0)
  (hst:(aN n).Perm st) (h2:2<=n) (h5:n<=5) (q: ∀h',Aa [] hp h'->T false h'):
  Wtr d (.lor [(.cmp .ne (.idx (.var 58) (.k (.int 0))) (.idx (.var 58) (.k (.int (-1))))),(.cmp .ne (.app (.builtin "sorted") [(.var 61)]) (.lrange [(.var 62)]))]) U hp T:=by
 have g0:A9 (wk.map strV) 0=some (strV 0):=by
  unfold A9;rw[if_pos (by decide)];clear r58 r61 r62 ew es hla hst h2 h5 q;cases wk with
  | nil=>cases hh
  | cons a r=>
   have:a=0:=by simpa using hh
   clear hh;subst this;rfl
 have g1:A9 (wk.map strV) (-1)=some (strV 0):=by
  clear r58 r61 r62 ew es hst q g0;rcases g1A wk with rfl|⟨v,x,rfl⟩
  ·clear h2 h5 hla;cases hh
  ·rw[g1B] at*
   have:x=0:=by simpa using hla
   clear hh hla;subst this;unfold A9;rw[if_neg (by decide),if_pos (by simp;exact Ws)];have:((-1:Int)+((v++[0]).map strV).length).toNat=v.length:=by simp;exact Wt
   rw[this,aL,cF];rfl
 walk_at"go";refine Fd ?_;walk_at"go";refine Bg (j:=w) (n:=0) (v:=strV 0) (by walk_at"pv") (by walk_at"pv") ew g0 ?_;refine Bg (j:=w) (n:= -1) (v:=strV 0) (by walk_at"pv") (by walk_at"pv") ew g1 ?_;refine⟨_,R4,λz=> ?_,λ_=> ?_⟩
 ·clear r58 r61 r62 ew es hh hla hst h2 h5 q g0 g1;rw[Kp] at z;cases z
 refine Fd ?_;walk_at"go";have es':lget hp s=some ((st.map fun(k:Nat)=>(k:Int)).map .int):=by rw[es];unfold natsV;rw[cB];rfl
 have hlen:st.length=n:=by rw[<-hst.length_eq];exact g2A
 refine sorted_ints (ms:=(aN n).map fun(k:Nat)=>(k:Int)) es' (by simp;exact wK hlen h2) (by simp;exact wL hlen h5 rfl) (hst.map _) ?_ ?_
 ·rw[gAD]
  exact List.pairwise_lt_range.imp λh=>wM h
 walk_at"go";refine Kt ?_;walk_at"go";refine⟨_,_,_,Cb (Q30 h5 rfl),Q31 h5 rfl,by rw[Lc,aO,Lb];exact Q31 h5 rfl,?_⟩;have e3:lget (hp++[O.l (((aN n).map fun(k:Nat)=>(k:Int)).map V.int)]) hp.length=some (((aN n).map fun(k:Nat)=>(k:Int)).map V.int):=lget_push;have K1:Aa [] hp (hp++[O.l (((aN n).map fun(k:Nat)=>(k:Int)).map V.int)]):=Aa.push;clear r58 r61 r62 ew es hh hla hst h2 h5 g0 g1 es' hlen;generalize (hp++[O.l (((aN n).map fun(k:Nat)=>(k:Int)).map V.int)])=h1 at*;have er:B3 0 1 n=((aN n).map fun(k:Nat)=>(k:Int)).map V.int:=by
  have:=Ih n 0;rw[cB];refine Eq.trans this ?_;apply g0V;intro k _;simp
 rw[er];have K2:Aa [] h1 (h1++[O.l (((aN n).map fun(k:Nat)=>(k:Int)).map V.int)]):=Aa.push;clear er;refine⟨_,M9 (K2.lget e3 (aA)) lget_push,λz=>(by cases z),λ_=> ?_⟩;exact Kk (q _ (K1.trans K2))
end
end
section
theorem Tg: ∀(ms:List Int) (m:Int),C6 m ms∈m::ms
 | [],m=>by exact .head _
 | a::r,m=>by
  have:=Tg r (if a < m then a else m);show C6 (if a < m then a else m) r∈m::a::r;rcases bM.mp this with h|h
  ·rw[h];split <;> simp
  ·exact aX _ (aX _ h)
theorem Vk: ∀(k:Nat) (xs o:List Int),xs.Nodup->xs.length<=k->o∈ordersN k xs->o.Perm xs
 | 0,xs,o,_,hl,h=>by
  obtain rfl:xs=[]:=g0R.mp (Li hl);have h:o∈[[]]:=h;rw[aK.mp h]
 | k+1,[],o,_,_,h=>by
  have h:o∈[[]]:=h;rw[aK.mp h]
 | k+1,x::xs,o,hn,hl,h=>by
  have h:o∈(x::xs).flatMap λone=>(ordersN k ((x::xs).filter λo=> !decide (o=one))).map (one:: ·):=h;replace h:=g0N.mp h;refine x12 h ?_;clear h;intro one h1 h;refine x12 (bI.mp h) ?_;intro o' h' z2;subst z2;have hp:(one::(x::xs).filter λo=> !decide (o=one)).Perm (x::xs):=by
   refine(g2D ?_ hn).mpr λa=> ?_
   ·rw[g1I]
    exact⟨by simp,hn.sublist g3S⟩
   ·rw[bM,g3Q]
    constructor
    ·rintro(rfl|⟨h,_⟩)
     ·exact h1
     ·exact h
    ·intro h
     by_cases e:a=one
     ·exact .inl e
     ·exact .inr ⟨h,by simp[e]⟩
  have hl2:=hp.length_eq;have:=Vk k _ o' (hn.sublist g3S) (by simp only[g2I] at hl2 hl ⊢;exact wN hl2 hl) h';exact(this.cons one).trans hp
theorem Ug: ∀(k:Nat) (xs:List Int),xs.length<=k->∃o,o∈ordersN k xs
 | 0,_,_=>⟨[],.head _⟩
 | k+1,[],_=>⟨[],.head _⟩
 | k+1,x::xs,h=>by
  obtain⟨o,ho⟩:=Ug k ((x::xs).filter λo=> !decide (o=x)) (by
   rw[List.filter_cons_of_neg (by simp)];have:=g0P (λo=> !decide (o=x)) xs;simp at h;exact Q45 this h)
  refine⟨x::o,?_⟩;show _∈(x::xs).flatMap λone=>(ordersN k ((x::xs).filter λo=> !decide (o=one))).map (one:: ·);exact g0N.mpr ⟨x,.head _,bI.mpr ⟨o,ho,rfl⟩⟩
noncomputable def tail1(n:Nat):List Nat:=(aN (n - 1)).map λk=>k+1
theorem mO{n:Nat}(h:1<=n):0::tail1 n=aN n:=by
 obtain⟨m,rfl⟩: ∃m,n=m+1:=⟨n - 1,Q157 h⟩;rw[g4U];rfl
end
section
section
variable {d:Nat} {U:Rho} {hp:HP} {Q:V->HP->Prop} {M:Nat->Nat->Int} {F n b i:Nat} {c:Int}
theorem Zs(hM:Mat hp F n b M)(hS:Bx M)(hbl:b<=hp.length)(h2:2<=n)(h5:n<=5)(nm:LNm U F i n c)
  (q: ∀h' ks,ks.Perm (aN n)->Aa [] hp h'->Q (.int (Ax M ks)) h'):
  Wev (d+5) (.app (.builtin "min") [(.comp [30,56] (.app (.ref 295) [(.var 43),(.bin .add (.list [(.k (.int 0))]) (.var 56))]) [(.g (.one 56) (.ex (.app (.ref 290) [(.lrange [(.k (.int 1)),(.var 62)])])) [])])]) U hp Q:=by
 have r43:=nm.r43;have r62:=nm.r62;walk_at"go";refine Gx (Ck ?_);walk_at"go";refine Kt ?_;walk_at"go";refine⟨_,_,_,Nu (a:=1) (n:=n) (Q155 h2) (Q30 h5 rfl),Q457 h5 rfl,by rw[Lc,aO,Lb];exact Q457 h5 rfl,?_⟩;have er:B3 ((1:Nat):Int) 1 (n - 1)=((tail1 n).map fun(k:Nat)=>(k:Int)).map V.int:=by
  rw[Ih (n - 1) 1];unfold tail1;rw[cB,cB];apply g0V;intro k _;show V.int ((1+k:Nat):Int)=V.int ((k+1:Nat):Int);congr 2;exact Xf
 rw[er];walk_at"go";have hxl:((tail1 n).map fun(k:Nat)=>(k:Int)).length<=4:=by simp[tail1];exact Q88 h5
 have hxn:((tail1 n).map fun(k:Nat)=>(k:Int)).Nodup:=by
  unfold tail1;rw[cB];rw[List.nodup_iff_pairwise_ne,gAD];exact g4P.imp λh z=>h (by simp at z;exact Ir z)
 refine kN 4 d _ hp.length ((tail1 n).map fun(k:Nat)=>(k:Int)) _ hxl (Iu) lget_push λr H hLV K2=> ?_;have KH:Aa [] hp H:=Aa.push.trans K2;refine x15 hLV.ex ?_;intro ids e1 e2 e3 e4 e5;have e2:ids.length=(ordersN 5 ((tail1 n).map fun(k:Nat)=>(k:Int))).length:=by rw[aO] at e2;exact e2
 have hOl:(ordersN 5 ((tail1 n).map fun(k:Nat)=>(k:Int))).length<=24:=Oo 4 _ hxl;have hO:=λo h=>Vk 5 _ o hxn (Q31 hxl rfl) h;obtain⟨o0,hne⟩:=Ug 5 ((tail1 n).map fun(k:Nat)=>(k:Int)) (Q31 hxl rfl);generalize ordersN 5 ((tail1 n).map fun(k:Nat)=>(k:Int))=OO at*;refine⟨.lst r 0,it_lst e1,?_⟩;have hk: ∀k (h:k < ids.length),∃on:List Nat,on.Perm (tail1 n)/\lget H ids[k]=some (natsV on):=by
  intro k h;have h2:k < OO.length:=Q154 h e2.symm;have hz:=e3 (ids[k],(OO[k]).map V.int) (by
   rw[g2G];exact⟨k,by simp;exact Xp h e2,by simp⟩)
  have hp1:=hO OO[k] (g0I h2);refine⟨(OO[k]).map bZ,?_,?_⟩
  ·have:=hp1.map bZ
   rw[cB] at this;have e:(bZ ∘ fun(k:Nat)=>(k:Int))=_root_.id:=by funext k;simp
   rw[e,g9J] at this;exact this
  ·rw[hz]
   unfold natsV;rw[cB];congr 1;apply g0V;intro v hv;refine x12 (bI.mp (hp1.subset hv)) ?_;intro a _ z2;subst z2;simp
 refine BX (i:=r) (us:=ids.map V.lst) (ys0:=[]) (λk ys h=> ∃rs:List Int,ys=rs.map .int/\rs.length=k/\lget h H.length=some ys/\Aa [] H h/\∀v∈rs,∃ks:List Nat,ks.Perm (aN n)/\v=Ax M ks) (Aa.push.lget (W:=[]) e1 (aA)) ⟨[],rfl,rfl,lget_push,Aa.push,by simp⟩ ?_ ?_ ?_
 ·intro k ys h zz;refine x15 zz ?_;clear zz;intro rs _ _ e K _
  exact⟨e,K.lget e1 (aA)⟩
 ·intro k ys h v hv zz;refine x15 zz ?_;clear zz;intro rs z1 hrl e K hrs;subst z1
  rw[aL] at hv;refine x12 (bP.mp hv) ?_;intro id hid z2;subst z2;have hkl:=(aF.mp hid).1;refine x12 (hk k hkl) ?_;intro on f1 f2;have hidk:ids[k]=id:=by rw[aD hkl] at hid;exact aB hid
  rw[hidk] at f2;have hpr:(0::on).Perm (aN n):=by rw[<-mO (by exact Q155 h2:1<=n)];exact f1.cons 0
  have hlen:on.length<=4:=by have:=hpr.length_eq;simp at this;exact wO this h5 rfl
  have KM:=KH.trans K;refine Bs ⟨λ_=> ?_,λz=>(by cases z)⟩;walk_at"go";refine⟨g0L _,?_⟩;walk_at"go";have K3:Aa [] h (h++[O.l [V.int 0]]):=Aa.push;have f3:=(K.trans K3).lget f2 (aA);have f4:lget (h++[O.l [V.int 0]]) h.length=some [V.int 0]:=lget_push;refine Qq f4 f3 (by simp[natsV];exact Wr hlen rfl) ?_;walk_at"go";have K4:Aa [] (h++[O.l [V.int 0]]) ((h++[O.l [V.int 0]])++[O.l ([V.int 0]++natsV on)]):=Aa.push;have f5:lget ((h++[O.l [V.int 0]])++[O.l ([V.int 0]++natsV on)]) (h++[O.l [V.int 0]]).length=some ((0::on).map λk=> .int (k:Nat)):=by rw[lget_push];rfl
  refine Tq (ks:=0::on) (hM.keep ((KM.trans K3).trans K4) (of_decide_eq_true ‹_›)) hS f5 (λx hx=>bQ.mp (hpr.subset hx)) (by simp;exact Q31 hlen rfl) λh6 K6=> ?_;have K7:=(K3.trans K4).trans K6;have e8:=K7.lget e (aA);refine⟨e8,by simp;exact wP hrl hkl e2 hOl rfl,rs++[Ax M (0::on)],by simp,by simp;exact W9 hrl,lget_set_self (An e8),?_,?_⟩
  ·have:Aa [H.length] H (h6.set H.length (O.l (rs.map V.int++[V.int (Ax M (0::on))]))):=(K.trans K7).nil.trans (Aa.set (.head _))
   exact this.drop (mm1)
  ·intro v hv
   rcases aY.mp hv with hv|hv
   ·exact hrs v hv
   ·rw[aK.mp hv];exact⟨_,hpr,rfl⟩
 ·intro U' ys h zz;refine x15 zz ?_;clear zz;intro rs z1 hrl e K hrs;subst z1
  have hpos:0 < rs.length:=by
   rw[hrl,aO,e2];exact g1L hne
  obtain⟨m,ms,rfl⟩: ∃m ms,rs=m::ms:=by
   cases rs with
   | nil=>simp at hpos
   | cons m ms=>exact⟨m,ms,rfl⟩
  walk_at"go";refine R3 e ?_;refine x12 (hrs _ (Tg ms m)) ?_;intro ks g1 g2;rw[g2];exact q h ks g1 (KH.trans K)
end
end
section
section
variable {d:Nat} {U:Rho} {hp:HP} {Q:V->HP->Prop} {P:Fl->Rho->HP->Prop} {M:Nat->Nat->Int} {F n b i w:Nat} {c:Int} {ws:List Nat}
theorem cQ(hM:Mat hp F n b M)(r43:rget U 43=some (.lst F)){I:Nat}(r44:rget U 44=some (.int (I:Nat)))(hI:I < n)(h5:n<=5)(q: ∀h',lget h' hp.length=some (((aN I).map λj=>M I j).map .int)->Aa [] hp h'->Q (.lst hp.length) h'):
  Wev d (.comp [30,45] (.idx (.idx (.var 43) (.var 44)) (.var 45)) [(.g (.one 45) (.rng [(.var 44)]) [])]) U hp Q:=by
 refine G4 (a:=0) (c:=1) (n:=I) (λk ys h=>ys=((aN k).map λj=>M I j).map .int/\lget h hp.length=some ys/\Aa [] hp h) ?_ ⟨rfl,lget_push,Aa.push⟩ (λ_ _ _ z=>z.2.1) ?_ ?_
 ·walk_at"go";exact⟨rfl,Cb (Gf hI h5 rfl)⟩
 ·intro k ys h hk zz;refine x03 zz ?_;clear zz;intro z0 e K;subst z0
  have e0:(0:Int)+(k:Int)*1=(k:Nat):=by exact mmS
  rw[e0];refine Bs ⟨λ_=> ?_,λz=>(by cases z)⟩;refine Hw (I:=I) (J:=k) (hM.keep K (of_decide_eq_true ‹_›)) ?_ ?_ ?_ hI (Q68 hk hI) ?_
  ·walk_at"go";exact⟨rfl,rfl⟩
  ·walk_at"go";exact⟨rfl,rfl⟩
  ·walk_at"go";exact⟨rfl,rfl⟩
  refine⟨e,by simp;exact Xq hk hI h5 rfl,by rw[g0Y];exact G9 rfl,lget_set_self (An e),?_⟩;have:Aa [hp.length] hp (h.set hp.length (O.l (((aN k).map λj=>M I j).map V.int++[V.int (M I k)]))):=K.nil.trans (Aa.set (.head _));exact this.drop (mm1)
 ·intro ys h zz;refine x03 zz ?_;clear zz;intro z0 e K;subst z0
  exact q h e K
theorem Z3(hw:lget hp w=some (ws.map λk=>strC (kind k)))(hk: ∀k∈ws,k < 21)(r35:rget U 35=some (.lst w)){I:Nat}(r44:rget U 44=some (.int (I:Nat)))(hI:I < ws.length)(h5:ws.length<=5)(q: ∀h',lget h' hp.length=some (((aN I).map λj=>Mw ws I j).map .int)->Aa [] hp h'->Q (.lst hp.length) h'):
  Wev (d+2) (.comp [30,45] (.app (.ref 247) [(.idx (.var 35) (.var 45)),(.idx (.var 35) (.var 44))]) [(.g (.one 45) (.rng [(.var 44)]) [])]) U hp Q:=by
 refine G4 (a:=0) (c:=1) (n:=I) (λk ys h=>ys=((aN k).map λj=>Mw ws I j).map .int/\lget h hp.length=some ys/\Aa [] hp h) ?_ ⟨rfl,lget_push,Aa.push⟩ (λ_ _ _ z=>z.2.1) ?_ ?_
 ·walk_at"go";exact⟨rfl,Cb (Gf hI h5 rfl)⟩
 ·intro k ys h hkI zz;refine x03 zz ?_;clear zz;intro z0 e K;subst z0
  have e0:(0:Int)+(k:Int)*1=(k:Nat):=by exact mmS
  rw[e0];have hw2:=K.lget hw (aA);have hkl:k < ws.length:=Q68 hkI hI;have ei:ws[I]? =some (ws.getD I 0):=by rw[aS,aD hI];rfl
  have ej:ws[k]? =some (ws.getD k 0):=by rw[aS,aD hkl];rfl
  refine Bs ⟨λ_=> ?_,λz=>(by cases z)⟩;walk_at"go";refine Bg (j:=w) (n:=k) (v:=strC (kind (ws.getD k 0))) (by walk_at"pv") (by walk_at"pv") hw2 (by rw[Az,aL,ej];rfl) ?_;walk_at"go";refine Bg (j:=w) (n:=I) (v:=strC (kind (ws.getD I 0))) (by walk_at"pv") (by walk_at"pv") hw2 (by rw[Az,aL,ei];rfl) ?_;walk_at"go";have l1:=Ki (a:=ws.getD I 0);have l2:=Ki (a:=ws.getD k 0);refine CE (Ln l2 rfl) (Ln l1 rfl) λh2 K2=> ?_;rw[Z4 (Dx hk I) (Dx hk k)];have e2:=K2.lget e (aA);refine⟨e2,by simp;exact Xq hkI hI h5 rfl,by rw[g0Y];exact G9 rfl,lget_set_self (An e2),?_⟩;have:Aa [hp.length] hp (h2.set hp.length (O.l (((aN k).map λj=>Mw ws I j).map V.int++[V.int (D (ws.getD I 0) (ws.getD k 0))]))):=(K.trans K2).nil.trans (Aa.set (.head _));exact this.drop (mm1)
 ·intro ys h zz;refine x03 zz ?_;clear zz;intro z0 e K;subst z0
  exact q h e K
end
end
section
section
variable {d:Nat} {U:Rho} {hp:HP} {Q:V->HP->Prop} {P:Fl->Rho->HP->Prop} {M:Nat->Nat->Int} {F n b i w:Nat} {c:Int} {ws:List Nat}
theorem eK(hM:Mat hp F n b M)(hb:b<=hp.length)(h5:n<=5)(r43:rget U 43=some (.lst F))(h1: ∀B,1<=partsF M n B/\partsF M n B<=5)
  (q: ∀h',Aa [] hp h'->Q (.int (((partsF M n 0:Int) - 1)+((partsF M n 1:Int) - 1)+((partsF M n 2:Int) - 1)+((partsF M n 3:Int) - 1))) h'):
  Wev (d+1) (.app (.builtin "sum") [(.comp [30,52] (.bin .sub (.app (.ref 264) [(.var 43),(.var 52)]) (.k (.int 1))) [(.g (.one 52) (.rng [(.k (.int 4))]) [])])]) U hp Q:=by
 walk_at"go";refine G4 (a:=0) (c:=1) (n:=4) (λk ys h=>ys=((aN k).map fun(j:Nat)=>(partsF M n (j:Nat):Int) - 1).map .int/\lget h hp.length=some ys/\Aa [] hp h) ?_ ⟨rfl,lget_push,Aa.push⟩ (λ_ _ _ z=>z.2.1) ?_ ?_
 ·walk_at"go";exact⟨rfl,Cb (n:=4) (wQ rfl)⟩
 ·intro k ys h hk zz;refine x03 zz ?_;clear zz;intro z0 e K;subst z0
  have e0:(0:Int)+(k:Int)*1=(k:Nat):=by exact mmS
  rw[e0];refine Bs ⟨λ_=> ?_,λz=>(by cases z)⟩;walk_at"go";refine gZ (hM.keep K (of_decide_eq_true ‹_›)) (by have:=K.1;exact Q45 hb this) (Q31 h5 rfl) λh2 K2=> ?_;walk_at"go";refine OpW.some (a:= .int ((partsF M n (k:Nat):Int) - 1)) rfl ?_;have e2:=K2.lget e (aA);refine⟨e2,by simp;exact Q6 hk rfl,by rw[g0Y];exact G9 rfl,lget_set_self (An e2),?_⟩;have:Aa [hp.length] hp (h2.set hp.length (O.l (((aN k).map fun(j:Nat)=>(partsF M n (j:Nat):Int) - 1).map V.int++[V.int ((partsF M n (k:Nat):Int) - 1)]))):=(K.trans K2).nil.trans (Aa.set (.head _));exact this.drop (mm1)
 ·intro ys h zz;refine x03 zz ?_;clear zz;intro z0 e K;subst z0
  walk_at"go";refine Nf e (λa ha=> ?_) ?_
  ·refine x12 (bI.mp ha) ?_;intro j _ z2;subst z2
   have:=h1 (j:Nat);exact wR this.2 this.1
  ·have:=q h K
   have e4:((aN 4).map fun(j:Nat)=>(partsF M n (j:Nat):Int) - 1).sum=((partsF M n 0:Int) - 1)+((partsF M n 1:Int) - 1)+((partsF M n 2:Int) - 1)+((partsF M n 3:Int) - 1):=by
    show ((partsF M n (0:Nat):Int) - 1)+(((partsF M n (1:Nat):Int) - 1)+(((partsF M n (2:Nat):Int) - 1)+(((partsF M n (3:Nat):Int) - 1)+0)))=_;simp only[Int.natCast_zero,g6Y,Int.natCast_one];have a2:((2:Nat):Int)=2:=rfl;have a3:((3:Nat):Int)=3:=rfl;rw[a2,a3];exact wS
   rw[e4];exact this
end
end
section
theorem jL{l:List Int}:(Bk l).length<=l.length:=by
 induction l using snoc_ind with
 | h0=>exact bJ _
 | h1 l a ih=>rw[P4,aP];exact g5M ih (by split;exact cL _;exact bJ _)
theorem gY{M:Nat->Nat->Int}{n:Nat}(h2:1<=n)(h5:n<=5)(B:Int):1<=partsF M n B/\partsF M n B<=5:=by
 have hl:=Ue (M:=M) (n:=n) (b:=B);unfold partsF;refine⟨?_,by have:=jL (l:=E7 M n B);exact wT this hl h5⟩;obtain⟨a,r,e⟩: ∃a r,E7 M n B=a::r:=by
  cases h:E7 M n B with
  | nil=>rw[h] at hl;simp at hl;exact wU hl.symm h2
  | cons a r=>exact⟨a,r,rfl⟩
 exact g1L ((dd_mem a).mpr (by rw[e];exact .head _))
theorem lS{d:Nat}{hp:HP}{Q:V->HP->Prop}(q: ∀h',Lk h' (hp.length+1) hp.length []->Aa [] hp h'->hp.length+1 < h'.length->Q (.hdr (hp.length+1)) h'):As (d+3) 224 [] hp Q:=by
 refine Sp (Gg) (hp':=hp++[.l [],.d hp.length]) (v:= .hdr (hp.length+1)) rfl (q _ ⟨?_,?_,cL _,by simp⟩ ?_ (by simp))
 ·rw[cI (Iq)]
  have:hp.length+1 - hp.length=1:=wV;rw[this];rfl
 ·unfold lget
  rw[cI (Iu)];have:hp.length - hp.length=0:=wW;rw[this];rfl
 ·refine⟨by simp,λj o e _=> ?_⟩
  rw[bT (aF.mp e).1];exact e
end
section
section
variable {d:Nat} {U:Rho} {hp:HP} {Q:V->HP->Prop} {P:Fl->Rho->HP->Prop} {M:Nat->Nat->Int} {F n b i w:Nat} {c:Int} {ws:List Nat} {ns:List Int}
theorem fP(r32:rget U 32=some (.ro ns))(q: ∀gs:List Int,(gs.length=4\/gs.length=5)->Q (.lst hp.length) (hp++[.l (gs.map .int)])):
  Wev d (.ife (.cmp .gt (.app (.builtin "len") [(.var 32)]) (.k (.int 2))) (.list [(.k (.int 7)),(.k (.int 11)),(.k (.int 8)),(.k (.int 5)),(.k (.int 20))]) (.list [(.k (.int 7)),(.k (.int 11)),(.k (.int 8)),(.k (.int 5))])) U hp Q:=by
 refine Jp ?_;walk_at"go";refine OpW.some (a:= .int (ns.length:Nat)) rfl ?_;walk_at"go";refine⟨_,rfl,λ_=> ?_,λ_=> ?_⟩
 ·walk_at"go"
  exact⟨aT rfl,q [7,11,8,5,20] (.inr rfl)⟩
 ·walk_at"go"
  exact⟨aT rfl,q [7,11,8,5] (.inl rfl)⟩
theorem jJ{rest:List S}(hw:lget hp w=some (ws.map λk=>strC (kind k)))(hk: ∀k∈ws,k < 21)(h5:ws.length<=5)(hM:Mat hp F ws.length b (Mw ws))(r35:rget U 35=some (.lst w))(r43:rget U 43=some (.lst F))(r62:rget U 62=some (.int (ws.length:Nat)))
  (q: ∀U' h',rget U' 43=some (.lst F)->rget U' 62=some (.int (ws.length:Nat))->Aa [] hp h'->Wex (d+2) rest U' h' P):
  Wex (d+2) ((.for_ (.one 44) (.rng [(.var 62)]) [
  (.if_ (.cmp .ne (.comp [30,45] (.idx (.idx (.var 43) (.var 44)) (.var 45)) [(.g (.one 45) (.rng [(.var 44)]) [])]) (.comp [30,45] (.app (.ref 247) [(.idx (.var 35) (.var 45)),(.idx (.var 35) (.var 44))]) [(.g (.one 45) (.rng [(.var 44)]) [])])) [
   (.ret (.k (.bool false)))] [])])::rest) U hp P:=by
 refine ex_cons (Bu (Dp ?_));walk_at"go";refine⟨_,Cb (Q30 h5 rfl),?_⟩;let I1:Nat->Rho->HP->Prop:=λk U h=>rget U 35=some (.lst w)/\rget U 43=some (.lst F)/\rget U 62=some (.int (ws.length:Nat))/\Aa [] hp h;refine Ef I1 ⟨r35,r43,r62,.refl⟩ ?_ ?_
 ·intro U h zz;refine x04 zz ?_;clear zz;intro _ r43 r62 K
  exact q U h r43 r62 K
 ·intro k U h hkl zz;refine x04 zz ?_;clear zz;intro r35 r43 r62 K
  walk_at"go";refine cQ (I:=k) (hM.keep K (by simp)) (by walk_at"rg") (by walk_at"rg") hkl h5 λh1 e1 K1=> ?_;refine Z3 (I:=k) ((K.trans K1).lget hw (aA)) hk (by walk_at"rg") (by walk_at"rg") hkl h5 λh2 e2 K2=> ?_;refine⟨_,M9 (K2.lget e1 (aA)) e2,λz=>(by cases z),λ_=> ?_⟩;walk_at"go";exact⟨by walk_at"rg",by walk_at"rg",by walk_at"rg",(K.trans K1).trans K2⟩
end
end
section
variable {M:Nat->Nat->Int} {n:Nat} {c:Int} {S:List Nat} {h:List (Nat×Nat)}
theorem Jf(hS:Bx M): ∀G:List (Nat×Nat),wt M G<=4*(G.length:Int)
 | []=>g3X _
 | e::G=>by
  rw[wt_cons];have h1:=hS e.1 e.2;have h2:=Jf hS G;have h3:((e::G).length:Int)=(G.length:Int)+1:=by simp
  rw[h3];exact wX h1.2 h2
theorem dE(hs: ∀i j,M i j=M j i)(h0: ∀i,M i i=0)(ht: ∀i j k,M i k<=M i j+M j k)(g:Bc M n S h c){P:List (Int×Int)}{wk:List Nat}(hh:wk.head? =some 0)(hl:wk.getLast? =some 0)
  (hp:((netL h++addP P).map (·.2)).Perm (Af wk++(Af wk).map λp=>(p.2,p.1))):Ax M (Br wk)<=c+wt M (P.map Am):=by
 have e:=eQ (M:=M) hp;rw[cD,wt_app,wt_app,wt_net hs,Si hs,wt_swap hs,Rq hs g] at e;have:=iB h0 ht hh hl;exact wY e this
theorem Tn{ks:List Nat}(hk:ks.Perm (aN n)): ∀x,x∈ks↔x < n:=λx=>by rw[hk.mem_iff,bQ]
theorem fZ(hs: ∀i j,M i j=M j i)(hS:Bx M)(g:Bc M n S h c)(hall: ∀k,k < n->k∈S)(hn:n=4\/n=5){ks:List Nat}(hk:ks.Perm (aN n)):c*(n:Int)<=Ax M ks*((n:Int) - 1):=by
 have hn0:0 < n:=O4 hn;have e:c=pot M n (aN n):=by
  rw[S9 hs hS g hn0];exact Nt λx=>⟨λh=>bQ.mpr ((g.bd hn0).1 x h),λh=>hall x (bQ.mp h)⟩
 have hl:ks.length=n:=by have:=hk.length_eq;simpa using this
 have hm:=Tn hk;clear g hall hk;rcases hn with rfl|rfl
 ·refine x41 (l4 hl) ?_;intro a b c' d z;subst z
  have:=mD hs hS hm;rw[e];exact this
 ·refine x51 (l5 hl) ?_;intro a b c' d f z;subst z
  have:=mF hs hS hm;rw[e];exact this
theorem lV(hs: ∀i j,M i j=M j i)(hS:Bx M)(h0: ∀i,M i i=0)(ht: ∀i j k,M i k<=M i j+M j k)(g:Bc M n S h c)(hn:n=4\/n=5){ks:List Nat}{m:Int}(hk:ks.Perm (aN n))
  (hmin: ∀P∈Aq 5 ((A6 n (netL h)).map fun(k:Nat)=>(k:Int)),m<=wt M (P.map Am)):2*m<=Ax M ks:=by
 have hn0:0 < n:=O4 hn;have hl:ks.length=n:=by have:=hk.length_eq;simpa using this
 refine mY hs hS h0 ht (hk.nodup_iff.mpr g4P) N0 (λx hx=>(Tn hk x).mpr (E8.mp hx).1) (λz=>by rw[z] at hl;simp at hl;exact Xc hl.symm hn0) (Tk (g.bd hn0).2.1) ?_ hmin;have:(A6 n (netL h)).length<=n:=Ks;exact yD hn this
theorem Ys(hs: ∀i j,M i j=M j i)(hS:Bx M)(g:Bc M n S h c)(hn0:0 < n)(h5:n<=5):0<=c/\c<=20:=by
 have e:=Rq hs g;have b:=g.bd hn0;have hl:h.length<=5:=by
  have:S.length<=n:=by
   have:=g.size hn0;exact Q84 this
  exact wZ b.2.2.2 this h5
 have h1:=Jf hS h;have h2:=Ik hS h;exact xA h2 e.symm h1 hl
theorem kQ(hS:Bx M){ks:List Nat}:0<=Ax M ks/\Ax M ks<=4*(ks.length:Int):=by
 cases ks with
 | nil=>exact⟨g3X _,g3X _⟩
 | cons a r=>
  rw[round_close];have h1:=Jf hS (Af (a::r++[a]));have h2:=Ik hS (Af (a::r++[a]));have h3:(Af (a::r++[a])).length=(a::r).length:=by unfold Af;simp
  rw[h3] at h1;exact⟨h2,h1⟩
theorem gV{o:List Nat}{P:List (Int×Int)}(hP:P∈Aq 5 (o.map fun(k:Nat)=>(k:Int)))(ho:o.length<=5)(hev:o.length % 2=0):2*P.length=o.length:=by
 have:=(Ok 5 _ P hP (by simpa using ho) (by simpa using hev)).length_eq;rw[aO] at this;rw[<-this];clear this hP;induction P with
 | nil=>rfl
 | cons a r ih=>rw[g2B,aP,<-ih];simp;exact xB
end
section
theorem gW{n:Nat}{L:List En}{P:List (Int×Int)}(hP:P∈Aq 5 ((A6 n L).map fun(k:Nat)=>(k:Int)))(h5:n<=5)(hev:(A6 n L).length % 2=0):P=(P.map Am).map (λp=>((p.1:Int),(p.2:Int)))/\∀p∈P.map Am,p.1 < n/\p.2 < n:=by
 have hl:(A6 n L).length<=n:=Ks;obtain⟨h1,h2⟩:=Tm hP (Q45 hl h5) hev;exact⟨h1,λp hp=>⟨(E8.mp (h2 p hp).1).1,(E8.mp (h2 p hp).2).1⟩⟩
theorem Yj{ns:List Int}{Q:V->HP->Prop}(q: ∀h',Q (.bool true) h'):As 20 300 [.ro ns] [] Q:=by
 refine Bf rfl rfl rfl ?_;show Wex 19 b300 [(32,.ro ns)] [] _;unfold b300;walk_at"go";refine fP (by walk_at"rg") λgs hgs=> ?_;walk_at"go";refine iX (d:=18) (g:=0) (gs:=gs) rfl (yE hgs) λws h1 W e1 hwl hk _ _=> ?_;have h5:ws.length<=5:=yF hgs hwl;have hn:ws.length=4\/ws.length=5:=yG hgs hwl;clear hwl hgs;walk_at"go";refine Dy e1 ?_;rw[aO];walk_at"go";refine CL (d:=16) e1 h5 hk λF h2 hM K2=> ?_;have e2:=K2.lget e1 (aA);refine jJ (d:=17) (ws:=ws) (w:=W) e2 hk h5 hM (by walk_at"rg") (by walk_at"rg") (by walk_at"rg") λU1 h3 r43 r62 K3=> ?_;have hM3:=hM.keep K3 (by simp);have hbl:h2.length<=h3.length:=K3.1;have hs:=Py hk;have h0:=Qp hk;have ht:=BJ hk;have hS:=eR ws;clear hM K3 e2 K2 e1 hk;generalize h2.length=b at*;generalize Mw ws=M at*;generalize ws.length=n at*;have hn0:0 < n:=O4 hn;walk_at"go";refine lS (d:=16) λh4 k4 K4 hlt4=> ?_;have hM4:=hM3.keep K4 (by simp);walk_at"go";refine Yt (d:=15) hM4 hbl hlt4 (An k4.get) hn0 h5 k4 λS H c hp5 g hall k5 K5=> ?_;have hM5:=hM4.keep K5 (by simpa using hbl);have hlb:h3.length < hp5.length:=An k5.get;generalize h3.length=l at*;have hb5:b<=hp5.length:=xC hbl hlb;clear hM3 hM4 hlt4 K4 K5 k4;refine ex_cons (x_if (tr_cmp (Ei (by walk_at"rg") (eK (d:=18) hM5 hb5 h5 (by walk_at"rg") (λB=>gY (xD hn0) h5 B) λh6 K6=>⟨_,Qd,λz=> ?_,λ_=> ?_⟩))))
 ·exact absurd (kM hs hS g hn0 hall) (by simpa using z)
 have hM6:=hM5.keep K6 (by simp);have k6:=k5.keep K6 (aA) (aA);have hb6:b<=h6.length:=bR hb5 K6.1;have hl6:l < h6.length:=g0C hlb K6.1;clear hM5 k5 hb5 hlb K6;walk_at"go";refine Yv (d:=17) k6 (by walk_at"rg") (by walk_at"rg") h5 λh7 e7 k7 K7=> ?_;have hM7:=hM6.keep K7 (by simp);have hb7:b<=h7.length:=bR hb6 K7.1;have hl7:l < h7.length:=g0C hl6 K7.1;have hev:=Tk (g.bd hn0).2.1;have hdl:(A6 n (netL H)).length<=n:=Ks;refine gK (d:=14) hM7 hS hb7 h5 ⟨by walk_at"rg",by walk_at"rg",by walk_at"rg",by walk_at"rg"⟩ rget_same e7 (λx hx=>(E8.mp hx).1) (ph h5 hev hdl) hev λU2 h8 m j Ps nm8 r66 r67 ej hPs em hmin hjl K8=> ?_;clear r43 r62;have hM8:=hM7.keep K8 (by simp);have k8:=k7.keep K8 (aA) (aA);have hb8:b<=h8.length:=bR hb7 K8.1;have hl8:l < h8.length:=g0C hl7 K8.1;refine x02 (gW hPs h5 hev) ?_;intro hP1 hP2;have hPl:=gV hPs (Q45 hdl h5) hev;have hH:H.length+1=S.length:=(g.bd hn0).2.2.2;have hSz:=g.size hn0;have hnl:(netL H).length=2*H.length:=Ie;have hH3:1<=H.length:=by
  have a0:=hall 0 (xE hn0);have a1:=hall 1 (yH hn);clear q hs h0 ht hS hn g hall hM6 k6 e7 k7 K7 hM7 nm8 r66 r67 ej hPs hmin K8 hM8 k8 hP1 hP2;match S,a0,a1,hH with
  | [x],a0,a1,_=>
   have z0:=aK.mp a0;have z1:=aK.mp a1;exact xF z0.symm z1.symm
  | x::y::r,_,_,hH=>simp at hH;exact xG hH
 clear hM6 k6 hb6 hl6 K7 hM7 k7 K8 e7;refine ex_cons (gA (d:=16) h5 nm8 r66 r67 ej hP1 hP2 k8 (xH h5 hdl hPl.symm hH hSz hnl rfl) (Oy hl7 hjl) λU3 h9 nm9 r66 k9 K9=> ?_);have hM9:=hM8.keep K9 (by simp;exact Q88 hbl);have hb9:b<=h9.length:=bR hb8 K9.1;have hl9:l < h9.length:=g0C hl8 K9.1;have hLl:(netL H++addP Ps).length=2*H.length+2*Ps.length:=by rw[aP,hnl,addP_len]
 clear hM8 k8 hb8 hl8 K9 ej r67 nm8 hP1 hP2;refine ex_cons (x_assign (dD (d:=18) k9 nm9.r46 (xI hLl.symm hH3) λh10 a e10 k10 K10 hla=> ?_));have hM10:=hM9.keep K10 (by simp);have hb10:b<=h10.length:=bR hb9 K10.1;have hal:a≠l:=Oy hl9 hla;have hl10:l < h10.length:=g0C hl9 K10.1;have nm10:=nm9.set (x:=68) (v:= .lst a) (by decide);obtain⟨wk,hr,hh,hla2,hvis,hbd,hpm⟩:=Zn g (O3 hSz hH.symm hH3) h5 hall hPs hev;have hr10:rget (rset U3 68 (.lst a)) 66=some (.int m):=by walk_at"rg"
 have hr68:rget (rset U3 68 (.lst a)) 68=some (.lst a):=rget_same;clear hPs;generalize rset U3 68 (.lst a)=U4 at*;clear hM9 k9 K10 hb9 hl9 nm9 r66 hla;have r46:=nm10.r46;refine ex_cons (x_assign (ev_call (evs_cons (Ei r46 (M2 (eP (d:=14) k10 (xJ h5 hdl hPl.symm hH hSz hLl.symm rfl) (bJ 50) hr λw h11 e11 hlw k11 K11 hb5' hl60=> ?_))))));have hM11:=hM10.keep K11 (by simp;exact Q88 hbl);have hb11:b<=h11.length:=bR hb10 K11.1;have ea11:=K11.lget e10 (mm4 ‹_›);have nm11:=nm10.set (x:=58) (v:= .lst w) (by decide);have hr58:rget (rset U4 58 (.lst w)) 58=some (.lst w):=rget_same;have hr66:rget (rset U4 58 (.lst w)) 66=some (.int m):=(D0 (by decide)).trans hr10;have hr68':rget (rset U4 58 (.lst w)) 68=some (.lst a):=(D0 (by decide)).trans hr68;clear hr;generalize rset U4 58 (.lst w)=U5 at*;clear hM10 k10 K11 hb10 hl10 nm10 hr10 hr68 e10 r46;have hgl:(Af wk).length=wk.length - 1:=by unfold Af;simp
 have hpl:=hpm.length_eq;have hpl:(netL H++addP Ps).length=(Af wk).length+(Af wk).length:=by simpa using hpl
 rw[hLl] at hpl;refine ex_cons (x_assign (cY (d:=19) hr58 e11 hl60 (xK hpl hgl.symm hH3) λh12 e12 K12=> ?_));have hM12:=hM11.keep K12 (by simp);have hb12:b<=h12.length:=bR hb11 K12.1;have ea12:=K12.lget ea11 (aA);have ew12:=K12.lget e11 (aA);have k12:=k11.keep K12 (aA) (aA);have nm12:=nm11.set (x:=69) (v:= .lst h11.length) (by decide);have hr69:rget (rset U5 69 (.lst h11.length)) 69=some (.lst h11.length):=rget_same;have hr58':rget (rset U5 69 (.lst h11.length)) 58=some (.lst w):=(D0 (by decide)).trans hr58;have hr66':rget (rset U5 69 (.lst h11.length)) 66=some (.int m):=(D0 (by decide)).trans hr66;have hr68'':rget (rset U5 69 (.lst h11.length)) 68=some (.lst a):=(D0 ((g4S _).symm)).trans hr68';generalize rset U5 69 (.lst h11.length)=U6 at*;clear hM11 k11 K12 hb11 nm11 hr66 hr68' hr58 ea11 e11;refine ex_cons (x_if (fB (d:=18) hr69 hr68'' nm12.r46 e12 ea12 k12 hpm (xL hpl hH3) (xM h5 hdl hPl.symm hH hSz hpl rfl) λh13 K13 k13=>⟨λz=>(by cases z),λ_=> ?_⟩));have hM13:=hM12.keep K13 (by simp);have hb13:b<=h13.length:=bR hb12 K13.1;have ew13:=K13.lget ew12 (aA);clear hM12 k12 K13 hb12 ew12 ea12 e12 hr69 hr68'' k13;refine ex_nil ?_;refine iK (d:=19) nm12 hr66' hr58' ew13 hb5' hl60 λU7 h14 s nm14 r66 r58 r61 es K14=> ?_;have hM14:=hM13.keep K14 (by simp);have hb14:b<=h14.length:=bR hb13 K14.1;have ew14:=K14.lget ew13 (aA);have hst:(aN n).Perm (Br wk):=(g2D g4P Vn).mpr λx=>by
  rw[bQ,Od];exact⟨λh=>hvis x h,λh=>hbd x h⟩
 clear hM13 K14 hb13 ew13 nm12 hr66' hr58';refine ex_cons (x_if (jK (d:=19) r58 r61 nm14.r62 ew14 es hh hla2 hst (O3 hSz hH.symm hH3) h5 λh15 K15=>⟨λz=>(by cases z),λ_=> ?_⟩));have hM15:=hM14.keep K15 (by simp);have hb15:b<=h15.length:=bR hb14 K15.1;have es15:=K15.lget es (aA);clear hM14 K15 hb14 es ew14 r58;refine ex_nil ?_;refine ex_cons (x_assign (Zs (d:=14) hM15 hS hb15 (O3 hSz hH.symm hH3) h5 nm14 λh16 ks hks K16=> ?_));have hM16:=hM15.keep K16 (by simp);have es16:=K16.lget es15 (aA);clear hM15 K16 hb15 es15;have c1:=dE hs h0 ht g hh hla2 hpm;have c2:=fZ hs hS g hall hn hks;have c3:=lV hs hS h0 ht g hn hks hmin;rw[<-em] at c1;have b1:=Ys hs hS g hn0 h5;have b2:=kQ hS (ks:=ks);have b3:ks.length=n:=by have:=hks.length_eq;simpa using this
 have b4:m<=100/\0<=m:=by
  have z1:=Jf hS (Ps.map Am);have z2:=Ik hS (Ps.map Am);rw[aO] at z1;rw[em];exact xN z2 z1 hPl.symm hdl h5
 rw[b3] at b2;refine ex_cons (x_ret (fK ?_));have r43:=nm14.r43;have r62:=nm14.r62;have r63:=nm14.r63;walk_at"go";refine Tq (d:=18) hM16 hS es16 (λk hk=>hbd k ((Od k).mp hk)) (by have:=hst.length_eq;simp at this;exact Q46 this.symm h5 rfl) λh17 K17=> ?_;walk_at"go";refine OpW.some (a:= .int (c+m)) rfl ?_;refine⟨true,congrArg some (decide_eq_true c1),rfl,?_⟩;walk_at"go";refine OpW.some (a:= .int (c*(n:Int))) (Em (Dw (xO b1.1 b1.2)) (Gy (xP h5))) ?_;walk_at"go";refine OpW.some (a:= .int ((n:Int) - 1)) rfl ?_;refine OpW.some (a:= .int (Ax M ks*((n:Int) - 1))) (Em (Dw (xQ b2.1 b2.2 h5)) (Dw (xR h5))) ?_;refine⟨true,congrArg some (decide_eq_true c2),rfl,?_⟩;walk_at"go";refine OpW.some (a:= .int (2*m)) (Em (rfl) (Dw (xS b4.2 b4.1))) ?_;walk_at"go";refine⟨true,congrArg some (decide_eq_true c3),?_⟩;exact q _
end
end Mine
namespace Mine
set_option tactic.hygienic true in
theorem lZ{K:g5H}{a:cK}{o:Obj}(h:K.lookup a=some o):a∈K.map (·.1):=by
 induction K with
 | nil=>cases h
 | cons p r ih=>
  obtain⟨b,x⟩:=p;simp only[bO] at h;split at h
  ·rename_i q;rw[beq_iff_eq.mp q];exact bN ..
  ·exact aX _ (ih h)
theorem Za(ns:List Int): ∃n hp',(Ae eC n).call 20 300 [.ro ns] []=some (.bool true,hp'):=by
 obtain⟨a,b,⟨N,h⟩,q⟩:=Yj (ns:=ns) (Q:=λv _=>v= .bool true) λ_=>rfl;subst q;exact⟨N,b,h N (bJ _)⟩
theorem eF:Ew callerA 20:=⟨rfl,aT rfl,aT rfl⟩
end Mine
namespace Mine
noncomputable def Mk(K:g5H)(x:Str):Option Value:=(nsIn K g0M x).bind λo=>o.elim ((nsIn K g4W x).bind λq=>q) some
noncomputable def Pg:Value->Option (Int×Tok)
 | .int n t=>some (n,t)
 | _=>none
theorem jR{d:Value}{p}(h:Pg d=some p):d= .int p.1 p.2:=by
 cases d <;> first|exact nn h|exact congrArg (λp=>Value.int p.1 p.2) (aB h)
noncomputable def X2:V->Option Value
 | .imm u=>some u
 | _=>none
theorem iT{v:V}{u:Value}(h:X2 v=some u):v= .imm u:=by
 cases v <;> first|exact nn h|exact congrArg V.imm (aB h)
noncomputable def Mo(K:g5H):Bool:=Yb.all λp=>(X2 p.2).elim ((vI p.2).any λm=>(Mk K p.1).any λg=>(Pg g).any λq=>Ap q.1 m) λu=>Mk K p.1==some u
set_option tactic.hygienic true in
theorem mB{l:List (Str×V)}{x:Str}{v:V}(h:l.lookup x=some v):(x,v)∈l:=by
 induction l with
 | nil=>cases h
 | cons p r ih=>
  obtain⟨n,a⟩:=p;simp only[bO] at h;split at h
  ·rename_i q;cases h;rw[beq_iff_eq.mp q];exact bN ..
  ·exact aX _ (ih h)
theorem Vg{K:g5H}{x:Str}{rv:Value}(h:Mk K x=some rv):nsIn K g0M x=some (some rv)\/(nsIn K g0M x=some none/\nsIn K g4W x=some (some rv)):=by
 refine bE' h λo e h=> ?_;cases o with
 | some v=>exact .inl (e.trans (congrArg some h))
 | none=>exact bE' h λq e2 h=> .inr ⟨e,e2.trans (congrArg some h)⟩
theorem Zl{X:Fx}(hn:X.nm=names)(h:Mo X.K=true):A0 X tb:=by
 refine⟨hn.symm,?_,λx v e Y hh _=> ?_⟩
 ·rw[hn];decide
 ·have hm:=mB e
  have:=bB.mp h _ hm;refine oE this (λh=>aE h λm hv h=>aE h λg hg h=>aE h λq hq h=> ?_) λu hu h=> ?_
  ·refine⟨g,Vg hg,?_⟩
   rw[show v=_ from vI_inv hv,jR hq];rw[beqInt_eq] at h;exact⟨q.2,by rw[of_decide_eq_true h]⟩
  ·rw[show v=_ from iT hu];exact⟨u,Vg (beq_iff_eq.mp h),rfl⟩
theorem L4{ns:List (Str×NameKind)}{ps:List Str}(h:(ps.all λp=>ns.lookup p==some .local||ns.lookup p==some .cell)=true): ∀p∈ps,ns.lookup p=some .local\/ns.lookup p=some .cell:=by
 intro p hp;have:=bB.mp h p hp;simpa using this
noncomputable def CP(s:Stmt):Stmt:=if h:s.ctorIdx=12 then gAJ s h λ_ b _ _=>b.headD s else s
noncomputable def Rt:List Nat:=(aN 26).map (· +65)++(aN 26).map (· +97)
theorem mX{c:Nat}(h:Dm c=true):c∈Rt:=by
 simp only[Dm,Bool.or_eq_true,aI,decide_eq_true_eq] at h;rcases h with h|h
 ·exact g0A _ (bI.mpr ⟨c - 65,bQ.mpr (xT h.2 h.1),xU h.1⟩)
 ·exact g3B _ (bI.mpr ⟨c - 97,bQ.mpr (xV h.2 h.1),xW h.1⟩)
noncomputable def X0:Value->Option String
 | .type c=>some c
 | _=>none
noncomputable def Pp:Value->Option cK
 | .ref a=>some a
 | _=>none
noncomputable def P8:Data->Option (Array Value)
 | .fields f=>some f
 | _=>none
noncomputable def Pr:Data->Option (Array Value×Nat)
 | .seq w n=>some (w,n)
 | _=>none
theorem iS{d:Value}{p}(h:X0 d=some p):d= .type p:=by
 cases d <;> first|exact nn h|exact congrArg Value.type (aB h)
theorem refOf_inv{d:Value}{p}(h:Pp d=some p):d= .ref p:=by
 cases d <;> first|exact nn h|exact congrArg Value.ref (aB h)
theorem lP{d:Data}{p}(h:P8 d=some p):d= .fields p:=by
 cases d <;> first|exact nn h|exact congrArg Data.fields (aB h)
theorem kS{d:Data}{p}(h:Pr d=some p):d= .seq p.1 p.2:=by
 cases d <;> first|exact nn h|exact congrArg (λp=>Data.seq p.1 p.2) (aB h)
noncomputable def L6(o:Obj)(c:String):Bool:=(X0 o.cls).any (λd=>decide (d=c)) && o.dict.isNone && o.slots.isEmpty
theorem Uf{o:Obj}{c:String}(h:L6 o c=true):o={cls:= .type c,data:=o.data}:=by
 refine bA h λh h3=>bA h λh1 h2=>aE h1 λd hd hc=> ?_;obtain⟨cl,di,da,sl⟩:=o;rw[show cl=_ from iS hd,of_decide_eq_true hc,show di=none from g7G.1 h2,show sl= #[] from Array.isEmpty_iff.1 h3]
noncomputable def H5(K:g5H)(P:cK):Bool:=(K.lookup P).any λo=>L6 o "re.Pattern" && (P8 o.data).any λfs=>(Pp (fs.getD 5 .none)).any λT=>aW (g4I (fs.getD 6 .none)) 0 && aW (g4I (fs.getD 2 .none)) 0 &&
 (K.lookup T).any λq=>L6 q "tuple" && (Pr q.data).any λw=>Rt.all λc=>Jm ((w.1.map gBV).map (·.toNat)) [c]
theorem Qg{X:Fx}{P:cK}(h:H5 X.K P=true):Fj X P:=
 aE h λo e h=>bA h λho h=>aE h λfs hf h=>aE h λT hT h=>bA h λh h7=>bA h λh6 h2=>aE h7 λq e2 h=>bA h λhq h=>aE h λw hw h=>
  ⟨⟨T,fs,w.1,w.2,_,e.trans (congrArg some ((Uf ho).trans (by rw[lP hf]))),refOf_inv hT,aR h6,aR h2,e2.trans (congrArg some ((Uf hq).trans (by rw[kS hw]))),rfl,λc hc=>bB.mp h c (mX hc)⟩⟩
noncomputable def Ji(e:Expr):Option (Str×Pos):=if h:e.ctorIdx=23 then g6D e h λx p=>some (x,p) else none
theorem lJ{e:Expr}{t:Str×Pos}(h:Ji e=some t):e=Expr.Name t.1 t.2:=
 g6D (motive_1:=λe=>Ji e=some t->e=Expr.Name t.1 t.2) e (vw h id) (λx p h=>s1 (P:=λt:Str×Pos=>Expr.Name x p=Expr.Name t.1 t.2) h rfl) h
theorem jF{e:Expr}{x p}(h:Ji e=some (x,p)):e=Expr.Name x p:=lJ h
noncomputable def Dt{α:Type}(f:α->Bool):List α->Bool|[r]=>f r|_=>false
theorem Gu{α:Type}{l:List α}{f:α->Bool}(h:Dt f l=true): ∃r,l=[r]/\f r=true:=by
 match l,h with
 | [r],h=>exact⟨r,rfl,h⟩
noncomputable def isN(e:Expr)(x:Str):Bool:=(Ji e).any λp=>p.1==x
theorem Cj{e x}(h:isN e x=true): ∃p,e= .Name x p:=by
 obtain⟨⟨y,p⟩,h1,h2⟩:=Ba h;exact⟨p,by rw[jF h1,(eq_of_beq h2:y=x)]⟩
noncomputable def Iz(e:Expr):Option (Expr×List CmpOp×List Expr×Pos):=if h:e.ctorIdx=15 then gCF e h λa b c d=>some (a,b,c,d) else none
theorem jB{e:Expr}{t:Expr×List CmpOp×List Expr×Pos}(h:Iz e=some t):e=Expr.Compare t.1 t.2.1 t.2.2.1 t.2.2.2:=
 gCF (motive_1:=λe=>Iz e=some t->e=Expr.Compare t.1 t.2.1 t.2.2.1 t.2.2.2) e (vw h id) (λa b c d h=>s1 (P:=λt:Expr×List CmpOp×List Expr×Pos=>Expr.Compare a b c d=Expr.Compare t.1 t.2.1 t.2.2.1 t.2.2.2) h rfl) h
theorem eU{e:Expr}{a b c d}(h:Iz e=some (a,b,c,d)):e=Expr.Compare a b c d:=jB h
noncomputable def Hs(e:Expr):Option (Expr×List Expr×List Keyword×Pos):=if h:e.ctorIdx=16 then gDY e h λa b c d=>some (a,b,c,d) else none
theorem lI{e:Expr}{t:Expr×List Expr×List Keyword×Pos}(h:Hs e=some t):e=Expr.Call t.1 t.2.1 t.2.2.1 t.2.2.2:=
 gDY (motive_1:=λe=>Hs e=some t->e=Expr.Call t.1 t.2.1 t.2.2.1 t.2.2.2) e (vw h id) (λa b c d h=>s1 (P:=λt:Expr×List Expr×List Keyword×Pos=>Expr.Call a b c d=Expr.Call t.1 t.2.1 t.2.2.1 t.2.2.2) h rfl) h
theorem Nz{e:Expr}{a b c d}(h:Hs e=some (a,b,c,d)):e=Expr.Call a b c d:=lI h
noncomputable def Hi(e:Expr):Option (Expr×Expr×Expr×Pos):=if h:e.ctorIdx=5 then gDN e h λa b c d=>some (a,b,c,d) else none
theorem jE{e:Expr}{t:Expr×Expr×Expr×Pos}(h:Hi e=some t):e=Expr.IfExp t.1 t.2.1 t.2.2.1 t.2.2.2:=
 gDN (motive_1:=λe=>Hi e=some t->e=Expr.IfExp t.1 t.2.1 t.2.2.1 t.2.2.2) e (vw h id) (λa b c d h=>s1 (P:=λt:Expr×Expr×Expr×Pos=>Expr.IfExp a b c d=Expr.IfExp t.1 t.2.1 t.2.2.1 t.2.2.2) h rfl) h
theorem asIfE_of{e:Expr}{a b c d}(h:Hi e=some (a,b,c,d)):e=Expr.IfExp a b c d:=jE h
theorem asAttr_of{e:Expr}{a b c}(h:Ft e=some (a,b,c)):e= .Attribute a b c:=asAttr_inv h
noncomputable def I3(e:Expr):Option (List Expr×Nat×Pos):=if h:e.ctorIdx=25 then g5P e h λa b c=>some (a,b,c) else none
theorem jG{e:Expr}{t:List Expr×Nat×Pos}(h:I3 e=some t):e=Expr.Tuple t.1 t.2.1 t.2.2:=
 g5P (motive_1:=λe=>I3 e=some t->e=Expr.Tuple t.1 t.2.1 t.2.2) e (vw h id) (λa b c h=>s1 (P:=λt:List Expr×Nat×Pos=>Expr.Tuple a b c=Expr.Tuple t.1 t.2.1 t.2.2) h rfl) h
theorem asTup_of{e:Expr}{a b c}(h:I3 e=some (a,b,c)):e=Expr.Tuple a b c:=jG h
noncomputable def Lv(e:Expr):Option (Const×Nat×Pos):=if h:e.ctorIdx=19 then g4O e h λa b c=>some (a,b,c) else none
theorem jC{e:Expr}{t:Const×Nat×Pos}(h:Lv e=some t):e=Expr.Constant t.1 t.2.1 t.2.2:=
 g4O (motive_1:=λe=>Lv e=some t->e=Expr.Constant t.1 t.2.1 t.2.2) e (vw h id) (λa b c h=>s1 (P:=λt:Const×Nat×Pos=>Expr.Constant a b c=Expr.Constant t.1 t.2.1 t.2.2) h rfl) h
noncomputable def Ph:Const->Bool
 | .bool b=>b
 | _=>false
theorem isTru_of{c:Const}(h:Ph c=true):c= .bool true:=by
 cases c <;> first|exact nf h|(cases h;rfl)
noncomputable def Mc(e:Expr):Option (Nat×Pos):=(Lv e).bind λt=>if Ph t.1 then some t.2 else none
set_option tactic.hygienic true in
theorem asTrue_of{e:Expr}{a b}(h:Mc e=some (a,b)):e= .Constant (.bool true) a b:=by
 refine bE' h ?_;intro t e h;split at h
 ·rename_i q
  rw[jC e,isTru_of q,aB h]
 ·exact nn h
noncomputable def Ds(e:Stmt):Option (Expr×List Stmt×List Stmt×Pos):=if h:e.ctorIdx=12 then gAJ e h λa b c d=>some (a,b,c,d) else none
theorem eW{e:Stmt}{t:Expr×List Stmt×List Stmt×Pos}(h:Ds e=some t):e=Stmt.If t.1 t.2.1 t.2.2.1 t.2.2.2:=
 gAJ (motive_2:=λe=>Ds e=some t->e=Stmt.If t.1 t.2.1 t.2.2.1 t.2.2.2) e (vw h id) (λa b c d h=>s1 (P:=λt:Expr×List Stmt×List Stmt×Pos=>Stmt.If a b c d=Stmt.If t.1 t.2.1 t.2.2.1 t.2.2.2) h rfl) h
theorem Jz{e:Stmt}{a b c d}(h:Ds e=some (a,b,c,d)):e=Stmt.If a b c d:=eW h
noncomputable def Fm(e:Stmt):Option (List Expr×Expr×Pos):=if h:e.ctorIdx=5 then gCO e h λa b c=>some (a,b,c) else none
theorem jA{e:Stmt}{t:List Expr×Expr×Pos}(h:Fm e=some t):e=Stmt.Assign t.1 t.2.1 t.2.2:=
 gCO (motive_2:=λe=>Fm e=some t->e=Stmt.Assign t.1 t.2.1 t.2.2) e (vw h id) (λa b c h=>s1 (P:=λt:List Expr×Expr×Pos=>Stmt.Assign a b c=Stmt.Assign t.1 t.2.1 t.2.2) h rfl) h
theorem asAsg_of{e:Stmt}{a b c}(h:Fm e=some (a,b,c)):e=Stmt.Assign a b c:=jA h
noncomputable def O5(e:Stmt):Option (Option Expr×Pos):=if h:e.ctorIdx=3 then gCN e h λa b=>some (a,b) else none
theorem eX{e:Stmt}{t:Option Expr×Pos}(h:O5 e=some t):e=Stmt.Return t.1 t.2:=
 gCN (motive_2:=λe=>O5 e=some t->e=Stmt.Return t.1 t.2) e (vw h id) (λa b h=>s1 (P:=λt:Option Expr×Pos=>Stmt.Return a b=Stmt.Return t.1 t.2) h rfl) h
noncomputable def Lw(e:Stmt):Option (Expr×Pos):=(O5 e).bind λt=>t.1.map λx=>(x,t.2)
theorem asRet_of{e:Stmt}{a b}(h:Lw e=some (a,b)):e= .Return (some a) b:=by
 refine bE' h ?_;intro t e h;refine mE h ?_;intro x q h;cases h;rw[eX e,q]
noncomputable def I0(e:Stmt):Option (Expr×Expr×List Stmt×List Stmt×Pos):=if h:e.ctorIdx=9 then Stmt.For.elim e h λa b c d f=>some (a,b,c,d,f) else none
theorem jD{e:Stmt}{t:Expr×Expr×List Stmt×List Stmt×Pos}(h:I0 e=some t):e=Stmt.For t.1 t.2.1 t.2.2.1 t.2.2.2.1 t.2.2.2.2:=
 Stmt.For.elim (motive_2:=λe=>I0 e=some t->e=Stmt.For t.1 t.2.1 t.2.2.1 t.2.2.2.1 t.2.2.2.2) e (vw h id) (λa b c d f h=>s1 (P:=λt:Expr×Expr×List Stmt×List Stmt×Pos=>Stmt.For a b c d f=Stmt.For t.1 t.2.1 t.2.2.1 t.2.2.2.1 t.2.2.2.2) h rfl) h
theorem eV{e:Stmt}{a b c d f}(h:I0 e=some (a,b,c,d,f)):e=Stmt.For a b c d f:=jD h
noncomputable def pk(l:List Pos):Ps:=λi=>l.getD i default
noncomputable def I6(e:Expr)(x:Str)(op:CmpOp)(y:Str):Bool:=(Iz e).any λc=>decide (c.2.1=[op]) && Dt (λr=>isN r y) c.2.2.1 && (Hs c.1).any λf=>isN f.1 "type" && Dt (λa=>isN a x) f.2.1 && f.2.2.1.isEmpty
theorem Ta{e x op y}(h:I6 e x op y=true): ∃P,e=Pf P x op y:=by
 obtain⟨⟨l,os,rs,p5⟩,h1,h⟩:=Ba h;rw[aI,aI] at h;obtain⟨⟨h2,h3⟩,h4⟩:=h;obtain⟨r,e3,g3⟩:=Gu h3;obtain⟨⟨f,as,ks,p3⟩,h5,h⟩:=Ba h4;rw[aI,aI] at h;obtain⟨⟨h6,h7⟩,h8⟩:=h;obtain⟨a,e7,g7⟩:=Gu h7;obtain⟨p1,k1⟩:=Cj h6;obtain⟨p2,k2⟩:=Cj g7;obtain⟨p4,k4⟩:=Cj g3;refine⟨pk [p1,p2,p3,p4,p5],?_⟩;have e2:=of_decide_eq_true h2;dsimp only at e2 e3 e7 h8 k1 h5;rw[eU h1,Nz h5];have z:ks=[]:=cJ.mp h8;rw[e2,e3,e7,z,k1,k2,k4];rfl
noncomputable def d0:Stmt:= .Pass default
noncomputable def Ze(i a j:Stmt):Bool:=((Ds i).any λc=>I6 c.1 "headers" .IsNot "list" && c.2.2.1.isEmpty) && ((Fm a).any λc=>Dt (λt=>(Ft t).any λg=>isN g.1 "self" && g.2.1==aM "_headers") c.1 && isN c.2.1 "headers") &&
  ((Ds j).any λc=>(Mc c.1).isSome && Dt (λs=>(λ_=>true) s) c.2.1 && c.2.2.1.isEmpty)
noncomputable def L7(b:List Stmt):Bool:=aW b.length 4 && Ze (b.getD 1 d0) (b.getD 2 d0) (b.getD 3 d0)
theorem iF{b:List Stmt}(h:L7 b=true): ∃s1 s3 P p n rb,b=Ly s1 s3 P p n rb:=by
 have h:=(aI _ _).mp h;refine x41 (l4 (aR h.1)) ?_;intro s1 i a j z;subst z;replace h:(((Ds i).any λc=>I6 c.1 "headers" .IsNot "list" && c.2.2.1.isEmpty) && ((Fm a).any λc=>Dt (λt=>(Ft t).any λg=>isN g.1 "self" && g.2.1==aM "_headers") c.1 && isN c.2.1 "headers") &&
   ((Ds j).any λc=>(Mc c.1).isSome && Dt (λs=>(λ_=>true) s) c.2.1 && c.2.2.1.isEmpty))=true:=h.2
 rw[aI,aI] at h;obtain⟨⟨h1,h2⟩,h3⟩:=h;obtain⟨⟨c,rb,ob,p6⟩,e1,h1⟩:=Ba h1;obtain⟨⟨ts,v,q4⟩,e2,h2⟩:=Ba h2;obtain⟨⟨c3,b3,o3,r2⟩,e3,h3⟩:=Ba h3;rw[aI] at h1 h2;rw[aI,aI] at h3;obtain⟨P,k1⟩:=Ta h1.1;obtain⟨t,k2,h4⟩:=Gu h2.1;obtain⟨⟨g,nm,q2⟩,e4,h4⟩:=Ba h4;rw[aI] at h4;obtain⟨q1,k4⟩:=Cj h4.1;obtain⟨q3,k5⟩:=Cj h2.2;obtain⟨⟨r0,r1⟩,k6⟩:=g4A.mp h3.1.1;obtain⟨s3,k7,_⟩:=Gu h3.1.2;have k8:=eq_of_beq h4.2;dsimp only at k1 k2 k4 k5 k6 k7 k8;refine⟨s1,s3,P,pk [p6,q1,q2,q3,q4,r1,r2],r0,rb,?_⟩;rw[Jz e1,asAsg_of e2,Jz e3,k1,k2,asAttr_of e4,k4,k5,k8,asTrue_of k6,k7,(cJ.mp h1.2:ob=[]),(cJ.mp h3.2:o3=[])];rfl
noncomputable def Yl(a b:Pos):Bool:=a.endLine==b.line
noncomputable def Hn(e:Expr)(x m:Str)(as:List Str):Bool:=(Hs e).any λf=>((Ft f.1).any λg=>isN g.1 x && g.2.1==m && Yl g.2.2 f.2.2.2) && f.2.2.1.isEmpty && (match as with|[]=>f.2.1.isEmpty|y::_=>Dt (λa=>isN a y) f.2.1)
theorem jS{e x m}(h:Hn e x m []=true): ∃M,e=Lr M x m []/\((M 1).endLine==(M 2).line)=true:=by
 obtain⟨⟨f,as,ks,q7⟩,e1,h⟩:=Ba h;rw[aI,aI] at h;obtain⟨⟨h1,h2⟩,h3⟩:=h;obtain⟨⟨g,nm,q6⟩,e2,h1⟩:=Ba h1;rw[aI,aI] at h1;obtain⟨q5,k⟩:=Cj h1.1.1;have k2:=eq_of_beq h1.1.2;have z1:as=[]:=cJ.mp h3;have z2:ks=[]:=cJ.mp h2;dsimp only at k k2 e2;exact⟨pk [q5,q6,q7],by rw[Nz e1,asAttr_of e2,k,k2,z1,z2];rfl,h1.2⟩
theorem jT{e x m y}(h:Hn e x m [y]=true): ∃M q,e=Lr M x m [.Name y q]/\((M 1).endLine==(M 2).line)=true:=by
 obtain⟨⟨f,as,ks,q7⟩,e1,h⟩:=Ba h;rw[aI,aI] at h;obtain⟨⟨h1,h2⟩,h3⟩:=h;obtain⟨⟨g,nm,q6⟩,e2,h1⟩:=Ba h1;rw[aI,aI] at h1;obtain⟨q5,k⟩:=Cj h1.1.1;have k2:=eq_of_beq h1.1.2;obtain⟨a,k3,h3⟩:=Gu h3;obtain⟨q,k4⟩:=Cj h3;dsimp only at k k2 e2 k3 k4;exact⟨pk [q5,q6,q7],q,by rw[Nz e1,asAttr_of e2,k,k2,(cJ.mp h2:ks=[]),k3,k4];rfl,h1.2⟩
noncomputable def x0:Expr:= .Name "" default
noncomputable def zJ(x y:Str)(l:List Expr):Bool:=aW l.length 2 && (isN (l.getD 0 x0) x && isN (l.getD 1 x0) y)
noncomputable def Ql(f:Stmt):Bool:=(I0 f).any λc=>((I3 c.1).any λt=>zJ "k" "v" t.1) && Hn c.2.1 "_params" "items" [] && c.2.2.2.1.isEmpty
noncomputable def L9(b:List Stmt):Bool:=aW b.length 4 && Ql (b.getD 2 d0)
theorem iH{b:List Stmt}(h:L9 b=true): ∃s1 s2 s4 M p n lb,b=Lz s1 s2 s4 M p n lb/\((M 1).endLine==(M 2).line)=true:=by
 have h:=(aI _ _).mp h;refine x41 (l4 (aR h.1)) ?_;intro s1 s2 f s4 z;subst z;replace h:Ql f=true:=h.2;obtain⟨⟨tg,it,lb,ob,q8⟩,e1,h⟩:=Ba h;rw[aI,aI] at h;obtain⟨⟨h1,h2⟩,h3⟩:=h;obtain⟨⟨ts,q3,q4⟩,e2,h1⟩:=Ba h1;obtain⟨M,k2,k3⟩:=jS h2;have h1:=(aI _ _).mp h1;dsimp only at h1;refine x21 (l2 (aR h1.1)) ?_;intro k v z;rw[z] at e2 h1;replace h1:(isN k "k" && isN v "v")=true:=h1.2;rw[aI] at h1;obtain⟨q1,rfl⟩:=Cj h1.1;obtain⟨q2,rfl⟩:=Cj h1.2;dsimp only at e2 k2;exact⟨s1,s2,s4,M,pk [q1,q2,q4,q8],q3,lb,by rw[eV e1,asTup_of e2,k2,(cJ.mp h3:ob=[])];rfl,k3⟩
noncomputable def Zf(a j r:Stmt):Bool:=((Fm a).any λg=>Dt (λt=>isN t "regex") g.1 && (Hi g.2.1).any λe=>isN e.1 "name" && isN e.2.1 "_name_disallowed_re" && isN e.2.2.1 "_value_disallowed_re") && ((Ds j).any λg=>Hn g.1 "regex" "search" ["value"] && g.2.2.1.isEmpty) && ((Lw r).any λg=>isN g.1 "value")
noncomputable def Zg(b:List Stmt):Bool:=aW b.length 3 && Zf (b.getD 0 d0) (b.getD 1 d0) (b.getD 2 d0)
noncomputable def Qk(i:Stmt):Bool:=(Ds i).any λc=>I6 c.1 "value" .Is "str" && c.2.2.1.isEmpty && Zg c.2.1
noncomputable def L8(b:List Stmt):Bool:=bK 1 b.length && Qk (b.getD 0 d0)
theorem iG{b:List Stmt}(h:L8 b=true): ∃P M p rb rest,b=X6 P M p rb rest/\((M 1).endLine==(M 2).line)=true:=by
 have h:=(aI _ _).mp h;obtain⟨i,rest,rfl⟩: ∃i r,b=i::r:=List.exists_cons_of_length_pos (aT h.1);replace h:Qk i=true:=h.2;obtain⟨⟨c,bd,ob,p19⟩,e1,h⟩:=Ba h;rw[aI,aI] at h;obtain⟨⟨h1,h2⟩,h3⟩:=h;obtain⟨P,k1⟩:=Ta h1;have h3:=(aI _ _).mp h3;dsimp only at h3;refine x31 (l3 (aR h3.1)) ?_;intro a j r z;rw[z] at e1 h3;replace h3:(((Fm a).any λg=>Dt (λt=>isN t "regex") g.1 && (Hi g.2.1).any λe=>isN e.1 "name" && isN e.2.1 "_name_disallowed_re" && isN e.2.2.1 "_value_disallowed_re") && ((Ds j).any λg=>Hn g.1 "regex" "search" ["value"] && g.2.2.1.isEmpty) && ((Lw r).any λg=>isN g.1 "value"))=true:=h3.2;rw[aI,aI] at h3;obtain⟨⟨ha,hj⟩,hr⟩:=h3;obtain⟨⟨ts,v,p11⟩,e2,ha⟩:=Ba ha;obtain⟨⟨cj,rb,oj,p16⟩,e3,hj⟩:=Ba hj;obtain⟨⟨vr,p18⟩,e4,hr⟩:=Ba hr;rw[aI] at ha hj;obtain⟨t,k2,ht⟩:=Gu ha.1;obtain⟨p6,k3⟩:=Cj ht;obtain⟨⟨x1,x2,x3,p10⟩,e5,hv⟩:=Ba ha.2;rw[aI,aI] at hv;obtain⟨p7,k4⟩:=Cj hv.1.1;obtain⟨p8,k5⟩:=Cj hv.1.2;obtain⟨p9,k6⟩:=Cj hv.2;obtain⟨M,p14,k7,k8⟩:=jT hj.1;obtain⟨p17,k9⟩:=Cj hr;dsimp only at k1 k2 k3 e5 k4 k5 k6 k7 k9;refine⟨P,M,pk [p6,p7,p8,p9,p10,p11,p14,p16,p17,p18,p19],rb,rest,?_,k8⟩;rw[Jz e1,asAsg_of e2,Jz e3,asRet_of e4,k1,k2,k3,asIfE_of e5,k4,k5,k6,k7,k9,(cJ.mp h2:ob=[]),(cJ.mp hj.2:oj=[])];rfl
end Mine
namespace Mine
noncomputable def Hk:List (Nat×Fn×List Str):=[(45,f45,["heap","item"]),(52,f52,["heap"]),(59,f59,["heap","startpos","pos"]),(66,f66,["heap","pos"]),(73,f73,["ch_a","ch_b"]),(80,f80,["a","b","max_cost"]),(144,f144,["self","name"]),(163,f163,["self","name"]),(188,f188,["self"]),(233,f233,["script","given"]),(240,f240,["one","other"]),(247,f247,["one","other"]),(252,f252,["words"]),(259,f259,["far","links"]),(264,f264,["far","bound"]),(271,f271,["left"]),(278,f278,["links","here","there"]),(285,f285,["links"]),(290,f290,["left"]),(295,f295,["far","stops"]),(300,f300,["script"])]
noncomputable def E0(K:g5H)(a:cK)(ps:List Str):Bool:=ps.all λp=>(fdF K a).scope.names.lookup p==some .local||(fdF K a).scope.names.lookup p==some .cell
noncomputable def Hu(K:g5H):Bool:=Mo K && Ii K && noSeq K 224 && makesIn K 224 && gBD K 224 && g8W K 224 && H5 K 90 && H5 K 95 && (Hk.all λp=>Cf K p.1 && g3C K (.ref p.1) && E0 K p.1 p.2.2) && Cf K 118 && Cf K 125 && Cf K 221 &&
 g3C K (.ref 125) && g3C K (.ref 221) && g3C K (.ref 224) && E0 K 118 ["self","headers"] && E0 K 125 ["self","value","name"] && E0 K 221 ["self","_name","_value","_params"] && L8 (Cx K 125) && L9 (Cx K 221) && L7 (Cx K 118) && nsIn K g0M "law"==some (some (.ref 300))
noncomputable def Jq(K:g5H):List (Option (Option Value)):=(["__getattribute__","__getattr__",Da .getall,Da .addh,Da .items,"_headers","__delitem__","__init__","__setattr__","_convert_string_type"]:List Str).map (g3I K (.ref 224))
noncomputable def findsV:List (Option (Option Value)):=[some (some (.builtin "object.__getattribute__")),some none,some (some (.ref 163)),some (some (.ref 221)),some (some (.ref 188)),some none,some (some (.ref 144)),some (some (.ref 118)),some (some (.builtin "object.__setattr__")),some (some (.ref 125))]
noncomputable def Jx(K:g5H):List (Option Value):=[163,221,188,144,118,125].map fun(a:Nat)=>g6P K (.ref a)
noncomputable def scK(K:g5H)(a:cK):=(fdF K a).scope.names
noncomputable def stK(K:g5H)(a:cK)(i:Nat):Stmt:=(Cx K a).getD i (.Pass default)
noncomputable def Mf(K:g5H):List (Option (List S)):=Hk.map λp=>cSs tb (scK K p.1) (Cx K p.1)
noncomputable def codesV:List (Option (List S)):=Hk.map λp=>some p.2.1.body
noncomputable def Qm:Option S->Option S
 | some (.for_ t i _)=>some (.for_ t i [])
 | _=>none
noncomputable def Ju(K:g5H):List (Option S):=[cS tb (scK K 118) (stK K 118 0),Qm (cS tb (scK K 118) (CP (stK K 118 3))),cS tb (scK K 221) (stK K 221 0),cS tb (scK K 221) (stK K 221 1),cS tb (scK K 221) (stK K 221 3)]
noncomputable def stmtsV:List (Option S):=[some (.assign (.one 74) (.ife (.cmp .isnot (.var 74) (.k .none)) (.var 74) (.list []))),some (.for_ (.many [36,79]) (.ex (.var 74)) []),some (.assign (.one 75) (.list [])),
 some (.if_ (.cmp .isnot (.var 77) (.k .none)) [.assign (.one 77) (.conv (.var 28) (.var 77)),.expr (.met .append (.var 75) [.var 77])] []),some (.expr (.met .append (.hds (.var 28)) [.tup [.conv (.var 28) (.var 76),.met .join (.k (.str ⟨#[59,32]⟩)) [.var 75]]]))]
noncomputable def Jt(K:g5H):List (Option X):=(["type","headers","list","self"]:List Str).map (Ao tb (scK K 118))++(["type","value","str","name","_name_disallowed_re","_value_disallowed_re","regex"]:List Str).map (Ao tb (scK K 125))
noncomputable def namesV:List (Option X):=[some (.k (.imm (.type "type"))),some (.var 74),some (.k (.imm (.type "list"))),some (.var 28),some (.k (.imm (.type "type"))),some (.var 72),some (.k (.imm (.type "str"))),some (.var 29),some (.k (.imm (.ref 90))),some (.k (.imm (.ref 95))),some (.var 73)]
noncomputable def Js(K:g5H):List (Option NameKind):=(["k","v","_params"]:List Str).map λx=>(scK K 221).lookup x
noncomputable def Me(K:g5H)(x y z:Value):List (Sem (List (Str×Value))):=[bY (fdF K 45) ⟨[x,y],[]⟩,bY (fdF K 52) ⟨[x],[]⟩,bY (fdF K 59) ⟨[x,y,z],[]⟩,bY (fdF K 66) ⟨[x,y],[]⟩,bY (fdF K 73) ⟨[x,y],[]⟩,bY (fdF K 80) ⟨[x,y,z],[]⟩,bY (fdF K 144) ⟨[x,y],[]⟩,bY (fdF K 163) ⟨[x,y],[]⟩,bY (fdF K 188) ⟨[x],[]⟩,bY (fdF K 233) ⟨[x,y],[]⟩,bY (fdF K 240) ⟨[x,y],[]⟩,bY (fdF K 247) ⟨[x,y],[]⟩,bY (fdF K 252) ⟨[x],[]⟩,bY (fdF K 259) ⟨[x,y],[]⟩,bY (fdF K 264) ⟨[x,y],[]⟩,bY (fdF K 271) ⟨[x],[]⟩,bY (fdF K 278) ⟨[x,y,z],[]⟩,bY (fdF K 285) ⟨[x],[]⟩,bY (fdF K 290) ⟨[x],[]⟩,bY (fdF K 295) ⟨[x,y],[]⟩,bY (fdF K 300) ⟨[x],[]⟩]
noncomputable def bindsV(x y z:Value):List (Sem (List (Str×Value))):=[pure ([aM "heap",aM "item"].zip [x,y]),pure ([aM "heap"].zip [x]),pure ([aM "heap",aM "startpos",aM "pos"].zip [x,y,z]),pure ([aM "heap",aM "pos"].zip [x,y]),pure ([aM "ch_a",aM "ch_b"].zip [x,y]),pure ([aM "a",aM "b",aM "max_cost"].zip [x,y,z]),pure ([aM "self",aM "name"].zip [x,y]),pure ([aM "self",aM "name"].zip [x,y]),pure ([aM "self"].zip [x]),pure ([aM "script",aM "given"].zip [x,y]),pure ([aM "one",aM "other"].zip [x,y]),pure ([aM "one",aM "other"].zip [x,y]),pure ([aM "words"].zip [x]),pure ([aM "far",aM "links"].zip [x,y]),pure ([aM "far",aM "bound"].zip [x,y]),pure ([aM "left"].zip [x]),pure ([aM "links",aM "here",aM "there"].zip [x,y,z]),pure ([aM "links"].zip [x]),pure ([aM "left"].zip [x]),pure ([aM "far",aM "stops"].zip [x,y]),pure ([aM "script"].zip [x])]
noncomputable def ObK(p:Program)(K0:g5H)(w:World)(b:Nat)(o:Obj)(x y z:Value)(t:Bool):Bool×List (Option (Option Value))×List (Option Value)×List (Option (List S))×List (Option S)×List (Option X)×List (Option NameKind)×Option Nat×Option (Option Value)×
  List (Sem (List (Str×Value)))×Sem (List (Str×Value))×Option (List (Str×Value))×Option (Obj×(cK->Sem (List (Str×Value)))):=
 (Hu (K0++[(b,o)]),Jq (K0++[(b,o)]),Jx (K0++[(b,o)]),Mf (K0++[(b,o)]),Ju (K0++[(b,o)]),Jt (K0++[(b,o)]),Js (K0++[(b,o)]),Ci tb true (scK (K0++[(b,o)]) 125) "regex",gCC (K0++[(b,o)]) 224 "_headers",
  Me (K0++[(b,o)]) x y z,bY (fdF (K0++[(b,o)]) 125) ⟨[x,y],[("name",.bool t)]⟩,peek (K0++[(b,o)]) ⟨p,w.params⟩ (bY (fdF (K0++[(b,o)]) 118) ⟨[x],[]⟩),peekA (K0++[(b,o)]) ⟨p,w.params⟩ (bY (fdF (K0++[(b,o)]) 221) ⟨[x,y,z],[]⟩))
noncomputable def ObV(x y z:Value)(t:Bool):Bool×List (Option (Option Value))×List (Option Value)×List (Option (List S))×List (Option S)×List (Option X)×List (Option NameKind)×Option Nat×Option (Option Value)×
  List (Sem (List (Str×Value)))×Sem (List (Str×Value))×Option (List (Str×Value))×Option (Obj×(cK->Sem (List (Str×Value)))):=
 (true,findsV,[163,221,188,144,118,125].map fun(_:Nat)=>some (.type "function"),codesV,stmtsV,namesV,[some .local,some .local,some .local],some 73,some none,
  bindsV x y z,pure ((["self","value","name"]:List Str).zip [x,y,.bool t]),some ((["self","headers"]:List Str).zip [x,.none]),some (({cls:= .type "dict",data:= .dict #[] 0}:Obj),λD=>pure (((["self","_name","_value","_params"]:List String).map aM).zip [x,y,z,.ref D])))
noncomputable def Gn(h:Heap):g5H:=(aN 301).filterMap λa=>(h.get? a).map λo=>(a,o)
set_option tactic.hygienic true in
theorem Nq{f:Nat->Option Obj}{a:Nat}{o:Obj}: ∀{l:List Nat},(l.filterMap λa=>(f a).map λo=>(a,o)).lookup a=some o->f a=some o
 | [],h=>by cases h
 | b::l,h=>by
  rw[List.filterMap_cons] at h;cases e:f b with
  | none=>rw[e] at h;exact Nq h
  | some x=>
   rw[e] at h;simp only[g6Q,bO] at h;split at h
   ·rename_i q;cases h;rw[beq_iff_eq.mp q];exact e
   ·exact Nq h
noncomputable def Lo(p:Program)(w:World)(h:Heap):Prop:= ∃K0:g5H,K0.In h/\(∀a∈K0.map (·.1),a < 301)/\ObK p K0 w=λ_ _ x y z t=>ObV x y z t
noncomputable def hook(p:Program):Hook where
 α:=World->Nat->Obj->Value->Value->Value->Bool->Bool×List (Option (Option Value))×List (Option Value)×List (Option (List S))×List (Option S)×List (Option X)×List (Option NameKind)×Option Nat×Option (Option Value)×
  List (Sem (List (Str×Value)))×Sem (List (Str×Value))×Option (List (Str×Value))×Option (Obj×(cK->Sem (List (Str×Value))))
 obs s:=ObK p (Gn s.heap)
 val _:=λ_ _ _ x y z t=>ObV x y z t
 says:=Lo p
 of w s h:=⟨Gn s.heap,λa o e=>Nq e,λa ha=>by
  obtain⟨q,hq,rfl⟩:=bI.mp ha;obtain⟨b,hb,e⟩:=g9V.mp hq;obtain⟨o,_,rfl⟩:=bP.mp e;exact bQ.mp hb,congrFun h w⟩
 keeps w h h':=fun⟨K0,a,b,c⟩ k=>⟨K0,a.keeps k,b,c⟩
end Mine
namespace Mine
theorem lB{x:Option S}{t i}(h:Qm x=some (.for_ t i [])): ∃b,x=some (.for_ t i b):=by
 cases x with
 | none=>cases h
 | some s=>
  cases s with
  | for_ a b c=>cases h;exact⟨c,rfl⟩
  | _=>cases h
section
variable {p:Program} {K0:g5H} {w:World} (F:ObK p K0 w=λ_ _ x y z t=>ObV x y z t) (b:Nat) (o:Obj)
noncomputable def kk(K0:g5H)(b:Nat)(o:Obj):g5H:=K0++[(b,o)]
include F
theorem Cy(x y z:Value)(t:Bool):ObK p K0 w b o x y z t=ObV x y z t:=by rw[F]
theorem Pc:Hu (kk K0 b o)=true:=congrArg Prod.fst (Cy F b o .none .none .none true)
theorem gP:Jq (kk K0 b o)=findsV:=congrArg (·.2.1) (Cy F b o .none .none .none true)
theorem gT:Jx (kk K0 b o)=[163,221,188,144,118,125].map fun(_:Nat)=>some (.type "function"):=congrArg (·.2.2.1) (Cy F b o .none .none .none true)
theorem Bp:Mf (kk K0 b o)=codesV:=congrArg (·.2.2.2.1) (Cy F b o .none .none .none true)
theorem gS:Ju (kk K0 b o)=stmtsV:=congrArg (·.2.2.2.2.1) (Cy F b o .none .none .none true)
theorem gR:Jt (kk K0 b o)=namesV:=congrArg (·.2.2.2.2.2.1) (Cy F b o .none .none .none true)
theorem gQ:Js (kk K0 b o)=[some .local,some .local,some .local]:=congrArg (·.2.2.2.2.2.2.1) (Cy F b o .none .none .none true)
theorem ob_store:Ci tb true (scK (kk K0 b o) 125) "regex"=some 73:=congrArg (·.2.2.2.2.2.2.2.1) (Cy F b o .none .none .none true)
theorem ob_taker:gCC (kk K0 b o) 224 "_headers"=some none:=congrArg (·.2.2.2.2.2.2.2.2.1) (Cy F b o .none .none .none true)
theorem Bo(x y z:Value):Me (kk K0 b o) x y z=bindsV x y z:=congrArg (·.2.2.2.2.2.2.2.2.2.1) (Cy F b o x y z true)
theorem ob_125(x y:Value)(t:Bool):bY (fdF (kk K0 b o) 125) ⟨[x,y],[("name",.bool t)]⟩=pure ((["self","value","name"]:List Str).zip [x,y,.bool t]):=congrArg (·.2.2.2.2.2.2.2.2.2.2.1) (Cy F b o x y .none t)
theorem ob_118(x:Value):peek (kk K0 b o) ⟨p,w.params⟩ (bY (fdF (kk K0 b o) 118) ⟨[x],[]⟩)=some ((["self","headers"]:List Str).zip [x,.none]):=congrArg (·.2.2.2.2.2.2.2.2.2.2.2.1) (Cy F b o x .none .none true)
theorem Yu(x y z:Value):peekA (kk K0 b o) ⟨p,w.params⟩ (bY (fdF (kk K0 b o) 221) ⟨[x,y,z],[]⟩)=some (({cls:= .type "dict",data:= .dict #[] 0}:Obj),λD=>pure (((["self","_name","_value","_params"]:List String).map aM).zip [x,y,z,.ref D])):=congrArg (·.2.2.2.2.2.2.2.2.2.2.2.2) (Cy F b o x y z true)
end
end Mine
namespace Mine
theorem Yg{K0:g5H}{b:Nat}{o:Obj}(hk: ∀a∈K0.map (·.1),a < 301): ∀(a:Nat) x,(kk K0 b o).lookup a=some x->a < gDS 301 (b+1):=by
 intro a x h;have h1:=lZ h;unfold kk at h1;rw[cD] at h1;rcases aY.mp h1 with h1|h1
 ·exact g0C (hk a h1) (g3V ..)
 ·have:a=b:=by simpa using h1
  rw[this];exact g0C (g1N b) (g7D ..)
set_option tactic.hygienic true in
theorem gC{K0:g5H}{b:Nat}{o:Obj}(h:b∉K0.map (·.1)):(kk K0 b o).lookup b=some o:=by
 unfold kk;induction K0 with
 | nil=>simp
 | cons q r ih=>
  rw[g6W,bO];split
  ·rename_i e;exact absurd (by rw[beq_iff_eq.mp e];simp) h
  ·exact ih λz=>h (aX _ z)
theorem Yh{K0:g5H}{b:Nat}{o:Obj}(hk: ∀a∈K0.map (·.1),a < 301)(h3:Cf (kk K0 b o) 300=true): ∃a x,(kk K0 b o).lookup a=some x/\a+1=gDS 301 (b+1):=by
 by_cases hb:301<=b
 ·exact⟨b,o,gC λz=>absurd (hk b z) (cH.mpr hb),(gAS (Nat.le_succ_of_le hb)).symm⟩
 ·unfold Cf at h3
  cases e:(kk K0 b o).lookup 300 with
  | none=>rw[e] at h3;cases h3
  | some x=>exact⟨300,x,e,(gBI (Nat.lt_of_not_le hb)).symm⟩
noncomputable def XB(prog:Program)(K0:g5H)(w:World)(b:Nat)(o:Obj)(hk: ∀a∈K0.map (·.1),a < 301)(h3:Cf (kk K0 b o) 300=true):Fx where
 prog:=prog
 w:=w
 K:=kk K0 b o
 CH:=224
 n1:=gDS 301 (b+1)
 kb:=Yg hk
 top:=Yh hk h3
 nm:=names
 nmN:=by decide
structure A8(K:g5H):Prop where
 tab:Mo K=true
 st:Ii K=true
 seq:noSeq K 224=true
 mks:makesIn K 224=true
 po:gBD K 224=true
 hd:g8W K 224=true
 p90:H5 K 90=true
 p95:H5 K 95=true
 fns:(Hk.all λp=>Cf K p.1 && g3C K (.ref p.1) && E0 K p.1 p.2.2)=true
 f118:Cf K 118=true
 f125:Cf K 125=true
 f221:Cf K 221=true
 k125:g3C K (.ref 125)=true
 k221:g3C K (.ref 221)=true
 k224:g3C K (.ref 224)=true
 l118:E0 K 118 ["self","headers"]=true
 l125:E0 K 125 ["self","value","name"]=true
 l221:E0 K 221 ["self","_name","_value","_params"]=true
 s125:L8 (Cx K 125)=true
 s221:L9 (Cx K 221)=true
 s118:L7 (Cx K 118)=true
 law:nsIn K g0M "law"=some (some (.ref 300))
theorem Au{a b:Bool}(h:(a && b)=true):a=true:=(aV.mp h).1
theorem A5{a b:Bool}(h:(a && b)=true):b=true:=(aV.mp h).2
theorem Nk{K:g5H}(h:Hu K=true):A8 K:=by
 unfold Hu at h;have zlaw:=A5 h;replace h:=Au h;have zs118:=A5 h;replace h:=Au h;have zs221:=A5 h;replace h:=Au h;have zs125:=A5 h;replace h:=Au h;have zl221:=A5 h;replace h:=Au h;have zl125:=A5 h;replace h:=Au h;have zl118:=A5 h;replace h:=Au h;have zk224:=A5 h;replace h:=Au h;have zk221:=A5 h;replace h:=Au h;have zk125:=A5 h;replace h:=Au h;have zf221:=A5 h;replace h:=Au h;have zf125:=A5 h;replace h:=Au h;have zf118:=A5 h;replace h:=Au h;have zfns:=A5 h;replace h:=Au h;have zp95:=A5 h;replace h:=Au h;have zp90:=A5 h;replace h:=Au h;have zhd:=A5 h;replace h:=Au h;have zpo:=A5 h;replace h:=Au h;have zmk:=A5 h;replace h:=Au h;have zseq:=A5 h;replace h:=Au h;have zst:=A5 h;replace h:=Au h;exact⟨h,zst,zseq,zmk,zpo,zhd,zp90,zp95,zfns,zf118,zf125,zf221,zk125,zk221,zk224,zl118,zl125,zl221,zs125,zs221,zs118,eq_of_beq zlaw⟩
theorem fnA{X:Fx}(B:A8 X.K)(hn:X.nm=names){a:Nat}{fn:Fn}{ps:List Str}(hi:(a,fn,ps)∈Hk)(hc:cSs tb (fdF X.K a).scope.names (Cx X.K a)=some fn.body)
  (bind: ∀vals:List Value,vals.length=ps.length->bY (fdF X.K a) ⟨vals,[]⟩=pure (ps.zip vals)) (len:ps.length=fn.params.length) (psn:ps.Nodup) (par:((fn.params.zip ps).all λp=>decide (names[p.1]? =some p.2))=true):
  ∃o fd body ps,FnOK X tb a fn o fd body ps:=by
 have h:=bB.mp B.fns _ hi;exact cR (Au (Au h)) B.st hn hc bind len psn par (A5 h) (A5 (Au h))
theorem at1{f:FuncData}{p:Str}(h: ∀x,bY f ⟨[x],[]⟩=pure ([p].zip [x])): ∀vals:List Value,vals.length=[p].length->bY f ⟨vals,[]⟩=pure ([p].zip vals)
 :=λvals e=>by refine x11 (g8N.1 e) ?_;intro x z;rw[z];exact h x
theorem at2{f:FuncData}{p q:Str}(h: ∀x y,bY f ⟨[x,y],[]⟩=pure ([p,q].zip [x,y])): ∀vals:List Value,vals.length=[p,q].length->bY f ⟨vals,[]⟩=pure ([p,q].zip vals)
 :=λvals e=>by refine x21 (l2 e) ?_;intro x y z;rw[z];exact h x y
theorem at3{f:FuncData}{p q r:Str}(h: ∀x y z,bY f ⟨[x,y,z],[]⟩=pure ([p,q,r].zip [x,y,z])): ∀vals:List Value,vals.length=[p,q,r].length->bY f ⟨vals,[]⟩=pure ([p,q,r].zip vals)
 :=λvals e=>by refine x31 (l3 e) ?_;intro x y u z;rw[z];exact h x y u
theorem nth{α:Type}{l m:List α}(h:l=m)(i:Nat):l[i]? =m[i]? :=by rw[h]
theorem Bm{α:Type}{l:List α}{x:α}(i:Nat)(h:l[i]? =some x):x∈l:=aU h
section
variable {p:Program} {K0:g5H} {w:World} (F:ObK p K0 w=λ_ _ x y z t=>ObV x y z t) (b:Nat) (o:Obj)
include F
theorem fo45{X:Fx}(hK:X.K=kk K0 b o)(B:A8 X.K)(hn:X.nm=names): ∃o fd body ps,FnOK X tb 45 f45 o fd body ps:=
 fnA B hn (ps:=["heap","item"]) (Bm 0 rfl) (by rw[hK];exact aB (nth (Bp F b o) 0)) (by rw[hK];exact at2 λx y=>aB (nth (Bo F b o x y .none) 0)) rfl (by decide) (by decide)
theorem zA{X:Fx}(hK:X.K=kk K0 b o)(B:A8 X.K)(hn:X.nm=names): ∃o fd body ps,FnOK X tb 52 f52 o fd body ps:=
 fnA B hn (ps:=["heap"]) (Bm 1 rfl) (by rw[hK];exact aB (nth (Bp F b o) 1)) (by rw[hK];exact at1 λx=>aB (nth (Bo F b o x .none .none) 1)) rfl (by decide) (by decide)
theorem fo59{X:Fx}(hK:X.K=kk K0 b o)(B:A8 X.K)(hn:X.nm=names): ∃o fd body ps,FnOK X tb 59 f59 o fd body ps:=
 fnA B hn (ps:=["heap","startpos","pos"]) (Bm 2 rfl) (by rw[hK];exact aB (nth (Bp F b o) 2)) (by rw[hK];exact at3 λx y z=>aB (nth (Bo F b o x y z) 2)) rfl (by decide) (by decide)
theorem zB{X:Fx}(hK:X.K=kk K0 b o)(B:A8 X.K)(hn:X.nm=names): ∃o fd body ps,FnOK X tb 66 f66 o fd body ps:=
 fnA B hn (ps:=["heap","pos"]) (Bm 3 rfl) (by rw[hK];exact aB (nth (Bp F b o) 3)) (by rw[hK];exact at2 λx y=>aB (nth (Bo F b o x y .none) 3)) rfl (by decide) (by decide)
theorem fo73{X:Fx}(hK:X.K=kk K0 b o)(B:A8 X.K)(hn:X.nm=names): ∃o fd body ps,FnOK X tb 73 f73 o fd body ps:=
 fnA B hn (ps:=["ch_a","ch_b"]) (Bm 4 rfl) (by rw[hK];exact aB (nth (Bp F b o) 4)) (by rw[hK];exact at2 λx y=>aB (nth (Bo F b o x y .none) 4)) rfl (by decide) (by decide)
theorem zC{X:Fx}(hK:X.K=kk K0 b o)(B:A8 X.K)(hn:X.nm=names): ∃o fd body ps,FnOK X tb 80 f80 o fd body ps:=
 fnA B hn (ps:=["a","b","max_cost"]) (Bm 5 rfl) (by rw[hK];exact aB (nth (Bp F b o) 5)) (by rw[hK];exact at3 λx y z=>aB (nth (Bo F b o x y z) 5)) rfl (by decide) (by decide)
theorem fo144{X:Fx}(hK:X.K=kk K0 b o)(B:A8 X.K)(hn:X.nm=names): ∃o fd body ps,FnOK X tb 144 f144 o fd body ps:=
 fnA B hn (ps:=["self","name"]) (Bm 6 rfl) (by rw[hK];exact aB (nth (Bp F b o) 6)) (by rw[hK];exact at2 λx y=>aB (nth (Bo F b o x y .none) 6)) rfl (by decide) (by decide)
theorem AN{X:Fx}(hK:X.K=kk K0 b o)(B:A8 X.K)(hn:X.nm=names): ∃o fd body ps,FnOK X tb 163 f163 o fd body ps:=
 fnA B hn (ps:=["self","name"]) (Bm 7 rfl) (by rw[hK];exact aB (nth (Bp F b o) 7)) (by rw[hK];exact at2 λx y=>aB (nth (Bo F b o x y .none) 7)) rfl (by decide) (by decide)
theorem fo188{X:Fx}(hK:X.K=kk K0 b o)(B:A8 X.K)(hn:X.nm=names): ∃o fd body ps,FnOK X tb 188 f188 o fd body ps:=
 fnA B hn (ps:=["self"]) (Bm 8 rfl) (by rw[hK];exact aB (nth (Bp F b o) 8)) (by rw[hK];exact at1 λx=>aB (nth (Bo F b o x .none .none) 8)) rfl (by decide) (by decide)
theorem AO{X:Fx}(hK:X.K=kk K0 b o)(B:A8 X.K)(hn:X.nm=names): ∃o fd body ps,FnOK X tb 233 f233 o fd body ps:=
 fnA B hn (ps:=["script","given"]) (Bm 9 rfl) (by rw[hK];exact aB (nth (Bp F b o) 9)) (by rw[hK];exact at2 λx y=>aB (nth (Bo F b o x y .none) 9)) rfl (by decide) (by decide)
theorem fo240{X:Fx}(hK:X.K=kk K0 b o)(B:A8 X.K)(hn:X.nm=names): ∃o fd body ps,FnOK X tb 240 f240 o fd body ps:=
 fnA B hn (ps:=["one","other"]) (Bm 10 rfl) (by rw[hK];exact aB (nth (Bp F b o) 10)) (by rw[hK];exact at2 λx y=>aB (nth (Bo F b o x y .none) 10)) rfl (by decide) (by decide)
theorem AP{X:Fx}(hK:X.K=kk K0 b o)(B:A8 X.K)(hn:X.nm=names): ∃o fd body ps,FnOK X tb 247 f247 o fd body ps:=
 fnA B hn (ps:=["one","other"]) (Bm 11 rfl) (by rw[hK];exact aB (nth (Bp F b o) 11)) (by rw[hK];exact at2 λx y=>aB (nth (Bo F b o x y .none) 11)) rfl (by decide) (by decide)
theorem fo252{X:Fx}(hK:X.K=kk K0 b o)(B:A8 X.K)(hn:X.nm=names): ∃o fd body ps,FnOK X tb 252 f252 o fd body ps:=
 fnA B hn (ps:=["words"]) (Bm 12 rfl) (by rw[hK];exact aB (nth (Bp F b o) 12)) (by rw[hK];exact at1 λx=>aB (nth (Bo F b o x .none .none) 12)) rfl (by decide) (by decide)
theorem AQ{X:Fx}(hK:X.K=kk K0 b o)(B:A8 X.K)(hn:X.nm=names): ∃o fd body ps,FnOK X tb 259 f259 o fd body ps:=
 fnA B hn (ps:=["far","links"]) (Bm 13 rfl) (by rw[hK];exact aB (nth (Bp F b o) 13)) (by rw[hK];exact at2 λx y=>aB (nth (Bo F b o x y .none) 13)) rfl (by decide) (by decide)
theorem fo264{X:Fx}(hK:X.K=kk K0 b o)(B:A8 X.K)(hn:X.nm=names): ∃o fd body ps,FnOK X tb 264 f264 o fd body ps:=
 fnA B hn (ps:=["far","bound"]) (Bm 14 rfl) (by rw[hK];exact aB (nth (Bp F b o) 14)) (by rw[hK];exact at2 λx y=>aB (nth (Bo F b o x y .none) 14)) rfl (by decide) (by decide)
theorem AR{X:Fx}(hK:X.K=kk K0 b o)(B:A8 X.K)(hn:X.nm=names): ∃o fd body ps,FnOK X tb 271 f271 o fd body ps:=
 fnA B hn (ps:=["left"]) (Bm 15 rfl) (by rw[hK];exact aB (nth (Bp F b o) 15)) (by rw[hK];exact at1 λx=>aB (nth (Bo F b o x .none .none) 15)) rfl (by decide) (by decide)
theorem fo278{X:Fx}(hK:X.K=kk K0 b o)(B:A8 X.K)(hn:X.nm=names): ∃o fd body ps,FnOK X tb 278 f278 o fd body ps:=
 fnA B hn (ps:=["links","here","there"]) (Bm 16 rfl) (by rw[hK];exact aB (nth (Bp F b o) 16)) (by rw[hK];exact at3 λx y z=>aB (nth (Bo F b o x y z) 16)) rfl (by decide) (by decide)
theorem AS{X:Fx}(hK:X.K=kk K0 b o)(B:A8 X.K)(hn:X.nm=names): ∃o fd body ps,FnOK X tb 285 f285 o fd body ps:=
 fnA B hn (ps:=["links"]) (Bm 17 rfl) (by rw[hK];exact aB (nth (Bp F b o) 17)) (by rw[hK];exact at1 λx=>aB (nth (Bo F b o x .none .none) 17)) rfl (by decide) (by decide)
theorem fo290{X:Fx}(hK:X.K=kk K0 b o)(B:A8 X.K)(hn:X.nm=names): ∃o fd body ps,FnOK X tb 290 f290 o fd body ps:=
 fnA B hn (ps:=["left"]) (Bm 18 rfl) (by rw[hK];exact aB (nth (Bp F b o) 18)) (by rw[hK];exact at1 λx=>aB (nth (Bo F b o x .none .none) 18)) rfl (by decide) (by decide)
theorem AT{X:Fx}(hK:X.K=kk K0 b o)(B:A8 X.K)(hn:X.nm=names): ∃o fd body ps,FnOK X tb 295 f295 o fd body ps:=
 fnA B hn (ps:=["far","stops"]) (Bm 19 rfl) (by rw[hK];exact aB (nth (Bp F b o) 19)) (by rw[hK];exact at2 λx y=>aB (nth (Bo F b o x y .none) 19)) rfl (by decide) (by decide)
theorem fo300{X:Fx}(hK:X.K=kk K0 b o)(B:A8 X.K)(hn:X.nm=names): ∃o fd body ps,FnOK X tb 300 f300 o fd body ps:=
 fnA B hn (ps:=["script"]) (Bm 20 rfl) (by rw[hK];exact aB (nth (Bp F b o) 20)) (by rw[hK];exact at1 λx=>aB (nth (Bo F b o x .none .none) 20)) rfl (by decide) (by decide)
theorem CM{X:Fx}(hK:X.K=kk K0 b o)(B:A8 X.K)(hn:X.nm=names): ∀a fn,ft a=some fn->∃o fd body ps,FnOK X tb a fn o fd body ps:=
 kD fts ⟨fo45 F b o hK B hn,zA F b o hK B hn,fo59 F b o hK B hn,zB F b o hK B hn,fo73 F b o hK B hn,zC F b o hK B hn,fo144 F b o hK B hn,AN F b o hK B hn,fo188 F b o hK B hn,AO F b o hK B hn,fo240 F b o hK B hn,AP F b o hK B hn,fo252 F b o hK B hn,AQ F b o hK B hn,fo264 F b o hK B hn,AR F b o hK B hn,fo278 F b o hK B hn,AS F b o hK B hn,fo290 F b o hK B hn,AT F b o hK B hn,fo300 F b o hK B hn,trivial⟩
theorem cP(hk: ∀a∈K0.map (·.1),a < 301)(h3:Cf (kk K0 b o) 300=true):Ec (XB p K0 w b o hk h3):=by
 have B:=Nk (Pc F b o);have fi: ∀i x,findsV[i]? =some x->(Jq (kk K0 b o))[i]? =some x:=λi x h=>(nth (gP F b o) i).trans h;have ty: ∀i x,([163,221,188,144,118,125].map fun(_:Nat)=>some (Value.type "function"))[i]? =some x->(Jx (kk K0 b o))[i]? =some x:=λi x h=>(nth (gT F b o) i).trans h;have nm: ∀i x,namesV[i]? =some x->(Jt (kk K0 b o))[i]? =some x:=λi x h=>(nth (gR F b o) i).trans h;have sm: ∀i x,stmtsV[i]? =some x->(Ju (kk K0 b o))[i]? =some x:=λi x h=>(nth (gS F b o) i).trans h;have kd: ∀i x,[some NameKind.local,some .local,some .local][i]? =some x->(Js (kk K0 b o))[i]? =some x:=λi x h=>(nth (gQ F b o) i).trans h;exact {
  nm:=rfl
  ch:=rfl
  tab:=Zl rfl B.tab
  mods:=by exact g0C (by decide:1 < 301) (g3V ..)
  ga:=aB (fi 0 _ rfl)
  noga:=aB (fi 1 _ rfl)
  meth:=by
   intro m a h hr;cases m <;> cases h
   ·exact absurd rfl hr
   ·exact⟨aB (fi 2 _ rfl),aB (ty 0 _ rfl)⟩
   ·exact⟨aB (fi 3 _ rfl),aB (ty 1 _ rfl)⟩
   ·exact⟨aB (fi 4 _ rfl),aB (ty 2 _ rfl)⟩
  attr:=aB (fi 5 _ rfl)
  noseq:=B.seq
  del:=⟨aB (fi 6 _ rfl),aB (ty 3 _ rfl)⟩
  mko:=⟨B.mks,aB (fi 7 _ rfl),aB (ty 4 _ rfl),aB (fi 8 _ rfl),B.po,ob_taker F b o,B.hd,λdx=>rfl⟩
  cv:=⟨aB (fi 9 _ rfl),aB (ty 5 _ rfl),B.k125⟩
  k221:=B.k221
  k224:=B.k224
  f125:=⟨_,_,_,J3 B.f125 B.st,⟨iG B.s125,aB (nm 4 _ rfl),aB (nm 5 _ rfl),aB (nm 6 _ rfl),aB (nm 7 _ rfl),aB (nm 8 _ rfl),aB (nm 9 _ rfl),aB (nm 10 _ rfl),ob_store F b o⟩,L4 B.l125,ob_125 F b o⟩
  p90:=Qg B.p90
  p95:=Qg B.p95
  f221:=by
   obtain⟨s1,s2,s4,M,p,n,lb,e,hl⟩:=iH B.s221;have g (i:Nat):stK (kk K0 b o) 221 i=(Lz s1 s2 s4 M p n lb).getD i (.Pass default):=by unfold stK;rw[e]
   have c1:=aB (sm 2 _ rfl);have c2:=aB (sm 3 _ rfl);have c4:=aB (sm 4 _ rfl);rw[g] at c1 c2 c4;exact⟨_,_,_,J3 B.f221 B.st,⟨⟨s1,s2,s4,M,p,n,lb,e,hl,c1,c2,c4⟩,aB (kd 0 _ rfl),aB (kd 1 _ rfl),aB (kd 2 _ rfl),rfl⟩,L4 B.l221,λx y z=>⟨_,Yu F b o x y z,λ_=>rfl⟩⟩
  f118:=by
   obtain⟨s1,s3,P,p,n,rb,e⟩:=iF B.s118;have g (i:Nat):stK (kk K0 b o) 118 i=(Ly s1 s3 P p n rb).getD i (.Pass default):=by unfold stK;rw[e]
   have c1:=aB (sm 0 _ rfl);have c2:=aB (sm 1 _ rfl);rw[g] at c1 c2;obtain⟨bx,c3⟩:=lB c2;exact⟨_,_,_,J3 B.f118 B.st,⟨⟨s1,s3,P,p,n,rb,bx,e,c1,c3⟩,aB (nm 0 _ rfl),aB (nm 1 _ rfl),aB (nm 2 _ rfl),aB (nm 3 _ rfl)⟩,L4 B.l118,ob_118 F b o⟩
  fns:=CM F b o rfl B rfl}
end
set_option tactic.hygienic true in
theorem Pi{K0:g5H}{h:Heap}{b:Nat}{o:Obj}(hin:K0.In h)(hol:h.get? b=some o):(kk K0 b o).In h:=by
 intro a x e;unfold kk at e;rw[List.lookup_append] at e;cases e2:K0.lookup a with
 | some y=>rw[e2] at e;cases e;exact hin a _ e2
 | none=>
  rw[e2] at e;simp only[Option.none_or,bO] at e;split at e
  ·rename_i q
   rw[beq_iff_eq.mp q];cases e;exact hol
  ·cases e
theorem Yi{p:Program}{w:World}{h:Heap}(Yy:Lo p w h){mg:Str->Option Value}(hm:h.Ns g0M mg){b:Nat}{o:Obj}(hol:h.get? b=some o):mg "law"=some (.ref 300):=by
 obtain⟨K0,hin,hk,F⟩:=Yy;exact mg_of (Pi hin hol) hm (Nk (Pc F b o)).law
theorem yZ{p:Program}{w:World}{s:Shared}(Yy:Lo p w s.heap){b:Nat}{vs:List Value}{ns:List Int}{m:Nat}(hol:s.heap.get? b=some {cls:= .type "list",data:= .seq vs.toArray m})(hi:IntsAre vs ns)(hl:ns.length<=1000){Q E:Value->Shared->Prop}
  (P: ∀h' tk,(∀b o,s.heap.get? b=some o->h'.get? b=some o)->Q (.bool true) {s with heap:=h',toks:=tk}):cA (gBA p w) callerA (call (.ref 300) [.ref b]) Q E s:=by
 obtain⟨K0,hin,hk,F⟩:=Yy;have B:=Nk (Pc F b {cls:= .type "list",data:= .seq vs.toArray m});have h3:Cf (kk K0 b {cls:= .type "list",data:= .seq vs.toArray m}) 300=true:=Au (Au (bB.mp B.fns _ (Bm 20 rfl)));obtain⟨n,hp',e⟩:=Za ns;exact BC (X:=XB p K0 w b {cls:= .type "list",data:= .seq vs.toArray m} hk h3) (cP F b _ hk h3) e eF (Pi hin hol) (g0C (g1N b) (g7D ..)) hl hol (by simpa using hi) P
end Mine
namespace Mine
noncomputable def mkT(os:List Obj):Nat->Nat->Nat->BT
 | 0,_,_=> .nil
 | k+1,a,b=>match os[b]? with
  | some o=> .node o (mkT os k (2*a) (a+b)) (mkT os k (2*a) (2*a+b))
  | none=> .nil
theorem M7(os:List Obj): ∀(k a b i:Nat),i+1 < 2 ^ k->(mkT os k a b).get i=os[a*i+b]?
 | 0,a,b,i,h=>by exact if_pos ‹_›
 | k+1,a,b,i,h=>by
  have hk:i+1 < 2*2 ^ k:=by rw[Nat.pow_succ,g6R] at h;exact h
  show (match os[b]? with
   | some o=>BT.node o (mkT os k (2*a) (a+b)) (mkT os k (2*a) (2*a+b))
   | none=>BT.nil).get i=_
  cases e:os[b]? with
  | none=>
   show none=_;rw[g4G] at e;exact(g0H (bR e (gBJ ..))).symm
  | some o=>
   show (BT.node o (mkT os k (2*a) (a+b)) (mkT os k (2*a) (2*a+b))).get i=_;rw[BT.get_node];by_cases h0:i=0
   ·rw[if_pos h0,h0,g5C,g1E,e]
   ·rw[if_neg h0]
    by_cases h1:i % 2=1
    ·obtain⟨j,rfl⟩: ∃j,i=2*j+1:=⟨i / 2,pn h1⟩
     rw[if_pos h1,show (2*j+1) / 2=j by exact xX,M7 os k (2*a) (a+b) j (pq h)];congr 1;rw[g9T,gDR,g3O,<-g8M,g6R a 2]
    ·obtain⟨j,rfl⟩: ∃j,i=2*j+2:=⟨i / 2 - 1,po h0 h1⟩
     rw[if_neg h1,show (2*j+2) / 2 - 1=j by exact xY,M7 os k (2*a) (2*a+b) j (pr h)];congr 1;rw[g9T,g3O,<-g8M,g6R a 2]
noncomputable def Ng(s:Shared):SharedT:=⟨mkT s.heap.objs.toList 12 1 0,s.heap.objs.size,s.heap.life,s.gens,s.drawn,s.toks,s.os⟩
theorem nJ{s:Shared}(h:s.heap.objs.size < 4000):(Ng s).abs=s:=by
 obtain⟨⟨os,life⟩,g,d,k,o⟩:=s;show Shared.mk (absHeap (mkT os.toList 12 1 0) os.size life) g d k o=_;congr 1;show Heap.mk _ _=Heap.mk _ _;congr 1;have h:os.size < 4000:=h;apply Array.ext_getElem?;intro i;have:=absHeap_at (mkT os.toList 12 1 0) os.size life i;rw[show (absHeap (mkT os.toList 12 1 0) os.size life).objs=((mkT os.toList 12 1 0).list os.size).toArray from rfl] at this;rw[this];by_cases hi:i < os.size
 ·rw[if_pos hi,M7 _ 12 1 0 i (by have:(2:Nat) ^ 12=4096:=rfl;exact ps h hi),gDQ,g5E,Array.getElem?_toList,g7U hi]
  rfl
 ·rw[if_neg hi,Array.getElem?_eq_none (g4T hi)]
section
variable {p:Program} {w:World} {n₀:Nat} {ann:Option Value}
noncomputable def Ls(ok:Thread->Bool)(stp:SharedT->Thread->Option (SharedT×Thread)):Nat->SharedT->Thread->Option SharedT
 | 0,_,_=>none
 | n+1,s,t=>bif through t then some s else bif ok t then(stp s t).bind λr=>Ls ok stp n r.1 r.2 else none
theorem eH{n:Nat}{s s':SharedT}{t:Thread}(h:Ls (stepOk n₀ ann) (stepT (denote g3N) p w) n s t=some s'):topRun g3N p w n₀ ann n s.abs t=some s'.abs:=by
 induction n generalizing s t with
 | zero=>exact nn h
 | succ n ih=>
  unfold topRun;replace h:(bif through t then some s else bif stepOk n₀ ann t then(stepT (denote g3N) p w s t).bind λr=>Ls (stepOk n₀ ann) (stepT (denote g3N) p w) n r.1 r.2 else none)=some s':=h;cases he:through t with
  | true=>rw[he] at h;cases h;rfl
  | false=>
   rw[he] at h;cases hk:stepOk n₀ ann t with
   | false=>rw[hk] at h;exact nn h
   | true=>
    rw[hk] at h;refine bE' h λr hs h=> ?_;rw[stepT_spec hs];exact ih h
open PySem.W.Fast in
noncomputable def J9(p:Program)(w:World)(n₀:Nat)(ann:Option Value):Nat->SharedT->Thread->Option SharedT:=Ls (tw6613529449190102663 n₀ ann) (tw10156331382660048174 (tw11892475500146522536 tw14364793385576792824) p w)
open PySem.W.Fast in
theorem lE{n:Nat}{s s':SharedT}{t:Thread}(h:J9 p w n₀ ann n s t=some s'):topRun g3N p w n₀ ann n s.abs t=some s'.abs:=by
 unfold J9 at h;rw[<-te6613529449190102663,<-te10156331382660048174,<-te11892475500146522536,<-te14364793385576792824] at h;exact eH h
open PySem.W.Fast in
noncomputable def I9(p:Program)(w:World)(N:Nat):Option Shared:=(tw10274390034422433532 tw14364793385576792824 (opening p) w N (start (opening p)).1 (start (opening p)).2).bind (fenceModules? p)
open PySem.W.Fast in
theorem gU(p:Program)(w:World)(N:Nat):I9 p w N=fencedOpening g3N p w N:=by
 unfold I9 fencedOpening;rw[<-te10274390034422433532,<-te14364793385576792824]
end
noncomputable def By(s:SharedT):g5H:=(aN 301).filterMap λa=>(match g6N a s.n with|true=>(s.tree.get a).bind alive|false=>none).map λo=>(a,o)
theorem fO(s:SharedT)(h: ∀a,a < s.n->(s.tree.get a).isSome=true):By s=Gn s.abs.heap:=by
 unfold By Gn;congr 1;funext a;congr 1;cases e:g6N a s.n with
 | true=>
  have ha:a < s.n:=aT e;obtain⟨o,ho⟩:=g4A.mp (h a ha);show (s.tree.get a).bind alive=(absHeap s.tree s.n s.life).get? a;rw[abs_get ha ho,ho];rfl
 | false=>
  show none=(absHeap s.tree s.n s.life).get? a;rw[abs_get_none];intro z;have:g6N a s.n=true:=Nat.ble_eq_true_of_le z;rw[e] at this;cases this
theorem dF{p q:Program}{loose:List Str}{Xt:Shared->Bool}{α:Type}{Yf:Shared->α}{Ya:World->α}{N:Nat}{w:World}{s:Shared}{t:SharedT}(h1:I9 p w N=some s)(h2:J9 p w s.heap.objs.size (s.heap.nsMap g0M "__annotations__") N (Ng s) (topStub p)=some t)
  (k1:(s.heap.isNs g0M && s.gens.size==0)=true) (k2:s.heap.objs.size < 4000) (k3:(staticsOk (g2U p.main.body) s.heap t.abs.heap && gDI p t.abs.heap && gensDone t.abs && laidKept s.heap t.abs.heap)=true)
  (k4:openSeen q loose (g2U p.main.body) Xt true t.abs=openGood q loose) (k5:Yf t.abs=Ya w):(openEnds g3N p w N).map (λs=>(openSeen q loose (g2U p.main.body) Xt true s,Yf s))=some (openGood q loose,Ya w):=by
 have r:=lE h2;rw[nJ k2] at r;have z:openEnds g3N p w N=some t.abs:=by
  unfold openEnds;rw[<-gU,h1];show topFrom g3N p w N s=_;unfold topFrom;rw[k1];show (topRun g3N p w s.heap.objs.size (s.heap.nsMap g0M "__annotations__") N s (topStub p)).bind _=_;rw[r];show (match staticsOk (g2U p.main.body) s.heap t.abs.heap && gDI p t.abs.heap && gensDone t.abs && laidKept s.heap t.abs.heap with|true=>some t.abs|false=>none)=_;rw[k3]
 rw[z];exact congrArg some (g9R k4 k5)
end Mine
namespace Mine
theorem law_end{p:Program}{w:World}{s:Shared}(Yy:Lo p w s.heap){mg:Str->Option Value}(hm:s.heap.Ns g0M mg){fa b:cK}(hmg:mg "law"=some (.ref fa)){vs:List Value}{ns:List Int}(hL:s.heap.IsList b vs.toArray)
  (hW:Well w.params s.heap (.ref b) (ofPy (PyData.list (ns.map PyData.int)))) (hi:IntsAre vs ns) (hl:ns.length<=63) {Q E:Value->Shared->Prop}
  (P: ∀h' tk,(∀b o,s.heap.get? b=some o->h'.get? b=some o)->Q (.bool true) {s with heap:=h',toks:=tk}):cA (gBA p w) callerA (call (.ref fa) [.ref b]) Q E s:=by
 simp only[ofPy] at hW;cases hW with
 | @list _ us _ hg _=>
  obtain⟨o,ho,_,n,hd⟩:=hL;rw[hg] at ho;cases ho;injection hd with e1 e2
  rw[e1] at hg;rw[Yi Yy hm hg] at hmg;cases hmg;exact yZ Yy hg hi (Q31 hl rfl) P
end Mine
open PySem PySem.W PyProof.Rows
set_option maxRecDepth 100000
namespace Mine
noncomputable abbrev Dg:OpenLaw:=PySem.Challenge.rw_pg0289_01
noncomputable abbrev pL:Program:=Dg.row.prog
noncomputable def viewP:Program:={pL with main:={pL.main with body:=[0,1,3,4,5,6,8,9,10,11,12,14,15,16,18,20,21,22,23,24,25,26,27,28,29,30,31].filterMap fun(i:Nat)=>pL.main.body[i]? }}
noncomputable def looseP:List Str:=[aM "tspecials",aM "_name_disallowed_re",aM "_value_disallowed_re",aM "_formatparam"]
noncomputable def XtP(s:Shared):Bool:=xlAt viewP [] s && recOk Dg.row.toRowW.records s
noncomputable def Xz(w:World):Option (Shared×SharedT):=(I9 pL w 3386).bind λs=>(J9 pL w s.heap.objs.size (s.heap.nsMap g0M "__annotations__") 3386 (Ng s) (topStub pL)).map λt=>(s,t)
noncomputable def look0(r:Shared×SharedT):Bool:=(r.1.heap.isNs g0M && r.1.gens.size==0) && g6N r.1.heap.objs.size 4000 && ((aN r.2.n).all λa=>(r.2.tree.get a).isSome) && (staticsOk (g2U pL.main.body) r.1.heap r.2.abs.heap && gDI pL r.2.abs.heap && gensDone r.2.abs && laidKept r.1.heap r.2.abs.heap)
open PySem.W.Fast in
theorem kl1(w:World):(Xz w).map (λr=>tw4187177175401517315 viewP looseP (g2U pL.main.body) XtP true r.2.abs)=some (openGood viewP looseP):=by kernel_rfl
theorem o0(w:World):(Xz w).map (λr=>(look0 r,(λb o=>Hu (By r.2++[(b,o)])),(λb o=>Mf (By r.2++[(b,o)])),(λb o=>(Jq (By r.2++[(b,o)]),Jx (By r.2++[(b,o)]),Ju (By r.2++[(b,o)]),Jt (By r.2++[(b,o)]),Js (By r.2++[(b,o)]),Ci tb true (scK (By r.2++[(b,o)]) 125) "regex",gCC (By r.2++[(b,o)]) 224 "_headers")),(fun(w':World) b o x y z t=>(Me (By r.2++[(b,o)]) x y z,bY (fdF (By r.2++[(b,o)]) 125) ⟨[x,y],[("name",.bool t)]⟩,peek (By r.2++[(b,o)]) ⟨pL,w'.params⟩ (bY (fdF (By r.2++[(b,o)]) 118) ⟨[x],[]⟩),peekA (By r.2++[(b,o)]) ⟨pL,w'.params⟩ (bY (fdF (By r.2++[(b,o)]) 221) ⟨[x,y,z],[]⟩)))))=
  some (true,(λ_ _=>true),(λ_ _=>codesV),(λ_ _=>(findsV,[163,221,188,144,118,125].map fun(_:Nat)=>some (.type "function"),stmtsV,namesV,[some .local,some .local,some .local],some 73,some none)),(λ_ _ _ x y z t=>(bindsV x y z,pure ((["self","value","name"]:List Str).zip [x,y,.bool t]),some ((["self","headers"]:List Str).zip [x,.none]),some (({cls:= .type "dict",data:= .dict #[] 0}:Obj),λD=>pure (((["self","_name","_value","_params"]:List String).map aM).zip [x,y,z,.ref D]))))):=by kernel_rfl
theorem Qc{α β:Type}{o:Option α}{x:α}{f:α->β}{v:β}(h:o.map f=some v)(e:o=some x):f x=v:=by rw[e] at h;exact aB h
theorem left_ok:LeftO pL viewP looseP XtP (hook pL).obs (hook pL).val 3386:=by
 intro w;obtain⟨⟨s,t⟩,e,_⟩:=bP.mp (o0 w);have k5:=Qc (o0 w) e;have k:=congrArg (λp=>p.1) k5;have k4:=Qc (kl1 w) e;have k6:=congrArg (λp=>p.2.2.1) k5;have k7:=congrArg (λp=>p.2.2.2.1) k5;have k8:=congrArg (λp=>p.2.2.2.2) k5;replace k5:=congrArg (λp=>p.2.1) k5;unfold look0 at k;have kA:=A5 k;replace k:=Au k;have kB:=A5 k;replace k:=Au k;have kC:=A5 k;replace k:=Au k;obtain⟨s',h1,h2⟩:=g2M.mp e;obtain⟨t',h2,h3⟩:=bP.mp h2;cases h3;have fe:By t=Gn t.abs.heap:=fO t λa ha=>bB.mp kB a (bQ.mpr ha);refine dF h1 h2 k (aT kC) kA ?_ ?_
 ·rw[PySem.W.Fast.te4187177175401517315];exact k4
 ·show ObK pL (Gn t.abs.heap)=λ_ _ _ x y z t=>ObV x y z t
  rw[<-fe];funext w' b o x y z u;have q1:=congrFun (congrFun k5 b) o;have q2:=congrFun (congrFun k6 b) o;have q3:=congrFun (congrFun k7 b) o;have q4:=congrFun (congrFun (congrFun (congrFun (congrFun (congrFun (congrFun k8 w') b) o) x) y) z) u;simp only[g5U] at q3 q4;unfold ObK ObV;simp only[g5U];exact⟨q1,q3.1,q3.2.1,q2,q3.2.2.1,q3.2.2.2.1,q3.2.2.2.2.1,q3.2.2.2.2.2.1,q3.2.2.2.2.2.2,q4.1,q4.2.1,q4.2.2.1,q4.2.2.2⟩
theorem some_get{α β:Type}{x:Option (α×β)}(h:x.isSome=true):x=some ((x.get h).1,(x.get h).2):=by
 cases x with
 | none=>cases h
 | some p=>rfl
theorem def_ok:(defOf viewP Dg.row.name).isSome=true:=by kernel_rfl
noncomputable def dP:DefRec:=((defOf viewP Dg.row.name).get def_ok).1
noncomputable def kwP:List (Str×Expr):=((defOf viewP Dg.row.name).get def_ok).2
theorem hp_ok:pL.theDef Dg.row.name=some (dP.params,dP.body,dP.scope):=by kernel_rfl
theorem hkw_ok:kwWritten? dP.params.kwonlyargs dP.params.kw_defaults=some kwP:=by kernel_rfl
theorem chains_ok:(chainsOk viewP && opensWell pL && (frees Dg.row.toRowW && Dg.row.within.isEmpty))=true:=by kernel_rfl
theorem bare_ok:pL.bare:=⟨rfl,rfl,rfl,rfl,rfl,by decide+kernel⟩
theorem BB:PySem.W.Fast.tw9446332074065402090 Dg=true:=by kernel_rfl
theorem said:Dg.wellSaid=true:=(congrFun PySem.W.Fast.te9446332074065402090 Dg).trans BB
theorem dname:dP.name=aM "law":=by kernel_rfl
end Mine
set_option maxHeartbeats 8000000 in
theorem PySem.Challenge.cw_pg0289_01_holds : PySem.Challenge.rw_pg0289_01.Holds := by
 w_on
 refine holds_law Mine.said λsaid'=> ?_;refine holds_open (q:=Mine.viewP) (loose:=Mine.looseP) (Xt:=Mine.XtP) (XP:=XL Mine.viewP []) (Yf:=(Mine.hook Mine.pL).obs) (Ya:=(Mine.hook Mine.pL).val) (YP:=(Mine.hook Mine.pL).says) (d:=Mine.dP) (kwd:=Mine.kwP) (N:=3386) Mine.left_ok (Mine.hook Mine.pL).of (Mine.hook Mine.pL).keeps (λs e=>xl_of s (aV.mp e).1) XL.keeps (Mine.some_get Mine.def_ok) Mine.hp_ok Mine.hkw_ok (λs e=>recFacts_of (aV.mp e).2) rfl said' Mine.chains_ok Mine.bare_ok ?hw ?hc;case hw=>w_witness2
 case hc=>
  intro w s₀ s₁ mg mb G Yy fa o pm cd doc dV kV ho hd hcd hD hmg hg args vals as hpre hlay hrd hwl hlo;clear hd hcd hD ho
  wrow_args hpre hlay hrd hwl hlo
  rw[Mine.dname] at hmg;refine Mine.law_end (p:=Mine.pL) (ns:=_) Yy G.T.g hmg (by assumption) (by assumption) (by assumption) (by omega) λh' tk hk=> ?_;exact GoodW.toG ⟨.inl ⟨_,_,_,rfl,λ_=>rfl,.bool true,(by kernel_rfl),λ_=>⟨.nil,by simp⟩⟩,hk,rfl,hg⟩
