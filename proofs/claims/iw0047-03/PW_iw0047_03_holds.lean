import PyProof.Rows.All
import Wide.All
import OpenK.AllK
import KE.KSuper
import KE.KDictSum
import PyProof.ListCopy
import PyProof.StrBlock
import PyProof.Rows.RaiseClass
import PyProof.Rows.Own
import PyProof.ExcBaseAll.Exception
import PyProof.StationsW
import PyProof.Rows.CatchBare
import OpenK.KRaise
import Lean
import PySem.Challenge.RW_iw0047_03
set_option Elab.async false
set_option linter.all false
set_option maxRecDepth 100000
set_option genSizeOf false
set_option genCtorIdx false
noncomputable section
open Nat renaming le_add_right_of_le->Ym,le_trans->Yn,le_add_right->Yz,le_refl->Y1,beq->Y4,eq_of_beq_eq_true->Y6,add_le_add_right->ZA,lt_of_lt_of_le->ZB,add_le_add_left->ZC,lt_irrefl->ZE,ne_of_lt->ZF,le_add_left->ZK,le_of_ble_eq_true->ZQ,succ_le_succ->ZU,le_of_succ_le_succ->ZX,le_of_lt->ZY,le_succ_of_le->Zk,add_right_comm->Zl,le_of_eq->Zo,zero_le->Zp,lt_of_le_of_lt->Zr,le_succ->Zu,lt_succ_self->aG,lt_succ_of_le->aK,lt_of_le_of_ne->aR,le_of_succ_le->aW,le_antisymm->aY,mul_le_mul_left->aa,add_assoc->ai,le_of_lt_succ->ay,lt_trans->az,max_le->a6,add_le_add->bG,succ_pos->bO,ne_of_gt->bQ,not_lt->bu,beq_refl->cD,le_max_left->cO,add_comm->cf,sub_eq_zero_iff_le->dG,le_max_right->dP,zero_lt_succ->dS,sub_lt_sub_left->eH,lt_succ_of_lt->ez,ble->fU,lt_of_sub_eq_succ->fz,le_sub_one_of_lt->gJ,sub_add_cancel->g0,add_sub_cancel->iD,sub_zero->iH,sub_sub->iT
open PySem renaming wpAny_bind->Yo,Shared->Yq,Value->Yr,wpAny_pure->Yv,World->Y0,Params->Y5,OsState->Y7,Program->Y8,Expr->ZJ,wpAny_execs_cons->ZL,Scope->ZR,FuncData->ZW,Around->Za,Str->Zf,Addr->Zh,seg_bind_wrap->Z0,wpAny_Return_some->Z3,call->Z6,wpAny_mono->Z9,wpAny_setState_of->aB,wpAny_Call_Name_kw->aD,wpAny_newObj_type->aM,wpAny_setEntries_of->aO,GenState->aP,wpAny_call_entry->aS,wpAny_holding->aU,Heap->aV,wpAny_callSpecial?_slot->aX,codeAny_builtin->aZ,Stmt->af,wpAny_standAt->am,sizeLine_eq->ao,SetTable->av,NameKind->bH,wpAny_isInstance->bJ,wpAny_askSetting->bM,Keyword->bR,Operator->bW,wpAny_updateSeq->bX,plainId_quiet->bc,Result->bh,wpAny_loadName_local->bz,isSubtype_type->b8,wpAny_setField->b9,wpAny_pyIter_gen->cI,wpAny_Constant_int->cT,wpAny_truthy_bool->cu,wpAny_evalAll_nil->cw,wpAny_pyIter_list->dD,wpAny_loadPart_at->dJ,Obj->dK,wpAny_call->dT,wpAny_rule->dZ,Comprehension->dg,wpAny_attempt->dp,wpAny_of_eq->d8,Env->eE,wpAny_loadName_free->eL,wpAny_isSubtype_exc->eO,wpAny_Name->eU,wpAny_newFunctionEnv_cells->eW,seg_execs_cons->eX,wpAny_fieldsOf->eY,Pos->ef,wpAny_Assign_Name->ey,Keeps->e9,wpAny_storeSet_of->fD,fits_of_scanBound->fE,wpAny_setEpoch_of->fG,wpAny_comprehension_free->fH,codeAny_call_def->fQ,seg_again->fR,wpAny_pyNext_list_item->fZ,wpAny_typeOf->fg,CmpOp->fm,wpAny_execs_nil->fo,wpAny_specialOf->fq,wpAny_ite_split->fw,callWith_type1->gQ,isSubtype_stop->gT,wpAny_seqItems->gU,DictEntry->gf,wpAny_handled->gw,ElemsOf->iK,Builtin->iL,sub_set_self->iM,codeAny_mono->iN,ItemsOf->iV
open List renaming toArray->Yp,mem_append_right->Yt,mem_append_left->Yw,length_map->Y2,getElem?_eq_getElem->ZH,size_toArray->ZI,lookup_cons->ZV,getElem?_map->Ze,mem_filter->Zi,not_mem_nil->Zn,getElem?_eq_some_iff->Zw,map_cons->Zz,filter_sublist->Z1,pairwise_cons->Z5,getD_eq_getElem?_getD->Z7,filterMap_cons->aA,mem_filterMap->aE,mem_of_getElem?->aH,length_cons->aI,mem_map_of_mem->aN,extract_eq_drop_take->aw,getElem_of_mem->bD,nodup_nil->bE,range->bN,length_append->bS,nodup_append->bj,append_assoc->bk,mem_of_mem_drop->bv,mem_range->bw,mem_cons->cM,forIn_cons->cQ,lookup_eq_none_iff->cY,filter_cons_of_pos->cZ,drop_sublist->cj,pairwise_lt_range->cp,map_map->cq,length_range->cz,contains_iff_mem->dL,filter_cons->dQ,ext_getElem->dW,append_nil->eG,length_pos_iff->eK,length_eraseIdx_of_lt->eZ,perm_ext_iff_of_nodup->ea,drop_eq_getElem_cons->ee,pairwise_iff_getElem->eh,pairwise_map->eu,reverse_cons->ev,mem_map->fV,getElem?_eq_none->f8,getElem?_toArray->f9,forIn_nil->gS,pairwise_append->gW,drop->gh,map_congr_left->gk,any_cons->gt,mem_singleton->gz,contains_cons->hV,lookup_append->hW,zip_nil_right->hZ,filter_append->iE,take_sublist->iI,lookup->iS
open Option.some renaming inj->Ys
open Option renaming none->Yu,map_eq_some_iff->Zx,isSome_iff_exists->Zy,isNone_iff_eq_none->cJ,bind_eq_some_iff->fO,some_ne_none->gj
open PySem.Heap renaming get?_push_of_some->Yx,lt_size->Yy,get?_push_size->Y9,get?_update_other->ZN,get?_update_self->ZS,size_push->b0,SameBut->cG,MadeExcOf->gc,hide_ne->iO,of_hide->iP
open Int renaming le_trans->Y3,le_refl->ZP,le_of_lt->ZZ,toNat_natCast->Zj,add_nonneg->Zm,sub_pos_of_lt->Z2,lt_of_lt_of_le->Z4,lt_of_le_of_lt->aQ,ofNat_le->aT,sub_lt_sub_left->ac,ofNat_lt->ag,not_lt->aq,lt_irrefl->a5,lt_trans->bP,sub_le_self->cN,not_le->cR,natCast_nonneg->cS,lt_iff_le_and_ne->dz,sub_nonneg_of_le->d5,le_sub_one_of_lt->d7,le_antisymm->eC,toNat_of_nonneg->eJ,add_le_of_le_sub_right->eR,le_add_of_nonneg_right->eS,lt_succ->et,fmod_nonneg_of_pos->fW,sub_lt_sub_right->gH,add_le_add_right->gM,ne_of_lt->iF,one_mul->iR
open Array renaming getElem?_eq_getElem->ZD,length_toList->ZO,getElem?_eq_some_iff->Zb,getD_eq_getD_getElem?->ah,getElem?_toList->bg,toList_push->fA,getElem?_push_size->fJ,mk->fN,getElem?_push_lt->fe,getElem?_eq_none->fj,toList_extract->gV
open PySem.SetTable renaming below->ZG,grown->bK,has->iJ,slot->iW
open Classical renaming byContradiction->ZM,propDecidable->cW
open PySem.Flow renaming next->ZT
open PySem.W renaming piece_app->Zc,segRun_of->Zd,Frag->aC,methodCall_KW->bZ,boot_heap->cC,boot_drawn->dO,codeRec_of->dX,boot_toks->eQ,callWith_of->ew,boot_o_2->fM,hideAll_none->fk,boot_o_4->gG
open Bool renaming false_ne_true->Zg,not_eq_true'->Zq,and_eq_true_iff->Zv,false_eq_true->bU,or_false->bY,or_eq_true->eD,and_eq_true->fP,eq_iff_iff->ft,and_false->gP,true_and->gu
open PyProof.Rows renaming AllBare->Zs,IntsAre->de,subscriptTail_builtinR->fY,News->gN,neg_int->gO,le_int->gq
open PySem.Obj renaming mapFields->Zt,mapSeq->fi
open PySem.F renaming plain_extend_loop->Z8,called_set->aF,entry_extend_loop->eg,excBase_Exception->ej,plain_list_iadd->fS,plain_set_new->f7,slot_set_iter->gE,slot_set_and->gX
open PySem.Around renaming under_plainId->aJ,frames_deeper->a4
open Ne renaming symm->aL
open PyProof.Rows.F renaming plain_set_update_loop->ae,entry_set_update_loop->cK
open PySem.NameKind renaming cell->aj,free->dh
open PySem.Value renaming type->au,none->cU,isInt_shape->dE,ref->dY,bool->fX,int->gg
open ForInStep renaming yield->ax
open PySem.Env renaming kindOf->a7
open PySem.Builtin.List renaming listSameRef->a8,listExtendWith->bq
open PySem.Heap.SameBut renaming update->a9
open List.Sublist renaming map->bI
open PySem.Challenge renaming pw_iw0047_03->bV,rw_iw0047_03->d9
open PySem.Builtin.Frozenset renaming unchanged->br,sizeOf->fK
open Iff renaming rfl->cH
open PySem.Builtin.Range renaming rangeSize->cV,small->gp
open PySem.MeetsSeq2 renaming wpAny_forIn_array->ce
open PySem.SetTable.below renaming go->dH
open PySem.Calls renaming Name_function_global->d6,loadGlobal_builtin->eV
open PySem.Sem renaming onRaise_eq_wrap->eM
open PySem.Str renaming ofString->eP
open PySem.ScopeKind renaming function->eT
open PySem.SetTable.probe renaming go->fB
open PySem.Shared renaming asleep_of_life->fy
open PySem.CmpOp renaming NotIn->gZ
open PySem.Builtin.Int renaming intBits->gm
open List.Mem renaming tail->gr
open PySem.W.Looks renaming of_pure->gv
open Or renaming elim->iG
open Prod.mk renaming inj->iQ
open PySem.Heap.Ns renaming of_isNs->iU
open PySem.pickOrder renaming go->iX
section
open PySem PySem.W PyProof.Rows
namespace Mine.Hd
open PySem PySem.W
noncomputable def n0:Str:=⟨#[60,109,111,100,117,108,101,62]⟩
noncomputable def n1:Str:=⟨#[47,99,108,97,105,109,47,99,117,116,46,112,121]⟩
noncomputable def n2:Str:=⟨#[95,95,109,97,105,110,95,95]⟩
noncomputable def n3:Str:=⟨#[95,95,110,97,109,101,95,95]⟩
noncomputable def n4:Str:=⟨#[95,95,100,111,99,95,95]⟩
noncomputable def n5:Str:=⟨#[95,95,112,97,99,107,97,103,101,95,95]⟩
noncomputable def n6:Str:=⟨#[95,95,108,111,97,100,101,114,95,95]⟩
noncomputable def n7:Str:=⟨#[95,95,115,112,101,99,95,95]⟩
noncomputable def n8:Str:=⟨#[95,95,97,110,110,111,116,97,116,105,111,110,115,95,95]⟩
noncomputable def n9:Str:=⟨#[95,95,98,117,105,108,116,105,110,115,95,95]⟩
noncomputable def n10:Str:=⟨#[95,95,102,105,108,101,95,95]⟩
noncomputable def n11:Str:=⟨#[95,95,99,97,99,104,101,100,95,95]⟩
noncomputable def n12:Str:=⟨#[95,119,97,108,108]⟩
noncomputable def n13:Str:=⟨#[107]⟩
noncomputable def n14:Str:=⟨#[119,104,111,111,115,104,46,109,97,116,99,104,105,110,103,46,109,99,111,114,101]⟩
noncomputable def n15:Str:=⟨#[116,121,112,101,46,95,95,115,117,98,99,108,97,115,115,101,115,95,95,46,69,120,99,101,112,116,105,111,110,46,48]⟩
noncomputable def n16:Str:=⟨#[116,121,112,101,46,95,95,115,117,98,99,108,97,115,115,101,115,95,95,46,69,120,99,101,112,116,105,111,110,46,110]⟩
noncomputable def n17:Str:=⟨#[82,101,97,100,84,111,111,70,97,114]⟩
noncomputable def n18:Str:=⟨#[95,95,109,111,100,117,108,101,95,95]⟩
noncomputable def n19:Str:=⟨#[95,95,113,117,97,108,110,97,109,101,95,95]⟩
noncomputable def n20:Str:=⟨#[95,95,102,105,114,115,116,108,105,110,101,110,111,95,95]⟩
noncomputable def n21:Str:=⟨#[95,95,115,116,97,116,105,99,95,97,116,116,114,105,98,117,116,101,115,95,95]⟩
noncomputable def n22:Str:=⟨#[95,95,119,101,97,107,114,101,102,95,95]⟩
noncomputable def n23:Str:=⟨#[116,121,112,101,46,95,95,115,117,98,99,108,97,115,115,101,115,95,95,46,69,120,99,101,112,116,105,111,110,46,49]⟩
noncomputable def n24:Str:=⟨#[78,111,81,117,97,108,105,116,121,65,118,97,105,108,97,98,108,101]⟩
noncomputable def n25:Str:=⟨#[77,97,116,99,104,101,114]⟩
noncomputable def n26:Str:=⟨#[105,115,95,97,99,116,105,118,101]⟩
noncomputable def n27:Str:=⟨#[114,101,115,101,116]⟩
noncomputable def n28:Str:=⟨#[116,101,114,109]⟩
noncomputable def n29:Str:=⟨#[116,101,114,109,95,109,97,116,99,104,101,114,115]⟩
noncomputable def n30:Str:=⟨#[109,97,116,99,104,105,110,103,95,116,101,114,109,115]⟩
noncomputable def n31:Str:=⟨#[105,115,95,108,101,97,102]⟩
noncomputable def n32:Str:=⟨#[99,104,105,108,100,114,101,110]⟩
noncomputable def n33:Str:=⟨#[114,101,112,108,97,99,101]⟩
noncomputable def n34:Str:=⟨#[99,111,112,121]⟩
noncomputable def n35:Str:=⟨#[100,101,112,116,104]⟩
noncomputable def n36:Str:=⟨#[115,117,112,112,111,114,116,115,95,98,108,111,99,107,95,113,117,97,108,105,116,121]⟩
noncomputable def n37:Str:=⟨#[109,97,120,95,113,117,97,108,105,116,121]⟩
noncomputable def n38:Str:=⟨#[98,108,111,99,107,95,113,117,97,108,105,116,121]⟩
noncomputable def n39:Str:=⟨#[105,100]⟩
noncomputable def n40:Str:=⟨#[97,108,108,95,105,100,115]⟩
noncomputable def n41:Str:=⟨#[97,108,108,95,105,116,101,109,115]⟩
noncomputable def n42:Str:=⟨#[118,97,108,117,101]⟩
noncomputable def n43:Str:=⟨#[115,107,105,112,95,116,111]⟩
noncomputable def n44:Str:=⟨#[115,107,105,112,95,116,111,95,113,117,97,108,105,116,121]⟩
noncomputable def n45:Str:=⟨#[110,101,120,116]⟩
noncomputable def n46:Str:=⟨#[115,99,111,114,101]⟩
noncomputable def n47:Str:=⟨#[115,101,108,102]⟩
noncomputable def n55:Str:=⟨#[109,105,110,113,117,97,108,105,116,121]⟩
noncomputable def n63:Str:=⟨#[105]⟩
noncomputable def n64:Str:=⟨#[109]⟩
noncomputable def n72:Str:=⟨#[95,95,100,105,99,116,95,95]⟩
noncomputable def n73:Str:=⟨#[78,117,108,108,77,97,116,99,104,101,114,67,108,97,115,115]⟩
noncomputable def n82:Str:=⟨#[78,117,108,108,77,97,116,99,104,101,114]⟩
noncomputable def n83:Str:=⟨#[76,105,115,116,77,97,116,99,104,101,114]⟩
noncomputable def n84:Str:=⟨#[95,95,105,110,105,116,95,95]⟩
noncomputable def n85:Str:=⟨#[119,101,105,103,104,116]⟩
noncomputable def n86:Str:=⟨#[98,108,111,99,107,95,109,97,120,95,119,101,105,103,104,116]⟩
noncomputable def n87:Str:=⟨#[105,100,115]⟩
noncomputable def n88:Str:=⟨#[119,101,105,103,104,116,115]⟩
noncomputable def n89:Str:=⟨#[118,97,108,117,101,115]⟩
noncomputable def n90:Str:=⟨#[102,111,114,109,97,116]⟩
noncomputable def n91:Str:=⟨#[115,99,111,114,101,114]⟩
noncomputable def n92:Str:=⟨#[112,111,115,105,116,105,111,110]⟩
noncomputable def n93:Str:=⟨#[97,108,108,95,119,101,105,103,104,116,115]⟩
noncomputable def n94:Str:=⟨#[116,101,114,109,105,110,102,111]⟩
noncomputable def n114:Str:=⟨#[95,97,108,108,95,119,101,105,103,104,116,115]⟩
noncomputable def n115:Str:=⟨#[95,102,111,114,109,97,116]⟩
noncomputable def n116:Str:=⟨#[95,105]⟩
noncomputable def n117:Str:=⟨#[95,105,100,115]⟩
noncomputable def n118:Str:=⟨#[95,115,99,111,114,101,114]⟩
noncomputable def n119:Str:=⟨#[95,116,101,114,109]⟩
noncomputable def n120:Str:=⟨#[95,116,101,114,109,105,110,102,111]⟩
noncomputable def n121:Str:=⟨#[95,118,97,108,117,101,115]⟩
noncomputable def n122:Str:=⟨#[95,119,101,105,103,104,116,115]⟩
noncomputable def n123:Str:=⟨#[119,104,111,111,115,104,46,109,97,116,99,104,105,110,103,46,98,105,110,97,114,121]⟩
noncomputable def n124:Str:=⟨#[66,105,77,97,116,99,104,101,114]⟩
noncomputable def n125:Str:=⟨#[97]⟩
noncomputable def n126:Str:=⟨#[98]⟩
noncomputable def n132:Str:=⟨#[114,97]⟩
noncomputable def n133:Str:=⟨#[114,98]⟩
noncomputable def n136:Str:=⟨#[65,100,100,105,116,105,118,101,66,105,77,97,116,99,104,101,114]⟩
noncomputable def n137:Str:=⟨#[113]⟩
noncomputable def n139:Str:=⟨#[98,113]⟩
noncomputable def n143:Str:=⟨#[85,110,105,111,110,77,97,116,99,104,101,114]⟩
noncomputable def n144:Str:=⟨#[95,105,100]⟩
noncomputable def n145:Str:=⟨#[95,109,97,100,101]⟩
noncomputable def n147:Str:=⟨#[97,95,97,99,116,105,118,101]⟩
noncomputable def n148:Str:=⟨#[98,95,97,99,116,105,118,101]⟩
noncomputable def n149:Str:=⟨#[97,95,109,97,120]⟩
noncomputable def n150:Str:=⟨#[98,95,109,97,120]⟩
noncomputable def n155:Str:=⟨#[97,95,105,100]⟩
noncomputable def n156:Str:=⟨#[98,95,105,100]⟩
noncomputable def n157:Str:=⟨#[97,114]⟩
noncomputable def n158:Str:=⟨#[98,114]⟩
noncomputable def n160:Str:=⟨#[105,100,95,97]⟩
noncomputable def n161:Str:=⟨#[105,100,95,98]⟩
noncomputable def n165:Str:=⟨#[68,105,115,106,117,110,99,116,105,111,110,77,97,120,77,97,116,99,104,101,114]⟩
noncomputable def n166:Str:=⟨#[95,95,99,108,97,115,115,99,101,108,108,95,95]⟩
noncomputable def n168:Str:=⟨#[95,95,99,108,97,115,115,95,95]⟩
noncomputable def n169:Str:=⟨#[116,105,101,98,114,101,97,107]⟩
noncomputable def n177:Str:=⟨#[73,110,116,101,114,115,101,99,116,105,111,110,77,97,116,99,104,101,114]⟩
noncomputable def n178:Str:=⟨#[95,102,105,110,100,95,102,105,114,115,116]⟩
noncomputable def n179:Str:=⟨#[95,102,105,110,100,95,110,101,120,116]⟩
noncomputable def n184:Str:=⟨#[97,95,109,105,110]⟩
noncomputable def n185:Str:=⟨#[98,95,109,105,110]⟩
noncomputable def n188:Str:=⟨#[114]⟩
noncomputable def n192:Str:=⟨#[114,110]⟩
noncomputable def n195:Str:=⟨#[110,114]⟩
noncomputable def n197:Str:=⟨#[65,110,100,78,111,116,77,97,116,99,104,101,114]⟩
noncomputable def n203:Str:=⟨#[112,111,115]⟩
noncomputable def n204:Str:=⟨#[110,101,103]⟩
noncomputable def n205:Str:=⟨#[112,111,115,95,105,100]⟩
noncomputable def n218:Str:=⟨#[65,110,100,77,97,121,98,101,77,97,116,99,104,101,114]⟩
noncomputable def n219:Str:=⟨#[95,102,105,114,115,116,95,98]⟩
noncomputable def n228:Str:=⟨#[110,101,119,95,97]⟩
noncomputable def n229:Str:=⟨#[110,101,119,95,98]⟩
noncomputable def n235:Str:=⟨#[119,104,111,111,115,104,46,109,97,116,99,104,105,110,103,46,119,114,97,112,112,101,114,115]⟩
noncomputable def n236:Str:=⟨#[87,114,97,112,112,105,110,103,77,97,116,99,104,101,114]⟩
noncomputable def n237:Str:=⟨#[95,114,101,112,108,97,99,101,109,101,110,116]⟩
noncomputable def n238:Str:=⟨#[99,104,105,108,100]⟩
noncomputable def n239:Str:=⟨#[98,111,111,115,116]⟩
noncomputable def n243:Str:=⟨#[110,101,119,99,104,105,108,100]⟩
noncomputable def n260:Str:=⟨#[70,105,108,116,101,114,77,97,116,99,104,101,114]⟩
noncomputable def n261:Str:=⟨#[101,120,99,108,117,100,101]⟩
noncomputable def n271:Str:=⟨#[95,101,120,99,108,117,100,101]⟩
noncomputable def n272:Str:=⟨#[73,110,118,101,114,115,101,77,97,116,99,104,101,114]⟩
noncomputable def n273:Str:=⟨#[108,105,109,105,116]⟩
noncomputable def n274:Str:=⟨#[109,105,115,115,105,110,103]⟩
noncomputable def n288:Str:=⟨#[95,119,101,105,103,104,116]⟩
noncomputable def n289:Str:=⟨#[82,101,113,117,105,114,101,77,97,116,99,104,101,114]⟩
noncomputable def n300:Str:=⟨#[67,111,110,115,116,97,110,116,83,99,111,114,101,87,114,97,112,112,101,114,77,97,116,99,104,101,114]⟩
noncomputable def n307:Str:=⟨#[95,115,99,111,114,101]⟩
noncomputable def n308:Str:=⟨#[108,97,119,95,105,119,48,48,52,55,95,48,51]⟩
noncomputable def n309:Str:=⟨#[95,108,97,119,95,115,111,109,101]⟩
noncomputable def n310:Str:=⟨#[95,108,97,119,95,108,101,97,102]⟩
noncomputable def n311:Str:=⟨#[95,108,97,119,95,116,119,111]⟩
noncomputable def n312:Str:=⟨#[95,108,97,119,95,111,110,101]⟩
noncomputable def n313:Str:=⟨#[95,108,97,119,95,116,114,101,101]⟩
noncomputable def n314:Str:=⟨#[110,117,109,98,101,114,115]⟩
noncomputable def n315:Str:=⟨#[115,116,97,99,107]⟩
noncomputable def n316:Str:=⟨#[108,105,115,116,115]⟩
noncomputable def n317:Str:=⟨#[110,117,109,98,101,114]⟩
noncomputable def n318:Str:=⟨#[107,105,110,100]⟩
noncomputable def n319:Str:=⟨#[109,111,114,101]⟩
noncomputable def n320:Str:=⟨#[116,114,101,101]⟩
noncomputable def n321:Str:=⟨#[100,111,99,115]⟩
noncomputable def n322:Str:=⟨#[108,97,115,116]⟩
noncomputable def n323:Str:=⟨#[114,105,103,104,116]⟩
noncomputable def n324:Str:=⟨#[115,101,99,111,110,100]⟩
noncomputable def n325:Str:=⟨#[108,101,102,116]⟩
noncomputable def n326:Str:=⟨#[102,105,114,115,116]⟩
noncomputable def n327:Str:=⟨#[95,108,97,119,95,114,101,102,117,115,101,100]⟩
noncomputable def n328:Str:=⟨#[115,107,105,112]⟩
noncomputable def n329:Str:=⟨#[108,97,119]⟩
noncomputable def n330:Str:=⟨#[115,99,114,105,112,116]⟩
noncomputable def n331:Str:=⟨#[116,119,105,110]⟩
noncomputable def n332:Str:=⟨#[100,111,99]⟩
noncomputable def qn(a b:Zf):Str:=⟨(a.cps.toList++46::b.cps.toList).toArray⟩
def n48:=qn n25 n26
def n49:=qn n25 n27
def n50:=qn n25 n28
def n51:=qn n25 n29
def n52:=qn n25 n30
def n53:=qn n25 n31
def n54:=qn n25 n32
def n56:=qn n25 n33
def n57:=qn n25 n34
def n58:=qn n25 n35
def n59:=qn n25 n36
def n60:=qn n25 n37
def n61:=qn n25 n38
def n62:=qn n25 n39
def n65:=qn n25 n40
def n66:=qn n25 n41
def n67:=qn n25 n42
def n68:=qn n25 n43
def n69:=qn n25 n44
def n70:=qn n25 n45
def n71:=qn n25 n46
def n74:=qn n73 n36
def n75:=qn n73 n37
def n76:=qn n73 n38
def n77:=qn n73 n44
def n78:=qn n73 n26
def n79:=qn n73 n27
def n80:=qn n73 n40
def n81:=qn n73 n34
def n95:=qn n83 n84
def n96:=qn n83 n26
def n97:=qn n83 n27
def n98:=qn n83 n43
def n99:=qn n83 n28
def n100:=qn n83 n34
def n101:=qn n83 n33
def n102:=qn n83 n36
def n103:=qn n83 n37
def n104:=qn n83 n38
def n105:=qn n83 n44
def n106:=qn n83 n39
def n107:=qn n83 n40
def n108:=qn n83 n41
def n109:=qn n83 n42
def n110:=qn n83 n45
def n111:=qn n83 n85
def n112:=qn n83 n86
def n113:=qn n83 n46
def n127:=qn n124 n84
def n128:=qn n124 n27
def n129:=qn n124 n32
def n130:=qn n124 n34
def n131:=qn n124 n35
def n134:=qn n124 n43
def n135:=qn n124 n36
def n138:=qn n136 n37
def n140:=qn n136 n38
def n141:=qn n136 n85
def n142:=qn n136 n46
def n146:=qn n143 n145
def n151:=qn n143 n33
def n152:=qn n143 n26
def n153:=qn n143 n43
def n154:=qn n143 n39
def n159:=qn n143 n45
def n162:=qn n143 n85
def n163:=qn n143 n46
def n164:=qn n143 n44
def n167:=qn n165 n145
def n170:=qn n165 n84
def n171:=qn n165 n34
def n172:=qn n165 n33
def n173:=qn n165 n46
def n174:=qn n165 n37
def n175:=qn n165 n38
def n176:=qn n165 n44
def n180:=qn n177 n145
def n181:=qn n177 n84
def n182:=qn n177 n27
def n183:=qn n177 n178
def n186:=qn n177 n33
def n187:=qn n177 n26
def n189:=qn n177 n179
def n190:=qn n177 n39
def n191:=qn n177 n40
def n193:=qn n177 n43
def n194:=qn n177 n44
def n196:=qn n177 n45
def n198:=qn n197 n145
def n199:=qn n197 n84
def n200:=qn n197 n27
def n201:=qn n197 n178
def n202:=qn n197 n26
def n206:=qn n197 n179
def n207:=qn n197 n36
def n208:=qn n197 n33
def n209:=qn n197 n37
def n210:=qn n197 n38
def n211:=qn n197 n44
def n212:=qn n197 n39
def n213:=qn n197 n45
def n214:=qn n197 n43
def n215:=qn n197 n85
def n216:=qn n197 n46
def n217:=qn n197 n42
def n220:=qn n218 n145
def n221:=qn n218 n84
def n222:=qn n218 n27
def n223:=qn n218 n219
def n224:=qn n218 n26
def n225:=qn n218 n39
def n226:=qn n218 n45
def n227:=qn n218 n43
def n230:=qn n218 n33
def n231:=qn n218 n44
def n232:=qn n218 n85
def n233:=qn n218 n46
def n234:=qn n218 n42
def n240:=qn n236 n84
def n241:=qn n236 n34
def n242:=qn n236 n35
def n244:=qn n236 n237
def n245:=qn n236 n33
def n246:=qn n236 n39
def n247:=qn n236 n40
def n248:=qn n236 n26
def n249:=qn n236 n27
def n250:=qn n236 n32
def n251:=qn n236 n42
def n252:=qn n236 n43
def n253:=qn n236 n45
def n254:=qn n236 n36
def n255:=qn n236 n44
def n256:=qn n236 n37
def n257:=qn n236 n38
def n258:=qn n236 n85
def n259:=qn n236 n46
def n262:=qn n260 n84
def n263:=qn n260 n27
def n264:=qn n260 n34
def n265:=qn n260 n237
def n266:=qn n260 n179
def n267:=qn n260 n45
def n268:=qn n260 n43
def n269:=qn n260 n40
def n270:=qn n260 n41
def n275:=qn n272 n84
def n276:=qn n272 n34
def n277:=qn n272 n237
def n278:=qn n272 n26
def n279:=qn n272 n27
def n280:=qn n272 n36
def n281:=qn n272 n179
def n282:=qn n272 n39
def n283:=qn n272 n40
def n284:=qn n272 n45
def n285:=qn n272 n43
def n286:=qn n272 n85
def n287:=qn n272 n46
def n290:=qn n289 n84
def n291:=qn n289 n34
def n292:=qn n289 n36
def n293:=qn n289 n33
def n294:=qn n289 n37
def n295:=qn n289 n38
def n296:=qn n289 n44
def n297:=qn n289 n85
def n298:=qn n289 n46
def n299:=qn n289 n42
def n301:=qn n300 n84
def n302:=qn n300 n34
def n303:=qn n300 n237
def n304:=qn n300 n37
def n305:=qn n300 n38
def n306:=qn n300 n46
noncomputable abbrev l0:String:=PySem.W.SL.s5856160107412720595x4
noncomputable abbrev l1:String:=PySem.W.SL.s658472552662922059x5
noncomputable abbrev l2:String:=PySem.W.SL.s7097527257260152453x26
noncomputable abbrev l3:String:=PySem.W.SL.s14018661285674007319x4
noncomputable abbrev l4:String:=PySem.W.SL.s7174869446012820540x8
noncomputable abbrev l5:String:=PySem.W.SL.s5946037652744460706x9
noncomputable abbrev l6:String:=PySem.W.SL.s10062305145149207511x16
noncomputable abbrev l7:String:=PySem.W.SL.s17162191345867700912x4
noncomputable abbrev l8:String:=PySem.W.SL.s11030030927630378310x26
noncomputable abbrev l9:String:=PySem.W.SL.s5160863994218179198x17
noncomputable abbrev l10:String:=PySem.W.SL.s4278001404047624695x13
noncomputable abbrev G2:String:=PySem.W.SL.s2742458400755230247x6
noncomputable abbrev l12:String:=PySem.W.SL.s10220274742760427390x26
noncomputable abbrev l13:String:=PySem.W.SL.s14755015743595814543x17
noncomputable abbrev Nh:String:=PySem.W.SL.s4290257624100764138x5
noncomputable abbrev Ni:String:=PySem.W.SL.s4860613602091757760x24
noncomputable abbrev Io:String:=PySem.W.SL.s11443829558043349243x14
noncomputable abbrev l17:String:=PySem.W.SL.s6511155373996960695x17
noncomputable abbrev l18:String:=PySem.W.SL.s12411053484034534018x21
noncomputable abbrev l19:String:=PySem.W.SL.s15660640913423913556x4
noncomputable abbrev l20:String:=PySem.W.SL.s2766695959194262286x5
noncomputable abbrev pT:Program:=bV
theorem Nj:bV=pT:=rfl
noncomputable def bT:List Stmt:=pT.main.body
noncomputable def UO:af->List af
 | .ClassDef _ _ _ b _ _ _ _ _ _ _=>b
 | _=>[]
def top(i:Nat):Stmt:=bT.getD i default
def sub(i j:Nat):Stmt:=(UO (top i)).getD j default
noncomputable abbrev r(a:Nat):Value:=.ref a
noncomputable abbrev s(x:Zf)(t:Nat):Value:=.str x t
noncomputable abbrev z(i:Int):Value:=.int i 0
noncomputable abbrev e(P:Y5)(x:Zf)(t:Nat)(v:Yr):DictEntry:=⟨PyData.keyHash P x,.str x t,v⟩
def tu(l:List Yr):Obj:=⟨.type l20,none,.seq l.toArray 0,#[]⟩
noncomputable def nf(l:List Yr):Obj:=⟨.none,none,.fields l.toArray,#[]⟩
noncomputable def ob(c:Yr)(d:Option Zh)(dt:Data)(sl:Array (Option Yr)):Obj:=⟨c,d,dt,sl⟩
def co(a:Zf)(ta:Nat)(b:Zf)(tb:Nat)(c:Zf)(tc:Nat)(l1 l2 l3 l4 l5:Int)(r1:Nat)(b1:Bool)(i1:Int)(r2 r3 r4 r5:Nat)(i2 i3:Int)(d:Zf)(td:Nat):dK :=
 ⟨.type l0,none,.fields #[s a ta,s b tb,s c tc,z l1,z l2,z l3,z l4,z l5,r r1,.bool b1,z i1,r r2,.none,r r3,r r4,r r5,z i2,z i3,s d td],#[]⟩
noncomputable def fd(st:af)(q:Zf)(g:Nat)(cl:List (Zf×Zh))(dv kd doc pm code ct:Yr)(b:Nat):FuncData:=match st with
 | .FunctionDef n a bd _ _ _ sc _ _ _=>{name:=n,qualname:=q,params:=a,body:=.stmts bd,scope:=sc,globals:=g,closure:=cl,defaults:=dv,kwdefaults:=kd,doc:=doc,pyModule:=pm,code:=code,closureTuple:=ct,builtins:=b}
 | _=>default
noncomputable def cd(n:Zf)(bases mro:List Yr)(ns:Nat)(q:Zf)(hd:Bool)(_:Nat)(subs:List Yr)(ab:Bool)(_:Bool)(del:Bool):ClassData :=
 {name:=n,bases:=bases,mro:=mro,ns:=ns,qualname:=q,hasDict:=hd,subclasses:=subs,abstract:=ab,hasDel:=del}
noncomputable def fa(a b:Nat)(n:Zf):Obj:=ob .none none (.func (fd (sub a b) n 0 [] .none .none .none .none .none .none 0)) #[]
noncomputable def fb(a b:Nat)(n:Zf)(x y:Yr)(c:Nat):Obj:=ob (.type l4) none (.func (fd (sub a b) n 3 [] x .none .none y (r c) .none 0)) #[]
noncomputable def fc(a b:Zf)(t l x y z u q v:Nat):Obj:=co a t b (t+1) n1 (t+2) l x y z u q true 181 (q+1) (q+2) (q+3) (q+4) v l n1 (v+1)
section
variable(P:Y5)
def dl0:List DictEntry:=[e P n4 166 .none,e P n5 167 .none,e P n6 168 (.builtin l2),e P n7 169 .none,e P n8 170 (r 6),e P n9 171 (r 4),e P n10 173 (s n1 172),e P n11 174 .none,e P n12 193 (r 21)]
def dl1:List DictEntry:=dl0 P++[e P n17 215 (r 31)]
def dl2:List DictEntry:=dl1 P++[e P n24 235 (r 44)]
def dl3:List DictEntry:=dl2 P++[e P n25 409 (r 206)]
def dl4:List DictEntry:=dl3 P++[e P n73 482 (r 276)]
def dl5:List DictEntry:=dl4 P++[e P n82 488 (r 285)]
def dl6:List DictEntry:=dl5 P++[e P n83 660 (r 430)]
def dl7:List DictEntry:=dl6 P++[e P n124 734 (r 491)]
def dl8:List DictEntry:=dl7 P++[e P n136 780 (r 531)]
def dl9:List DictEntry:=dl8 P++[e P n143 894 (r 607)]
def dl10:List DictEntry:=dl9 P++[e P n165 984 (r 679)]
def dl11:List DictEntry:=dl10 P++[e P n177 1114 (r 778)]
def dl12:List DictEntry:=dl11 P++[e P n197 1268 (r 912)]
def dl13:List DictEntry:=dl12 P++[e P n218 1395 (r 1016)]
def dl14:List DictEntry:=dl13 P++[e P n236 1557 (r 1163)]
def dl15:List DictEntry:=dl14 P++[e P n260 1652 (r 1241)]
def dl16:List DictEntry:=dl15 P++[e P n272 1776 (r 1347)]
def dl17:List DictEntry:=dl16 P++[e P n289 1871 (r 1430)]
def dl18:List DictEntry:=dl17 P++[e P n300 1934 (r 1485)]
def dl19:List DictEntry:=dl18 P++[e P n309 1942 (r 1492)]
def dl20:List DictEntry:=dl19 P++[e P n310 1948 (r 1497)]
def dl21:List DictEntry:=dl20 P++[e P n311 1954 (r 1502)]
def dl22:List DictEntry:=dl21 P++[e P n312 1960 (r 1507)]
def dl23:List DictEntry:=dl22 P++[e P n313 1979 (r 1514)]
def dl24:List DictEntry:=dl23 P++[e P n327 1987 (r 1521)]
def nl0:List Value:=[(z 1),(z 0),(r 20),(z 5),(z 0),(r 27)]
def nl1:List Value:=nl0++[(z 7),(z 0),(r 40)]
def nl2:List Value:=nl1++[(z 9),(z 0),(r 53)]
def nl3:List Value:=nl2++[(z 82),(z 0),(r 216)]
def nl4:List Value:=nl3++[(z 107),(z 0),(r 284)]
def nl5:List Value:=nl4++[(z 109),(z 0),(r 291)]
def nl6:List Value:=nl5++[(z 202),(z 0),(r 438)]
def nl7:List Value:=nl6++[(z 229),(z 0),(r 499)]
def nl8:List Value:=nl7++[(z 252),(z 0),(r 539)]
def nl9:List Value:=nl8++[(z 368),(z 0),(r 616)]
def nl10:List Value:=nl9++[(z 431),(z 0),(r 688)]
def nl11:List Value:=nl10++[(z 530),(z 0),(r 787)]
def nl12:List Value:=nl11++[(z 623),(z 0),(r 920)]
def nl13:List Value:=nl12++[(z 704),(z 0),(r 1024)]
def nl14:List Value:=nl13++[(z 767),(z 0),(r 1172)]
def nl15:List Value:=nl14++[(z 814),(z 0),(r 1250)]
def nl16:List Value:=nl15++[(z 883),(z 0),(r 1355)]
def nl17:List Value:=nl16++[(z 927),(z 0),(r 1438)]
def nl18:List Value:=nl17++[(z 948),(z 0),(r 1491)]
def nl19:List Value:=nl18++[(z 951),(z 0),(r 1496)]
def nl20:List Value:=nl19++[(z 954),(z 0),(r 1501)]
def nl21:List Value:=nl20++[(z 971),(z 0),(r 1506)]
def nl22:List Value:=nl21++[(z 981),(z 0),(r 1513)]
def nl23:List Value:=nl22++[(z 1004),(z 0),(r 1520)]
def o0:=tu []
def o1:=nf []
def o5:=nf [(z 1),(z 0),(r 20)]
def o17:=tu [(.type l5)]
def o18:=ob (.type l8) none (.fields (Yp [(.builtin l6),(.type l7)])) #[]
def o26:=ob (.type l7) none (.cls (cd n17 [(.type l5)] [(r 31),(.type l5),(.type l10),(.type G2)] 30 n17 true 0 [] false false false)) #[some (r 22),none,some (s n17 196),some (s n17 204),some (.builtin l9),some (.bool true)]
def o30:=ob .none none (.dict (Yp [e P n15 212 (z 31),e P n16 213 (z 2),e P n23 232 (z 44)]) 3) #[]
def o105:=tu [(.int 0 298)]
def o111:=fc n33 n56 299 32 2 0 0 3 106 304
def o112:=fb 4 7 n56 (r 105) (s n14 194) 111
def o160:=fc n40 n65 349 53 1 0 0 35 155 355
def o161:=fb 4 14 n65 .none (s n14 194) 160
def o205:=ob (.type l3) none (.dict (Yp [e P n18 243 (s n14 194),e P n20 247 (.int 9 246),e P n26 254 (r 61),e P n27 261 (r 68),e P n28 268 (r 75),e P n29 275 (r 82),e P n30 283 (r 90),e P n31 290 (r 97),e P n32 297 (r 104),e P n33 306 (r 112),e P n34 313 (r 119),e P n35 320 (r 126),e P n36 327 (r 133),e P n37 334 (r 140),e P n38 341 (r 147),e P n39 348 (r 154),e P n40 357 (r 161),e P n41 364 (r 168),e P n42 371 (r 175),e P n43 379 (r 182),e P n44 387 (r 189),e P n45 394 (r 196),e P n46 401 (r 203),e P n21 402 (r 204),e P n72 404 (r 207),e P n22 406 (r 208),e P n4 407 .none]) 4) #[]
def o213:=ob (.type l7) none (.cls (cd n25 [(.type G2)] [(r 206),(.type G2)] 205 n25 true 0 [(r 276)] false false false)) #[some (r 48),none,some (s n25 236),some (s n25 244),some (.builtin Io),some (.bool true)]
def o214:=tu [(r 206)]
def o233:=fc n37 n75 429 87 1 0 0 3 225 433
def o234:=fb 5 1 n75 .none (s n14 194) 230
def o254:=fc n26 n78 451 96 1 0 0 3 246 455
def o255:=fb 5 4 n78 .none (s n14 194) 251
def o268:=fc n40 n80 465 102 1 0 0 3 260 469
def o269:=fb 5 6 n80 .none (s n14 194) 265
def o275:=fc n34 n81 472 105 1 0 0 3 267 476
def o276:=fb 5 7 n81 .none (s n14 194) 272
def o278:=ob (.type l3) none (.dict (Yp [e P n18 417 (s n14 194),e P n20 421 (.int 82 420),e P n36 428 (r 224),e P n37 435 (r 231),e P n38 442 (r 238),e P n44 450 (r 245),e P n26 457 (r 252),e P n27 464 (r 259),e P n40 471 (r 266),e P n34 478 (r 273),e P n21 479 (r 274),e P n4 480 .none]) 2) #[]
def o279:=ob (.type l7) none (.cls (cd n73 [(r 206)] [(r 276),(r 206),(.type G2)] 275 n73 true 0 [] false false false)) #[some (r 211),none,some (s n73 410),some (s n73 418),some (.builtin Io),some (.bool true)]
def o289:=fc n82 n82 483 107 0 0 0 3 279 486
def o290:=ob (.type l4) none (.func (fd (top 6) n82 3 [] .none .none .none (s n14 194) (r 284) .none 0)) #[]
def o292:=nf (nl5)
def o293:=ob (.type l7) none (.cls (cd n25 [(.type G2)] [(r 206),(.type G2)] 205 n25 true 0 [(r 276),(r 430)] false false false)) #[some (r 48),none,some (s n25 236),some (s n25 244),some (.builtin Io),some (.bool true)]
def o301:=tu [.none,.none,.none,.none,(.int 0 501),.none,.none,.none]
def o307:=fc n84 n95 502 111 10 0 0 3 294 515
def o308:=fb 7 0 n95 (r 293) (s n14 194) 299
def o314:=fc n26 n96 518 122 1 0 0 3 301 522
def o315:=fb 7 1 n96 .none (s n14 194) 306
def o328:=fc n43 n98 532 128 2 0 0 3 315 537
def o329:=fb 7 3 n98 .none (s n14 194) 320
def o342:=fc n34 n100 547 139 1 0 0 3 329 551
def o343:=fb 7 5 n100 .none (s n14 194) 334
def o344:=tu [(.int 0 554)]
def o350:=fc n33 n101 555 142 2 0 0 3 337 560
def o351:=fb 7 6 n101 (r 336) (s n14 194) 342
def o364:=fc n37 n103 570 153 1 0 0 3 351 574
def o365:=fb 7 8 n103 .none (s n14 194) 356
def o385:=fc n39 n106 592 165 1 0 0 3 372 596
def o386:=fb 7 11 n106 .none (s n14 194) 377
def o392:=fc n40 n107 599 168 1 0 0 3 379 603
def o393:=fb 7 12 n107 .none (s n14 194) 384
def o413:=fc n45 n110 620 177 1 0 0 3 400 624
def o414:=fb 7 15 n110 .none (s n14 194) 405
def o427:=fc n86 n112 634 188 1 0 0 3 414 638
def o428:=fb 7 17 n112 .none (s n14 194) 419
def o437:=ob (.type l3) none (.dict (Yp [e P n18 496 (s n14 194),e P n20 500 (.int 109 499),e P n84 517 (r 300),e P n26 524 (r 307),e P n27 531 (r 314),e P n43 539 (r 321),e P n28 546 (r 328),e P n34 553 (r 335),e P n33 562 (r 343),e P n36 569 (r 350),e P n37 576 (r 357),e P n38 583 (r 364),e P n44 591 (r 371),e P n39 598 (r 378),e P n40 605 (r 385),e P n41 612 (r 392),e P n42 619 (r 399),e P n45 626 (r 406),e P n85 633 (r 413),e P n86 640 (r 420),e P n46 647 (r 427),e P n21 657 (r 428),e P n4 658 .none]) 2) #[]
def o438:=ob (.type l7) none (.cls (cd n83 [(r 206)] [(r 430),(r 206),(.type G2)] 429 n83 true 0 [] false false false)) #[some (r 286),none,some (s n83 489),some (s n83 497),some (.builtin Io),some (.bool true)]
def o444:=ob (.type l7) none (.cls (cd n25 [(.type G2)] [(r 206),(.type G2)] 205 n25 true 0 [(r 276),(r 430),(r 491)] false false false)) #[some (r 48),none,some (s n25 236),some (s n25 244),some (.builtin Io),some (.bool true)]
def o457:=fc n84 n127 675 204 3 0 0 3 440 681
def o458:=fb 9 0 n127 .none (s n123 661) 445
def o478:=fc n34 n130 698 214 1 0 0 3 461 702
def o479:=fb 9 3 n130 .none (s n123 661) 466
def o492:=fc n43 n134 712 220 2 0 0 3 475 719
def o493:=fb 9 5 n134 .none (s n123 661) 480
def o502:=ob (.type l3) none (.dict (Yp [e P n18 670 (s n123 661),e P n20 674 (.int 202 673),e P n84 683 (r 446),e P n27 690 (r 453),e P n32 697 (r 460),e P n34 704 (r 467),e P n35 711 (r 474),e P n43 721 (r 481),e P n36 728 (r 488),e P n21 731 (r 489),e P n4 732 .none]) 2) #[]
def o508:=ob (.type l7) none (.cls (cd n124 [(r 206)] [(r 491),(r 206),(.type G2)] 490 n124 true 0 [(r 531)] false false false)) #[some (r 433),none,some (s n124 663),some (s n124 671),some (.builtin Io),some (.bool true)]
def o509:=tu [(r 491)]
def o521:=fc n37 n138 747 231 1 0 0 3 501 752
def o522:=fb 10 0 n138 .none (s n123 661) 506
def o545:=ob (.type l3) none (.dict (Yp [e P n18 742 (s n123 661),e P n20 746 (.int 229 745),e P n37 754 (r 507),e P n38 762 (r 514),e P n85 769 (r 521),e P n46 776 (r 528),e P n21 777 (r 529),e P n4 778 .none]) 2) #[]
def o551:=ob (.type l7) none (.cls (cd n136 [(r 491)] [(r 531),(r 491),(r 206),(.type G2)] 530 n136 true 0 [(r 607)] false false false)) #[some (r 494),none,some (s n136 735),some (s n136 743),some (.builtin Io),some (.bool true)]
def o552:=tu [(r 531)]
def o564:=fc n145 n146 794 255 3 0 0 3 541 800
def o565:=fb 11 1 n146 .none (s n123 661) 546
def o566:=tu [(.int 0 803)]
def o572:=fc n33 n151 804 258 2 0 0 3 549 815
def o573:=fb 11 2 n151 (r 548) (s n123 661) 554
def o579:=fc n26 n152 818 286 1 0 0 3 556 822
def o580:=fb 11 3 n152 .none (s n123 661) 561
def o586:=fc n43 n153 825 289 2 0 0 3 563 832
def o587:=fb 11 4 n153 .none (s n123 661) 568
def o593:=fc n39 n154 835 298 1 0 0 3 570 842
def o594:=fb 11 5 n154 .none (s n123 661) 575
def o600:=fc n45 n159 845 313 1 0 0 3 577 857
def o601:=fb 11 6 n159 .none (s n123 661) 582
def o624:=ob (.type l3) none (.dict (Yp [e P n18 788 (s n123 661),e P n20 792 (.int 252 791),e P n144 793 .none,e P n145 802 (r 547),e P n33 817 (r 555),e P n26 824 (r 562),e P n43 834 (r 569),e P n39 844 (r 576),e P n45 859 (r 583),e P n85 870 (r 590),e P n46 881 (r 597),e P n44 889 (r 604),e P n21 891 (r 605),e P n4 892 .none]) 2) #[]
def o630:=ob (.type l7) none (.cls (cd n143 [(r 531)] [(r 607),(r 531),(r 491),(r 206),(.type G2)] 606 n143 true 0 [(r 679)] false false false)) #[some (r 534),none,some (s n143 781),some (s n143 789),some (.builtin Io),some (.bool true)]
def o634:=ob (.type l19) none (.cell (some (r 679))) #[]
def o644:=fc n145 n167 907 370 3 0 0 3 618 913
def o645:=fb 12 0 n167 .none (s n123 661) 623
def o646:=tu [(.int 0 916)]
def o653:=fc n84 n170 917 373 4 0 0 3 627 925
def o654:=ob (.type l4) none (.func (fd (sub 12 1) n170 3 [(n168,613)] (r 625) .none .none (s n123 661) (r 632) (r 626) 0)) #[]
def o660:=fc n34 n171 928 377 1 0 0 3 634 932
def o661:=fb 12 2 n171 .none (s n123 661) 639
def o662:=tu [(.int 0 935)]
def o668:=fc n33 n172 936 380 2 0 0 3 642 947
def o669:=fb 12 3 n172 (r 641) (s n123 661) 647
def o682:=fc n37 n174 957 423 1 0 0 3 656 961
def o683:=fb 12 5 n174 .none (s n123 661) 661
def o699:=ob (.type l3) none (.dict (Yp [e P n18 902 (s n123 661),e P n20 906 (.int 368 905),e P n145 915 (r 624),e P n84 927 (r 633),e P n34 934 (r 640),e P n33 949 (r 648),e P n46 956 (r 655),e P n37 963 (r 662),e P n38 970 (r 669),e P n44 978 (r 676),e P n21 980 (r 677),e P n4 982 .none]) 3) #[]
def o700:=ob (.type l7) none (.cls (cd n165 [(r 607)] [(r 679),(r 607),(r 531),(r 491),(r 206),(.type G2)] 678 n165 true 0 [] false false false)) #[some (r 610),none,some (s n165 895),some (s n165 903),some (.builtin Io),some (.bool true)]
def o705:=ob (.type l7) none (.cls (cd n136 [(r 491)] [(r 531),(r 491),(r 206),(.type G2)] 530 n136 true 0 [(r 607),(r 778)] false false false)) #[some (r 494),none,some (s n136 735),some (s n136 743),some (.builtin Io),some (.bool true)]
def o709:=ob (.type l19) none (.cell (some (r 778))) #[]
def o719:=fc n145 n180 997 433 3 0 0 3 690 1003
def o720:=fb 13 0 n180 .none (s n123 661) 695
def o727:=fc n84 n181 1006 436 3 0 0 3 698 1013
def o728:=ob (.type l4) none (.func (fd (sub 13 1) n181 3 [(n168,685)] .none .none .none (s n123 661) (r 703) (r 697) 0)) #[]
def o741:=fc n178 n183 1023 443 1 0 0 3 712 1027
def o742:=fb 13 3 n183 .none (s n123 661) 717
def o743:=tu [(.int 0 1030)]
def o749:=fc n33 n186 1031 447 2 0 0 3 720 1044
def o750:=fb 13 4 n186 (r 719) (s n123 661) 725
def o756:=fc n26 n187 1047 478 1 0 0 3 727 1051
def o757:=fb 13 5 n187 .none (s n123 661) 732
def o763:=fc n179 n189 1054 481 1 0 0 3 734 1065
def o764:=fb 13 6 n189 .none (s n123 661) 739
def o770:=fc n39 n190 1068 503 1 0 0 3 741 1072
def o771:=fb 13 7 n190 .none (s n123 661) 746
def o777:=fc n40 n191 1075 506 1 0 0 3 748 1079
def o778:=fb 13 8 n191 .none (s n123 661) 753
def o784:=fc n43 n193 1082 509 2 0 0 3 755 1090
def o785:=fb 13 9 n193 .none (s n123 661) 760
def o798:=fc n45 n196 1101 523 1 0 0 3 769 1107
def o799:=fb 13 11 n196 .none (s n123 661) 774
def o801:=ob (.type l3) none (.dict (Yp [e P n18 992 (s n123 661),e P n20 996 (.int 431 995),e P n145 1005 (r 696),e P n84 1015 (r 704),e P n27 1022 (r 711),e P n178 1029 (r 718),e P n33 1046 (r 726),e P n26 1053 (r 733),e P n179 1067 (r 740),e P n39 1074 (r 747),e P n40 1081 (r 754),e P n43 1092 (r 761),e P n44 1100 (r 768),e P n45 1109 (r 775),e P n21 1110 (r 776),e P n4 1112 .none]) 3) #[]
def o802:=ob (.type l7) none (.cls (cd n177 [(r 531)] [(r 778),(r 531),(r 491),(r 206),(.type G2)] 777 n177 true 0 [] false false false)) #[some (r 682),none,some (s n177 985),some (s n177 993),some (.builtin Io),some (.bool true)]
def o807:=ob (.type l7) none (.cls (cd n124 [(r 206)] [(r 491),(r 206),(.type G2)] 490 n124 true 0 [(r 531),(r 912)] false false false)) #[some (r 433),none,some (s n124 663),some (s n124 671),some (.builtin Io),some (.bool true)]
def o811:=ob (.type l19) none (.cell (some (r 912))) #[]
def o821:=fc n145 n198 1127 532 3 0 0 3 789 1133
def o822:=fb 14 0 n198 .none (s n123 661) 794
def o829:=fc n84 n199 1136 535 3 0 0 3 797 1143
def o830:=ob (.type l4) none (.func (fd (sub 14 1) n199 3 [(n168,784)] .none .none .none (s n123 661) (r 802) (r 796) 0)) #[]
def o843:=fc n178 n201 1153 542 1 0 0 3 811 1157
def o844:=fb 14 3 n201 .none (s n123 661) 816
def o850:=fc n26 n202 1160 546 1 0 0 3 818 1164
def o851:=fb 14 4 n202 .none (s n123 661) 823
def o857:=fc n179 n206 1167 549 1 0 0 3 825 1176
def o858:=fb 14 5 n206 .none (s n123 661) 830
def o866:=tu [(.int 0 1186)]
def o872:=fc n33 n208 1187 570 2 0 0 3 840 1194
def o873:=fb 14 7 n208 (r 839) (s n123 661) 845
def o879:=fc n37 n209 1197 584 1 0 0 3 847 1201
def o880:=fb 14 8 n209 .none (s n123 661) 852
def o900:=fc n39 n212 1219 593 1 0 0 3 868 1223
def o901:=fb 14 11 n212 .none (s n123 661) 873
def o907:=fc n45 n213 1226 596 1 0 0 3 875 1232
def o908:=fb 14 12 n213 .none (s n123 661) 880
def o914:=fc n43 n214 1235 605 2 0 0 3 882 1240
def o915:=fb 14 13 n214 .none (s n123 661) 887
def o938:=ob (.type l3) none (.dict (Yp [e P n18 1122 (s n123 661),e P n20 1126 (.int 530 1125),e P n145 1135 (r 795),e P n84 1145 (r 803),e P n27 1152 (r 810),e P n178 1159 (r 817),e P n26 1166 (r 824),e P n179 1178 (r 831),e P n36 1185 (r 838),e P n33 1196 (r 846),e P n37 1203 (r 853),e P n38 1210 (r 860),e P n44 1218 (r 867),e P n39 1225 (r 874),e P n45 1234 (r 881),e P n43 1242 (r 888),e P n85 1249 (r 895),e P n46 1256 (r 902),e P n42 1263 (r 909),e P n21 1264 (r 910),e P n4 1266 .none]) 3) #[]
def o939:=ob (.type l7) none (.cls (cd n197 [(r 491)] [(r 912),(r 491),(r 206),(.type G2)] 911 n197 true 0 [] false false false)) #[some (r 781),none,some (s n197 1115),some (s n197 1123),some (.builtin Io),some (.bool true)]
def o943:=nf (nl12)
def o944:=ob (.type l7) none (.cls (cd n136 [(r 491)] [(r 531),(r 491),(r 206),(.type G2)] 530 n136 true 0 [(r 607),(r 778),(r 1016)] false false false)) #[some (r 494),none,some (s n136 735),some (s n136 743),some (.builtin Io),some (.bool true)]
def o957:=fc n145 n220 1281 625 3 0 0 3 922 1287
def o958:=fb 15 0 n220 .none (s n123 661) 927
def o964:=fc n84 n221 1290 628 3 0 0 3 929 1296
def o965:=fb 15 1 n221 .none (s n123 661) 934
def o978:=fc n219 n223 1306 635 1 0 0 3 943 1312
def o979:=fb 15 3 n223 .none (s n123 661) 948
def o985:=fc n26 n224 1315 641 1 0 0 3 950 1319
def o986:=fb 15 4 n224 .none (s n123 661) 955
def o992:=fc n39 n225 1322 644 1 0 0 3 957 1326
def o993:=fb 15 5 n225 .none (s n123 661) 962
def o999:=fc n45 n226 1329 647 1 0 0 3 964 1335
def o1000:=fb 15 6 n226 .none (s n123 661) 969
def o1006:=fc n43 n227 1338 656 2 0 0 3 971 1345
def o1007:=fb 15 7 n227 .none (s n123 661) 976
def o1008:=tu [(.int 0 1348)]
def o1014:=fc n33 n230 1349 665 2 0 0 3 979 1360
def o1015:=fb 15 8 n230 (r 978) (s n123 661) 984
def o1045:=ob (.type l3) none (.dict (Yp [e P n18 1276 (s n123 661),e P n20 1280 (.int 623 1279),e P n145 1289 (r 928),e P n84 1298 (r 935),e P n27 1305 (r 942),e P n219 1314 (r 949),e P n26 1321 (r 956),e P n39 1328 (r 963),e P n45 1337 (r 970),e P n43 1347 (r 977),e P n33 1362 (r 985),e P n44 1370 (r 992),e P n85 1377 (r 999),e P n46 1384 (r 1006),e P n42 1391 (r 1013),e P n21 1392 (r 1014),e P n4 1393 .none]) 2) #[]
def o1046:=ob (.type l7) none (.cls (cd n218 [(r 531)] [(r 1016),(r 531),(r 491),(r 206),(.type G2)] 1015 n218 true 0 [] false false false)) #[some (r 915),none,some (s n218 1269),some (s n218 1277),some (.builtin Io),some (.bool true)]
def o1052:=ob (.type l7) none (.cls (cd n25 [(.type G2)] [(r 206),(.type G2)] 205 n25 true 0 [(r 276),(r 430),(r 491),(r 1163)] false false false)) #[some (r 48),none,some (s n25 236),some (s n25 244),some (.builtin Io),some (.bool true)]
def o1060:=tu [(.int 1 1410)]
def o1066:=fc n84 n240 1411 706 3 0 0 3 1027 1417
def o1067:=fb 17 0 n240 (r 1026) (s n235 1396) 1032
def o1073:=fc n34 n241 1420 710 1 0 0 3 1034 1424
def o1074:=fb 17 1 n241 .none (s n235 1396) 1039
def o1087:=fc n237 n244 1434 716 2 0 0 3 1048 1439
def o1088:=fb 17 3 n244 .none (s n235 1396) 1053
def o1089:=tu [(.int 0 1442)]
def o1095:=fc n33 n245 1443 719 2 0 0 3 1056 1449
def o1096:=fb 17 4 n245 (r 1055) (s n235 1396) 1061
def o1102:=fc n39 n246 1452 726 1 0 0 3 1063 1456
def o1103:=fb 17 5 n246 .none (s n235 1396) 1068
def o1109:=fc n40 n247 1459 729 1 0 0 3 1070 1463
def o1110:=fb 17 6 n247 .none (s n235 1396) 1075
def o1116:=fc n26 n248 1466 732 1 0 0 3 1077 1470
def o1117:=fb 17 7 n248 .none (s n235 1396) 1082
def o1144:=fc n43 n252 1494 744 2 0 0 3 1105 1499
def o1145:=fb 17 11 n252 .none (s n235 1396) 1110
def o1151:=fc n45 n253 1502 747 1 0 0 3 1112 1506
def o1152:=fb 17 12 n253 .none (s n235 1396) 1117
def o1172:=fc n37 n256 1524 756 1 0 0 3 1133 1528
def o1173:=fb 17 15 n256 .none (s n235 1396) 1138
def o1196:=ob (.type l3) none (.dict (Yp [e P n18 1405 (s n235 1396),e P n20 1409 (.int 704 1408),e P n84 1419 (r 1033),e P n34 1426 (r 1040),e P n35 1433 (r 1047),e P n237 1441 (r 1054),e P n33 1451 (r 1062),e P n39 1458 (r 1069),e P n40 1465 (r 1076),e P n26 1472 (r 1083),e P n27 1479 (r 1090),e P n32 1486 (r 1097),e P n42 1493 (r 1104),e P n43 1501 (r 1111),e P n45 1508 (r 1118),e P n36 1515 (r 1125),e P n44 1523 (r 1132),e P n37 1530 (r 1139),e P n38 1537 (r 1146),e P n85 1544 (r 1153),e P n46 1551 (r 1160),e P n21 1554 (r 1161),e P n4 1555 .none]) 2) #[]
def o1203:=tu [(r 1163)]
def o1206:=ob (.type l19) none (.cell (some (r 1241))) #[]
def o1211:=tu [(.bool false),(.int 1 1570)]
def o1218:=fc n84 n262 1571 769 5 0 0 3 1176 1580
def o1219:=ob (.type l4) none (.func (fd (sub 18 0) n262 3 [(n168,1169)] (r 1174) .none .none (s n235 1396) (r 1181) (r 1175) 0)) #[]
def o1232:=fc n34 n264 1590 779 1 0 0 3 1190 1594
def o1233:=fb 18 2 n264 .none (s n235 1396) 1195
def o1239:=fc n237 n265 1597 782 2 0 0 3 1197 1602
def o1240:=fb 18 3 n265 .none (s n235 1396) 1202
def o1246:=fc n179 n266 1605 785 1 0 0 3 1204 1612
def o1247:=fb 18 4 n266 .none (s n235 1396) 1209
def o1253:=fc n45 n267 1615 797 1 0 0 3 1211 1619
def o1254:=fb 18 5 n267 .none (s n235 1396) 1216
def o1260:=fc n43 n268 1622 801 2 0 0 3 1218 1627
def o1261:=fb 18 6 n268 .none (s n235 1396) 1223
def o1267:=fc n40 n269 1630 805 1 0 0 3 1225 1635
def o1268:=fb 18 7 n269 .none (s n235 1396) 1230
def o1277:=ob (.type l3) none (.dict (Yp [e P n18 1565 (s n235 1396),e P n20 1569 (.int 767 1568),e P n84 1582 (r 1182),e P n27 1589 (r 1189),e P n34 1596 (r 1196),e P n237 1604 (r 1203),e P n179 1614 (r 1210),e P n45 1621 (r 1217),e P n43 1629 (r 1224),e P n40 1637 (r 1231),e P n41 1644 (r 1238),e P n21 1648 (r 1239),e P n4 1650 .none]) 3) #[]
def o1278:=ob (.type l7) none (.cls (cd n260 [(r 1163)] [(r 1241),(r 1163),(r 206),(.type G2)] 1240 n260 true 0 [] false false false)) #[some (r 1166),none,some (s n260 1558),some (s n260 1566),some (.builtin Io),some (.bool true)]
def o1287:=ob (.type l19) none (.cell (some (r 1347))) #[]
def o1292:=tu [.none,(.int 1 1665),(.int 0 1666)]
def o1299:=fc n84 n275 1667 816 6 0 0 3 1254 1677
def o1300:=ob (.type l4) none (.func (fd (sub 19 0) n275 3 [(n168,1247)] (r 1252) .none .none (s n235 1396) (r 1259) (r 1253) 0)) #[]
def o1306:=fc n34 n276 1680 824 1 0 0 3 1261 1684
def o1307:=fb 19 1 n276 .none (s n235 1396) 1266
def o1313:=fc n237 n277 1687 827 2 0 0 3 1268 1692
def o1314:=fb 19 2 n277 .none (s n235 1396) 1273
def o1320:=fc n26 n278 1695 830 1 0 0 3 1275 1699
def o1321:=fb 19 3 n278 .none (s n235 1396) 1280
def o1341:=fc n179 n281 1716 839 1 0 0 3 1296 1722
def o1342:=fb 19 6 n281 .none (s n235 1396) 1301
def o1348:=fc n39 n282 1725 858 1 0 0 3 1303 1729
def o1349:=fb 19 7 n282 .none (s n235 1396) 1308
def o1355:=fc n40 n283 1732 861 1 0 0 3 1310 1736
def o1356:=fb 19 8 n283 .none (s n235 1396) 1315
def o1362:=fc n45 n284 1739 864 1 0 0 3 1317 1743
def o1363:=fb 19 9 n284 .none (s n235 1396) 1322
def o1369:=fc n43 n285 1746 870 2 0 0 3 1324 1751
def o1370:=fb 19 10 n285 .none (s n235 1396) 1329
def o1386:=ob (.type l3) none (.dict (Yp [e P n18 1660 (s n235 1396),e P n20 1664 (.int 814 1663),e P n84 1679 (r 1260),e P n34 1686 (r 1267),e P n237 1694 (r 1274),e P n26 1701 (r 1281),e P n27 1708 (r 1288),e P n36 1715 (r 1295),e P n179 1724 (r 1302),e P n39 1731 (r 1309),e P n40 1738 (r 1316),e P n45 1745 (r 1323),e P n43 1753 (r 1330),e P n85 1760 (r 1337),e P n46 1767 (r 1344),e P n21 1772 (r 1345),e P n4 1774 .none]) 3) #[]
def o1387:=ob (.type l7) none (.cls (cd n272 [(r 1163)] [(r 1347),(r 1163),(r 206),(.type G2)] 1346 n272 true 0 [] false false false)) #[some (r 1244),none,some (s n272 1653),some (s n272 1661),some (.builtin Io),some (.bool true)]
def o1405:=fc n84 n290 1789 885 3 0 0 3 1357 1795
def o1406:=fb 20 0 n290 .none (s n235 1396) 1362
def o1412:=fc n34 n291 1798 890 1 0 0 3 1364 1802
def o1413:=fb 20 1 n291 .none (s n235 1396) 1369
def o1421:=tu [(.int 0 1812)]
def o1427:=fc n33 n293 1813 896 2 0 0 3 1379 1820
def o1428:=fb 20 3 n293 (r 1378) (s n235 1396) 1384
def o1434:=fc n37 n294 1823 910 1 0 0 3 1386 1827
def o1435:=fb 20 4 n294 .none (s n235 1396) 1391
def o1472:=ob (.type l3) none (.dict (Yp [e P n18 1784 (s n235 1396),e P n20 1788 (.int 883 1787),e P n84 1797 (r 1363),e P n34 1804 (r 1370),e P n36 1811 (r 1377),e P n33 1822 (r 1385),e P n37 1829 (r 1392),e P n38 1836 (r 1399),e P n44 1844 (r 1406),e P n85 1851 (r 1413),e P n46 1858 (r 1420),e P n42 1865 (r 1427),e P n21 1868 (r 1428),e P n4 1869 .none]) 2) #[]
def o1473:=ob (.type l7) none (.cls (cd n289 [(r 1163)] [(r 1430),(r 1163),(r 206),(.type G2)] 1429 n289 true 0 [] false false false)) #[some (r 1350),none,some (s n289 1777),some (s n289 1785),some (.builtin Io),some (.bool true)]
def o1477:=nf (nl17)
def o1478:=ob (.type l7) none (.cls (cd n236 [(r 206)] [(r 1163),(r 206),(.type G2)] 1162 n236 true 0 [(r 1241),(r 1347),(r 1430),(r 1485)] false false false)) #[some (r 1019),none,some (s n236 1398),some (s n236 1406),some (.builtin Io),some (.bool true)]
def o1486:=tu [(.int 1 1884)]
def o1492:=fc n84 n301 1885 929 3 0 0 3 1441 1891
def o1493:=fb 21 0 n301 (r 1440) (s n235 1396) 1446
def o1499:=fc n34 n302 1894 933 1 0 0 3 1448 1898
def o1500:=fb 21 1 n302 .none (s n235 1396) 1453
def o1506:=fc n237 n303 1901 936 2 0 0 3 1455 1906
def o1507:=fb 21 2 n303 .none (s n235 1396) 1460
def o1513:=fc n37 n304 1909 939 1 0 0 3 1462 1913
def o1514:=fb 21 3 n304 .none (s n235 1396) 1467
def o1530:=ob (.type l3) none (.dict (Yp [e P n18 1879 (s n235 1396),e P n20 1883 (.int 927 1882),e P n84 1893 (r 1447),e P n34 1900 (r 1454),e P n237 1908 (r 1461),e P n37 1915 (r 1468),e P n38 1922 (r 1475),e P n46 1929 (r 1482),e P n21 1931 (r 1483),e P n4 1932 .none]) 2) #[]
def o1531:=ob (.type l7) none (.cls (cd n300 [(r 1163)] [(r 1485),(r 1163),(r 206),(.type G2)] 1484 n300 true 0 [] false false false)) #[some (r 1433),none,some (s n300 1872),some (s n300 1880),some (.builtin Io),some (.bool true)]
def o1540:=ob (.type l0) none (.fields (Yp [(s n309 1937),(s n309 1938),(s n1 1939),(z 948),(z 1),(z 0),(z 0),(z 3),(r 1488),(.bool true),(z 181),(r 1489),.none,.none,.none,(r 1490),(z 1940),(z 948),(s n1 1941)])) #[]
def o1541:=ob (.type l4) none (.func (fd (top 23) n309 3 [] .none .none .none (s n308 1935) (r 1491) .none 0)) #[]
def o1547:=ob (.type l0) none (.fields (Yp [(s n310 1943),(s n310 1944),(s n1 1945),(z 951),(z 1),(z 0),(z 0),(z 3),(r 1493),(.bool true),(z 181),(r 1494),.none,.none,.none,(r 1495),(z 1946),(z 951),(s n1 1947)])) #[]
def o1548:=ob (.type l4) none (.func (fd (top 24) n310 3 [] .none .none .none (s n308 1935) (r 1496) .none 0)) #[]
def o1554:=ob (.type l0) none (.fields (Yp [(s n311 1949),(s n311 1950),(s n1 1951),(z 954),(z 5),(z 0),(z 0),(z 3),(r 1498),(.bool true),(z 181),(r 1499),.none,.none,.none,(r 1500),(z 1952),(z 954),(s n1 1953)])) #[]
def o1555:=ob (.type l4) none (.func (fd (top 25) n311 3 [] .none .none .none (s n308 1935) (r 1501) .none 0)) #[]
def o1561:=ob (.type l0) none (.fields (Yp [(s n312 1955),(s n312 1956),(s n1 1957),(z 971),(z 4),(z 0),(z 0),(z 3),(r 1503),(.bool true),(z 181),(r 1504),.none,.none,.none,(r 1505),(z 1958),(z 971),(s n1 1959)])) #[]
def o1562:=ob (.type l4) none (.func (fd (top 26) n312 3 [] .none .none .none (s n308 1935) (r 1506) .none 0)) #[]
def o1570:=fc n313 n313 1961 981 1 0 0 3 1508 1977
def o1571:=ob (.type l4) none (.func (fd (top 27) n313 3 [] .none .none .none (s n308 1935) (r 1513) .none 0)) #[]
def o1579:=fc n327 n327 1980 1004 2 0 0 3 1515 1985
def o1580:=ob (.type l4) none (.func (fd (top 28) n327 3 [] .none .none .none (s n308 1935) (r 1520) .none 0)) #[]
def o1588:=fc n329 n329 1988 1013 1 0 0 3 1522 1997
def o1589:=ob (.type l4) none (.func (fd (top 29) n329 3 [] .none .none .none (s n308 1935) (r 1527) .none 0)) #[]
end
noncomputable def B(P:Y5)(x2 x3:dK):List Obj:=[PySem.W.boot_o_0 P,PySem.W.boot_o_1 P,x2,x3,PySem.W.boot_o_4 P,PySem.W.boot_o_5 P,PySem.W.boot_o_6 P,PySem.W.boot_o_7 P,PySem.W.boot_o_8 P,PySem.W.boot_o_9 P,PySem.W.boot_o_10 P]
noncomputable def alt:List dK->List dK
 | []=>[]
 | [a]=>[a]
 | a::_::t=>a::alt t
def bt:Nat->List dK->BT
 | 0,_=>.nil
 | _+1,[]=>.nil
 | n+1,v::t=>.node v (bt n (alt t)) (bt n (alt t.tail))
theorem Bv:segRunT=PySem.W.Fast.tw10110043849684766642:=PySem.W.Fast.te10110043849684766642
theorem A7:treeTable=PySem.W.Fast.tw14364793385576792824:=PySem.W.Fast.te14364793385576792824
noncomputable def mk(t:BT)(n toks:Nat)(os:Y7):SharedT:=⟨t,n,{},#[],{},toks,os⟩
abbrev env:Env:={scope:=pT.main.scope,locals:=mainNs,globals:=mainNs,cells:=[],code:=.ref 13,frame:=some 14}
abbrev cE:Code:=.body bT env
noncomputable abbrev q0:Pos:=⟨0,0,0,0⟩
abbrev tf:Frame:=topFrame q0
def N0(P:Y5)(AR:dK):List Obj:=[o0,AR,ob (.type l0) none (.fields (Yp [(s n0 182),(s n0 183),(s n1 184),(z 1),(z 0),(z 0),(z 0),(z 0),(r 11),(.bool false),(z 181),(r 12),.none,.none,.none,.none,(z 185),(z 1),(s n1 186)])) #[],ob (.type l1) none .plain #[some (r 13),some (r 3),some (r 3),none,some (s n2 164),none,some (r 0)]]
def L0(P:Y5):List Obj:=B P (fM P) (PySem.W.boot_o_3 P)++(N0 P (o1))
def S0(w:Y0)(os:Y7):SharedT:=mk (bt 12 (L0 w.params)) 15 187 os
def N1(P:Y5):List Obj:=[o0,o1,tu [(s n13 190)],o0,ob .none none (.func (fd (top 0) n12 0 [] .none .none .none .none .none .none 0)) #[],fc n12 n12 187 1 1 0 0 3 15 191,ob (.type l4) none (.func (fd (top 0) n12 3 [] .none .none .none (s n2 164) (r 20) .none 0)) #[]]
def L1(P:Y5):List Obj:=B P (fM P) (ob (.type l3) none (.dict (Yp (e P n3 165 (s n2 164)::dl0 P)) 10) #[])++(N0 P (o5)++(N1 P))
def S1(w:Y0)(os:Y7):SharedT:=mk (bt 12 (L1 w.params)) 22 194 os
def L2(P:Y5):List Obj:=B P (fM P) (ob (.type l3) none (.dict (Yp (e P n3 165 (s n14 194)::dl0 P)) 10) #[])++(N0 P (o5)++(N1 P))
def S2(w:Y0)(os:Y7):SharedT:=mk (bt 12 (L2 w.params)) 22 196 os
def N3(P:Y5):List Obj:=[o17,o18,ob (.type l3) none (.dict (Yp [e P n18 203 (s n14 194),e P n19 205 (s n17 204),e P n20 207 (.int 5 206),e P n21 208 (r 29)]) 4) #[],o0,o1,ob (.type l0) none (.fields (Yp [(s n17 198),(s n17 199),(s n1 200),(z 5),(z 0),(z 0),(z 0),(z 0),(r 25),(.bool false),(z 181),(r 26),.none,.none,.none,.none,(z 201),(z 5),(s n1 202)])) #[],ob (.type l1) none .plain #[some (r 27),some (r 3),some (r 24),none,some (s n14 194),none,some (r 0)],o0,ob (.type l3) none (.dict (Yp [e P n18 203 (s n14 194),e P n20 207 (.int 5 206),e P n21 208 (r 29),e P n22 210 (r 32),e P n4 211 .none]) 3) #[],o26,ob (.type l13) none (.fields (Yp [(s n22 209),(r 31),(.builtin l12),.none])) #[],ob (.type Nh) none (.fields (Yp [(r 31),(r 31),(r 31)])) #[],ob (.type l8) none (.fields (Yp [(.builtin Ni),(r 31)])) #[]]
def L3(P:Y5):List Obj:=B P (ob .none none (.dict (Yp [e P n15 212 (z 31),e P n16 213 (z 1)]) 2) #[]) (ob (.type l3) none (.dict (Yp (e P n3 165 (s n14 194)::dl1 P)) 11) #[])++(N0 P (nf (nl0))++(N1 P++(N3 P)))
def S3(w:Y0)(os:Y7):SharedT:=mk (bt 12 (L3 w.params)) 35 216 os
def N4(P:Y5):List Obj:=[o17,o18,ob (.type l3) none (.dict (Yp [e P n18 223 (s n14 194),e P n19 225 (s n24 224),e P n20 227 (.int 7 226),e P n21 228 (r 42)]) 4) #[],o0,o1,ob (.type l0) none (.fields (Yp [(s n24 218),(s n24 219),(s n1 220),(z 7),(z 0),(z 0),(z 0),(z 0),(r 38),(.bool false),(z 181),(r 39),.none,.none,.none,.none,(z 221),(z 7),(s n1 222)])) #[],ob (.type l1) none .plain #[some (r 40),some (r 3),some (r 37),none,some (s n14 194),none,some (r 0)],o0,ob (.type l3) none (.dict (Yp [e P n18 223 (s n14 194),e P n20 227 (.int 7 226),e P n21 228 (r 42),e P n22 230 (r 45),e P n4 231 .none]) 3) #[],ob (.type l7) none (.cls (cd n24 [(.type l5)] [(r 44),(.type l5),(.type l10),(.type G2)] 43 n24 true 0 [] false false false)) #[some (r 35),none,some (s n24 216),some (s n24 224),some (.builtin l9),some (.bool true)],ob (.type l13) none (.fields (Yp [(s n22 229),(r 44),(.builtin l12),.none])) #[],ob (.type Nh) none (.fields (Yp [(r 44),(r 44),(r 44)])) #[],ob (.type l8) none (.fields (Yp [(.builtin Ni),(r 44)])) #[]]
def L4(P:Y5):List Obj:=B P (o30 P) (ob (.type l3) none (.dict (Yp (e P n3 165 (s n14 194)::dl2 P)) 12) #[])++(N0 P (nf (nl1))++(N1 P++(N3 P++(N4 P))))
def S4(w:Y0)(os:Y7):SharedT:=mk (bt 12 (L4 w.params)) 48 236 os
def N5(P:Y5)(x206:dK):List Obj:=[tu [(.type G2)],o18,ob (.type l3) none (.dict (Yp [e P n18 243 (s n14 194),e P n19 245 (s n25 244),e P n20 247 (.int 9 246),e P n26 254 (r 61),e P n27 261 (r 68),e P n28 268 (r 75),e P n29 275 (r 82),e P n30 283 (r 90),e P n31 290 (r 97),e P n32 297 (r 104),e P n33 306 (r 112),e P n34 313 (r 119),e P n35 320 (r 126),e P n36 327 (r 133),e P n37 334 (r 140),e P n38 341 (r 147),e P n39 348 (r 154),e P n40 357 (r 161),e P n41 364 (r 168),e P n42 371 (r 175),e P n43 379 (r 182),e P n44 387 (r 189),e P n45 394 (r 196),e P n46 401 (r 203),e P n21 402 (r 204)]) 25) #[],o0,nf [(z 11),(z 4),(r 60),(z 14),(z 4),(r 67),(z 17),(z 4),(r 74),(z 20),(z 4),(r 81),(z 23),(z 4),(r 89),(z 26),(z 4),(r 96),(z 29),(z 4),(r 103),(z 32),(z 4),(r 111),(z 35),(z 4),(r 118),(z 38),(z 4),(r 125),(z 41),(z 4),(r 132),(z 44),(z 4),(r 139),(z 47),(z 4),(r 146),(z 50),(z 4),(r 153),(z 53),(z 4),(r 160),(z 64),(z 4),(r 167),(z 67),(z 4),(r 174),(z 70),(z 4),(r 181),(z 74),(z 4),(r 188),(z 77),(z 4),(r 195),(z 80),(z 4),(r 202)],ob (.type l0) none (.fields (Yp [(s n25 238),(s n25 239),(s n1 240),(z 9),(z 0),(z 0),(z 0),(z 0),(r 51),(.bool false),(z 181),(r 52),.none,.none,.none,.none,(z 241),(z 9),(s n1 242)])) #[],ob (.type l1) none .plain #[some (r 53),some (r 3),some (r 50),none,some (s n14 194),none,some (r 0)],o0,o1,tu [(s n47 251)],o0,fa 4 0 n48,fc n26 n48 248 11 1 0 0 3 55 252,fb 4 0 n48 .none (s n14 194) 60,o0,o1,tu [(s n47 258)],o0,fa 4 1 n49,fc n27 n49 255 14 1 0 0 3 62 259,fb 4 1 n49 .none (s n14 194) 67,o0,o1,tu [(s n47 265)],o0,fa 4 2 n50,fc n28 n50 262 17 1 0 0 3 69 266,fb 4 2 n50 .none (s n14 194) 74,o0,o1,tu [(s n47 272)],o0,fa 4 3 n51,fc n29 n51 269 20 1 0 0 3 76 273,fb 4 3 n51 .none (s n14 194) 81,tu [.none],o0,o1,tu [(s n47 279),(s n39 280)],o0,fa 4 4 n52,fc n30 n52 276 23 2 0 0 3 84 281,fb 4 4 n52 (r 83) (s n14 194) 89,o0,o1,tu [(s n47 287)],o0,fa 4 5 n53,fc n31 n53 284 26 1 0 0 3 91 288,fb 4 5 n53 .none (s n14 194) 96,o0,o1,tu [(s n47 294)],o0,fa 4 6 n54,fc n32 n54 291 29 1 0 0 3 98 295,fb 4 6 n54 .none (s n14 194) 103,o105,o0,o1,tu [(s n47 302),(s n55 303)],o0,fa 4 7 n56,o111,o112,o0,o1,tu [(s n47 310)],o0,fa 4 8 n57,fc n34 n57 307 35 1 0 0 3 113 311,fb 4 8 n57 .none (s n14 194) 118,o0,o1,tu [(s n47 317)],o0,fa 4 9 n58,fc n35 n58 314 38 1 0 0 3 120 318,fb 4 9 n58 .none (s n14 194) 125,o0,o1,tu [(s n47 324)],o0,fa 4 10 n59,fc n36 n59 321 41 1 0 0 3 127 325,fb 4 10 n59 .none (s n14 194) 132,o0,o1,tu [(s n47 331)],o0,fa 4 11 n60,fc n37 n60 328 44 1 0 0 3 134 332,fb 4 11 n60 .none (s n14 194) 139,o0,o1,tu [(s n47 338)],o0,fa 4 12 n61,fc n38 n61 335 47 1 0 0 3 141 339,fb 4 12 n61 .none (s n14 194) 146,o0,o1,tu [(s n47 345)],o0,fa 4 13 n62,fc n39 n62 342 50 1 0 0 3 148 346,fb 4 13 n62 .none (s n14 194) 153,o0,o1,tu [(s n47 352),(s n63 353),(s n64 354)],o0,fa 4 14 n65,o160,o161,o0,o1,tu [(s n47 361)],o0,fa 4 15 n66,fc n41 n66 358 64 1 0 0 3 162 362,fb 4 15 n66 .none (s n14 194) 167,o0,o1,tu [(s n47 368)],o0,fa 4 16 n67,fc n42 n67 365 67 1 0 0 3 169 369,fb 4 16 n67 .none (s n14 194) 174,o0,o1,tu [(s n47 375),(s n39 376)],o0,fa 4 17 n68,fc n43 n68 372 70 2 0 0 3 176 377,fb 4 17 n68 .none (s n14 194) 181,o0,o1,tu [(s n47 383),(s n55 384)],o0,fa 4 18 n69,fc n44 n69 380 74 2 0 0 3 183 385,fb 4 18 n69 .none (s n14 194) 188,o0,o1,tu [(s n47 391)],o0,fa 4 19 n70,fc n45 n70 388 77 1 0 0 3 190 392,fb 4 19 n70 .none (s n14 194) 195,o0,o1,tu [(s n47 398)],o0,fa 4 20 n71,fc n46 n71 395 80 1 0 0 3 197 399,fb 4 20 n71 .none (s n14 194) 202,o0,o205 P,x206,ob (.type l13) none (.fields (Yp [(s n72 403),(r 206),(.builtin l17),(.builtin l18)])) #[],ob (.type l13) none (.fields (Yp [(s n22 405),(r 206),(.builtin l12),.none])) #[],ob (.type Nh) none (.fields (Yp [(r 206),(r 206),(r 206)])) #[],ob (.type l8) none (.fields (Yp [(.builtin Ni),(r 206)])) #[]]
def L5(P:Y5):List Obj:=B P (o30 P) (ob (.type l3) none (.dict (Yp (e P n3 165 (s n14 194)::dl3 P)) 13) #[])++(N0 P (nf (nl2))++(N1 P++(N3 P++(N4 P++(N5 P (ob (.type l7) none (.cls (cd n25 [(.type G2)] [(r 206),(.type G2)] 205 n25 true 0 [] false false false)) #[some (r 48),none,some (s n25 236),some (s n25 244),some (.builtin Io),some (.bool true)]))))))
def S5(w:Y0)(os:Y7):SharedT:=mk (bt 12 (L5 w.params)) 211 410 os
def N6(P:Y5):List Obj:=[o214,o18,ob (.type l3) none (.dict (Yp [e P n18 417 (s n14 194),e P n19 419 (s n73 418),e P n20 421 (.int 82 420),e P n36 428 (r 224),e P n37 435 (r 231),e P n38 442 (r 238),e P n44 450 (r 245),e P n26 457 (r 252),e P n27 464 (r 259),e P n40 471 (r 266),e P n34 478 (r 273),e P n21 479 (r 274)]) 12) #[],o0,nf [(z 84),(z 4),(r 223),(z 87),(z 4),(r 230),(z 90),(z 4),(r 237),(z 93),(z 4),(r 244),(z 96),(z 4),(r 251),(z 99),(z 4),(r 258),(z 102),(z 4),(r 265),(z 105),(z 4),(r 272)],ob (.type l0) none (.fields (Yp [(s n73 412),(s n73 413),(s n1 414),(z 82),(z 0),(z 0),(z 0),(z 0),(r 214),(.bool false),(z 181),(r 215),.none,.none,.none,.none,(z 415),(z 82),(s n1 416)])) #[],ob (.type l1) none .plain #[some (r 216),some (r 3),some (r 213),none,some (s n14 194),none,some (r 0)],o0,o1,tu [(s n47 425)],o0,fa 5 0 n74,fc n36 n74 422 84 1 0 0 3 218 426,fb 5 0 n74 .none (s n14 194) 223,o0,o1,tu [(s n47 432)],o0,fa 5 1 n75,o233,o234,o0,o1,tu [(s n47 439)],o0,fa 5 2 n76,fc n38 n76 436 90 1 0 0 3 232 440,fb 5 2 n76 .none (s n14 194) 237,o0,o1,tu [(s n47 446),(s n55 447)],o0,fa 5 3 n77,fc n44 n77 443 93 2 0 0 3 239 448,fb 5 3 n77 .none (s n14 194) 244,o0,o1,tu [(s n47 454)],o0,fa 5 4 n78,o254,o255,o0,o1,tu [(s n47 461)],o0,fa 5 5 n79,fc n27 n79 458 99 1 0 0 3 253 462,fb 5 5 n79 .none (s n14 194) 258,o0,o1,tu [(s n47 468)],o0,fa 5 6 n80,o268,o269,o0,o1,tu [(s n47 475)],o0,fa 5 7 n81,o275,o276,o0,o278 P,o279,ob (.type Nh) none (.fields (Yp [(r 276),(r 276),(r 276)])) #[],ob (.type l8) none (.fields (Yp [(.builtin Ni),(r 276)])) #[]]
def L6(P:Y5):List Obj:=B P (o30 P) (ob (.type l3) none (.dict (Yp (e P n3 165 (s n14 194)::dl4 P)) 14) #[])++(N0 P (nf (nl3))++(N1 P++(N3 P++(N4 P++(N5 P (o213)++(N6 P))))))
def S6(w:Y0)(os:Y7):SharedT:=mk (bt 12 (L6 w.params)) 279 483 os
def N7(P:Y5):List Obj:=[o0,o1,o0,o0,ob .none none (.func (fd (top 6) n82 0 [] .none .none .none .none .none .none 0)) #[],o289,o290]
def L7(P:Y5):List Obj:=B P (o30 P) (ob (.type l3) none (.dict (Yp (e P n3 165 (s n14 194)::dl5 P)) 15) #[])++(N0 P (nf (nl4))++(N1 P++(N3 P++(N4 P++(N5 P (o213)++(N6 P++(N7 P)))))))
def S7(w:Y0)(os:Y7):SharedT:=mk (bt 12 (L7 w.params)) 286 489 os
def N8(P:Y5):List Obj:=[o214,o18,ob (.type l3) none (.dict (Yp [e P n18 496 (s n14 194),e P n19 498 (s n83 497),e P n20 500 (.int 109 499),e P n84 517 (r 300),e P n26 524 (r 307),e P n27 531 (r 314),e P n43 539 (r 321),e P n28 546 (r 328),e P n34 553 (r 335),e P n33 562 (r 343),e P n36 569 (r 350),e P n37 576 (r 357),e P n38 583 (r 364),e P n44 591 (r 371),e P n39 598 (r 378),e P n40 605 (r 385),e P n41 612 (r 392),e P n42 619 (r 399),e P n45 626 (r 406),e P n85 633 (r 413),e P n86 640 (r 420),e P n46 647 (r 427),e P n21 657 (r 428)]) 23) #[],o0,nf [(z 111),(z 4),(r 299),(z 122),(z 4),(r 306),(z 125),(z 4),(r 313),(z 128),(z 4),(r 320),(z 136),(z 4),(r 327),(z 139),(z 4),(r 334),(z 142),(z 4),(r 342),(z 150),(z 4),(r 349),(z 153),(z 4),(r 356),(z 159),(z 4),(r 363),(z 162),(z 4),(r 370),(z 165),(z 4),(r 377),(z 168),(z 4),(r 384),(z 171),(z 4),(r 391),(z 174),(z 4),(r 398),(z 177),(z 4),(r 405),(z 180),(z 4),(r 412),(z 188),(z 4),(r 419),(z 196),(z 4),(r 426)],ob (.type l0) none (.fields (Yp [(s n83 491),(s n83 492),(s n1 493),(z 109),(z 0),(z 0),(z 0),(z 0),(r 289),(.bool false),(z 181),(r 290),.none,.none,.none,.none,(z 494),(z 109),(s n1 495)])) #[],ob (.type l1) none .plain #[some (r 291),some (r 3),some (r 288),none,some (s n14 194),none,some (r 0)],o301,o0,o1,tu [(s n47 505),(s n87 506),(s n88 507),(s n89 508),(s n90 509),(s n91 510),(s n92 511),(s n93 512),(s n28 513),(s n94 514)],o0,fa 7 0 n95,o307,o308,o0,o1,tu [(s n47 521)],o0,fa 7 1 n96,o314,o315,o0,o1,tu [(s n47 528)],o0,fa 7 2 n97,fc n27 n97 525 125 1 0 0 3 308 529,fb 7 2 n97 .none (s n14 194) 313,o0,o1,tu [(s n47 535),(s n39 536)],o0,fa 7 3 n98,o328,o329,o0,o1,tu [(s n47 543)],o0,fa 7 4 n99,fc n28 n99 540 136 1 0 0 3 322 544,fb 7 4 n99 .none (s n14 194) 327,o0,o1,tu [(s n47 550)],o0,fa 7 5 n100,o342,o343,o344,o0,o1,tu [(s n47 558),(s n55 559)],o0,fa 7 6 n101,o350,o351,o0,o1,tu [(s n47 566)],o0,fa 7 7 n102,fc n36 n102 563 150 1 0 0 3 344 567,fb 7 7 n102 .none (s n14 194) 349,o0,o1,tu [(s n47 573)],o0,fa 7 8 n103,o364,o365,o0,o1,tu [(s n47 580)],o0,fa 7 9 n104,fc n38 n104 577 159 1 0 0 3 358 581,fb 7 9 n104 .none (s n14 194) 363,o0,o1,tu [(s n47 587),(s n55 588)],o0,fa 7 10 n105,fc n44 n105 584 162 2 0 0 3 365 589,fb 7 10 n105 .none (s n14 194) 370,o0,o1,tu [(s n47 595)],o0,fa 7 11 n106,o385,o386,o0,o1,tu [(s n47 602)],o0,fa 7 12 n107,o392,o393,o0,o1,tu [(s n47 609)],o0,fa 7 13 n108,fc n41 n108 606 171 1 0 0 3 386 610,fb 7 13 n108 .none (s n14 194) 391,o0,o1,tu [(s n47 616)],o0,fa 7 14 n109,fc n42 n109 613 174 1 0 0 3 393 617,fb 7 14 n109 .none (s n14 194) 398,o0,o1,tu [(s n47 623)],o0,fa 7 15 n110,o413,o414,o0,o1,tu [(s n47 630)],o0,fa 7 16 n111,fc n85 n111 627 180 1 0 0 3 407 631,fb 7 16 n111 .none (s n14 194) 412,o0,o1,tu [(s n47 637)],o0,fa 7 17 n112,o427,o428,o0,o1,tu [(s n47 644)],o0,fa 7 18 n113,fc n46 n113 641 196 1 0 0 3 421 645,fb 7 18 n113 .none (s n14 194) 426,tu [(s n114 648),(s n115 649),(s n116 650),(s n117 651),(s n118 652),(s n119 653),(s n120 654),(s n121 655),(s n122 656)],o437 P,o438,ob (.type Nh) none (.fields (Yp [(r 430),(r 430),(r 430)])) #[],ob (.type l8) none (.fields (Yp [(.builtin Ni),(r 430)])) #[]]
def L8(P:Y5):List Obj:=B P (o30 P) (ob (.type l3) none (.dict (Yp (e P n3 165 (s n14 194)::dl6 P)) 16) #[])++(N0 P (o292)++(N1 P++(N3 P++(N4 P++(N5 P (o293)++(N6 P++(N7 P++(N8 P))))))))
def S8(w:Y0)(os:Y7):SharedT:=mk (bt 12 (L8 w.params)) 433 661 os
def L9(P:Y5):List Obj:=B P (o30 P) (ob (.type l3) none (.dict (Yp (e P n3 165 (s n123 661)::dl6 P)) 16) #[])++(N0 P (o292)++(N1 P++(N3 P++(N4 P++(N5 P (o293)++(N6 P++(N7 P++(N8 P))))))))
def S9(w:Y0)(os:Y7):SharedT:=mk (bt 12 (L9 w.params)) 433 663 os
def Lx(P:Y5)(x491:dK):List Obj:=[o214,o18,ob (.type l3) none (.dict (Yp [e P n18 670 (s n123 661),e P n19 672 (s n124 671),e P n20 674 (.int 202 673),e P n84 683 (r 446),e P n27 690 (r 453),e P n32 697 (r 460),e P n34 704 (r 467),e P n35 711 (r 474),e P n43 721 (r 481),e P n36 728 (r 488),e P n21 731 (r 489)]) 11) #[],o0,nf [(z 204),(z 4),(r 445),(z 208),(z 4),(r 452),(z 211),(z 4),(r 459),(z 214),(z 4),(r 466),(z 217),(z 4),(r 473),(z 220),(z 4),(r 480),(z 227),(z 4),(r 487)],ob (.type l0) none (.fields (Yp [(s n124 665),(s n124 666),(s n1 667),(z 202),(z 0),(z 0),(z 0),(z 0),(r 436),(.bool false),(z 181),(r 437),.none,.none,.none,.none,(z 668),(z 202),(s n1 669)])) #[],ob (.type l1) none .plain #[some (r 438),some (r 3),some (r 435),none,some (s n123 661),none,some (r 0)],o0,o1,tu [(s n47 678),(s n125 679),(s n126 680)],o0,fa 9 0 n127,o457,o458,o0,o1,tu [(s n47 687)],o0,fa 9 1 n128,fc n27 n128 684 208 1 0 0 3 447 688,fb 9 1 n128 .none (s n123 661) 452,o0,o1,tu [(s n47 694)],o0,fa 9 2 n129,fc n32 n129 691 211 1 0 0 3 454 695,fb 9 2 n129 .none (s n123 661) 459,o0,o1,tu [(s n47 701)],o0,fa 9 3 n130,o478,o479,o0,o1,tu [(s n47 708)],o0,fa 9 4 n131,fc n35 n131 705 217 1 0 0 3 468 709,fb 9 4 n131 .none (s n123 661) 473,o0,o1,tu [(s n47 715),(s n39 716),(s n132 717),(s n133 718)],o0,fa 9 5 n134,o492,o493,o0,o1,tu [(s n47 725)],o0,fa 9 6 n135,fc n36 n135 722 227 1 0 0 3 482 726,fb 9 6 n135 .none (s n123 661) 487,tu [(s n125 729),(s n126 730)],o502 P,x491,ob (.type Nh) none (.fields (Yp [(r 491),(r 491),(r 491)])) #[],ob (.type l8) none (.fields (Yp [(.builtin Ni),(r 491)])) #[]]
def L10(P:Y5):List Obj:=B P (o30 P) (ob (.type l3) none (.dict (Yp (e P n3 165 (s n123 661)::dl7 P)) 17) #[])++(N0 P (nf (nl6))++(N1 P++(N3 P++(N4 P++(N5 P (o444)++(N6 P++(N7 P++(N8 P++(Lx P (ob (.type l7) none (.cls (cd n124 [(r 206)] [(r 491),(r 206),(.type G2)] 490 n124 true 0 [] false false false)) #[some (r 433),none,some (s n124 663),some (s n124 671),some (.builtin Io),some (.bool true)]))))))))))
def S10(w:Y0)(os:Y7):SharedT:=mk (bt 12 (L10 w.params)) 494 735 os
def MV(P:Y5)(x531:dK):List Obj:=[o509,o18,ob (.type l3) none (.dict (Yp [e P n18 742 (s n123 661),e P n19 744 (s n136 743),e P n20 746 (.int 229 745),e P n37 754 (r 507),e P n38 762 (r 514),e P n85 769 (r 521),e P n46 776 (r 528),e P n21 777 (r 529)]) 8) #[],o0,nf [(z 231),(z 4),(r 506),(z 239),(z 4),(r 513),(z 247),(z 4),(r 520),(z 250),(z 4),(r 527)],ob (.type l0) none (.fields (Yp [(s n136 737),(s n136 738),(s n1 739),(z 229),(z 0),(z 0),(z 0),(z 0),(r 497),(.bool false),(z 181),(r 498),.none,.none,.none,.none,(z 740),(z 229),(s n1 741)])) #[],ob (.type l1) none .plain #[some (r 499),some (r 3),some (r 496),none,some (s n123 661),none,some (r 0)],o0,o1,tu [(s n47 750),(s n137 751)],o0,fa 10 0 n138,o521,o522,o0,o1,tu [(s n47 758),(s n139 759)],o0,fa 10 1 n140,fc n38 n140 755 239 1 0 0 3 508 760,fb 10 1 n140 .none (s n123 661) 513,o0,o1,tu [(s n47 766)],o0,fa 10 2 n141,fc n85 n141 763 247 1 0 0 3 515 767,fb 10 2 n141 .none (s n123 661) 520,o0,o1,tu [(s n47 773)],o0,fa 10 3 n142,fc n46 n142 770 250 1 0 0 3 522 774,fb 10 3 n142 .none (s n123 661) 527,o0,o545 P,x531,ob (.type Nh) none (.fields (Yp [(r 531),(r 531),(r 531)])) #[],ob (.type l8) none (.fields (Yp [(.builtin Ni),(r 531)])) #[]]
def L11(P:Y5):List Obj:=B P (o30 P) (ob (.type l3) none (.dict (Yp (e P n3 165 (s n123 661)::dl8 P)) 18) #[])++(N0 P (nf (nl7))++(N1 P++(N3 P++(N4 P++(N5 P (o444)++(N6 P++(N7 P++(N8 P++(Lx P (o508)++(MV P (ob (.type l7) none (.cls (cd n136 [(r 491)] [(r 531),(r 491),(r 206),(.type G2)] 530 n136 true 0 [] false false false)) #[some (r 494),none,some (s n136 735),some (s n136 743),some (.builtin Io),some (.bool true)])))))))))))
def S11(w:Y0)(os:Y7):SharedT:=mk (bt 12 (L11 w.params)) 534 781 os
def Mr(P:Y5)(x607:dK):List Obj:=[o552,o18,ob (.type l3) none (.dict (Yp [e P n18 788 (s n123 661),e P n19 790 (s n143 789),e P n20 792 (.int 252 791),e P n144 793 .none,e P n145 802 (r 547),e P n33 817 (r 555),e P n26 824 (r 562),e P n43 834 (r 569),e P n39 844 (r 576),e P n45 859 (r 583),e P n85 870 (r 590),e P n46 881 (r 597),e P n44 889 (r 604),e P n21 891 (r 605)]) 14) #[],o0,nf [(z 255),(z 4),(r 546),(z 258),(z 4),(r 554),(z 286),(z 4),(r 561),(z 289),(z 4),(r 568),(z 298),(z 4),(r 575),(z 313),(z 4),(r 582),(z 334),(z 4),(r 589),(z 350),(z 4),(r 596),(z 366),(z 4),(r 603)],ob (.type l0) none (.fields (Yp [(s n143 783),(s n143 784),(s n1 785),(z 252),(z 0),(z 0),(z 0),(z 0),(r 537),(.bool false),(z 181),(r 538),.none,.none,.none,.none,(z 786),(z 252),(s n1 787)])) #[],ob (.type l1) none .plain #[some (r 539),some (r 3),some (r 536),none,some (s n123 661),none,some (r 0)],o0,o1,tu [(s n47 797),(s n125 798),(s n126 799)],o0,fa 11 1 n146,o564,o565,o566,o0,o1,tu [(s n47 807),(s n55 808),(s n125 809),(s n126 810),(s n147 811),(s n148 812),(s n149 813),(s n150 814)],o0,fa 11 2 n151,o572,o573,o0,o1,tu [(s n47 821)],o0,fa 11 3 n152,o579,o580,o0,o1,tu [(s n47 828),(s n39 829),(s n132 830),(s n133 831)],o0,fa 11 4 n153,o586,o587,o0,o1,tu [(s n47 838),(s n144 839),(s n125 840),(s n126 841)],o0,fa 11 5 n154,o593,o594,o0,o1,tu [(s n47 848),(s n125 849),(s n126 850),(s n147 851),(s n148 852),(s n155 853),(s n156 854),(s n157 855),(s n158 856)],o0,fa 11 6 n159,o600,o601,o0,o1,tu [(s n47 863),(s n125 864),(s n126 865),(s n160 866),(s n161 867)],o0,fa 11 7 n162,fc n85 n162 860 334 1 0 0 3 584 868,fb 11 7 n162 .none (s n123 661) 589,o0,o1,tu [(s n47 874),(s n125 875),(s n126 876),(s n160 877),(s n161 878)],o0,fa 11 8 n163,fc n46 n163 871 350 1 0 0 3 591 879,fb 11 8 n163 .none (s n123 661) 596,o0,o1,tu [(s n47 885),(s n55 886)],o0,fa 11 9 n164,fc n44 n164 882 366 2 0 0 3 598 887,fb 11 9 n164 .none (s n123 661) 603,tu [(s n144 890)],o624 P,x607,ob (.type Nh) none (.fields (Yp [(r 607),(r 607),(r 607)])) #[],ob (.type l8) none (.fields (Yp [(.builtin Ni),(r 607)])) #[]]
def L12(P:Y5):List Obj:=B P (o30 P) (ob (.type l3) none (.dict (Yp (e P n3 165 (s n123 661)::dl9 P)) 19) #[])++(N0 P (nf (nl8))++(N1 P++(N3 P++(N4 P++(N5 P (o444)++(N6 P++(N7 P++(N8 P++(Lx P (o508)++(MV P (o551)++(Mr P (ob (.type l7) none (.cls (cd n143 [(r 531)] [(r 607),(r 531),(r 491),(r 206),(.type G2)] 606 n143 true 0 [] false false false)) #[some (r 534),none,some (s n143 781),some (s n143 789),some (.builtin Io),some (.bool true)]))))))))))))
def S12(w:Y0)(os:Y7):SharedT:=mk (bt 12 (L12 w.params)) 610 895 os
def Nd(P:Y5):List Obj:=[tu [(r 607)],o18,ob (.type l3) none (.dict (Yp [e P n18 902 (s n123 661),e P n19 904 (s n165 903),e P n20 906 (.int 368 905),e P n145 915 (r 624),e P n84 927 (r 633),e P n34 934 (r 640),e P n33 949 (r 648),e P n46 956 (r 655),e P n37 963 (r 662),e P n38 970 (r 669),e P n44 978 (r 676),e P n21 980 (r 677),e P n166 981 (r 613)]) 13) #[],o634,o0,nf [(z 370),(z 4),(r 623),(z 373),(z 4),(r 632),(z 377),(z 4),(r 639),(z 380),(z 4),(r 647),(z 415),(z 4),(r 654),(z 423),(z 4),(r 661),(z 426),(z 4),(r 668),(z 429),(z 4),(r 675)],ob (.type l0) none (.fields (Yp [(s n165 897),(s n165 898),(s n1 899),(z 368),(z 0),(z 0),(z 0),(z 0),(r 614),(.bool false),(z 181),(r 615),.none,.none,.none,.none,(z 900),(z 368),(s n1 901)])) #[],ob (.type l1) none .plain #[some (r 616),some (r 3),some (r 612),none,some (s n123 661),none,some (r 0)],o0,o1,tu [(s n47 910),(s n125 911),(s n126 912)],o0,fa 12 0 n167,o644,o645,o646,tu [(r 613)],tu [(s n168 920)],o1,tu [(s n47 921),(s n125 922),(s n126 923),(s n169 924)],o0,fa 12 1 n170,o653,o654,o0,o1,tu [(s n47 931)],o0,fa 12 2 n171,o660,o661,o662,o0,o1,tu [(s n47 939),(s n55 940),(s n125 941),(s n126 942),(s n147 943),(s n148 944),(s n149 945),(s n150 946)],o0,fa 12 3 n172,o668,o669,o0,o1,tu [(s n47 953)],o0,fa 12 4 n173,fc n46 n173 950 415 1 0 0 3 649 954,fb 12 4 n173 .none (s n123 661) 654,o0,o1,tu [(s n47 960)],o0,fa 12 5 n174,o682,o683,o0,o1,tu [(s n47 967)],o0,fa 12 6 n175,fc n38 n175 964 426 1 0 0 3 663 968,fb 12 6 n175 .none (s n123 661) 668,o0,o1,tu [(s n47 974),(s n55 975)],o0,fa 12 7 n176,fc n44 n176 971 429 2 0 0 3 670 976,fb 12 7 n176 .none (s n123 661) 675,tu [(s n169 979)],o699 P,o700,ob (.type Nh) none (.fields (Yp [(r 679),(r 679),(r 679)])) #[],ob (.type l8) none (.fields (Yp [(.builtin Ni),(r 679)])) #[]]
def L13(P:Y5):List Obj:=B P (o30 P) (ob (.type l3) none (.dict (Yp (e P n3 165 (s n123 661)::dl10 P)) 20) #[])++(N0 P (nf (nl9))++(N1 P++(N3 P++(N4 P++(N5 P (o444)++(N6 P++(N7 P++(N8 P++(Lx P (o508)++(MV P (o551)++(Mr P (o630)++(Nd P))))))))))))
def S13(w:Y0)(os:Y7):SharedT:=mk (bt 12 (L13 w.params)) 682 985 os
def Nk(P:Y5):List Obj:=[o552,o18,ob (.type l3) none (.dict (Yp [e P n18 992 (s n123 661),e P n19 994 (s n177 993),e P n20 996 (.int 431 995),e P n145 1005 (r 696),e P n84 1015 (r 704),e P n27 1022 (r 711),e P n178 1029 (r 718),e P n33 1046 (r 726),e P n26 1053 (r 733),e P n179 1067 (r 740),e P n39 1074 (r 747),e P n40 1081 (r 754),e P n43 1092 (r 761),e P n44 1100 (r 768),e P n45 1109 (r 775),e P n21 1110 (r 776),e P n166 1111 (r 685)]) 17) #[],o709,o0,nf [(z 433),(z 4),(r 695),(z 436),(z 4),(r 703),(z 440),(z 4),(r 710),(z 443),(z 4),(r 717),(z 447),(z 4),(r 725),(z 478),(z 4),(r 732),(z 481),(z 4),(r 739),(z 503),(z 4),(r 746),(z 506),(z 4),(r 753),(z 509),(z 4),(r 760),(z 520),(z 4),(r 767),(z 523),(z 4),(r 774)],ob (.type l0) none (.fields (Yp [(s n177 987),(s n177 988),(s n1 989),(z 431),(z 0),(z 0),(z 0),(z 0),(r 686),(.bool false),(z 181),(r 687),.none,.none,.none,.none,(z 990),(z 431),(s n1 991)])) #[],ob (.type l1) none .plain #[some (r 688),some (r 3),some (r 684),none,some (s n123 661),none,some (r 0)],o0,o1,tu [(s n47 1000),(s n125 1001),(s n126 1002)],o0,fa 13 0 n180,o719,o720,tu [(r 685)],tu [(s n168 1009)],o1,tu [(s n47 1010),(s n125 1011),(s n126 1012)],o0,fa 13 1 n181,o727,o728,o0,o1,tu [(s n47 1019)],o0,fa 13 2 n182,fc n27 n182 1016 440 1 0 0 3 705 1020,fb 13 2 n182 .none (s n123 661) 710,o0,o1,tu [(s n47 1026)],o0,fa 13 3 n183,o741,o742,o743,o0,o1,tu [(s n47 1034),(s n55 1035),(s n125 1036),(s n126 1037),(s n147 1038),(s n148 1039),(s n149 1040),(s n150 1041),(s n184 1042),(s n185 1043)],o0,fa 13 4 n186,o749,o750,o0,o1,tu [(s n47 1050)],o0,fa 13 5 n187,o756,o757,o0,o1,tu [(s n47 1057),(s n125 1058),(s n126 1059),(s n155 1060),(s n156 1061),(s n188 1062),(s n132 1063),(s n133 1064)],o0,fa 13 6 n189,o763,o764,o0,o1,tu [(s n47 1071)],o0,fa 13 7 n190,o770,o771,o0,o1,tu [(s n47 1078)],o0,fa 13 8 n191,o777,o778,o0,o1,tu [(s n47 1085),(s n39 1086),(s n132 1087),(s n133 1088),(s n192 1089)],o0,fa 13 9 n193,o784,o785,o0,o1,tu [(s n47 1096),(s n55 1097)],o0,fa 13 10 n194,fc n44 n194 1093 520 2 0 0 3 762 1098,fb 13 10 n194 .none (s n123 661) 767,o0,o1,tu [(s n47 1104),(s n157 1105),(s n195 1106)],o0,fa 13 11 n196,o798,o799,o0,o801 P,o802,ob (.type Nh) none (.fields (Yp [(r 778),(r 778),(r 778)])) #[],ob (.type l8) none (.fields (Yp [(.builtin Ni),(r 778)])) #[]]
def L14(P:Y5):List Obj:=B P (o30 P) (ob (.type l3) none (.dict (Yp (e P n3 165 (s n123 661)::dl11 P)) 21) #[])++(N0 P (nf (nl10))++(N1 P++(N3 P++(N4 P++(N5 P (o444)++(N6 P++(N7 P++(N8 P++(Lx P (o508)++(MV P (o705)++(Mr P (o630)++(Nd P++(Nk P)))))))))))))
def S14(w:Y0)(os:Y7):SharedT:=mk (bt 12 (L14 w.params)) 781 1115 os
def O1(P:Y5):List Obj:=[o509,o18,ob (.type l3) none (.dict (Yp [e P n18 1122 (s n123 661),e P n19 1124 (s n197 1123),e P n20 1126 (.int 530 1125),e P n145 1135 (r 795),e P n84 1145 (r 803),e P n27 1152 (r 810),e P n178 1159 (r 817),e P n26 1166 (r 824),e P n179 1178 (r 831),e P n36 1185 (r 838),e P n33 1196 (r 846),e P n37 1203 (r 853),e P n38 1210 (r 860),e P n44 1218 (r 867),e P n39 1225 (r 874),e P n45 1234 (r 881),e P n43 1242 (r 888),e P n85 1249 (r 895),e P n46 1256 (r 902),e P n42 1263 (r 909),e P n21 1264 (r 910),e P n166 1265 (r 784)]) 22) #[],o811,o0,nf [(z 532),(z 4),(r 794),(z 535),(z 4),(r 802),(z 539),(z 4),(r 809),(z 542),(z 4),(r 816),(z 546),(z 4),(r 823),(z 549),(z 4),(r 830),(z 567),(z 4),(r 837),(z 570),(z 4),(r 845),(z 584),(z 4),(r 852),(z 587),(z 4),(r 859),(z 590),(z 4),(r 866),(z 593),(z 4),(r 873),(z 596),(z 4),(r 880),(z 605),(z 4),(r 887),(z 615),(z 4),(r 894),(z 618),(z 4),(r 901),(z 621),(z 4),(r 908)],ob (.type l0) none (.fields (Yp [(s n197 1117),(s n197 1118),(s n1 1119),(z 530),(z 0),(z 0),(z 0),(z 0),(r 785),(.bool false),(z 181),(r 786),.none,.none,.none,.none,(z 1120),(z 530),(s n1 1121)])) #[],ob (.type l1) none .plain #[some (r 787),some (r 3),some (r 783),none,some (s n123 661),none,some (r 0)],o0,o1,tu [(s n47 1130),(s n125 1131),(s n126 1132)],o0,fa 14 0 n198,o821,o822,tu [(r 784)],tu [(s n168 1139)],o1,tu [(s n47 1140),(s n125 1141),(s n126 1142)],o0,fa 14 1 n199,o829,o830,o0,o1,tu [(s n47 1149)],o0,fa 14 2 n200,fc n27 n200 1146 539 1 0 0 3 804 1150,fb 14 2 n200 .none (s n123 661) 809,o0,o1,tu [(s n47 1156)],o0,fa 14 3 n201,o843,o844,o0,o1,tu [(s n47 1163)],o0,fa 14 4 n202,o850,o851,o0,o1,tu [(s n47 1170),(s n203 1171),(s n204 1172),(s n205 1173),(s n188 1174),(s n195 1175)],o0,fa 14 5 n206,o857,o858,o0,o1,tu [(s n47 1182)],o0,fa 14 6 n207,fc n36 n207 1179 567 1 0 0 3 832 1183,fb 14 6 n207 .none (s n123 661) 837,o866,o0,o1,tu [(s n47 1190),(s n55 1191),(s n125 1192),(s n126 1193)],o0,fa 14 7 n208,o872,o873,o0,o1,tu [(s n47 1200)],o0,fa 14 8 n209,o879,o880,o0,o1,tu [(s n47 1207)],o0,fa 14 9 n210,fc n38 n210 1204 587 1 0 0 3 854 1208,fb 14 9 n210 .none (s n123 661) 859,o0,o1,tu [(s n47 1214),(s n55 1215)],o0,fa 14 10 n211,fc n44 n211 1211 590 2 0 0 3 861 1216,fb 14 10 n211 .none (s n123 661) 866,o0,o1,tu [(s n47 1222)],o0,fa 14 11 n212,o900,o901,o0,o1,tu [(s n47 1229),(s n157 1230),(s n195 1231)],o0,fa 14 12 n213,o907,o908,o0,o1,tu [(s n47 1238),(s n39 1239)],o0,fa 14 13 n214,o914,o915,o0,o1,tu [(s n47 1246)],o0,fa 14 14 n215,fc n85 n215 1243 615 1 0 0 3 889 1247,fb 14 14 n215 .none (s n123 661) 894,o0,o1,tu [(s n47 1253)],o0,fa 14 15 n216,fc n46 n216 1250 618 1 0 0 3 896 1254,fb 14 15 n216 .none (s n123 661) 901,o0,o1,tu [(s n47 1260)],o0,fa 14 16 n217,fc n42 n217 1257 621 1 0 0 3 903 1261,fb 14 16 n217 .none (s n123 661) 908,o0,o938 P,o939,ob (.type Nh) none (.fields (Yp [(r 912),(r 912),(r 912)])) #[],ob (.type l8) none (.fields (Yp [(.builtin Ni),(r 912)])) #[]]
def L15(P:Y5):List Obj:=B P (o30 P) (ob (.type l3) none (.dict (Yp (e P n3 165 (s n123 661)::dl12 P)) 22) #[])++(N0 P (nf (nl11))++(N1 P++(N3 P++(N4 P++(N5 P (o444)++(N6 P++(N7 P++(N8 P++(Lx P (o807)++(MV P (o705)++(Mr P (o630)++(Nd P++(Nk P++(O1 P))))))))))))))
def S15(w:Y0)(os:Y7):SharedT:=mk (bt 12 (L15 w.params)) 915 1269 os
def O6(P:Y5):List Obj:=[o552,o18,ob (.type l3) none (.dict (Yp [e P n18 1276 (s n123 661),e P n19 1278 (s n218 1277),e P n20 1280 (.int 623 1279),e P n145 1289 (r 928),e P n84 1298 (r 935),e P n27 1305 (r 942),e P n219 1314 (r 949),e P n26 1321 (r 956),e P n39 1328 (r 963),e P n45 1337 (r 970),e P n43 1347 (r 977),e P n33 1362 (r 985),e P n44 1370 (r 992),e P n85 1377 (r 999),e P n46 1384 (r 1006),e P n42 1391 (r 1013),e P n21 1392 (r 1014)]) 17) #[],o0,nf [(z 625),(z 4),(r 927),(z 628),(z 4),(r 934),(z 632),(z 4),(r 941),(z 635),(z 4),(r 948),(z 641),(z 4),(r 955),(z 644),(z 4),(r 962),(z 647),(z 4),(r 969),(z 656),(z 4),(r 976),(z 665),(z 4),(r 984),(z 686),(z 4),(r 991),(z 689),(z 4),(r 998),(z 695),(z 4),(r 1005),(z 701),(z 4),(r 1012)],ob (.type l0) none (.fields (Yp [(s n218 1271),(s n218 1272),(s n1 1273),(z 623),(z 0),(z 0),(z 0),(z 0),(r 918),(.bool false),(z 181),(r 919),.none,.none,.none,.none,(z 1274),(z 623),(s n1 1275)])) #[],ob (.type l1) none .plain #[some (r 920),some (r 3),some (r 917),none,some (s n123 661),none,some (r 0)],o0,o1,tu [(s n47 1284),(s n125 1285),(s n126 1286)],o0,fa 15 0 n220,o957,o958,o0,o1,tu [(s n47 1293),(s n125 1294),(s n126 1295)],o0,fa 15 1 n221,o964,o965,o0,o1,tu [(s n47 1302)],o0,fa 15 2 n222,fc n27 n222 1299 632 1 0 0 3 936 1303,fb 15 2 n222 .none (s n123 661) 941,o0,o1,tu [(s n47 1309),(s n125 1310),(s n126 1311)],o0,fa 15 3 n223,o978,o979,o0,o1,tu [(s n47 1318)],o0,fa 15 4 n224,o985,o986,o0,o1,tu [(s n47 1325)],o0,fa 15 5 n225,o992,o993,o0,o1,tu [(s n47 1332),(s n157 1333),(s n158 1334)],o0,fa 15 6 n226,o999,o1000,o0,o1,tu [(s n47 1341),(s n39 1342),(s n132 1343),(s n133 1344)],o0,fa 15 7 n227,o1006,o1007,o1008,o0,o1,tu [(s n47 1352),(s n55 1353),(s n125 1354),(s n126 1355),(s n147 1356),(s n148 1357),(s n228 1358),(s n229 1359)],o0,fa 15 8 n230,o1014,o1015,o0,o1,tu [(s n47 1366),(s n55 1367)],o0,fa 15 9 n231,fc n44 n231 1363 686 2 0 0 3 986 1368,fb 15 9 n231 .none (s n123 661) 991,o0,o1,tu [(s n47 1374)],o0,fa 15 10 n232,fc n85 n232 1371 689 1 0 0 3 993 1375,fb 15 10 n232 .none (s n123 661) 998,o0,o1,tu [(s n47 1381)],o0,fa 15 11 n233,fc n46 n233 1378 695 1 0 0 3 1000 1382,fb 15 11 n233 .none (s n123 661) 1005,o0,o1,tu [(s n47 1388)],o0,fa 15 12 n234,fc n42 n234 1385 701 1 0 0 3 1007 1389,fb 15 12 n234 .none (s n123 661) 1012,o0,o1045 P,o1046,ob (.type Nh) none (.fields (Yp [(r 1016),(r 1016),(r 1016)])) #[],ob (.type l8) none (.fields (Yp [(.builtin Ni),(r 1016)])) #[]]
def L16(P:Y5):List Obj:=B P (o30 P) (ob (.type l3) none (.dict (Yp (e P n3 165 (s n123 661)::dl13 P)) 23) #[])++(N0 P (o943)++(N1 P++(N3 P++(N4 P++(N5 P (o444)++(N6 P++(N7 P++(N8 P++(Lx P (o807)++(MV P (o944)++(Mr P (o630)++(Nd P++(Nk P++(O1 P++(O6 P)))))))))))))))
def S16(w:Y0)(os:Y7):SharedT:=mk (bt 12 (L16 w.params)) 1019 1396 os
def L17(P:Y5):List Obj:=B P (o30 P) (ob (.type l3) none (.dict (Yp (e P n3 165 (s n235 1396)::dl13 P)) 23) #[])++(N0 P (o943)++(N1 P++(N3 P++(N4 P++(N5 P (o444)++(N6 P++(N7 P++(N8 P++(Lx P (o807)++(MV P (o944)++(Mr P (o630)++(Nd P++(Nk P++(O1 P++(O6 P)))))))))))))))
def S17(w:Y0)(os:Y7):SharedT:=mk (bt 12 (L17 w.params)) 1019 1398 os
def Qp(P:Y5)(x1163:dK):List Obj:=[o214,o18,ob (.type l3) none (.dict (Yp [e P n18 1405 (s n235 1396),e P n19 1407 (s n236 1406),e P n20 1409 (.int 704 1408),e P n84 1419 (r 1033),e P n34 1426 (r 1040),e P n35 1433 (r 1047),e P n237 1441 (r 1054),e P n33 1451 (r 1062),e P n39 1458 (r 1069),e P n40 1465 (r 1076),e P n26 1472 (r 1083),e P n27 1479 (r 1090),e P n32 1486 (r 1097),e P n42 1493 (r 1104),e P n43 1501 (r 1111),e P n45 1508 (r 1118),e P n36 1515 (r 1125),e P n44 1523 (r 1132),e P n37 1530 (r 1139),e P n38 1537 (r 1146),e P n85 1544 (r 1153),e P n46 1551 (r 1160),e P n21 1554 (r 1161)]) 23) #[],o0,nf [(z 706),(z 4),(r 1032),(z 710),(z 4),(r 1039),(z 713),(z 4),(r 1046),(z 716),(z 4),(r 1053),(z 719),(z 4),(r 1061),(z 726),(z 4),(r 1068),(z 729),(z 4),(r 1075),(z 732),(z 4),(r 1082),(z 735),(z 4),(r 1089),(z 738),(z 4),(r 1096),(z 741),(z 4),(r 1103),(z 744),(z 4),(r 1110),(z 747),(z 4),(r 1117),(z 750),(z 4),(r 1124),(z 753),(z 4),(r 1131),(z 756),(z 4),(r 1138),(z 759),(z 4),(r 1145),(z 762),(z 4),(r 1152),(z 765),(z 4),(r 1159)],ob (.type l0) none (.fields (Yp [(s n236 1400),(s n236 1401),(s n1 1402),(z 704),(z 0),(z 0),(z 0),(z 0),(r 1022),(.bool false),(z 181),(r 1023),.none,.none,.none,.none,(z 1403),(z 704),(s n1 1404)])) #[],ob (.type l1) none .plain #[some (r 1024),some (r 3),some (r 1021),none,some (s n235 1396),none,some (r 0)],o1060,o0,o1,tu [(s n47 1414),(s n238 1415),(s n239 1416)],o0,fa 17 0 n240,o1066,o1067,o0,o1,tu [(s n47 1423)],o0,fa 17 1 n241,o1073,o1074,o0,o1,tu [(s n47 1430)],o0,fa 17 2 n242,fc n35 n242 1427 713 1 0 0 3 1041 1431,fb 17 2 n242 .none (s n235 1396) 1046,o0,o1,tu [(s n47 1437),(s n243 1438)],o0,fa 17 3 n244,o1087,o1088,o1089,o0,o1,tu [(s n47 1446),(s n55 1447),(s n188 1448)],o0,fa 17 4 n245,o1095,o1096,o0,o1,tu [(s n47 1455)],o0,fa 17 5 n246,o1102,o1103,o0,o1,tu [(s n47 1462)],o0,fa 17 6 n247,o1109,o1110,o0,o1,tu [(s n47 1469)],o0,fa 17 7 n248,o1116,o1117,o0,o1,tu [(s n47 1476)],o0,fa 17 8 n249,fc n27 n249 1473 735 1 0 0 3 1084 1477,fb 17 8 n249 .none (s n235 1396) 1089,o0,o1,tu [(s n47 1483)],o0,fa 17 9 n250,fc n32 n250 1480 738 1 0 0 3 1091 1484,fb 17 9 n250 .none (s n235 1396) 1096,o0,o1,tu [(s n47 1490)],o0,fa 17 10 n251,fc n42 n251 1487 741 1 0 0 3 1098 1491,fb 17 10 n251 .none (s n235 1396) 1103,o0,o1,tu [(s n47 1497),(s n39 1498)],o0,fa 17 11 n252,o1144,o1145,o0,o1,tu [(s n47 1505)],o0,fa 17 12 n253,o1151,o1152,o0,o1,tu [(s n47 1512)],o0,fa 17 13 n254,fc n36 n254 1509 750 1 0 0 3 1119 1513,fb 17 13 n254 .none (s n235 1396) 1124,o0,o1,tu [(s n47 1519),(s n55 1520)],o0,fa 17 14 n255,fc n44 n255 1516 753 2 0 0 3 1126 1521,fb 17 14 n255 .none (s n235 1396) 1131,o0,o1,tu [(s n47 1527)],o0,fa 17 15 n256,o1172,o1173,o0,o1,tu [(s n47 1534)],o0,fa 17 16 n257,fc n38 n257 1531 759 1 0 0 3 1140 1535,fb 17 16 n257 .none (s n235 1396) 1145,o0,o1,tu [(s n47 1541)],o0,fa 17 17 n258,fc n85 n258 1538 762 1 0 0 3 1147 1542,fb 17 17 n258 .none (s n235 1396) 1152,o0,o1,tu [(s n47 1548)],o0,fa 17 18 n259,fc n46 n259 1545 765 1 0 0 3 1154 1549,fb 17 18 n259 .none (s n235 1396) 1159,tu [(s n239 1552),(s n238 1553)],o1196 P,x1163,ob (.type Nh) none (.fields (Yp [(r 1163),(r 1163),(r 1163)])) #[],ob (.type l8) none (.fields (Yp [(.builtin Ni),(r 1163)])) #[]]
def L18(P:Y5):List Obj:=B P (o30 P) (ob (.type l3) none (.dict (Yp (e P n3 165 (s n235 1396)::dl14 P)) 24) #[])++(N0 P (nf (nl13))++(N1 P++(N3 P++(N4 P++(N5 P (o1052)++(N6 P++(N7 P++(N8 P++(Lx P (o807)++(MV P (o944)++(Mr P (o630)++(Nd P++(Nk P++(O1 P++(O6 P++(Qp P (ob (.type l7) none (.cls (cd n236 [(r 206)] [(r 1163),(r 206),(.type G2)] 1162 n236 true 0 [] false false false)) #[some (r 1019),none,some (s n236 1398),some (s n236 1406),some (.builtin Io),some (.bool true)])))))))))))))))))
def S18(w:Y0)(os:Y7):SharedT:=mk (bt 12 (L18 w.params)) 1166 1558 os
def Ro(P:Y5):List Obj:=[o1203,o18,ob (.type l3) none (.dict (Yp [e P n18 1565 (s n235 1396),e P n19 1567 (s n260 1566),e P n20 1569 (.int 767 1568),e P n84 1582 (r 1182),e P n27 1589 (r 1189),e P n34 1596 (r 1196),e P n237 1604 (r 1203),e P n179 1614 (r 1210),e P n45 1621 (r 1217),e P n43 1629 (r 1224),e P n40 1637 (r 1231),e P n41 1644 (r 1238),e P n21 1648 (r 1239),e P n166 1649 (r 1169)]) 14) #[],o1206,o0,nf [(z 769),(z 4),(r 1181),(z 776),(z 4),(r 1188),(z 779),(z 4),(r 1195),(z 782),(z 4),(r 1202),(z 785),(z 4),(r 1209),(z 797),(z 4),(r 1216),(z 801),(z 4),(r 1223),(z 805),(z 4),(r 1230),(z 812),(z 4),(r 1237)],ob (.type l0) none (.fields (Yp [(s n260 1560),(s n260 1561),(s n1 1562),(z 767),(z 0),(z 0),(z 0),(z 0),(r 1170),(.bool false),(z 181),(r 1171),.none,.none,.none,.none,(z 1563),(z 767),(s n1 1564)])) #[],ob (.type l1) none .plain #[some (r 1172),some (r 3),some (r 1168),none,some (s n235 1396),none,some (r 0)],o1211,tu [(r 1169)],tu [(s n168 1574)],o1,tu [(s n47 1575),(s n238 1576),(s n87 1577),(s n261 1578),(s n239 1579)],o0,fa 18 0 n262,o1218,o1219,o0,o1,tu [(s n47 1586)],o0,fa 18 1 n263,fc n27 n263 1583 776 1 0 0 3 1183 1587,fb 18 1 n263 .none (s n235 1396) 1188,o0,o1,tu [(s n47 1593)],o0,fa 18 2 n264,o1232,o1233,o0,o1,tu [(s n47 1600),(s n243 1601)],o0,fa 18 3 n265,o1239,o1240,o0,o1,tu [(s n47 1608),(s n238 1609),(s n87 1610),(s n188 1611)],o0,fa 18 4 n266,o1246,o1247,o0,o1,tu [(s n47 1618)],o0,fa 18 5 n267,o1253,o1254,o0,o1,tu [(s n47 1625),(s n39 1626)],o0,fa 18 6 n268,o1260,o1261,o0,o1,tu [(s n47 1633)],tu [(s n87 1634)],fa 18 7 n269,o1267,o1268,o0,o1,tu [(s n47 1641)],o0,fa 18 8 n270,fc n41 n270 1638 812 1 0 0 3 1232 1642,fb 18 8 n270 .none (s n235 1396) 1237,tu [(s n271 1645),(s n117 1646),(s n239 1647)],o1277 P,o1278,ob (.type Nh) none (.fields (Yp [(r 1241),(r 1241),(r 1241)])) #[],ob (.type l8) none (.fields (Yp [(.builtin Ni),(r 1241)])) #[]]
def L19(P:Y5):List Obj:=B P (o30 P) (ob (.type l3) none (.dict (Yp (e P n3 165 (s n235 1396)::dl15 P)) 25) #[])++(N0 P (nf (nl14))++(N1 P++(N3 P++(N4 P++(N5 P (o1052)++(N6 P++(N7 P++(N8 P++(Lx P (o807)++(MV P (o944)++(Mr P (o630)++(Nd P++(Nk P++(O1 P++(O6 P++(Qp P (ob (.type l7) none (.cls (cd n236 [(r 206)] [(r 1163),(r 206),(.type G2)] 1162 n236 true 0 [(r 1241)] false false false)) #[some (r 1019),none,some (s n236 1398),some (s n236 1406),some (.builtin Io),some (.bool true)])++(Ro P)))))))))))))))))
def S19(w:Y0)(os:Y7):SharedT:=mk (bt 12 (L19 w.params)) 1244 1653 os
def Rt(P:Y5):List Obj:=[o1203,o18,ob (.type l3) none (.dict (Yp [e P n18 1660 (s n235 1396),e P n19 1662 (s n272 1661),e P n20 1664 (.int 814 1663),e P n84 1679 (r 1260),e P n34 1686 (r 1267),e P n237 1694 (r 1274),e P n26 1701 (r 1281),e P n27 1708 (r 1288),e P n36 1715 (r 1295),e P n179 1724 (r 1302),e P n39 1731 (r 1309),e P n40 1738 (r 1316),e P n45 1745 (r 1323),e P n43 1753 (r 1330),e P n85 1760 (r 1337),e P n46 1767 (r 1344),e P n21 1772 (r 1345),e P n166 1773 (r 1247)]) 18) #[],o1287,o0,nf [(z 816),(z 4),(r 1259),(z 824),(z 4),(r 1266),(z 827),(z 4),(r 1273),(z 830),(z 4),(r 1280),(z 833),(z 4),(r 1287),(z 836),(z 4),(r 1294),(z 839),(z 4),(r 1301),(z 858),(z 4),(r 1308),(z 861),(z 4),(r 1315),(z 864),(z 4),(r 1322),(z 870),(z 4),(r 1329),(z 878),(z 4),(r 1336),(z 881),(z 4),(r 1343)],ob (.type l0) none (.fields (Yp [(s n272 1655),(s n272 1656),(s n1 1657),(z 814),(z 0),(z 0),(z 0),(z 0),(r 1248),(.bool false),(z 181),(r 1249),.none,.none,.none,.none,(z 1658),(z 814),(s n1 1659)])) #[],ob (.type l1) none .plain #[some (r 1250),some (r 3),some (r 1246),none,some (s n235 1396),none,some (r 0)],o1292,tu [(r 1247)],tu [(s n168 1670)],o1,tu [(s n47 1671),(s n238 1672),(s n273 1673),(s n274 1674),(s n85 1675),(s n39 1676)],o0,fa 19 0 n275,o1299,o1300,o0,o1,tu [(s n47 1683)],o0,fa 19 1 n276,o1306,o1307,o0,o1,tu [(s n47 1690),(s n243 1691)],o0,fa 19 2 n277,o1313,o1314,o0,o1,tu [(s n47 1698)],o0,fa 19 3 n278,o1320,o1321,o0,o1,tu [(s n47 1705)],o0,fa 19 4 n279,fc n27 n279 1702 833 1 0 0 3 1282 1706,fb 19 4 n279 .none (s n235 1396) 1287,o0,o1,tu [(s n47 1712)],o0,fa 19 5 n280,fc n36 n280 1709 836 1 0 0 3 1289 1713,fb 19 5 n280 .none (s n235 1396) 1294,o0,o1,tu [(s n47 1719),(s n238 1720),(s n274 1721)],o0,fa 19 6 n281,o1341,o1342,o0,o1,tu [(s n47 1728)],o0,fa 19 7 n282,o1348,o1349,o0,o1,tu [(s n47 1735)],o0,fa 19 8 n283,o1355,o1356,o0,o1,tu [(s n47 1742)],o0,fa 19 9 n284,o1362,o1363,o0,o1,tu [(s n47 1749),(s n39 1750)],o0,fa 19 10 n285,o1369,o1370,o0,o1,tu [(s n47 1757)],o0,fa 19 11 n286,fc n85 n286 1754 878 1 0 0 3 1331 1758,fb 19 11 n286 .none (s n235 1396) 1336,o0,o1,tu [(s n47 1764)],o0,fa 19 12 n287,fc n46 n287 1761 881 1 0 0 3 1338 1765,fb 19 12 n287 .none (s n235 1396) 1343,tu [(s n144 1768),(s n288 1769),(s n273 1770),(s n274 1771)],o1386 P,o1387,ob (.type Nh) none (.fields (Yp [(r 1347),(r 1347),(r 1347)])) #[],ob (.type l8) none (.fields (Yp [(.builtin Ni),(r 1347)])) #[]]
def L20(P:Y5):List Obj:=B P (o30 P) (ob (.type l3) none (.dict (Yp (e P n3 165 (s n235 1396)::dl16 P)) 26) #[])++(N0 P (nf (nl15))++(N1 P++(N3 P++(N4 P++(N5 P (o1052)++(N6 P++(N7 P++(N8 P++(Lx P (o807)++(MV P (o944)++(Mr P (o630)++(Nd P++(Nk P++(O1 P++(O6 P++(Qp P (ob (.type l7) none (.cls (cd n236 [(r 206)] [(r 1163),(r 206),(.type G2)] 1162 n236 true 0 [(r 1241),(r 1347)] false false false)) #[some (r 1019),none,some (s n236 1398),some (s n236 1406),some (.builtin Io),some (.bool true)])++(Ro P++(Rt P))))))))))))))))))
def S20(w:Y0)(os:Y7):SharedT:=mk (bt 12 (L20 w.params)) 1350 1777 os
def UG(P:Y5):List Obj:=[o1203,o18,ob (.type l3) none (.dict (Yp [e P n18 1784 (s n235 1396),e P n19 1786 (s n289 1785),e P n20 1788 (.int 883 1787),e P n84 1797 (r 1363),e P n34 1804 (r 1370),e P n36 1811 (r 1377),e P n33 1822 (r 1385),e P n37 1829 (r 1392),e P n38 1836 (r 1399),e P n44 1844 (r 1406),e P n85 1851 (r 1413),e P n46 1858 (r 1420),e P n42 1865 (r 1427),e P n21 1868 (r 1428)]) 14) #[],o0,nf [(z 885),(z 4),(r 1362),(z 890),(z 4),(r 1369),(z 893),(z 4),(r 1376),(z 896),(z 4),(r 1384),(z 910),(z 4),(r 1391),(z 913),(z 4),(r 1398),(z 916),(z 4),(r 1405),(z 919),(z 4),(r 1412),(z 922),(z 4),(r 1419),(z 925),(z 4),(r 1426)],ob (.type l0) none (.fields (Yp [(s n289 1779),(s n289 1780),(s n1 1781),(z 883),(z 0),(z 0),(z 0),(z 0),(r 1353),(.bool false),(z 181),(r 1354),.none,.none,.none,.none,(z 1782),(z 883),(s n1 1783)])) #[],ob (.type l1) none .plain #[some (r 1355),some (r 3),some (r 1352),none,some (s n235 1396),none,some (r 0)],o0,o1,tu [(s n47 1792),(s n125 1793),(s n126 1794)],o0,fa 20 0 n290,o1405,o1406,o0,o1,tu [(s n47 1801)],o0,fa 20 1 n291,o1412,o1413,o0,o1,tu [(s n47 1808)],o0,fa 20 2 n292,fc n36 n292 1805 893 1 0 0 3 1371 1809,fb 20 2 n292 .none (s n235 1396) 1376,o1421,o0,o1,tu [(s n47 1816),(s n55 1817),(s n228 1818),(s n229 1819)],o0,fa 20 3 n293,o1427,o1428,o0,o1,tu [(s n47 1826)],o0,fa 20 4 n294,o1434,o1435,o0,o1,tu [(s n47 1833)],o0,fa 20 5 n295,fc n38 n295 1830 913 1 0 0 3 1393 1834,fb 20 5 n295 .none (s n235 1396) 1398,o0,o1,tu [(s n47 1840),(s n55 1841)],o0,fa 20 6 n296,fc n44 n296 1837 916 2 0 0 3 1400 1842,fb 20 6 n296 .none (s n235 1396) 1405,o0,o1,tu [(s n47 1848)],o0,fa 20 7 n297,fc n85 n297 1845 919 1 0 0 3 1407 1849,fb 20 7 n297 .none (s n235 1396) 1412,o0,o1,tu [(s n47 1855)],o0,fa 20 8 n298,fc n46 n298 1852 922 1 0 0 3 1414 1856,fb 20 8 n298 .none (s n235 1396) 1419,o0,o1,tu [(s n47 1862)],o0,fa 20 9 n299,fc n42 n299 1859 925 1 0 0 3 1421 1863,fb 20 9 n299 .none (s n235 1396) 1426,tu [(s n125 1866),(s n126 1867)],o1472 P,o1473,ob (.type Nh) none (.fields (Yp [(r 1430),(r 1430),(r 1430)])) #[],ob (.type l8) none (.fields (Yp [(.builtin Ni),(r 1430)])) #[]]
def L21(P:Y5):List Obj:=B P (o30 P) (ob (.type l3) none (.dict (Yp (e P n3 165 (s n235 1396)::dl17 P)) 27) #[])++(N0 P (nf (nl16))++(N1 P++(N3 P++(N4 P++(N5 P (o1052)++(N6 P++(N7 P++(N8 P++(Lx P (o807)++(MV P (o944)++(Mr P (o630)++(Nd P++(Nk P++(O1 P++(O6 P++(Qp P (ob (.type l7) none (.cls (cd n236 [(r 206)] [(r 1163),(r 206),(.type G2)] 1162 n236 true 0 [(r 1241),(r 1347),(r 1430)] false false false)) #[some (r 1019),none,some (s n236 1398),some (s n236 1406),some (.builtin Io),some (.bool true)])++(Ro P++(Rt P++(UG P)))))))))))))))))))
def S21(w:Y0)(os:Y7):SharedT:=mk (bt 12 (L21 w.params)) 1433 1872 os
def UP(P:Y5):List Obj:=[o1203,o18,ob (.type l3) none (.dict (Yp [e P n18 1879 (s n235 1396),e P n19 1881 (s n300 1880),e P n20 1883 (.int 927 1882),e P n84 1893 (r 1447),e P n34 1900 (r 1454),e P n237 1908 (r 1461),e P n37 1915 (r 1468),e P n38 1922 (r 1475),e P n46 1929 (r 1482),e P n21 1931 (r 1483)]) 10) #[],o0,nf [(z 929),(z 4),(r 1446),(z 933),(z 4),(r 1453),(z 936),(z 4),(r 1460),(z 939),(z 4),(r 1467),(z 942),(z 4),(r 1474),(z 945),(z 4),(r 1481)],ob (.type l0) none (.fields (Yp [(s n300 1874),(s n300 1875),(s n1 1876),(z 927),(z 0),(z 0),(z 0),(z 0),(r 1436),(.bool false),(z 181),(r 1437),.none,.none,.none,.none,(z 1877),(z 927),(s n1 1878)])) #[],ob (.type l1) none .plain #[some (r 1438),some (r 3),some (r 1435),none,some (s n235 1396),none,some (r 0)],o1486,o0,o1,tu [(s n47 1888),(s n238 1889),(s n46 1890)],o0,fa 21 0 n301,o1492,o1493,o0,o1,tu [(s n47 1897)],o0,fa 21 1 n302,o1499,o1500,o0,o1,tu [(s n47 1904),(s n243 1905)],o0,fa 21 2 n303,o1506,o1507,o0,o1,tu [(s n47 1912)],o0,fa 21 3 n304,o1513,o1514,o0,o1,tu [(s n47 1919)],o0,fa 21 4 n305,fc n38 n305 1916 942 1 0 0 3 1469 1920,fb 21 4 n305 .none (s n235 1396) 1474,o0,o1,tu [(s n47 1926)],o0,fa 21 5 n306,fc n46 n306 1923 945 1 0 0 3 1476 1927,fb 21 5 n306 .none (s n235 1396) 1481,tu [(s n307 1930)],o1530 P,o1531,ob (.type Nh) none (.fields (Yp [(r 1485),(r 1485),(r 1485)])) #[],ob (.type l8) none (.fields (Yp [(.builtin Ni),(r 1485)])) #[]]
def L22(P:Y5):List Obj:=B P (o30 P) (ob (.type l3) none (.dict (Yp (e P n3 165 (s n235 1396)::dl18 P)) 28) #[])++(N0 P (o1477)++(N1 P++(N3 P++(N4 P++(N5 P (o1052)++(N6 P++(N7 P++(N8 P++(Lx P (o807)++(MV P (o944)++(Mr P (o630)++(Nd P++(Nk P++(O1 P++(O6 P++(Qp P (o1478)++(Ro P++(Rt P++(UG P++(UP P))))))))))))))))))))
def S22(w:Y0)(os:Y7):SharedT:=mk (bt 12 (L22 w.params)) 1488 1935 os
def L23(P:Y5):List Obj:=B P (o30 P) (ob (.type l3) none (.dict (Yp (e P n3 165 (s n308 1935)::dl18 P)) 28) #[])++(N0 P (o1477)++(N1 P++(N3 P++(N4 P++(N5 P (o1052)++(N6 P++(N7 P++(N8 P++(Lx P (o807)++(MV P (o944)++(Mr P (o630)++(Nd P++(Nk P++(O1 P++(O6 P++(Qp P (o1478)++(Ro P++(Rt P++(UG P++(UP P))))))))))))))))))))
def S23(w:Y0)(os:Y7):SharedT:=mk (bt 12 (L23 w.params)) 1488 1937 os
def N24(P:Y5):List Obj:=[o0,o1,ob .none none (.func (fd (top 23) n309 0 [] .none .none .none .none .none .none 0)) #[],o1540,o1541]
def L24(P:Y5):List Obj:=B P (o30 P) (ob (.type l3) none (.dict (Yp (e P n3 165 (s n308 1935)::dl19 P)) 29) #[])++(N0 P (nf (nl18))++(N1 P++(N3 P++(N4 P++(N5 P (o1052)++(N6 P++(N7 P++(N8 P++(Lx P (o807)++(MV P (o944)++(Mr P (o630)++(Nd P++(Nk P++(O1 P++(O6 P++(Qp P (o1478)++(Ro P++(Rt P++(UG P++(UP P++(N24 P)))))))))))))))))))))
def S24(w:Y0)(os:Y7):SharedT:=mk (bt 12 (L24 w.params)) 1493 1943 os
def N25(P:Y5):List Obj:=[o0,o1,ob .none none (.func (fd (top 24) n310 0 [] .none .none .none .none .none .none 0)) #[],o1547,o1548]
def L25(P:Y5):List Obj:=B P (o30 P) (ob (.type l3) none (.dict (Yp (e P n3 165 (s n308 1935)::dl20 P)) 30) #[])++(N0 P (nf (nl19))++(N1 P++(N3 P++(N4 P++(N5 P (o1052)++(N6 P++(N7 P++(N8 P++(Lx P (o807)++(MV P (o944)++(Mr P (o630)++(Nd P++(Nk P++(O1 P++(O6 P++(Qp P (o1478)++(Ro P++(Rt P++(UG P++(UP P++(N24 P++(N25 P))))))))))))))))))))))
def S25(w:Y0)(os:Y7):SharedT:=mk (bt 12 (L25 w.params)) 1498 1949 os
def N26(P:Y5):List Obj:=[o0,o1,ob .none none (.func (fd (top 25) n311 0 [] .none .none .none .none .none .none 0)) #[],o1554,o1555]
def L26(P:Y5):List Obj:=B P (o30 P) (ob (.type l3) none (.dict (Yp (e P n3 165 (s n308 1935)::dl21 P)) 31) #[])++(N0 P (nf (nl20))++(N1 P++(N3 P++(N4 P++(N5 P (o1052)++(N6 P++(N7 P++(N8 P++(Lx P (o807)++(MV P (o944)++(Mr P (o630)++(Nd P++(Nk P++(O1 P++(O6 P++(Qp P (o1478)++(Ro P++(Rt P++(UG P++(UP P++(N24 P++(N25 P++(N26 P)))))))))))))))))))))))
def S26(w:Y0)(os:Y7):SharedT:=mk (bt 12 (L26 w.params)) 1503 1955 os
def N27(P:Y5):List Obj:=[o0,o1,ob .none none (.func (fd (top 26) n312 0 [] .none .none .none .none .none .none 0)) #[],o1561,o1562]
def L27(P:Y5):List Obj:=B P (o30 P) (ob (.type l3) none (.dict (Yp (e P n3 165 (s n308 1935)::dl22 P)) 32) #[])++(N0 P (nf (nl21))++(N1 P++(N3 P++(N4 P++(N5 P (o1052)++(N6 P++(N7 P++(N8 P++(Lx P (o807)++(MV P (o944)++(Mr P (o630)++(Nd P++(Nk P++(O1 P++(O6 P++(Qp P (o1478)++(Ro P++(Rt P++(UG P++(UP P++(N24 P++(N25 P++(N26 P++(N27 P))))))))))))))))))))))))
def S27(w:Y0)(os:Y7):SharedT:=mk (bt 12 (L27 w.params)) 1508 1961 os
def N28(P:Y5):List Obj:=[o0,o1,tu [(s n314 1964),(s n315 1965),(s n316 1966),(s n317 1967),(s n318 1968),(s n319 1969),(s n320 1970),(s n321 1971),(s n322 1972),(s n323 1973),(s n324 1974),(s n325 1975),(s n326 1976)],o0,ob .none none (.func (fd (top 27) n313 0 [] .none .none .none .none .none .none 0)) #[],o1570,o1571]
def L28(P:Y5):List Obj:=B P (o30 P) (ob (.type l3) none (.dict (Yp (e P n3 165 (s n308 1935)::dl23 P)) 33) #[])++(N0 P (nf (nl22))++(N1 P++(N3 P++(N4 P++(N5 P (o1052)++(N6 P++(N7 P++(N8 P++(Lx P (o807)++(MV P (o944)++(Mr P (o630)++(Nd P++(Nk P++(O1 P++(O6 P++(Qp P (o1478)++(Ro P++(Rt P++(UG P++(UP P++(N24 P++(N25 P++(N26 P++(N27 P++(N28 P)))))))))))))))))))))))))
def S28(w:Y0)(os:Y7):SharedT:=mk (bt 12 (L28 w.params)) 1515 1980 os
def N29(P:Y5):List Obj:=[o0,o1,tu [(s n320 1983),(s n328 1984)],o0,ob .none none (.func (fd (top 28) n327 0 [] .none .none .none .none .none .none 0)) #[],o1579,o1580]
def L29(P:Y5):List Obj:=B P (o30 P) (ob (.type l3) none (.dict (Yp (e P n3 165 (s n308 1935)::dl24 P)) 34) #[])++(N0 P (nf (nl23))++(N1 P++(N3 P++(N4 P++(N5 P (o1052)++(N6 P++(N7 P++(N8 P++(Lx P (o807)++(MV P (o944)++(Mr P (o630)++(Nd P++(Nk P++(O1 P++(O6 P++(Qp P (o1478)++(Ro P++(Rt P++(UG P++(UP P++(N24 P++(N25 P++(N26 P++(N27 P++(N28 P++(N29 P))))))))))))))))))))))))))
def S29(w:Y0)(os:Y7):SharedT:=mk (bt 12 (L29 w.params)) 1522 1988 os
def N30(P:Y5):List Obj:=[o0,o1,tu [(s n330 1991),(s n320 1992),(s n321 1993),(s n318 1994),(s n331 1995),(s n332 1996)],o0,ob .none none (.func (fd (top 29) n329 0 [] .none .none .none .none .none .none 0)) #[],o1588,o1589]
def L30(P:Y5):List Obj:=B P (o30 P) (ob (.type l3) none (.dict (Yp (e P n3 165 (s n308 1935)::dl24 P++[e P n329 1999 (r 1528)])) 35) #[])++(N0 P (nf (nl23++[(z 1013),(z 0),(r 1527)]))++(N1 P++(N3 P++(N4 P++(N5 P (o1052)++(N6 P++(N7 P++(N8 P++(Lx P (o807)++(MV P (o944)++(Mr P (o630)++(Nd P++(Nk P++(O1 P++(O6 P++(Qp P (o1478)++(Ro P++(Rt P++(UG P++(UP P++(N24 P++(N25 P++(N26 P++(N27 P++(N28 P++(N29 P++(N30 P)))))))))))))))))))))))))))
def S30(w:Y0)(os:Y7):SharedT:=mk (bt 12 (L30 w.params)) 1529 2000 os
theorem c1(w:Y0)(os:Y7):segRunT treeTable pT w 11 (some (.ref 6)) 1 30 (S0 w os) (piecesOf [top 0] env cE ⟨0,0,0,0⟩ [tf])=some (ZT,S1 w os,cE,⟨1,0,3,12⟩):=by
 rw[Bv,A7]
 kernel_rfl
theorem c2(w:Y0)(os:Y7):segRunT treeTable pT w 11 (some (.ref 6)) 1 10 (S1 w os) (piecesOf [top 1] env cE ⟨1,0,3,12⟩ [tf])=some (ZT,S2 w os,cE,⟨4,0,4,8⟩):=by
 rw[Bv,A7]
 kernel_rfl
theorem c3(w:Y0)(os:Y7):segRunT treeTable pT w 11 (some (.ref 6)) 1 197 (S2 w os) (piecesOf [top 2] env cE ⟨4,0,4,8⟩ [tf])=some (ZT,S3 w os,cE,⟨5,0,6,8⟩):=by
 rw[Bv,A7]
 kernel_rfl
theorem c4(w:Y0)(os:Y7):segRunT treeTable pT w 11 (some (.ref 6)) 1 197 (S3 w os) (piecesOf [top 3] env cE ⟨5,0,6,8⟩ [tf])=some (ZT,S4 w os,cE,⟨7,0,8,8⟩):=by
 rw[Bv,A7]
 kernel_rfl
theorem c5(w:Y0)(os:Y7):segRunT treeTable pT w 11 (some (.ref 6)) 1 854 (S4 w os) (piecesOf [top 4] env cE ⟨7,0,8,8⟩ [tf])=some (ZT,S5 w os,cE,⟨9,0,81,35⟩):=by
 rw[Bv,A7]
 kernel_rfl
theorem c6(w:Y0)(os:Y7):segRunT treeTable pT w 11 (some (.ref 6)) 1 462 (S5 w os) (piecesOf [top 5] env cE ⟨9,0,81,35⟩ [tf])=some (ZT,S6 w os,cE,⟨82,0,106,19⟩):=by
 rw[Bv,A7]
 kernel_rfl
theorem c7(w:Y0)(os:Y7):segRunT treeTable pT w 11 (some (.ref 6)) 1 29 (S6 w os) (piecesOf [top 6] env cE ⟨82,0,106,19⟩ [tf])=some (ZT,S7 w os,cE,⟨107,0,108,29⟩):=by
 rw[Bv,A7]
 kernel_rfl
theorem c8(w:Y0)(os:Y7):segRunT treeTable pT w 11 (some (.ref 6)) 1 827 (S7 w os) (piecesOf [top 7] env cE ⟨107,0,108,29⟩ [tf])=some (ZT,S8 w os,cE,⟨109,0,200,32⟩):=by
 rw[Bv,A7]
 kernel_rfl
theorem c9(w:Y0)(os:Y7):segRunT treeTable pT w 11 (some (.ref 6)) 1 10 (S8 w os) (piecesOf [top 8] env cE ⟨109,0,200,32⟩ [tf])=some (ZT,S9 w os,cE,⟨201,0,201,8⟩):=by
 rw[Bv,A7]
 kernel_rfl
theorem c10(w:Y0)(os:Y7):segRunT treeTable pT w 11 (some (.ref 6)) 1 437 (S9 w os) (piecesOf [top 9] env cE ⟨201,0,201,8⟩ [tf])=some (ZT,S10 w os,cE,⟨202,0,228,17⟩):=by
 rw[Bv,A7]
 kernel_rfl
theorem c11(w:Y0)(os:Y7):segRunT treeTable pT w 11 (some (.ref 6)) 1 353 (S10 w os) (piecesOf [top 10] env cE ⟨202,0,228,17⟩ [tf])=some (ZT,S11 w os,cE,⟨229,0,251,46⟩):=by
 rw[Bv,A7]
 kernel_rfl
theorem c12(w:Y0)(os:Y7):segRunT treeTable pT w 11 (some (.ref 6)) 1 564 (S11 w os) (piecesOf [top 11] env cE ⟨229,0,251,46⟩ [tf])=some (ZT,S12 w os,cE,⟨252,0,367,17⟩):=by
 rw[Bv,A7]
 kernel_rfl
theorem c13(w:Y0)(os:Y7):segRunT treeTable pT w 11 (some (.ref 6)) 1 537 (S12 w os) (piecesOf [top 12] env cE ⟨252,0,367,17⟩ [tf])=some (ZT,S13 w os,cE,⟨368,0,430,17⟩):=by
 rw[Bv,A7]
 kernel_rfl
theorem c14(w:Y0)(os:Y7):segRunT treeTable pT w 11 (some (.ref 6)) 1 658 (S13 w os) (piecesOf [top 13] env cE ⟨368,0,430,17⟩ [tf])=some (ZT,S14 w os,cE,⟨431,0,529,27⟩):=by
 rw[Bv,A7]
 kernel_rfl
theorem c15(w:Y0)(os:Y7):segRunT treeTable pT w 11 (some (.ref 6)) 1 788 (S14 w os) (piecesOf [top 14] env cE ⟨431,0,529,27⟩ [tf])=some (ZT,S15 w os,cE,⟨530,0,622,17⟩):=by
 rw[Bv,A7]
 kernel_rfl
theorem c16(w:Y0)(os:Y7):segRunT treeTable pT w 11 (some (.ref 6)) 1 665 (S15 w os) (piecesOf [top 15] env cE ⟨530,0,622,17⟩ [tf])=some (ZT,S16 w os,cE,⟨623,0,702,17⟩):=by
 rw[Bv,A7]
 kernel_rfl
theorem c17(w:Y0)(os:Y7):segRunT treeTable pT w 11 (some (.ref 6)) 1 10 (S16 w os) (piecesOf [top 16] env cE ⟨623,0,702,17⟩ [tf])=some (ZT,S17 w os,cE,⟨703,0,703,8⟩):=by
 rw[Bv,A7]
 kernel_rfl
theorem c18(w:Y0)(os:Y7):segRunT treeTable pT w 11 (some (.ref 6)) 1 815 (S17 w os) (piecesOf [top 17] env cE ⟨703,0,703,8⟩ [tf])=some (ZT,S18 w os,cE,⟨704,0,766,46⟩):=by
 rw[Bv,A7]
 kernel_rfl
theorem c19(w:Y0)(os:Y7):segRunT treeTable pT w 11 (some (.ref 6)) 1 537 (S18 w os) (piecesOf [top 18] env cE ⟨704,0,766,46⟩ [tf])=some (ZT,S19 w os,cE,⟨767,0,813,17⟩):=by
 rw[Bv,A7]
 kernel_rfl
theorem c20(w:Y0)(os:Y7):segRunT treeTable pT w 11 (some (.ref 6)) 1 662 (S19 w os) (piecesOf [top 19] env cE ⟨767,0,813,17⟩ [tf])=some (ZT,S20 w os,cE,⟨814,0,882,27⟩):=by
 rw[Bv,A7]
 kernel_rfl
theorem c21(w:Y0)(os:Y7):segRunT treeTable pT w 11 (some (.ref 6)) 1 547 (S20 w os) (piecesOf [top 20] env cE ⟨814,0,882,27⟩ [tf])=some (ZT,S21 w os,cE,⟨883,0,926,17⟩):=by
 rw[Bv,A7]
 kernel_rfl
theorem c22(w:Y0)(os:Y7):segRunT treeTable pT w 11 (some (.ref 6)) 1 419 (S21 w os) (piecesOf [top 21] env cE ⟨883,0,926,17⟩ [tf])=some (ZT,S22 w os,cE,⟨927,0,946,26⟩):=by
 rw[Bv,A7]
 kernel_rfl
theorem c23(w:Y0)(os:Y7):segRunT treeTable pT w 11 (some (.ref 6)) 1 10 (S22 w os) (piecesOf [top 22] env cE ⟨927,0,946,26⟩ [tf])=some (ZT,S23 w os,cE,⟨947,0,947,8⟩):=by
 rw[Bv,A7]
 kernel_rfl
theorem c24(w:Y0)(os:Y7):segRunT treeTable pT w 11 (some (.ref 6)) 1 27 (S23 w os) (piecesOf [top 23] env cE ⟨947,0,947,8⟩ [tf])=some (ZT,S24 w os,cE,⟨948,0,950,63⟩):=by
 rw[Bv,A7]
 kernel_rfl
theorem c25(w:Y0)(os:Y7):segRunT treeTable pT w 11 (some (.ref 6)) 1 27 (S24 w os) (piecesOf [top 24] env cE ⟨948,0,950,63⟩ [tf])=some (ZT,S25 w os,cE,⟨951,0,953,78⟩):=by
 rw[Bv,A7]
 kernel_rfl
theorem c26(w:Y0)(os:Y7):segRunT treeTable pT w 11 (some (.ref 6)) 1 27 (S25 w os) (piecesOf [top 25] env cE ⟨951,0,953,78⟩ [tf])=some (ZT,S26 w os,cE,⟨954,0,970,47⟩):=by
 rw[Bv,A7]
 kernel_rfl
theorem c27(w:Y0)(os:Y7):segRunT treeTable pT w 11 (some (.ref 6)) 1 27 (S26 w os) (piecesOf [top 26] env cE ⟨954,0,970,47⟩ [tf])=some (ZT,S27 w os,cE,⟨971,0,980,96⟩):=by
 rw[Bv,A7]
 kernel_rfl
theorem c28(w:Y0)(os:Y7):segRunT treeTable pT w 11 (some (.ref 6)) 1 42 (S27 w os) (piecesOf [top 27] env cE ⟨971,0,980,96⟩ [tf])=some (ZT,S28 w os,cE,⟨981,0,1003,19⟩):=by
 rw[Bv,A7]
 kernel_rfl
theorem c29(w:Y0)(os:Y7):segRunT treeTable pT w 11 (some (.ref 6)) 1 31 (S28 w os) (piecesOf [top 28] env cE ⟨981,0,1003,19⟩ [tf])=some (ZT,S29 w os,cE,⟨1004,0,1012,16⟩):=by
 rw[Bv,A7]
 kernel_rfl
theorem c30(w:Y0)(os:Y7):segRunT treeTable pT w 11 (some (.ref 6)) 1 35 (S29 w os) (piecesOf [top 29] env cE ⟨1004,0,1012,16⟩ [tf])=some (ZT,S30 w os,cE,⟨1013,0,1028,15⟩):=by
 rw[Bv,A7]
 kernel_rfl
end Mine.Hd
end
section
namespace Mine.Hd
open PySem PySem.W
theorem pre(w:Y0)(os:Y7):topGo treeTable pT w 11 (some (.ref 6)) 12 ⟨cC w.params,fN [],dO,eQ,os⟩ (topStub pT)=some ((S0 w os).abs,⟨denote treeTable cE,cE,q0,[tf]⟩):=by kernel_rfl
theorem blk(w:Y0)(os:Y7):segRun treeTable pT w 11 (some (.ref 6)) 1 1 (S0 w os).abs (blockOf bT env cE q0 [tf])=some (ZT,(S0 w os).abs,cE,q0):=by kernel_rfl
theorem fin(w:Y0)(os:Y7):topRun treeTable pT w 11 (some (.ref 6)) 2 (S30 w os).abs ⟨doneF .next,cE,⟨1013,0,1028,15⟩,[tf]⟩=some (S30 w os).abs:=by kernel_rfl
theorem Ru:bT=[top 0]++([top 1]++([top 2]++([top 3]++([top 4]++([top 5]++([top 6]++([top 7]++([top 8]++([top 9]++([top 10]++([top 11]++([top 12]++([top 13]++([top 14]++([top 15]++([top 16]++([top 17]++([top 18]++([top 19]++([top 20]++([top 21]++([top 22]++([top 23]++([top 24]++([top 25]++([top 26]++([top 27]++([top 28]++([top 29]++([])))))))))))))))))))))))))))))):=by kernel_rfl
noncomputable abbrev Rv:Nat:=12+(1+(30+(10+(197+(197+(854+(462+(29+(827+(10+(437+(353+(564+(537+(658+(788+(665+(10+(815+(537+(662+(547+(419+(10+(27+(27+(27+(27+(42+(31+(35+2)))))))))))))))))))))))))))))))
abbrev SF(w:Y0)(os:Y7):Shared:=(S30 w os).abs
theorem runs(w:Y0)(os:Y7):topRun treeTable pT w 11 (some (.ref 6)) Rv ⟨cC w.params,fN [],dO,eQ,os⟩ (topStub pT)=some (SF w os) :=
 go_top (pre w os) (piece_block (blk w os) ((congrArg (λl=>topRun treeTable pT w 11 (some (.ref 6)) (30+(10+(197+(197+(854+(462+(29+(827+(10+(437+(353+(564+(537+(658+(788+(665+(10+(815+(537+(662+(547+(419+(10+(27+(27+(27+(27+(42+(31+(35+2)))))))))))))))))))))))))))))) (S0 w os).abs (restOf l env cE q0 [tf])) Ru).trans (Zc (Zd (c1 w os)) (Zc (Zd (c2 w os)) (Zc (Zd (c3 w os)) (Zc (Zd (c4 w os)) (Zc (Zd (c5 w os)) (Zc (Zd (c6 w os)) (Zc (Zd (c7 w os)) (Zc (Zd (c8 w os)) (Zc (Zd (c9 w os)) (Zc (Zd (c10 w os)) (Zc (Zd (c11 w os)) (Zc (Zd (c12 w os)) (Zc (Zd (c13 w os)) (Zc (Zd (c14 w os)) (Zc (Zd (c15 w os)) (Zc (Zd (c16 w os)) (Zc (Zd (c17 w os)) (Zc (Zd (c18 w os)) (Zc (Zd (c19 w os)) (Zc (Zd (c20 w os)) (Zc (Zd (c21 w os)) (Zc (Zd (c22 w os)) (Zc (Zd (c23 w os)) (Zc (Zd (c24 w os)) (Zc (Zd (c25 w os)) (Zc (Zd (c26 w os)) (Zc (Zd (c27 w os)) (Zc (Zd (c28 w os)) (Zc (Zd (c29 w os)) (Zc (Zd (c30 w os)) (piece_nil (fin w os))))))))))))))))))))))))))))))))))
end Mine.Hd
end
section
namespace Mine.Hd
open PySem PySem.W PySem.Calls PyProof.Rows
noncomputable abbrev pw:Program:=bV
theorem runsW(w:Y0)(os:Y7):topRun treeTable pw w 11 (some (.ref 6)) Rv ⟨cC w.params,fN [],dO,eQ,os⟩ (topStub pw)=some (SF w os):=by
 rw[show pw=pT from Nj];exact runs w os
theorem o_open:opening pw=plainProg pw.main.scope.names:=by kernel_rfl
theorem UQ(s:Yq):fenceModules? pw s=some s:=by kernel_rfl
theorem Qq:importedModules pw.main.body=[]:=by kernel_rfl
abbrev HF(w:Y0):Heap:=absHeap (bt 12 (L30 w.params)) 1529 {}
theorem q_ns(w:Y0):((HF w).isNs mainGlobals,(HF w).isNs cStatics,(HF w).isNs builtinsNs)=(true,true,true):=by kernel_rfl
theorem q_stat(w:Y0):staticsOk [] (cC w.params) (HF w)=true:=by kernel_rfl
theorem UR(w:Y0):namesBound pT (HF w)=true:=by kernel_rfl
theorem q_laid(w:Y0):laidKept (cC w.params) (HF w)=true:=by kernel_rfl
theorem q_acc(w:Y0):(HF w).accountedOkI []=true:=by kernel_rfl
theorem q_blt(w:Y0):(HF w).bltView=bltViewBooted:=by kernel_rfl
theorem q_g6(w:Y0):(HF w).nsMap mainGlobals "__builtins__"=some (.ref 4):=by kernel_rfl
theorem q_bm(w:Y0):(HF w).get? 4=some (gG w.params):=by kernel_rfl
theorem P9(w:Y0):(gG w.params).cls=.type "module"/\(gG w.params).dict=some builtinsNs:=⟨rfl,rfl⟩
theorem Qr{p:Y8}{w:Y0}{WS WO:Yq}{n:Nat}(hi:importedModules p.main.body=[])(z:WS.asleep)(hm:WS.heap.objs.size=11)
 (r:topRun treeTable p w 11 (some (.ref 6)) n WS (topStub p)=some WO)(ha:globalOf WS.heap "__annotations__"=some (.ref 6))(hn:WO.heap.isNs mainGlobals=true)(hb:WO.heap.isNs builtinsNs=true)
 (acc:WO.heap.accountedOkI []=true)(st:staticsOk [] WS.heap WO.heap=true)(nb:namesBound p WO.heap=true)(bl:WO.heap.bltView=bltViewBooted)(gb:builtinsGlobalAsBooted WO.heap)(hg:WO.gens=#[])(ld:laidKept WS.heap WO.heap=true) :
 TopRan p w WS WO/\WO.asleep:=by
 rw[<- table_eq_tree] at r;obtain⟨a,l,os',fr⟩:=topRun_spec _ _ _ _ z r;refine⟨⟨a,l,Shared.rest_eq os',λb o hb' hno=>fr b o (hm▸Yy hb') (λq=>hno (.inl q)) (λq=>hno (.inr (.inl q))) (λq=>hno (.inr (.inr (q▸ha)))) hb',?_,?_,Pin.keysAreStrs_of hn,
  λx hx=>(Pin.builtinOf_eq hb x).trans (Heap.of_bltView hb bl x hx),gb,λg hg'=>?_,names_of_bound nb,laid_of_kept ld⟩,fy l z⟩
 ·rw[hi];exact Heap.accountedI_of_ok acc
 ·rw[hi];exact statics_of_ok st
 ·rw[hg] at hg';exact absurd hg' (by simp)
theorem q_ann(w:Y0):globalOf (cC w.params) "__annotations__"=some (.ref 6):=by kernel_rfl
theorem Rw(w:Y0):namesBound pw (HF w)=true:=by rw[show pw=pT from Nj];exact UR w
theorem O7(w:Y0):(HF w).isNs mainGlobals=true:=(iQ (q_ns w)).1
theorem q_n2(w:Y0):(HF w).isNs builtinsNs=true:=(iQ (iQ (q_ns w)).2).2
theorem q_gb(w:Y0):builtinsGlobalAsBooted (HF w):=⟨4,gG w.params,(Pin.globalOf_eq (O7 w) _).trans (q_g6 w),q_bm w,(P9 w).1,(P9 w).2⟩
theorem topRan(w:Y0)(os:Y7)(z:(⟨cC w.params,fN [],dO,eQ,os⟩:Yq).asleep):TopRan pw w ⟨cC w.params,fN [],dO,eQ,os⟩ (SF w os)/\(SF w os).asleep :=
 Qr Qq z rfl (runsW w os) (q_ann w) (O7 w) (q_n2 w) (q_acc w) (q_stat w) (Rw w) (q_blt w) (q_gb w) rfl (q_laid w)
theorem Rx(w:Y0):(∃s,AfterRun (opening pw) w s)/\∀s,AfterRun (opening pw) w s->∃os,fenceModules? pw s=some ⟨cC w.params,fN [],dO,eQ,os⟩/\(⟨cC w.params,fN [],dO,eQ,os⟩:Yq).asleep:=by
 have h:=boot_open (p:=pw) (N:=600) o_open (by decide) UQ w
 rw[<- table_eq_tree] at h;obtain⟨WS,h2,hv⟩:=Zx.mp h;obtain⟨s,h4,h5⟩:=fO.mp h2;have A:=AfterImport.of_importEnds h4;refine⟨⟨s,A⟩,λs' hs'=>?_⟩;obtain rfl:s'=s:=AfterImport.unique hs' A;have z:WS.asleep:=fy (fence_lifeW h5) A.life;obtain⟨hh,gs,d,k,os⟩:=WS;simp only[Prod.mk.injEq] at hv;obtain⟨rfl,rfl,rfl,rfl⟩:=hv;exact⟨os,h5,z⟩
end Mine.Hd
end
section
namespace Mine.Hd
open PySem PySem.W PySem.W.X PySem.Calls PyProof.Rows
noncomputable abbrev RW:OpenLaw:=d9
theorem Vl(w:Y0):globalOf (HF w) "law"=some (.ref 1528):=by kernel_rfl
theorem q_bare:pw.bare:=⟨rfl,rfl,rfl,rfl,rfl,by decide +kernel⟩
theorem q_well:opensWell pw=true:=by decide +kernel
def Nl:FuncData:=fd (top 29) n329 3 [] .none .none .none (s n308 1935) (r 1527) .none 0
noncomputable def bodyOf:FuncBody->List af
 | .stmts b=>b
 | _=>[]
theorem q_lawO(w:Y0):(HF w).get? 1528=some ⟨.type "function",none,.func Nl,#[]⟩:=by kernel_rfl
theorem q_pin(w:Y0):isTheDefsW pw (HF w) "law" :=
 ⟨1528,_,Nl,Nl.params,bodyOf Nl.body,Nl.scope,Vl w,q_lawO w,rfl,by(rw[show pw=pT from Nj];kernel_rfl),by kernel_rfl,by kernel_rfl,rfl,by kernel_rfl,rfl,by kernel_rfl,by kernel_rfl,by kernel_rfl,
  .inl ⟨by kernel_rfl,by kernel_rfl⟩,[],by kernel_rfl,.inl ⟨rfl,by kernel_rfl⟩⟩
def O8:Prop:=∀(w:Y0) (WO:Yq) (vs:List Yr) (ns:List Int),(∀b o,(HF w).get? b=some o->WO.heap.get? b=some o)->WO.gens=#[] ->
 WO.heap.get? 1529=some {cls:=.type "list",data:=.seq vs.toArray}->de vs ns->ns.length<=63->WO.heap.objs.size=1530->(PyData.list (ns.map PyData.int)).layable0=true ->
 wpAny (model pw w) callerA (call (.ref 1528) [.ref 1529]) (λv s'=>v=.bool true/\OldK WO.heap s'.heap/\s'.os=WO.os/\Zs s'.gens) (λU U=>False) WO
theorem holdG{P:Prop}(h:∀G:Prop,(P->G)->G):P:=h P id
theorem core(call:O8):RW.row.claim.HoldsOpenBy (callStub RW.row.name) (if RW.row.pinned=true then[RW.row.name] else[]) RW.row.keeps RW.row.writes:=by
 refine⟨⟨q_bare,q_well,rfl⟩,?wit,λw=>⟨(Rx w).1,λs' hs'=>?_⟩⟩
 case wit=>exact⟨[.list []],by decide +kernel,by decide +kernel⟩
 obtain⟨os,hf,z⟩:=(Rx w).2 s' hs';obtain⟨T,z1⟩:=topRan w os z;refine⟨_,hf,rfl,SF w os,T,?pin,λx hx=>(nomatch hx),λx hx=>(nomatch hx),?_⟩
 case pin =>
  intro n hn;have hn':n∈[("law":Zf)]:=hn;rw[gz] at hn';subst hn';exact q_pin w
 refine ClaimW.callFrom_of_specG (c:=RW.row.claim) z1 rfl λargs hpre hlay ord hord=>?_;obtain⟨⟨vs,WO⟩,hlaid⟩:=Zy.mp (layAllW_isSome (P:=w.params) (ord:=ord) (cl:=classAt (SF w os).heap) (R:=RW.row.claim.records) (λc hc=>(by cases hc)) args RW.row.args (SF w os) (pre_splitW (r:=RW.row.toRowW) hpre).1)
 have keeps:=layAllW_keeps _ _ _ hlaid;have hal:=layAllW_rest _ _ _ hlaid;obtain⟨as,hrd,hin,AJ⟩:=reads_layAllW hord _ _ _ hlaid hlay WO.heap (λU U e=>e);have L:Laid RW.row.records w (SF w os) WO args vs as:=⟨⟨ord,hord,hlaid⟩,hrd,hin,AJ,keeps,hal.1,hal.2.2.1⟩;have hwl:=L.well;have hlo:=L.low (show sysModules<1529 by decide)
 refine⟨vs,WO,hlaid,?_⟩;have hpre2:=hpre;refine holdG λGG hG=>?_
 wrow_args hpre2 hlay hrd hwl hlo
 rename_i ns hs hlay0 hL1 hr1 hl2 as1 as2 a vals as3 hL ra w1 r0 hI hr hc1 hc2;refine hG ?_;clear hG GG;have hat:=script_at L;have hob:=script_obj L hL;have hlen:ns.length<=63:=by omega
 have C:=call w WO vals ns (λb o e=>keeps b o e) hal.1 (by rw[<- show a=1529 from hat.1];exact hob) hI hlen (show WO.heap.objs.size=1530 from hat.2) hL1
 rw[<- show a=1529 from hat.1] at C
 have hN:WO.heap.Ns mainGlobals ((HF w).nsMap mainGlobals):=(iU (O7 w)).keeps keeps;have hl:(HF w).nsMap mainGlobals "law"=some (.ref 1528):=(Pin.globalOf_eq (O7 w) _).symm.trans (Vl w);refine Yo (wpAny_nsGet hN ?_);rw[show(HF w).nsMap mainGlobals RW.row.name=some (.ref 1528) from hl]
 refine Yo (Z9 C (λv s' h=>Yv ?_) λe s' h=>h.elim);obtain⟨rfl,h1,h2,h3⟩:=h;have g:GoodWG RW.row.claim (classAt (SF w os).heap) (ExcName.means (SF w os).heap) [ofPy (PyData.list (ns.map PyData.int))] WO (.ok (.ret (.bool true))) s' :=
  ⟨.inl ⟨.bool true,.bool true,[],rfl,(λU=>rfl),.bool true,by wrow_post,λU=>⟨bE,λU h=>nomatch h⟩⟩,h1,h2,h3⟩
 obtain⟨hsame,hu,ha,hap,hm⟩:=frees_parts (r:=RW.row.toRowW) (by decide +kernel)
 have zz:=g.laid (c:=RW.row.claim) rfl rfl (ident_freeW hu ha hap) L;exact⟨_,rfl,zz.1,zz.2.1,zz.2.2,λq=>nomatch (show false=true from q)⟩
theorem holds_by(call:O8)(said:RW.row.wellSaid=true):RW.row.Holds:=⟨said,⟨[.list []],by decide +kernel,by decide +kernel⟩,core call⟩
end Mine.Hd
end
section
open PySem PySem.W PyProof.Rows
theorem Mine.Hd.saidL:d9.wellSaid=true:=by kernel_rfl
end
section
namespace Mine
open PySem
noncomputable abbrev AA:Nat:=0
noncomputable abbrev AV:Nat:=1
noncomputable abbrev AD:Nat:=2
noncomputable abbrev BO:Nat:=3
noncomputable abbrev En:Nat:=4
noncomputable abbrev Ip:Nat:=5
noncomputable abbrev Iq:Nat:=6
noncomputable abbrev Ir:Nat:=7
noncomputable abbrev GL:Nat:=8
noncomputable abbrev D5:Nat:=9
noncomputable abbrev Ms:Nat:=10
noncomputable abbrev GM:Nat:=11
noncomputable abbrev Bg:Nat:=12
noncomputable abbrev Cd:Nat:=13
noncomputable abbrev Bo:Nat:=14
noncomputable abbrev Fx:Nat:=15
noncomputable abbrev KK:Nat:=16
noncomputable abbrev Fy:Nat:=17
noncomputable abbrev Eo:Nat:=18
noncomputable abbrev KW:Nat:=19
noncomputable abbrev FT:Nat:=20
noncomputable abbrev AW:Nat:=21
noncomputable abbrev AC:Nat:=22
noncomputable abbrev AF:Nat:=23
noncomputable abbrev Et:Nat:=24
noncomputable abbrev Ak:Nat:=25
noncomputable abbrev Av:Nat:=26
noncomputable abbrev A6:Nat:=27
noncomputable abbrev A8:Nat:=28
noncomputable abbrev Jb:Nat:=29
noncomputable abbrev AP:Nat:=30
noncomputable abbrev Is:Nat:=31
noncomputable abbrev x_q:Nat:=32
noncomputable abbrev AZ:Nat:=33
noncomputable abbrev AX:Nat:=34
noncomputable abbrev DC:Nat:=35
noncomputable abbrev DD:Nat:=36
noncomputable abbrev AK:Nat:=37
noncomputable abbrev Au:Nat:=38
noncomputable abbrev Ar:Nat:=39
noncomputable abbrev Fj:Nat:=40
noncomputable abbrev Fk:Nat:=41
noncomputable abbrev Kk:Nat:=42
noncomputable abbrev O9:Nat:=43
noncomputable abbrev B8:Nat:=44
noncomputable abbrev D6:Nat:=45
noncomputable abbrev Ao:Nat:=46
noncomputable abbrev GN:Nat:=47
noncomputable abbrev GO:Nat:=48
noncomputable abbrev It:Nat:=49
noncomputable abbrev x_rn:Nat:=50
noncomputable abbrev Nm:Nat:=51
noncomputable abbrev J0:Nat:=52
noncomputable abbrev Iu:Nat:=53
noncomputable abbrev EC:Nat:=54
noncomputable abbrev Kl:Nat:=55
noncomputable abbrev GQ:Nat:=56
noncomputable abbrev Iv:Nat:=57
noncomputable abbrev AE:Nat:=58
noncomputable abbrev Ad:Nat:=59
noncomputable abbrev Bp:Nat:=60
noncomputable abbrev A9:Nat:=61
noncomputable abbrev Dq:Nat:=62
noncomputable abbrev Bc:Nat:=63
noncomputable abbrev Aq:Nat:=64
noncomputable abbrev Af:Nat:=65
noncomputable abbrev DA:Nat:=66
noncomputable abbrev BX:Nat:=67
noncomputable abbrev GR:Nat:=68
noncomputable abbrev ED:Nat:=69
noncomputable abbrev Bz:Nat:=70
noncomputable abbrev Mt:Nat:=71
noncomputable abbrev A0:Nat:=72
noncomputable abbrev BG:Nat:=73
noncomputable abbrev Ac:Nat:=74
noncomputable abbrev Be:Nat:=75
noncomputable abbrev Ay:Nat:=76
noncomputable abbrev Ax:Nat:=77
noncomputable abbrev At:Nat:=78
noncomputable abbrev Iw:Nat:=79
noncomputable abbrev Fz:Nat:=80
noncomputable abbrev PA:Nat:=81
noncomputable abbrev DJ:Nat:=82
noncomputable abbrev BQ:Nat:=83
noncomputable abbrev IR:Nat:=84
noncomputable abbrev Jc:Nat:=85
noncomputable abbrev AT:Nat:=86
noncomputable abbrev Cq:Nat:=87
noncomputable abbrev B9:Nat:=88
noncomputable abbrev Mu:Nat:=89
noncomputable abbrev Ix:Nat:=90
noncomputable abbrev Eu:Nat:=91
noncomputable abbrev US:Nat:=92
noncomputable abbrev UH:Nat:=93
noncomputable abbrev AQ:Nat:=94
noncomputable def Ry:List (List Nat):=[[115,101,108,102],[95,95,105,110,105,116,95,95],[109,105,110,113,117,97,108,105,116,121],[105,100,115],[119,101,105,103,104,116,115],[118,97,108,117,101,115],[102,111,114,109,97,116],[115,99,111,114,101,114],[112,111,115,105,116,105,111,110],[97,108,108,95,119,101,105,103,104,116,115],[116,101,114,109],[116,101,114,109,105,110,102,111],[95,105,100,115],[95,119,101,105,103,104,116,115],[95,97,108,108,95,119,101,105,103,104,116,115],[95,118,97,108,117,101,115],[95,105],[95,102,111,114,109,97,116],[95,115,99,111,114,101,114],[95,116,101,114,109],[95,116,101,114,109,105,110,102,111],[105,100],[105,115,95,97,99,116,105,118,101],[109,97,120,95,113,117,97,108,105,116,121],[98,108,111,99,107,95,109,97,120,95,119,101,105,103,104,116],[97],[98],[95,109,97,100,101],[99,111,112,121],[114,97],[115,107,105,112,95,116,111],[114,98],[113],[97,95,97,99,116,105,118,101],[98,95,97,99,116,105,118,101],[97,95,109,97,120],[98,95,109,97,120],[114,101,112,108,97,99,101],[95,105,100],[110,101,120,116],[97,95,105,100],[98,95,105,100],[97,114],[98,114],[116,105,101,98,114,101,97,107],[95,102,105,110,100,95,102,105,114,115,116],[95,102,105,110,100,95,110,101,120,116],[97,95,109,105,110],[98,95,109,105,110],[114],[114,110],[110,114],[112,111,115],[110,101,103],[112,111,115,95,105,100],[95,102,105,114,115,116,95,98],[110,101,119,95,97],[110,101,119,95,98],[99,104,105,108,100],[98,111,111,115,116],[110,101,119,99,104,105,108,100],[95,114,101,112,108,97,99,101,109,101,110,116],[101,120,99,108,117,100,101],[95,101,120,99,108,117,100,101],[108,105,109,105,116],[109,105,115,115,105,110,103],[119,101,105,103,104,116],[95,119,101,105,103,104,116],[115,99,111,114,101],[95,115,99,111,114,101],[110,117,109,98,101,114],[119,111,114,100],[100,111,99],[100,111,99,115],[107,105,110,100],[108,101,102,116],[102,105,114,115,116],[114,105,103,104,116],[115,101,99,111,110,100],[115,104,97,114,101,100],[105,110,115,105,100,101],[98,111,116,104],[109,111,114,101],[116,114,101,101],[107,101,112,116],[110,117,109,98,101,114,115],[115,116,97,99,107],[108,105,115,116,115],[108,97,115,116],[115,107,105,112],[115,99,114,105,112,116],[116,119,105,110],[105],[109],[97,108,108,95,105,100,115]]
def nm(i:Nat):Str:=⟨((Ry[i]?).getD [i+2000000]).toArray⟩
noncomputable abbrev CF:Nat:=112
noncomputable abbrev Aj:Nat:=161
noncomputable abbrev Ew:Nat:=231
noncomputable abbrev Dr:Nat:=252
noncomputable abbrev Ce:Nat:=266
noncomputable abbrev J1:Nat:=273
noncomputable abbrev AM:Nat:=285
noncomputable abbrev J2:Nat:=300
noncomputable abbrev Cr:Nat:=307
noncomputable abbrev Bq:Nat:=321
noncomputable abbrev G5:Nat:=335
noncomputable abbrev Ey:Nat:=343
noncomputable abbrev DK:Nat:=357
noncomputable abbrev Jd:Nat:=378
noncomputable abbrev Cf:Nat:=385
noncomputable abbrev G6:Nat:=406
noncomputable abbrev CG:Nat:=420
noncomputable abbrev By:Nat:=446
noncomputable abbrev DS:Nat:=467
noncomputable abbrev GS:Nat:=481
noncomputable abbrev BY:Nat:=507
noncomputable abbrev H9:Nat:=547
noncomputable abbrev EK:Nat:=555
noncomputable abbrev BZ:Nat:=562
noncomputable abbrev DE:Nat:=569
noncomputable abbrev GT:Nat:=576
noncomputable abbrev BP:Nat:=583
noncomputable abbrev Iy:Nat:=624
noncomputable abbrev J3:Nat:=633
noncomputable abbrev G7:Nat:=640
noncomputable abbrev Ez:Nat:=648
noncomputable abbrev DL:Nat:=662
noncomputable abbrev IA:Nat:=696
noncomputable abbrev Iz:Nat:=704
noncomputable abbrev Cz:Nat:=718
noncomputable abbrev EL:Nat:=726
noncomputable abbrev B0:Nat:=733
noncomputable abbrev DM:Nat:=740
noncomputable abbrev IS:Nat:=747
noncomputable abbrev CS:Nat:=754
noncomputable abbrev BD:Nat:=761
noncomputable abbrev B3:Nat:=775
noncomputable abbrev G8:Nat:=795
noncomputable abbrev IB:Nat:=803
noncomputable abbrev Cg:Nat:=817
noncomputable abbrev CP:Nat:=824
noncomputable abbrev C0:Nat:=831
noncomputable abbrev Dt:Nat:=846
noncomputable abbrev Ch:Nat:=853
noncomputable abbrev G9:Nat:=874
noncomputable abbrev CA:Nat:=881
noncomputable abbrev BH:Nat:=888
noncomputable abbrev F0:Nat:=928
noncomputable abbrev Gn:Nat:=935
noncomputable abbrev C1:Nat:=949
noncomputable abbrev B4:Nat:=956
noncomputable abbrev Fm:Nat:=963
noncomputable abbrev Bf:Nat:=970
noncomputable abbrev A3:Nat:=977
noncomputable abbrev DN:Nat:=985
noncomputable abbrev BR:Nat:=1033
noncomputable abbrev J4:Nat:=1040
noncomputable abbrev C2:Nat:=1054
noncomputable abbrev CH:Nat:=1062
noncomputable abbrev Ep:Nat:=1069
noncomputable abbrev BS:Nat:=1076
noncomputable abbrev BI:Nat:=1083
noncomputable abbrev Az:Nat:=1111
noncomputable abbrev Bm:Nat:=1118
noncomputable abbrev Br:Nat:=1139
noncomputable abbrev IC:Nat:=1182
noncomputable abbrev Fn:Nat:=1196
noncomputable abbrev Dl:Nat:=1203
noncomputable abbrev C3:Nat:=1210
noncomputable abbrev Fo:Nat:=1217
noncomputable abbrev Du:Nat:=1224
noncomputable abbrev Cs:Nat:=1231
noncomputable abbrev HA:Nat:=1260
noncomputable abbrev E0:Nat:=1267
noncomputable abbrev DU:Nat:=1274
noncomputable abbrev CD:Nat:=1281
noncomputable abbrev Ci:Nat:=1302
noncomputable abbrev GU:Nat:=1309
noncomputable abbrev B5:Nat:=1316
noncomputable abbrev Bs:Nat:=1323
noncomputable abbrev BA:Nat:=1330
noncomputable abbrev HB:Nat:=1363
noncomputable abbrev E1:Nat:=1370
noncomputable abbrev DV:Nat:=1385
noncomputable abbrev Dm:Nat:=1392
noncomputable abbrev I0:Nat:=1447
noncomputable abbrev GV:Nat:=1454
noncomputable abbrev EE:Nat:=1461
noncomputable abbrev C4:Nat:=1468
noncomputable abbrev DB:Nat:=1492
noncomputable abbrev CB:Nat:=1497
noncomputable abbrev B6:Nat:=1502
noncomputable abbrev CQ:Nat:=1507
noncomputable abbrev D7:Nat:=1514
noncomputable abbrev Aw:Nat:=1521
noncomputable abbrev I1:Nat:=1528
noncomputable abbrev E2:Nat:=1000000
set_option genCtorIdx true in
inductive V
 | none|bool (b:Bool)|int (i:Int)|ref (a:Nat)
noncomputable abbrev As:=List (Nat×V)
noncomputable def AN{α:Type}(x:Nat):List (Nat×α)->Option α
 | []=>Yu
 | p::r=>bif Y4 p.1 x then some p.2 else AN x r
set_option genCtorIdx true in
inductive Cl
 | Base|Null|Leaf|Bi|Add|Union|DMax|Inter|AndNot|AndMaybe|Wrap|Filter|Inverse|Require|Const
noncomputable def cls:List Cl:=[.Base,.Null,.Leaf,.Bi,.Add,.Union,.DMax,.Inter,.AndNot,.AndMaybe,.Wrap,.Filter,.Inverse,.Require,.Const]
noncomputable def C5:Cl->Nat
 | .Base=>206
 | .Null=>276
 | .Leaf=>430
 | .Bi=>491
 | .Add=>531
 | .Union=>607
 | .DMax=>679
 | .Inter=>778
 | .AndNot=>912
 | .AndMaybe=>1016
 | .Wrap=>1163
 | .Filter=>1241
 | .Inverse=>1347
 | .Require=>1430
 | .Const=>1485
set_option genCtorIdx true in
inductive O
 | inst (c:Cl) (as:As)
 | list (vs:List V)|stk (vs:List V)|ro (vs:List V)|tup (vs:List V)
 | set (xs:List Int)
 | range (lo hi st:Int)
 | cell (v:Option V)|txt
def mtab:Cl->List (Nat×Nat)
 | .Base=>[(AK,CF),(AQ,Aj)]
 | .Null=>[(AC,Dr),(AF,Ew),(A8,J1),(AK,CF),(AQ,Ce)]
 | .Leaf=>[(AV,J2),(AW,Jd),(AC,Cr),(AF,DK),(Et,CG),(A8,G5),(AP,Bq),(AK,Ey),(Ar,G6),(AQ,Cf)]
 | .Bi=>[(AV,By),(A8,DS),(AP,GS),(AK,CF),(AQ,Aj)]
 | .Add=>[(AV,By),(AF,BY),(A8,DS),(AP,GS),(AK,CF),(AQ,Aj)]
 | .Union=>[(AV,By),(AW,GT),(AC,BZ),(AF,BY),(A6,H9),(A8,DS),(AP,DE),(AK,EK),(Ar,BP),(AQ,Aj)]
 | .DMax=>[(AV,J3),(AW,GT),(AC,BZ),(AF,DL),(A6,Iy),(A8,G7),(AP,DE),(AK,Ez),(Ar,BP),(AQ,Aj)]
 | .Inter=>[(AV,Iz),(AW,IS),(AC,B0),(AF,BY),(A6,IA),(A8,DS),(AP,BD),(AK,EL),(Ar,B3),(D6,Cz),(Ao,DM),(AQ,CS)]
 | .AndNot=>[(AV,IB),(AW,G9),(AC,CP),(AF,Ch),(A6,G8),(A8,DS),(AP,BH),(AK,Dt),(Ar,CA),(D6,Cg),(Ao,C0),(AQ,Aj)]
 | .AndMaybe=>[(AV,Gn),(AW,Fm),(AC,B4),(AF,BY),(A6,F0),(A8,DS),(AP,A3),(AK,DN),(Ar,Bf),(Kl,C1),(AQ,Aj)]
 | .Wrap=>[(AV,BR),(AW,Ep),(AC,BI),(AF,Br),(A8,J4),(AP,Az),(AK,CH),(Ar,Bm),(A9,C2),(AQ,BS)]
 | .Filter=>[(AV,IC),(AW,Ep),(AC,BI),(AF,Br),(A8,Fn),(AP,Du),(AK,CH),(Ar,Fo),(Ao,C3),(A9,Dl),(AQ,Cs)]
 | .Inverse=>[(AV,HA),(AW,GU),(AC,CD),(AF,Br),(A8,E0),(AP,BA),(AK,CH),(Ar,Bs),(Ao,Ci),(A9,DU),(AQ,B5)]
 | .Require=>[(AV,HB),(AW,Ep),(AC,BI),(AF,Dm),(A8,E1),(AP,Az),(AK,DV),(Ar,Bm),(A9,C2),(AQ,BS)]
 | .Const=>[(AV,I0),(AW,Ep),(AC,BI),(AF,C4),(A8,GV),(AP,Az),(AK,CH),(Ar,Bm),(A9,EE),(AQ,BS)]
def Bt(c:Cl)(m:Nat):Option Nat:=AN m (mtab c)
def ctab:Cl->As
 | .Union=>[(Au,.none)]
 | .DMax=>[(Au,.none)]
 | _=>[]
def GW(c:Cl)(n:Nat):Option V:=AN n (ctab c)
end Mine
namespace Mine
open PySem
noncomputable abbrev MH:=Nat->Option O
noncomputable def MH.put(H:MH)(a:Nat)(o:O):MH:=λb=>bif Y4 b a then some o else H b
set_option genInjectivity false
mutual
inductive E
 | bad|none|bool (b:Bool)|int (i:Int)|neg (n:Nat)
 | var (x:Nat)|cvar (x:Nat)
 | attr (e:E) (n:Nat)
 | meth (e:E) (m:Nat) (as:List E) (ks:List (Nat×E))
 | fn (f:Nat) (as:List E) (ks:List (Nat×E))
 | new (c:Cl) (as:List E) (ks:List (Nat×E))
 | via (c:Cl) (m:Nat) (f:Nat) (as:List E)
 | sup (c:Cl) (f:Nat) (as:List E)
 | len (e:E)|max1 (e:E)|max2 (a b:E)|min2 (a b:E)|range (as:List E)|setof (e:E)
 | not (e:E)|and (es:List E)|or (es:List E)|ite (c:T) (a b:E)
 | cmp (o:fm) (a b:E)|cmp2 (o:fm) (a:E) (o':fm) (b c:E)|lall (e:E)|bin (o:bW) (a b:E)
 | idx (e i:E)|upto (e i:E)
 | tup (es:List E)|lst (es:List E)|stk
 | pop (e:E)|append (e v:E)
 | lcomp (e:E) (x:Nat) (it:E) (cs:List T)
inductive T
 | e (e:E)|not (t:T)|and (ts:List T)|or (ts:List T)
end
inductive S
 | asg (x:Nat) (e:E)|casg (x:Nat) (e:E)|asg2 (x y:Nat) (e:E)
 | unp (xs:List (Nat×Bool)) (e:E)
 | seta (e:E) (n:Nat) (v:E)|auga (e:E) (n:Nat) (o:bW) (v:E)|aug (x:Nat) (o:bW) (v:E)
 | cond (t:T) (b c:List S)|while (t:T) (b:List S)|for (x:Nat) (it:E) (b:List S)
 | ret (e:E)|ret0|raise|assert (t:T)|expr (e:E)|brk|cont|pass
noncomputable def put(x:Nat)(v:V):As->As
 | []=>[(x,v)]
 | p::r=>bif Y4 p.1 x then(p.1,v)::r else p::put x v r
noncomputable abbrev Kp:=List (Nat×Nat)
abbrev CI:=Nat->List V->As->MH->(V->MH->Prop)->Prop
set_option genCtorIdx true in
inductive Fl
 | next|ret (v:V)|brk|cont
noncomputable def op{α:Type}(o:Option α)(K:α->Prop):Prop:=match o with
 | some x=>K x
 | none=>False
def HC(b:Bool)(A B:Prop):Prop:=match b with
 | true=>A
 | false=>B
noncomputable def BJ(lo hi st:Int):List Int:=(bN ((hi-lo+st-1) / st).toNat).map λ(i:Nat)=>lo+st*(i:Int)
noncomputable def Je(lo hi st:Int):Prop:=0<st/\-1000<=lo/\lo<=1000/\-1000<=hi/\hi-lo<=1000/\st<=1000
inductive Rp:O->List V->Prop
 | list {vs}:vs.length<=1000->Rp (.list vs) vs
 | range {lo hi st}:Je lo hi st->Rp (.range lo hi st) ((BJ lo hi st).map .int)
noncomputable def F1:List V->Option (List Int)
 | []=>some []
 | .int i::r=>(F1 r).map (i::·)
 | _::_=>Yu
inductive I5 (i:Int):O->Bool->Prop
 | list {vs is}:vs.length<=1000->F1 vs=some is->I5 i (.list vs) (is.contains i)
 | tup {vs is}:vs.length<=1000->F1 vs=some is->I5 i (.tup vs) (is.contains i)
 | set {xs}:xs.length<=1000->I5 i (.set xs) (xs.contains i)
def Fq(H:MH)(v:V)(K:Bool->Prop):Prop:=match v with
 | .none=>K false
 | .bool b=>K b
 | .int i=>K (i !=0)
 | .ref a=>∃vs,(H a=some (.list vs)\/H a=some (.tup vs))/\vs.length<=1000/\K (!vs.isEmpty)
noncomputable def Mw(v:V)(K:Int->Prop):Prop:=match v with
 | .int i=>K i
 | _=>False
noncomputable def HD(v:V)(K:Nat->Prop):Prop:=match v with
 | .ref i=>K i
 | _=>False
noncomputable def boolW(v:V)(K:Bool->Prop):Prop:=match v with
 | .bool i=>K i
 | _=>False
def Ly(v u:V)(K:Int->Int->Prop):Prop:=Mw v λa=>Mw u λb=>K a b
noncomputable def isNone(v:V):Option Bool:=match v with
 | .none=>some true
 | .int _=>some false
 | _=>none
def EM(H:MH)(a:Nat):Prop:=∃c as,H a=some (.inst c as)
@[irreducible] def Km (H:MH) (a b:Nat) (K:Bool->Prop):Prop:=EM H a/\EM H b/\K (a !=b)
def Hs(H:MH)(o:fm)(v u:V)(K:Bool->Prop):Prop:=match o with
 | .Eq=>Ly v u λa b=>K (a==b)
 | .NotEq=>match v with
  | .bool a=>boolW u λb=>K (a !=b)
  | .ref a=>HD u λb=>∃vs us is js,H a=some (.list vs)/\H b=some (.list us)/\F1 vs=some is/\F1 us=some js/\is.length<=1000/\js.length<=1000/\K (is !=js)
  | _=>Ly v u λa b=>K (a !=b)
 | .Lt=>Ly v u λa b=>K (decide (a<b))
 | .LtE=>Ly v u λa b=>K (decide (a<=b))
 | .Gt=>Ly v u λa b=>K (decide (a > b))
 | .GtE=>Ly v u λa b=>K (decide (a ≥ b))
 | .IsNot=>match u with
  | .none=>op (isNone v) λb=>K (!b)
  | _=>HD v λa=>HD u λb=>Km H a b K
 | .In=>Mw v λi=>HD u λa=>∃o b,H a=some o/\I5 i o b/\K b
 | .NotIn=>Mw v λi=>HD u λa=>∃o b,H a=some o/\I5 i o b/\K (!b)
 | _=>False
def No(o:bW)(v u:V)(K:V->Prop):Prop:=Ly v u λa b=>match o with
 | .Add=>K (.int (a+b))
 | .Sub=>K (.int (a-b))
 | .Mult=>(a.natAbs<=1000000\/b.natAbs<=1000000)/\K (.int (a*b))
 | .Mod=>b≠0/\K (.int (a.fmod b))
 | .FloorDiv=>b≠0/\b.natAbs<1073741824/\K (.int (a.fdiv b))
 | .RShift=>0<=b/\K (.int (a.fdiv (2 ^ b.toNat)))
 | _=>False
inductive Lz:O->Nat->Prop
 | list {vs}:vs.length<=1000->Lz (.list vs) vs.length
 | stk {vs}:vs.length<=1000->Lz (.stk vs) vs.length
noncomputable def nth(vs:List V)(i:Int):Option V:=if 0<=i then vs[i.toNat]? else if -(vs.length:Int)<=i then vs[(vs.length+i).toNat]? else Yu
inductive Kn (i:Int) (v:V):O->Prop
 | list {vs}:vs.length<=1000->nth vs i=some v->Kn i v (.list vs)
 | stk {vs}:vs.length<=1000->nth vs i=some v->Kn i v (.stk vs)
def alloc(H:MH)(o:O)(Q:V->MH->Prop):Prop:=∀a,H a=Yu->Q (.ref a) (H.put a o)
def rdI(H:MH)(a:Nat)(K:Cl->As->Prop):Prop:=∃c as,H a=some (.inst c as)/\K c as
def MW(H:MH)(v:V)(n:Nat)(K:V->Prop):Prop:=HD v λa=>rdI H a λc as=>op ((AN n as).or (GW c n)) K
def Ba(H:MH)(v:V)(m:Nat)(K:Nat->Prop):Prop:=HD v λa=>rdI H a λc as=>AN m as=none/\op (Bt c m) K
def Qs(H:MH)(v:V)(K:O->Prop):Prop:=HD v λa=>∃o,H a=some o/\K o
@[irreducible] def Eb (C:CI) (c:Cl) (vs:List V) (us:As) (H:MH) (Q:V->MH->Prop):Prop:=∀a,H a=Yu->match Bt c AV with
 | some f=>C f (.ref a::vs) us (H.put a (.inst c [])) λv H=>v=.none/\Q (.ref a) H
 | Yu=>vs=[]/\us=[]/\Q (.ref a) (H.put a (.inst c []))
@[irreducible] def Np {α:Type} (H:MH) (v:V) (body:V->MH->(Option α->MH->Prop)->Prop) (Q:List α->MH->Prop):Prop:=HD v λa=>∃o vs,H a=some o/\Rp o vs /\
 ∃I:Nat->List α->MH->Prop,I 0 [] H/\(∀i l H v,vs[i]?=some v->I i l H->H a=some o/\body v H λx H=>I (i+1) (l++x.toList) H)/\(∀l H,I vs.length l H->H a=some o/\Q l H)
def whileW(test:As->MH->(Bool->MH->Prop)->Prop)(body:As->MH->(Fl->As->MH->Prop)->Prop)(ρ:As)(H:MH)(Q:Fl->As->MH->Prop):Prop :=
 ∃(I:Nat->As->MH->Prop) (n:Nat),I n ρ H/\∀n ρ H,I n ρ H->test ρ H λb H=>HC b (body ρ H λf ρ H=>match f with
  | .next|.cont=>∃m,m<n/\I m ρ H
  | .brk=>Q .next ρ H
  | .ret v=>Q (.ret v) ρ H) (Q .next ρ H)
noncomputable def isD:O->Bool:=λU=>false
def forW(v:V)(body:V->As->MH->(Fl->As->MH->Prop)->Prop)(ρ:As)(H:MH)(Q:Fl->As->MH->Prop):Prop:=HD v λa=>∃o vs,H a=some o/\Rp o vs/\isD o=false /\
 ∃I:Nat->As->MH->Prop,I 0 ρ H/\(∀i ρ H v,vs[i]?=some v->I i ρ H->H a=some o/\body v ρ H λf ρ H=>match f with
  | .next|.cont=>I (i+1) ρ H
  | .brk=>Q .next ρ H
  | .ret v=>Q (.ret v) ρ H)/\(∀ρ H,I vs.length ρ H->H a=some o/\Q .next ρ H)
mutual
def wE(C:CI)(κ:Kp):E->As->MH->(V->MH->Prop)->Prop
 | .bad,_,_,_=>False
 | .none,_,H,Q=>Q .none H
 | .bool b,_,H,Q=>Q (.bool b) H
 | .int i,_,H,Q=>Q (.int i) H
 | .neg n,_,H,Q=>Q (.int (-n)) H
 | .var x,ρ,H,Q=>op (AN x ρ) λv=>Q v H
 | .cvar x,_,H,Q=>op (AN x κ) λa=>∃v,H a=some (.cell (some v))/\Q v H
 | .attr e n,ρ,H,Q=>wE C κ e ρ H λv H=>MW H v n λu=>Q u H
 | .meth e m as ks,ρ,H,Q=>wE C κ e ρ H λv H=>Ba H v m λf=>PC C κ as ρ H λvs H=>wKs C κ ks ρ H λus H=>C f (v::vs) us H Q
 | .fn f as ks,ρ,H,Q=>PC C κ as ρ H λvs H=>wKs C κ ks ρ H λus H=>C f vs us H Q
 | .new c as ks,ρ,H,Q=>PC C κ as ρ H λvs H=>wKs C κ ks ρ H λus H=>Eb C c vs us H Q
 | .via _ _ f as,ρ,H,Q=>PC C κ as ρ H λvs H=>C f vs [] H Q
 | .sup c f as,ρ,H,Q=>op (AN AA ρ) λv=>HD v λa=>rdI H a λc' U=>c'=c/\PC C κ as ρ H λvs H=>C f (.ref a::vs) [] H Q
 | .len e,ρ,H,Q=>wE C κ e ρ H λv H=>Qs H v λo=>∃n,Lz o n/\Q (.int n) H
 | .max1 e,ρ,H,Q=>wE C κ e ρ H λv H=>HD v λa=>∃vs is,H a=some (.list vs)/\vs.length<=1000/\F1 vs=some is/\is≠[]/\∀i,i∈is->(∀j∈is,j<=i)->Q (.int i) H
 | .max2 a b,ρ,H,Q=>wE C κ a ρ H λv H=>wE C κ b ρ H λu H=>Ly v u λi j=>Q (.int (max i j)) H
 | .min2 a b,ρ,H,Q=>wE C κ a ρ H λv H=>wE C κ b ρ H λu H=>Ly v u λi j=>Q (.int (min i j)) H
 | .range as,ρ,H,Q=>PC C κ as ρ H λvs H=>match vs with
  | [a]=>Mw a λhi=>alloc H (.range 0 hi 1) Q
  | _=>False
 | .setof e,ρ,H,Q=>wE C κ e ρ H λv H=>Qs H v λo=>∃vs is,o=.list vs/\F1 vs=some is/\is.length<=1000/\alloc H (.set is) Q
 | .not e,ρ,H,Q=>wE C κ e ρ H λv H=>Fq H v λb=>Q (.bool (!b)) H
 | .and es,ρ,H,Q=>UT C κ es ρ H Q
 | .or es,ρ,H,Q=>wOr C κ es ρ H Q
 | .ite c a b,ρ,H,Q=>wT C κ c ρ H λt H=>HC t (wE C κ a ρ H Q) (wE C κ b ρ H Q)
 | .cmp o a b,ρ,H,Q=>wE C κ a ρ H λv H=>wE C κ b ρ H λu H=>Hs H o v u λt=>Q (.bool t) H
 | .cmp2 o a o' b c,ρ,H,Q=>wE C κ a ρ H λv H=>wE C κ b ρ H λu H=>Hs H o v u λt=>HC t (wE C κ c ρ H λw H=>Hs H o' u w λt=>Q (.bool t) H) (Q (.bool false) H)
 | .lall e,ρ,H,Q=>wE C κ e ρ H λv H=>C E2 [v] [] H Q
 | .bin o a b,ρ,H,Q=>wE C κ a ρ H λv H=>wE C κ b ρ H λu H=>No o v u λr=>Q r H
 | .idx e i,ρ,H,Q=>wE C κ e ρ H λv H=>wE C κ i ρ H λu H=>Qs H v λo=>Mw u λj=>∃r,Kn j r o/\Q r H
 | .upto e i,ρ,H,Q=>wE C κ e ρ H λv H=>wE C κ i ρ H λu H=>Qs H v λo=>∃vs n,o=.ro vs/\u=.int (n:Nat)/\n<=1000/\vs.length<=1000/\alloc H (.list (vs.take n)) Q
 | .tup es,ρ,H,Q=>PC C κ es ρ H λvs H=>vs.length<=1000/\alloc H (.tup vs) Q
 | .lst es,ρ,H,Q=>PC C κ es ρ H λvs H=>vs.length<=1000/\alloc H (.list vs) Q
 | .stk,_,H,Q=>alloc H (.stk []) Q
 | .pop e,ρ,H,Q=>wE C κ e ρ H λv H=>HD v λa=>∃vs u,H a=some (.stk (vs++[u]))/\vs.length<=1000/\Q u (H.put a (.stk vs))
 | .append e x,ρ,H,Q=>wE C κ e ρ H λv H=>HD v λa=>∃ws,H a=some (.stk ws)/\wE C κ x ρ H λu H=>∃vs,H a=some (.stk vs)/\vs.length<=1000/\Q .none (H.put a (.stk (vs++[u])))
 | .lcomp e x it cs,ρ,H,Q=>wE C κ it ρ H λv H =>
  Np H v (λu H R=>UI C κ cs [(x,u)] H λt H=>HC t (wE C κ e [(x,u)] H λy H=>R (some y) H) (R Yu H)) (λl H=>l.length<=1000/\alloc H (.list l) Q)
def wT(C:CI)(κ:Kp):T->As->MH->(Bool->MH->Prop)->Prop
 | .e e,ρ,H,Q=>wE C κ e ρ H λv H=>Fq H v λb=>Q b H
 | .not t,ρ,H,Q=>wT C κ t ρ H λb H=>Q (!b) H
 | .and ts,ρ,H,Q=>UI C κ ts ρ H Q
 | .or ts,ρ,H,Q=>wTo C κ ts ρ H Q
def UI(C:CI)(κ:Kp):List T->As->MH->(Bool->MH->Prop)->Prop
 | [],_,H,Q=>Q true H
 | e::r,ρ,H,Q=>wT C κ e ρ H λb H=>HC b (UI C κ r ρ H Q) (Q false H)
def wTo(C:CI)(κ:Kp):List T->As->MH->(Bool->MH->Prop)->Prop
 | [],_,H,Q=>Q false H
 | e::r,ρ,H,Q=>wT C κ e ρ H λb H=>HC b (Q true H) (wTo C κ r ρ H Q)
def UT(C:CI)(κ:Kp):List E->As->MH->(V->MH->Prop)->Prop
 | [],_,_,_=>False
 | e::r,ρ,H,Q=>wE C κ e ρ H λv H=>HC r.isEmpty (Q v H) (Fq H v λb=>HC b (UT C κ r ρ H Q) (Q v H))
def wOr(C:CI)(κ:Kp):List E->As->MH->(V->MH->Prop)->Prop
 | [],_,_,_=>False
 | e::r,ρ,H,Q=>wE C κ e ρ H λv H=>HC r.isEmpty (Q v H) (Fq H v λb=>HC b (Q v H) (wOr C κ r ρ H Q))
def PC(C:CI)(κ:Kp):List E->As->MH->(List V->MH->Prop)->Prop
 | [],_,H,Q=>Q [] H
 | e::r,ρ,H,Q=>wE C κ e ρ H λv H=>PC C κ r ρ H λvs H=>Q (v::vs) H
def wKs(C:CI)(κ:Kp):List (Nat×E)->As->MH->(As->MH->Prop)->Prop
 | [],_,H,Q=>Q [] H
 | p::r,ρ,H,Q=>wKp C κ p ρ H λv H=>wKs C κ r ρ H λvs H=>Q ((p.1,v)::vs) H
def wKp(C:CI)(κ:Kp):(Nat×E)->As->MH->(V->MH->Prop)->Prop
 | (_,e),ρ,H,Q=>wE C κ e ρ H Q
end
def Qu(κ:Kp):List (Nat×Bool)->List V->As->MH->(As->MH->Prop)->Prop
 | [],[],ρ,H,Q=>Q ρ H
 | p::xs,v::vs,ρ,H,Q=>HC p.2 (op (AN p.1 κ) λa=>∃o,H a=some (.cell o)/\Qu κ xs vs ρ (H.put a (.cell (some v))) Q) (Qu κ xs vs (put p.1 v ρ) H Q)
 | _,_,_,_,_=>False
def Qw(H:MH)(v:V)(n:Nat)(u:V)(Q:MH->Prop):Prop:=HD v λa=>rdI H a λc as=>(put n u as).length<=40/\Q (H.put a (.inst c (put n u as)))
def IT(K:As->MH->Prop)(Q:Fl->As->MH->Prop):Fl->As->MH->Prop:=λf ρ H=>match f with
 | .next=>K ρ H
 | f=>Q f ρ H
mutual
def wS(C:CI)(κ:Kp):S->As->MH->(Fl->As->MH->Prop)->Prop
 | .asg x e,ρ,H,Q=>wE C κ e ρ H λv H=>Q .next (put x v ρ) H
 | .casg x e,ρ,H,Q=>wE C κ e ρ H λv H=>op (AN x κ) λa=>∃o,H a=some (.cell o)/\Q .next ρ (H.put a (.cell (some v)))
 | .asg2 x y e,ρ,H,Q=>wE C κ e ρ H λv H=>Q .next (put y v (put x v ρ)) H
 | .unp xs e,ρ,H,Q=>wE C κ e ρ H λv H=>Qs H v λo=>∃vs,o=.tup vs/\Qu κ xs vs ρ H (Q .next)
 | .seta e n x,ρ,H,Q=>wE C κ x ρ H λu H=>wE C κ e ρ H λv H=>Qw H v n u (Q .next ρ)
 | .auga e n o x,ρ,H,Q=>wE C κ e ρ H λv H=>MW H v n λu=>wE C κ x ρ H λy H=>No o u y λr=>Qw H v n r (Q .next ρ)
 | .aug x o e,ρ,H,Q=>op (AN x ρ) λu=>wE C κ e ρ H λy H=>No o u y λr=>Q .next (put x r ρ) H
 | .cond t b c,ρ,H,Q=>wT C κ t ρ H λx H=>HC x (Ap C κ b ρ H Q) (Ap C κ c ρ H Q)
 | .while t b,ρ,H,Q=>whileW (λρ H Q=>wT C κ t ρ H Q) (λρ H Q=>Ap C κ b ρ H Q) ρ H Q
 | .for x it b,ρ,H,Q=>wE C κ it ρ H λv H=>forW v (λu ρ H Q=>Ap C κ b (put x u ρ) H Q) ρ H Q
 | .ret e,ρ,H,Q=>wE C κ e ρ H λv H=>Q (.ret v) ρ H
 | .ret0,ρ,H,Q=>Q (.ret .none) ρ H
 | .raise,_,_,_=>False
 | .assert t,ρ,H,Q=>wT C κ t ρ H λx H=>x=true/\Q .next ρ H
 | .expr e,ρ,H,Q=>wE C κ e ρ H λU H=>Q .next ρ H
 | .brk,ρ,H,Q=>Q .brk ρ H
 | .cont,ρ,H,Q=>Q .cont ρ H
 | .pass,ρ,H,Q=>Q .next ρ H
def Ap(C:CI)(κ:Kp):List S->As->MH->(Fl->As->MH->Prop)->Prop
 | [],ρ,H,Q=>Q .next ρ H
 | s::r,ρ,H,Q=>wS C κ s ρ H (IT (λρ H=>Ap C κ r ρ H Q) Q)
end
noncomputable def has(x:Nat):List Nat->Bool
 | []=>false
 | y::r=>Y4 y x||has x r
noncomputable def Nq(ps:List Nat):As->As->Option As
 | sl,[]=>some sl
 | sl,p::r=>bif has p.1 ps&&(AN p.1 sl).isNone then Nq ps (sl++[p]) r else Yu
noncomputable def Go(sl:As):List Nat->As
 | []=>[]
 | p::r=>match AN p sl with
  | some v=>(p,v)::Go sl r
  | none=>Go sl r
noncomputable def MX(ps:List Nat)(ds:List V)(vs:List V)(ks:As):Option As :=
 bif fU vs.length ps.length&&fU ds.length ps.length then
  match Nq ps (ps.zip vs) ks with
  | some sl=>bif (ps.take (ps.length-ds.length)).all (λp=>(AN p sl).isSome) then some (Go (sl++(ps.drop (ps.length-ds.length)).zip ds) ps) else Yu
  | Yu=>Yu
 else Yu
def Mx:List Nat->As->Kp->MH->(Kp->MH->Prop)->Prop
 | [],_,κ,H,Q=>Q κ H
 | x::r,ρ,κ,H,Q=>∀a,H a=Yu->Mx r ρ ((x,a)::κ) (H.put a (.cell (AN x ρ))) Q
structure Fi where
 pars:List Nat
 dflt:List V
 cells:List Nat
 body:List S
noncomputable def DW(xs:List Nat):As->As
 | []=>[]
 | p::r=>bif has p.1 xs then DW xs r else p::DW xs r
def AS(Q:V->MH->Prop):Fl->As->MH->Prop:=λfl U H=>match fl with
 | .next=>Q .none H
 | .ret v=>Q v H
 | _=>False
def ID(C:CI)(i:Fi)(vs:List V)(ks:As)(H:MH)(Q:V->MH->Prop):Prop :=
 op (MX i.pars i.dflt vs ks) λρ=>Mx i.cells ρ [] H λκ H=>Ap C κ i.body (DW i.cells ρ) H (AS Q)
end Mine
namespace Mine
open PySem
def Ko:List S:=[.ret (.var AA)]
def Kq:Fi:=⟨[AA,AD],[.int 0],[],Ko⟩
noncomputable def E3:List S:=[.ret (.int 0)]
def IU:Fi:=⟨[AA],[],[],E3⟩
noncomputable def Dv:List S:=[.ret (.bool false)]
def F3:Fi:=⟨[AA],[],[],Dv⟩
def J5:List S:=[.ret (.var AA)]
def Nr:Fi:=⟨[AA],[],[],J5⟩
noncomputable def Gp:List S:=[.ret (.new .Null [] [])]
def KL:Fi:=⟨[],[],[],Gp⟩
def HE:List S:=[.seta (.var AA) Bg (.var BO),.seta (.var AA) Cd (.var En),.seta (.var AA) Bo (.var D5),.seta (.var AA) Fx (.var Ip),.seta (.var AA) KK (.var GL),.seta (.var AA) Fy (.var Iq),.seta (.var AA) Eo (.var Ir),.seta (.var AA) KW (.var Ms),.seta (.var AA) FT (.var GM)]
def Nt:Fi:=⟨[AA,BO,En,Ip,Iq,Ir,GL,D5,Ms,GM],[.none,.none,.none,.none,.int 0,.none,.none,.none],[],HE⟩
def Dw:List S:=[.ret (.cmp .Lt (.attr (.var AA) KK) (.len (.attr (.var AA) Bg)))]
def F4:Fi:=⟨[AA],[],[],Dw⟩
def HG:List S:=[.cond (.not (.e (.meth (.var AA) AC [] []))) [.raise] [],.cond (.e (.cmp .Lt (.var AW) (.meth (.var AA) AW [] []))) [.ret0] [],.while (.and [(.e (.cmp .Lt (.attr (.var AA) KK) (.len (.attr (.var AA) Bg)))),(.e (.cmp .Lt (.idx (.attr (.var AA) Bg) (.attr (.var AA) KK)) (.var AW)))]) [.auga (.var AA) KK .Add (.int 1)]]
def DX:Fi:=⟨[AA,AW],[],[],HG⟩
def J6:List S:=[.ret (.new .Leaf [(.attr (.var AA) Bg),(.attr (.var AA) Cd),(.attr (.var AA) Fx),(.attr (.var AA) Fy),(.attr (.var AA) Eo),(.attr (.var AA) KK),(.attr (.var AA) Bo)] [])]
def Nu:Fi:=⟨[AA],[],[],J6⟩
def HH:List S:=[.cond (.not (.e (.meth (.var AA) AC [] []))) [.ret (.fn AM [] [])] [.cond (.and [(.e (.var AD)),(.e (.cmp .Lt (.meth (.var AA) AF [] []) (.var AD)))]) [.ret (.fn AM [] [])] [.ret (.var AA)]]]
def Kr:Fi:=⟨[AA,AD],[.int 0],[],HH⟩
def E4:List S:=[.cond (.e (.attr (.var AA) Eo)) [.ret (.bad)] [.ret (.meth (.var AA) Et [] [])]]
def IV:Fi:=⟨[AA],[],[],E4⟩
def MY:List S:=[.ret (.idx (.attr (.var AA) Bg) (.attr (.var AA) KK))]
def Qx:Fi:=⟨[AA],[],[],MY⟩
def J7:List S:=[.auga (.var AA) KK .Add (.int 1)]
def Nv:Fi:=⟨[AA],[],[],J7⟩
def DT:List S:=[.cond (.e (.attr (.var AA) Bo)) [.ret (.attr (.var AA) Bo)] [.cond (.e (.attr (.var AA) Cd)) [.ret (.max1 (.attr (.var AA) Cd))] [.ret (.int 1)]]]
def F5:Fi:=⟨[AA],[],[],DT⟩
def MZ:List S:=[.seta (.var AA) Ak (.var Ak),.seta (.var AA) Av (.var Av)]
def Qy:Fi:=⟨[AA,Ak,Av],[],[],MZ⟩
def Ma:List S:=[.ret (.meth (.var AA) A6 [(.meth (.attr (.var AA) Ak) A8 [] []),(.meth (.attr (.var AA) Av) A8 [] [])] [])]
def Qz:Fi:=⟨[AA],[],[],Ma⟩
def My:List S:=[.cond (.not (.e (.meth (.var AA) AC [] []))) [.raise] [],.asg Jb (.meth (.attr (.var AA) Ak) AP [(.var AW)] []),.asg Is (.meth (.attr (.var AA) Av) AP [(.var AW)] []),.ret (.or [(.var Jb),(.var Is)])]
def Mz:Fi:=⟨[AA,AW],[],[],My⟩
def DY:List S:=[.asg x_q (.int 0),.cond (.e (.meth (.attr (.var AA) Ak) AC [] [])) [.aug x_q .Add (.meth (.attr (.var AA) Ak) AF [] [])] [],.cond (.e (.meth (.attr (.var AA) Av) AC [] [])) [.aug x_q .Add (.meth (.attr (.var AA) Av) AF [] [])] [],.ret (.var x_q)]
def I6:Fi:=⟨[AA],[],[],DY⟩
def MA:List S:=[.ret (.new .Union [(.var Ak),(.var Av)] [])]
def MB:Fi:=⟨[AA,Ak,Av],[],[],MA⟩
def EN:List S:=[.asg Ak (.attr (.var AA) Ak),.asg Av (.attr (.var AA) Av),.asg AZ (.meth (.var Ak) AC [] []),.asg AX (.meth (.var Av) AC [] []),.cond (.and [(.e (.var AD)),(.e (.var AZ)),(.e (.var AX))]) [.asg DC (.meth (.var Ak) AF [] []),.asg DD (.meth (.var Av) AF [] []),.cond (.and [(.e (.cmp .Lt (.var DC) (.var AD))),(.e (.cmp .Lt (.var DD) (.var AD)))]) [.ret (.meth (.new .Inter [(.var Ak),(.var Av)] []) AK [(.var AD)] [])] [.cond (.e (.cmp .Lt (.var DC) (.var AD))) [.ret (.new .AndMaybe [(.var Av),(.var Ak)] [])] [.cond (.e (.cmp .Lt (.var DD) (.var AD))) [.ret (.new .AndMaybe [(.var Ak),(.var Av)] [])] []]]] [],.cond (.not (.or [(.e (.var AZ)),(.e (.var AX))])) [.ret (.fn AM [] [])] [.cond (.not (.e (.var AZ))) [.ret (.meth (.var Av) AK [(.var AD)] [])] [.cond (.not (.e (.var AX))) [.ret (.meth (.var Ak) AK [(.var AD)] [])] []]],.asg Ak (.meth (.var Ak) AK [(.ite (.e (.var AD)) (.bin .Sub (.var AD) (.meth (.var Av) AF [] [])) (.int 0))] []),.asg Av (.meth (.var Av) AK [(.ite (.e (.var AD)) (.bin .Sub (.var AD) (.meth (.var Ak) AF [] [])) (.int 0))] []),.cond (.or [(.e (.cmp .IsNot (.var Ak) (.attr (.var AA) Ak))),(.e (.cmp .IsNot (.var Av) (.attr (.var AA) Av)))]) [.ret (.meth (.var AA) A6 [(.var Ak),(.var Av)] [])] [.seta (.var AA) Au (.none),.ret (.var AA)]]
def KM:Fi:=⟨[AA,AD],[.int 0],[],EN⟩
def DZ:List S:=[.ret (.or [(.meth (.attr (.var AA) Ak) AC [] []),(.meth (.attr (.var AA) Av) AC [] [])])]
def FU:Fi:=⟨[AA],[],[],DZ⟩
def EQ:List S:=[.seta (.var AA) Au (.none),.asg2 Jb Is (.bool false),.cond (.e (.meth (.attr (.var AA) Ak) AC [] [])) [.asg Jb (.meth (.attr (.var AA) Ak) AP [(.var AW)] [])] [],.cond (.e (.meth (.attr (.var AA) Av) AC [] [])) [.asg Is (.meth (.attr (.var AA) Av) AP [(.var AW)] [])] [],.ret (.or [(.var Jb),(.var Is)])]
def KN:Fi:=⟨[AA,AW],[],[],EQ⟩
def GX:List S:=[.asg Au (.attr (.var AA) Au),.cond (.e (.cmp .IsNot (.var Au) (.none))) [.ret (.var Au)] [],.asg Ak (.attr (.var AA) Ak),.asg Av (.attr (.var AA) Av),.cond (.not (.e (.meth (.var Ak) AC [] []))) [.asg Au (.meth (.var Av) AW [] [])] [.cond (.not (.e (.meth (.var Av) AC [] []))) [.asg Au (.meth (.var Ak) AW [] [])] [.asg Au (.min2 (.meth (.var Ak) AW [] []) (.meth (.var Av) AW [] []))]],.seta (.var AA) Au (.var Au),.ret (.var Au)]
def PD:Fi:=⟨[AA],[],[],GX⟩
def I7:List S:=[.seta (.var AA) Au (.none),.asg Ak (.attr (.var AA) Ak),.asg Av (.attr (.var AA) Av),.asg AZ (.meth (.var Ak) AC [] []),.asg AX (.meth (.var Av) AC [] []),.cond (.not (.or [(.e (.var AZ)),(.e (.var AX))])) [.raise] [.cond (.not (.e (.var AZ))) [.ret (.meth (.var Av) Ar [] [])] [.cond (.not (.e (.var AX))) [.ret (.meth (.var Ak) Ar [] [])] []]],.asg Fj (.meth (.var Ak) AW [] []),.asg Fk (.meth (.var Av) AW [] []),.asg2 Kk O9 (.none),.cond (.e (.cmp .LtE (.var Fj) (.var Fk))) [.asg Kk (.meth (.var Ak) Ar [] [])] [],.cond (.e (.cmp .LtE (.var Fk) (.var Fj))) [.asg O9 (.meth (.var Av) Ar [] [])] [],.ret (.or [(.var Kk),(.var O9)])]
def Ec:Fi:=⟨[AA],[],[],I7⟩
def M0:List S:=[.ret (.new .DMax [(.var Ak),(.var Av)] [])]
def M2:Fi:=⟨[AA,Ak,Av],[],[],M0⟩
def J8:List S:=[.expr (.sup .DMax By [(.var Ak),(.var Av)]),.seta (.var AA) B8 (.var B8)]
def Nw:Fi:=⟨[AA,Ak,Av,B8],[.int 0],[],J8⟩
def J9:List S:=[.ret (.new .DMax [(.meth (.attr (.var AA) Ak) A8 [] []),(.meth (.attr (.var AA) Av) A8 [] [])] [(B8,(.attr (.var AA) B8))])]
def Nx:Fi:=⟨[AA],[],[],J9⟩
def E7:List S:=[.asg Ak (.attr (.var AA) Ak),.asg Av (.attr (.var AA) Av),.asg AZ (.meth (.var Ak) AC [] []),.asg AX (.meth (.var Av) AC [] []),.cond (.and [(.e (.var AD)),(.e (.var AZ)),(.e (.var AX))]) [.asg DC (.meth (.var Ak) AF [] []),.asg DD (.meth (.var Av) AF [] []),.cond (.and [(.e (.cmp .Lt (.var DC) (.var AD))),(.e (.cmp .Lt (.var DD) (.var AD)))]) [.ret (.fn AM [] [])] [.cond (.e (.cmp .Lt (.var DD) (.var AD))) [.ret (.meth (.var Ak) AK [(.var AD)] [])] [.cond (.e (.cmp .Lt (.var DC) (.var AD))) [.ret (.meth (.var Av) AK [(.var AD)] [])] []]]] [],.cond (.not (.or [(.e (.var AZ)),(.e (.var AX))])) [.ret (.fn AM [] [])] [.cond (.not (.e (.var AZ))) [.ret (.meth (.var Av) AK [(.var AD)] [])] [.cond (.not (.e (.var AX))) [.ret (.meth (.var Ak) AK [(.var AD)] [])] []]],.asg Ak (.meth (.var Ak) AK [(.var AD)] []),.asg Av (.meth (.var Av) AK [(.var AD)] []),.asg AZ (.meth (.var Ak) AC [] []),.asg AX (.meth (.var Av) AC [] []),.cond (.not (.and [(.e (.var AZ)),(.e (.var AX))])) [.ret (.fn AM [] [])] [.cond (.not (.e (.var AZ))) [.ret (.var Av)] [.cond (.not (.e (.var AX))) [.ret (.var Ak)] [.cond (.or [(.e (.cmp .IsNot (.var Ak) (.attr (.var AA) Ak))),(.e (.cmp .IsNot (.var Av) (.attr (.var AA) Av)))]) [.ret (.meth (.var AA) A6 [(.var Ak),(.var Av)] [])] [.ret (.var AA)]]]]]
def Ks:Fi:=⟨[AA,AD],[.int 0],[],E7⟩
def E8:List S:=[.ret (.max2 (.meth (.attr (.var AA) Ak) AF [] []) (.meth (.attr (.var AA) Av) AF [] []))]
def IW:Fi:=⟨[AA],[],[],E8⟩
def MC:List S:=[.ret (.new .Inter [(.var Ak),(.var Av)] [])]
def MD:Fi:=⟨[AA,Ak,Av],[],[],MC⟩
def I8:List S:=[.expr (.sup .Inter By [(.var Ak),(.var Av)]),.expr (.meth (.var AA) D6 [] [])]
def M3:Fi:=⟨[AA,Ak,Av],[],[],I8⟩
def EV:List S:=[.cond (.and [(.e (.meth (.attr (.var AA) Ak) AC [] [])),(.e (.meth (.attr (.var AA) Av) AC [] [])),(.e (.cmp .NotEq (.meth (.attr (.var AA) Ak) AW [] []) (.meth (.attr (.var AA) Av) AW [] [])))]) [.expr (.meth (.var AA) Ao [] [])] []]
def Ht:Fi:=⟨[AA],[],[],EV⟩
def ES:List S:=[.asg Ak (.attr (.var AA) Ak),.asg Av (.attr (.var AA) Av),.asg AZ (.meth (.var Ak) AC [] []),.asg AX (.meth (.var Av) AC [] []),.cond (.not (.and [(.e (.var AZ)),(.e (.var AX))])) [.ret (.fn AM [] [])] [],.cond (.e (.var AD)) [.asg DC (.meth (.var Ak) AF [] []),.asg DD (.meth (.var Av) AF [] []),.cond (.e (.cmp .Lt (.bin .Add (.var DC) (.var DD)) (.var AD))) [.ret (.fn AM [] [])] [],.asg GN (.bin .Sub (.var AD) (.var DD)),.asg GO (.bin .Sub (.var AD) (.var DC))] [.asg2 GN GO (.int 0)],.asg Ak (.meth (.var Ak) AK [(.var GN)] []),.asg Av (.meth (.var Av) AK [(.var GO)] []),.asg AZ (.meth (.var Ak) AC [] []),.asg AX (.meth (.var Av) AC [] []),.cond (.not (.or [(.e (.var AZ)),(.e (.var AX))])) [.ret (.fn AM [] [])] [.cond (.not (.e (.var AZ))) [.ret (.var Av)] [.cond (.not (.e (.var AX))) [.ret (.var Ak)] [.cond (.or [(.e (.cmp .IsNot (.var Ak) (.attr (.var AA) Ak))),(.e (.cmp .IsNot (.var Av) (.attr (.var AA) Av)))]) [.ret (.meth (.var AA) A6 [(.var Ak),(.var Av)] [])] [.ret (.var AA)]]]]]
def KO:Fi:=⟨[AA,AD],[.int 0],[],ES⟩
def Dd:List S:=[.ret (.and [(.meth (.attr (.var AA) Ak) AC [] []),(.meth (.attr (.var AA) Av) AC [] [])])]
def FV:Fi:=⟨[AA],[],[],Dd⟩
def E9:List S:=[.asg Ak (.attr (.var AA) Ak),.asg Av (.attr (.var AA) Av),.asg Fj (.meth (.var Ak) AW [] []),.asg Fk (.meth (.var Av) AW [] []),.assert (.e (.cmp .NotEq (.var Fj) (.var Fk))),.asg It (.bool false),.while (.and [(.e (.meth (.var Ak) AC [] [])),(.e (.meth (.var Av) AC [] [])),(.e (.cmp .NotEq (.var Fj) (.var Fk)))]) [.cond (.e (.cmp .Lt (.var Fj) (.var Fk))) [.asg Jb (.meth (.var Ak) AP [(.var Fk)] []),.cond (.not (.e (.meth (.var Ak) AC [] []))) [.ret0] [],.asg It (.or [(.var It),(.var Jb)]),.asg Fj (.meth (.var Ak) AW [] [])] [.asg Is (.meth (.var Av) AP [(.var Fj)] []),.cond (.not (.e (.meth (.var Av) AC [] []))) [.ret0] [],.asg It (.or [(.var It),(.var Is)]),.asg Fk (.meth (.var Av) AW [] [])]],.ret (.var It)]
def IX:Fi:=⟨[AA],[],[],E9⟩
def IY:List S:=[.ret (.meth (.attr (.var AA) Ak) AW [] [])]
def PF:Fi:=⟨[AA],[],[],IY⟩
def Gq:List S:=[.cond (.not (.e (.meth (.var AA) AC [] []))) [.raise] [],.asg Jb (.meth (.attr (.var AA) Ak) AP [(.var AW)] []),.asg Is (.meth (.attr (.var AA) Av) AP [(.var AW)] []),.cond (.e (.meth (.var AA) AC [] [])) [.asg x_rn (.bool false),.cond (.e (.cmp .NotEq (.meth (.attr (.var AA) Ak) AW [] []) (.meth (.attr (.var AA) Av) AW [] []))) [.asg x_rn (.meth (.var AA) Ao [] [])] [],.ret (.or [(.var Jb),(.var Is),(.var x_rn)])] []]
def DF:Fi:=⟨[AA,AW],[],[],Gq⟩
def I9:List S:=[.cond (.not (.e (.meth (.var AA) AC [] []))) [.raise] [],.asg Kk (.meth (.attr (.var AA) Ak) Ar [] []),.cond (.e (.meth (.var AA) AC [] [])) [.asg Nm (.meth (.var AA) Ao [] []),.ret (.or [(.var Kk),(.var Nm)])] []]
def Ed:Fi:=⟨[AA],[],[],I9⟩
def Ku:List S:=[.ret (.new .AndNot [(.var Ak),(.var Av)] [])]
def Kv:Fi:=⟨[AA,Ak,Av],[],[],Ku⟩
def IE:List S:=[.expr (.sup .AndNot By [(.var Ak),(.var Av)]),.expr (.meth (.var AA) D6 [] [])]
def ME:Fi:=⟨[AA,Ak,Av],[],[],IE⟩
def EF:List S:=[.cond (.and [(.e (.meth (.attr (.var AA) Ak) AC [] [])),(.e (.meth (.attr (.var AA) Av) AC [] [])),(.e (.cmp .Eq (.meth (.attr (.var AA) Ak) AW [] []) (.meth (.attr (.var AA) Av) AW [] [])))]) [.expr (.meth (.var AA) Ao [] [])] []]
def HI:Fi:=⟨[AA],[],[],EF⟩
def DO:List S:=[.ret (.meth (.attr (.var AA) Ak) AC [] [])]
def FA:Fi:=⟨[AA],[],[],DO⟩
def C6:List S:=[.asg J0 (.attr (.var AA) Ak),.asg Iu (.attr (.var AA) Av),.cond (.not (.e (.meth (.var Iu) AC [] []))) [.ret0] [],.asg EC (.meth (.var J0) AW [] []),.asg It (.bool false),.cond (.e (.cmp .Lt (.meth (.var Iu) AW [] []) (.var EC))) [.expr (.meth (.var Iu) AP [(.var EC)] [])] [],.while (.and [(.e (.meth (.var J0) AC [] [])),(.e (.meth (.var Iu) AC [] [])),(.e (.cmp .Eq (.var EC) (.meth (.var Iu) AW [] [])))]) [.asg Nm (.meth (.var J0) Ar [] []),.cond (.not (.e (.meth (.var J0) AC [] []))) [.brk] [],.asg It (.or [(.var It),(.var Nm)]),.asg EC (.meth (.var J0) AW [] []),.expr (.meth (.var Iu) AP [(.var EC)] [])],.ret (.var It)]
def Hu:Fi:=⟨[AA],[],[],C6⟩
def Dx:List S:=[.cond (.not (.e (.meth (.attr (.var AA) Ak) AC [] []))) [.ret (.fn AM [] [])] [.cond (.and [(.e (.var AD)),(.e (.cmp .Lt (.meth (.attr (.var AA) Ak) AF [] []) (.var AD)))]) [.ret (.fn AM [] [])] [.cond (.not (.e (.meth (.attr (.var AA) Av) AC [] []))) [.ret (.meth (.attr (.var AA) Ak) AK [(.var AD)] [])] []]],.asg Ak (.meth (.attr (.var AA) Ak) AK [(.var AD)] []),.asg Av (.meth (.attr (.var AA) Av) AK [] []),.cond (.or [(.e (.cmp .IsNot (.var Ak) (.attr (.var AA) Ak))),(.e (.cmp .IsNot (.var Av) (.attr (.var AA) Av)))]) [.ret (.meth (.var AA) A6 [(.var Ak),(.var Av)] [])] [.ret (.var AA)]]
def Jf:Fi:=⟨[AA,AD],[.int 0],[],Dx⟩
def EG:List S:=[.ret (.meth (.attr (.var AA) Ak) AF [] [])]
def HJ:Fi:=⟨[AA],[],[],EG⟩
def KA:List S:=[.ret (.meth (.attr (.var AA) Ak) AW [] [])]
def Ny:Fi:=⟨[AA],[],[],KA⟩
def Fs:List S:=[.cond (.not (.e (.meth (.attr (.var AA) Ak) AC [] []))) [.raise] [],.asg Kk (.meth (.attr (.var AA) Ak) Ar [] []),.asg Nm (.bool false),.cond (.and [(.e (.meth (.attr (.var AA) Ak) AC [] [])),(.e (.meth (.attr (.var AA) Av) AC [] []))]) [.asg Nm (.meth (.var AA) Ao [] [])] [],.ret (.or [(.var Kk),(.var Nm)])]
def D8:Fi:=⟨[AA],[],[],Fs⟩
def F6:List S:=[.cond (.not (.e (.meth (.attr (.var AA) Ak) AC [] []))) [.raise] [],.cond (.e (.cmp .Lt (.var AW) (.meth (.attr (.var AA) Ak) AW [] []))) [.ret0] [],.expr (.meth (.attr (.var AA) Ak) AP [(.var AW)] []),.cond (.e (.meth (.attr (.var AA) Av) AC [] [])) [.expr (.meth (.attr (.var AA) Av) AP [(.var AW)] []),.expr (.meth (.var AA) Ao [] [])] []]
def Ct:Fi:=⟨[AA,AW],[],[],F6⟩
def Jg:List S:=[.ret (.new .AndMaybe [(.var Ak),(.var Av)] [])]
def Jh:Fi:=⟨[AA,Ak,Av],[],[],Jg⟩
def Gr:List S:=[.expr (.via .Add AV By [(.var AA),(.var Ak),(.var Av)]),.expr (.meth (.var AA) Kl [] [])]
def KP:Fi:=⟨[AA,Ak,Av],[],[],Gr⟩
def EW:List S:=[.asg Ak (.attr (.var AA) Ak),.asg Av (.attr (.var AA) Av),.cond (.and [(.e (.meth (.var Ak) AC [] [])),(.e (.meth (.var Av) AC [] [])),(.e (.cmp .NotEq (.meth (.var Ak) AW [] []) (.meth (.var Av) AW [] [])))]) [.expr (.meth (.var Av) AP [(.meth (.var Ak) AW [] [])] [])] []]
def Hv:Fi:=⟨[AA],[],[],EW⟩
def Cj:List S:=[.ret (.meth (.attr (.var AA) Ak) AC [] [])]
def EH:Fi:=⟨[AA],[],[],Cj⟩
def IF:List S:=[.ret (.meth (.attr (.var AA) Ak) AW [] [])]
def MF:Fi:=⟨[AA],[],[],IF⟩
def ET:List S:=[.cond (.not (.e (.meth (.attr (.var AA) Ak) AC [] []))) [.raise] [],.asg Kk (.meth (.attr (.var AA) Ak) Ar [] []),.asg O9 (.bool false),.cond (.and [(.e (.meth (.attr (.var AA) Ak) AC [] [])),(.e (.meth (.attr (.var AA) Av) AC [] []))]) [.asg O9 (.meth (.attr (.var AA) Av) AP [(.meth (.attr (.var AA) Ak) AW [] [])] [])] [],.ret (.or [(.var Kk),(.var O9)])]
def DG:Fi:=⟨[AA],[],[],ET⟩
def DP:List S:=[.cond (.not (.e (.meth (.attr (.var AA) Ak) AC [] []))) [.raise] [],.asg Jb (.meth (.attr (.var AA) Ak) AP [(.var AW)] []),.asg Is (.bool false),.cond (.and [(.e (.meth (.attr (.var AA) Ak) AC [] [])),(.e (.meth (.attr (.var AA) Av) AC [] []))]) [.asg Is (.meth (.attr (.var AA) Av) AP [(.var AW)] [])] [],.ret (.or [(.var Jb),(.var Is)])]
def CR:Fi:=⟨[AA,AW],[],[],DP⟩
def DQ:List S:=[.asg Ak (.attr (.var AA) Ak),.asg Av (.attr (.var AA) Av),.asg AZ (.meth (.var Ak) AC [] []),.asg AX (.meth (.var Av) AC [] []),.cond (.not (.e (.var AZ))) [.ret (.fn AM [] [])] [.cond (.and [(.e (.var AD)),(.e (.var AX))]) [.cond (.e (.cmp .Lt (.bin .Add (.meth (.var Ak) AF [] []) (.meth (.var Av) AF [] [])) (.var AD))) [.ret (.fn AM [] [])] [.cond (.e (.cmp .Lt (.meth (.var Ak) AF [] []) (.var AD))) [.ret (.new .Inter [(.attr (.var AA) Ak),(.attr (.var AA) Av)] [])] []]] [.cond (.not (.e (.var AX))) [.ret (.meth (.var Ak) AK [(.var AD)] [])] []]],.asg GQ (.meth (.var Ak) AK [(.bin .Sub (.var AD) (.meth (.var Av) AF [] []))] []),.asg Iv (.meth (.var Av) AK [(.bin .Sub (.var AD) (.meth (.var Ak) AF [] []))] []),.cond (.or [(.e (.cmp .IsNot (.var GQ) (.var Ak))),(.e (.cmp .IsNot (.var Iv) (.var Av)))]) [.ret (.meth (.var AA) A6 [(.var GQ),(.var Iv)] [])] [.ret (.var AA)]]
def IZ:Fi:=⟨[AA,AD],[.int 0],[],DQ⟩
def HK:List S:=[.seta (.var AA) AE (.var AE),.seta (.var AA) Ad (.var Ad)]
def Nz:Fi:=⟨[AA,AE,Ad],[.int 1],[],HK⟩
def N2:List S:=[.ret (.new .Wrap [(.meth (.attr (.var AA) AE) A8 [] [])] [(Ad,(.attr (.var AA) Ad))])]
def N9:Fi:=⟨[AA],[],[],N2⟩
def Hw:List S:=[.ret (.new .Wrap [(.var Bp)] [(Ad,(.attr (.var AA) Ad))])]
def Hx:Fi:=⟨[AA,Bp],[],[],Hw⟩
def HL:List S:=[.asg It (.meth (.attr (.var AA) AE) AK [(.var AD)] []),.cond (.e (.cmp .IsNot (.var It) (.attr (.var AA) AE))) [.ret (.meth (.var AA) A9 [(.var It)] [])] [.ret (.var AA)]]
def Kw:Fi:=⟨[AA,AD],[.int 0],[],HL⟩
def Ji:List S:=[.ret (.meth (.attr (.var AA) AE) AW [] [])]
def Q0:Fi:=⟨[AA],[],[],Ji⟩
def Bn:List S:=[.ret (.meth (.attr (.var AA) AE) AC [] [])]
def F7:Fi:=⟨[AA],[],[],Bn⟩
def FC:List S:=[.ret (.meth (.attr (.var AA) AE) AP [(.var AW)] [])]
def De:Fi:=⟨[AA,AW],[],[],FC⟩
def HM:List S:=[.expr (.meth (.attr (.var AA) AE) Ar [] [])]
def FW:Fi:=⟨[AA],[],[],HM⟩
def FD:List S:=[.ret (.bin .Mult (.meth (.attr (.var AA) AE) AF [] []) (.attr (.var AA) Ad))]
def Ia:Fi:=⟨[AA],[],[],FD⟩
def Ft:List S:=[.expr (.sup .Filter BR [(.var AE)]),.seta (.var AA) Bg (.var BO),.seta (.var AA) Bc (.var Dq),.seta (.var AA) Ad (.var Ad),.expr (.meth (.var AA) Ao [] [])]
def MG:Fi:=⟨[AA,AE,BO,Dq,Ad],[.bool false,.int 1],[],Ft⟩
def IG:List S:=[.ret (.new .Filter [(.meth (.attr (.var AA) AE) A8 [] []),(.attr (.var AA) Bg),(.attr (.var AA) Bc)] [(Ad,(.attr (.var AA) Ad))])]
def MI:Fi:=⟨[AA],[],[],IG⟩
def Do:List S:=[.ret (.new .Filter [(.var Bp),(.attr (.var AA) Bg)] [(Dq,(.attr (.var AA) Bc)),(Ad,(.attr (.var AA) Ad))])]
def G3:Fi:=⟨[AA,Bp],[],[],Do⟩
def EX:List S:=[.asg AE (.attr (.var AA) AE),.asg BO (.attr (.var AA) Bg),.asg It (.bool false),.cond (.e (.attr (.var AA) Bc)) [.while (.and [(.e (.meth (.var AE) AC [] [])),(.e (.cmp .In (.meth (.var AE) AW [] []) (.var BO)))]) [.asg It (.or [(.meth (.var AE) Ar [] []),(.var It)])]] [.while (.and [(.e (.meth (.var AE) AC [] [])),(.e (.cmp .NotIn (.meth (.var AE) AW [] []) (.var BO)))]) [.asg It (.or [(.meth (.var AE) Ar [] []),(.var It)])]],.ret (.var It)]
def Hy:Fi:=⟨[AA],[],[],EX⟩
def IH:List S:=[.expr (.meth (.attr (.var AA) AE) Ar [] []),.expr (.meth (.var AA) Ao [] [])]
def MJ:Fi:=⟨[AA],[],[],IH⟩
def F8:List S:=[.expr (.meth (.attr (.var AA) AE) AP [(.var AW)] []),.expr (.meth (.var AA) Ao [] [])]
def Jj:Fi:=⟨[AA,AW],[],[],F8⟩
def Cm:List S:=[.expr (.sup .Inverse BR [(.var AE)]),.seta (.var AA) Aq (.var Aq),.seta (.var AA) BX (.var DA),.seta (.var AA) Af (.or [(.var Af),(.tup [])]),.seta (.var AA) Au (.var AW),.expr (.meth (.var AA) Ao [] [])]
def Ky:Fi:=⟨[AA,AE,Aq,Af,DA,AW],[.none,.int 1,.int 0],[],Cm⟩
def HN:List S:=[.ret (.new .Inverse [(.meth (.attr (.var AA) AE) A8 [] []),(.attr (.var AA) Aq)] [(DA,(.attr (.var AA) BX)),(Af,(.attr (.var AA) Af)),(AW,(.attr (.var AA) Au))])]
def Kz:Fi:=⟨[AA],[],[],HN⟩
def Df:List S:=[.ret (.new .Inverse [(.var Bp),(.attr (.var AA) Aq)] [(Af,(.attr (.var AA) Af)),(DA,(.attr (.var AA) BX)),(AW,(.attr (.var AA) Au))])]
def GY:Fi:=⟨[AA,Bp],[],[],Df⟩
def C7:List S:=[.ret (.cmp .Lt (.attr (.var AA) Au) (.attr (.var AA) Aq))]
def EY:Fi:=⟨[AA],[],[],C7⟩
def BU:List S:=[.asg AE (.attr (.var AA) AE),.asg Af (.attr (.var AA) Af),.cond (.and [(.not (.e (.meth (.var AE) AC [] []))),(.e (.cmp .NotIn (.attr (.var AA) Au) (.var Af)))]) [.ret0] [],.while (.and [(.e (.cmp .Lt (.attr (.var AA) Au) (.attr (.var AA) Aq))),(.e (.cmp .In (.attr (.var AA) Au) (.var Af)))]) [.auga (.var AA) Au .Add (.int 1)],.cond (.and [(.e (.meth (.var AE) AC [] [])),(.e (.cmp .Lt (.meth (.var AE) AW [] []) (.attr (.var AA) Au)))]) [.expr (.meth (.var AE) AP [(.attr (.var AA) Au)] [])] [],.while (.and [(.e (.meth (.var AE) AC [] [])),(.e (.cmp .Lt (.attr (.var AA) Au) (.attr (.var AA) Aq)))]) [.cond (.e (.cmp .In (.attr (.var AA) Au) (.var Af))) [.auga (.var AA) Au .Add (.int 1),.cont] [],.cond (.e (.cmp .Eq (.attr (.var AA) Au) (.meth (.var AE) AW [] []))) [.auga (.var AA) Au .Add (.int 1),.expr (.meth (.var AE) Ar [] []),.cont] [],.brk]]
def HO:Fi:=⟨[AA],[],[],BU⟩
def JA:List S:=[.ret (.attr (.var AA) Au)]
def M4:Fi:=⟨[AA],[],[],JA⟩
def HP:List S:=[.cond (.e (.cmp .GtE (.attr (.var AA) Au) (.attr (.var AA) Aq))) [.raise] [],.auga (.var AA) Au .Add (.int 1),.expr (.meth (.var AA) Ao [] [])]
def Dg:Fi:=⟨[AA],[],[],HP⟩
def FX:List S:=[.cond (.e (.cmp .GtE (.attr (.var AA) Au) (.attr (.var AA) Aq))) [.raise] [],.cond (.e (.cmp .Lt (.var AW) (.attr (.var AA) Au))) [.ret0] [],.seta (.var AA) Au (.var AW),.expr (.meth (.var AA) Ao [] [])]
def CZ:Fi:=⟨[AA,AW],[],[],FX⟩
def HQ:List S:=[.seta (.var AA) Ak (.var Ak),.seta (.var AA) Av (.var Av),.expr (.via .Wrap AV BR [(.var AA),(.new .Inter [(.var Ak),(.var Av)] [])])]
def K0:Fi:=⟨[AA,Ak,Av],[],[],HQ⟩
def HR:List S:=[.ret (.new .Require [(.meth (.attr (.var AA) Ak) A8 [] []),(.meth (.attr (.var AA) Av) A8 [] [])] [])]
def K1:Fi:=⟨[AA],[],[],HR⟩
def Dh:List S:=[.cond (.not (.e (.meth (.attr (.var AA) AE) AC [] []))) [.ret (.fn AM [] [])] [.cond (.and [(.e (.var AD)),(.e (.cmp .Lt (.meth (.attr (.var AA) Ak) AF [] []) (.var AD)))]) [.ret (.fn AM [] [])] []],.asg GQ (.meth (.attr (.var AA) Ak) AK [(.var AD)] []),.asg Iv (.meth (.attr (.var AA) Av) AK [] []),.cond (.not (.e (.meth (.var GQ) AC [] []))) [.ret (.fn AM [] [])] [.cond (.or [(.e (.cmp .IsNot (.var GQ) (.attr (.var AA) Ak))),(.e (.cmp .IsNot (.var Iv) (.attr (.var AA) Av)))]) [.ret (.new .Require [(.var GQ),(.attr (.var AA) Av)] [])] [.ret (.var AA)]]]
def JB:Fi:=⟨[AA,AD],[.int 0],[],Dh⟩
def Dp:List S:=[.ret (.meth (.attr (.var AA) Ak) AF [] [])]
def G4:Fi:=⟨[AA],[],[],Dp⟩
def JC:List S:=[.expr (.via .Wrap AV BR [(.var AA),(.var AE)]),.seta (.var AA) ED (.var GR)]
def M5:Fi:=⟨[AA,AE,GR],[.int 1],[],JC⟩
def JD:List S:=[.ret (.new .Const [(.meth (.attr (.var AA) AE) A8 [] [])] [(GR,(.attr (.var AA) ED))])]
def M6:Fi:=⟨[AA],[],[],JD⟩
def EI:List S:=[.ret (.new .Const [(.var Bp)] [(GR,(.attr (.var AA) ED))])]
def HS:Fi:=⟨[AA,Bp],[],[],EI⟩
def EZ:List S:=[.ret (.attr (.var AA) ED)]
def Hz:Fi:=⟨[AA],[],[],EZ⟩
def IJ:List S:=[.casg Mt (.bin .Mod (.bin .Add (.bin .Mult (.var Bz) (.int 26339)) (.int 349525)) (.int 1048576)),.ret (.lcomp (.var A0) A0 (.range [(.int 20)]) [(.e (.cmp .Eq (.bin .Mod (.bin .RShift (.cvar Mt) (.var A0)) (.int 2)) (.int 1)))])]
def MK:Fi:=⟨[Bz],[],[Mt],IJ⟩
def IK:List S:=[.asg BG (.fn DB [(.var Bz)] []),.ret (.tup [(.new .Leaf [(.var BG)] [(En,(.lcomp (.bin .Add (.int 1) (.bin .Mod (.var A0) (.int 3))) A0 (.var BG) []))]),(.var BG),(.int 0)])]
def ML:Fi:=⟨[Bz],[],[],IK⟩
def JE:List S:=[.asg Iw (.lcomp (.var A0) A0 (.cvar Ay) [(.e (.cmp .In (.var A0) (.cvar At)))]),.cond (.e (.cmp .Eq (.var Ac) (.int 5))) [.ret (.tup [(.new .Inter [(.var Be),(.var Ax)] []),(.var Iw),(.var Ac)])] [],.cond (.e (.cmp .Eq (.var Ac) (.int 6))) [.asg Fz (.lcomp (.var A0) A0 (.cvar At) [(.and [(.e (.cmp .Gt (.len (.cvar Ay)) (.int 0))),(.e (.cmp2 .LtE (.idx (.cvar Ay) (.int 0)) .LtE (.var A0) (.idx (.cvar Ay) (.neg 1))))])]),.cond (.e (.cmp .Lt (.len (.var Fz)) (.len (.cvar At)))) [.asg Ax (.new .Filter [(.var Ax),(.setof (.var Fz))] [(Ad,(.int 1))])] [],.ret (.tup [(.new .AndNot [(.var Be),(.var Ax)] []),(.lcomp (.var A0) A0 (.cvar Ay) [(.e (.cmp .NotIn (.var A0) (.cvar At)))]),(.var Ac)])] [],.cond (.e (.cmp .Eq (.var Ac) (.int 7))) [.ret (.tup [(.new .AndMaybe [(.var Be),(.var Ax)] []),(.cvar Ay),(.var Ac)])] [],.cond (.e (.cmp .Eq (.var Ac) (.int 8))) [.ret (.tup [(.new .Require [(.var Be),(.var Ax)] []),(.var Iw),(.var Ac)])] [],.asg PA (.lcomp (.var A0) A0 (.range [(.int 20)]) [(.or [(.e (.cmp .In (.var A0) (.cvar Ay))),(.e (.cmp .In (.var A0) (.cvar At)))])]),.cond (.e (.cmp .Eq (.var Ac) (.int 11))) [.ret (.tup [(.new .DMax [(.var Be),(.var Ax)] []),(.var PA),(.var Ac)])] [],.ret (.tup [(.new .Union [(.var Be),(.var Ax)] []),(.var PA),(.int 4)])]
def M7:Fi:=⟨[Ac,Be,Ay,Ax,At],[],[Ay,At],JE⟩
def JF:List S:=[.cond (.e (.cmp .Eq (.var Ac) (.int 10))) [.asg Aq (.bin .Sub (.int 20) (.bin .Mod (.var DJ) (.int 20))),.ret (.tup [(.new .Inverse [(.var BQ),(.var Aq)] [(DA,(.int 1))]),(.lcomp (.var A0) A0 (.range [(.var Aq)]) [(.e (.cmp .NotIn (.var A0) (.cvar BG)))]),(.var Ac)])] [],.cond (.e (.cmp .Eq (.bin .Mod (.var DJ) (.int 4)) (.int 3))) [.ret (.tup [(.new .Const [(.var BQ)] [(GR,(.int 1))]),(.cvar BG),(.var Ac)])] [],.casg IR (.fn DB [(.var DJ)] []),.cond (.e (.cmp .Eq (.bin .Mod (.var DJ) (.int 4)) (.int 2))) [.ret (.tup [(.new .Filter [(.var BQ),(.setof (.cvar IR))] [(Dq,(.bool true)),(Ad,(.int 1))]),(.lcomp (.var A0) A0 (.cvar BG) [(.e (.cmp .NotIn (.var A0) (.cvar IR)))]),(.var Ac)])] [],.ret (.tup [(.new .Filter [(.var BQ),(.setof (.cvar IR))] [(Ad,(.int 1))]),(.lcomp (.var A0) A0 (.cvar BG) [(.e (.cmp .In (.var A0) (.cvar IR)))]),(.var Ac)])]
def M8:Fi:=⟨[Ac,DJ,BQ,BG],[],[BG,IR],JF⟩
def IL:List S:=[.asg AT .stk,.asg Cq (.int 0),.for Bz (.var Jc) [.asg Ac (.bin .Mod (.var Bz) (.int 12)),.asg DJ (.bin .FloorDiv (.var Bz) (.int 12)),.cond (.and [(.or [(.e (.cmp .Eq (.var Ac) (.int 9))),(.e (.cmp .Eq (.var Ac) (.int 10)))]),(.e (.cmp .Gt (.len (.var AT)) (.int 0)))]) [.unp [(BQ,false),(BG,false),(B9,false)] (.pop (.var AT)),.expr (.append (.var AT) (.fn CQ [(.var Ac),(.var DJ),(.var BQ),(.var BG)] []))] [.cond (.and [(.e (.cmp .Gt (.var Ac) (.int 3))),(.e (.cmp .NotEq (.var Ac) (.int 9))),(.e (.cmp .NotEq (.var Ac) (.int 10))),(.e (.cmp .Gt (.len (.var AT)) (.int 1)))]) [.unp [(Ax,false),(At,false),(B9,false)] (.pop (.var AT)),.unp [(Be,false),(Ay,false),(B9,false)] (.pop (.var AT)),.expr (.append (.var AT) (.fn B6 [(.var Ac),(.var Be),(.var Ay),(.var Ax),(.var At)] []))] [.cond (.e (.cmp .Lt (.var Cq) (.int 3))) [.asg Cq (.bin .Add (.var Cq) (.int 1)),.expr (.append (.var AT) (.fn CB [(.var Bz)] []))] []]]],.cond (.e (.cmp .Eq (.len (.var AT)) (.int 0))) [.expr (.append (.var AT) (.fn CB [(.int 0)] []))] [],.while (.e (.cmp .Gt (.len (.var AT)) (.int 1))) [.unp [(Ax,false),(At,false),(B9,false)] (.pop (.var AT)),.unp [(Be,false),(Ay,false),(B9,false)] (.pop (.var AT)),.expr (.append (.var AT) (.fn B6 [(.int 4),(.var Be),(.var Ay),(.var Ax),(.var At)] []))],.ret (.idx (.var AT) (.int 0))]
def MM:Fi:=⟨[Jc],[],[],IL⟩
def QA:List S:=[.unp [(BQ,false),(BG,false),(Ac,false)] (.fn D7 [(.upto (.var Ix) (.int 6))] []),.asg Eu (.meth (.var BQ) A8 [] []),.cond (.e (.cmp .NotEq (.lall (.var BQ)) (.var BG))) [.ret (.bool false)] [],.for A0 (.var BG) [.cond (.or [(.not (.e (.meth (.var Eu) AC [] []))),(.e (.cmp .NotEq (.meth (.var Eu) AW [] []) (.var A0)))]) [.ret (.bool false)] [],.expr (.meth (.var Eu) Ar [] [])],.cond (.e (.meth (.var Eu) AC [] [])) [.ret (.bool false)] [],.cond (.and [(.e (.cmp .In (.var Ac) (.lst [(.int 4),(.int 5),(.int 6),(.int 7),(.int 8),(.int 10),(.int 11)]))),(.not (.e (.fn Aw [(.var Eu),(.bool false)] [])))]) [.ret (.bool false)] [],.cond (.and [(.e (.cmp .In (.var Ac) (.lst [(.int 0),(.int 5),(.int 6),(.int 7),(.int 8),(.int 10)]))),(.not (.e (.fn Aw [(.var Eu),(.bool true)] [])))]) [.ret (.bool false)] [],.ret (.bool true)]
def M9:Fi:=⟨[Ix],[],[],QA⟩
def g_pre:List S:=[.asg US (.int 0),.asg UH (.var AA)]
def Jk:T:=(.e (.meth (.var UH) AC [] []))
def JG:E:=(.meth (.var UH) AW [] [])
def NA:List S:=[.expr (.meth (.var UH) Ar [] []),.aug US .Add (.int 1),.cond (.e (.cmp .Eq (.var US) (.int 10))) [.asg UH (.meth (.var UH) AK [] []),.asg US (.int 0)] []]
def Q1:List (Nat×Fi):=[(CF,Kq),(Ew,IU),(Dr,F3),(J1,Nr),(AM,KL),(J2,Nt),(Cr,F4),(Bq,DX),(G5,Nu),(Ey,Kr),(DK,IV),(Jd,Qx),(G6,Nv),(CG,F5),(By,Qy),(DS,Qz),(GS,Mz),(BY,I6),(H9,MB),(EK,KM),(BZ,FU),(DE,KN),(GT,PD),(BP,Ec),(Iy,M2),(J3,Nw),(G7,Nx),(Ez,Ks),(DL,IW),(IA,MD),(Iz,M3),(Cz,Ht),(EL,KO),(B0,FV),(DM,IX),(IS,PF),(BD,DF),(B3,Ed),(G8,Kv),(IB,ME),(Cg,HI),(CP,FA),(C0,Hu),(Dt,Jf),(Ch,HJ),(G9,Ny),(CA,D8),(BH,Ct),(F0,Jh),(Gn,KP),(C1,Hv),(B4,EH),(Fm,MF),(Bf,DG),(A3,CR),(DN,IZ),(BR,Nz),(J4,N9),(C2,Hx),(CH,Kw),(Ep,Q0),(BI,F7),(Az,De),(Bm,FW),(Br,Ia),(IC,MG),(Fn,MI),(Dl,G3),(C3,Hy),(Fo,MJ),(Du,Jj),(HA,Ky),(E0,Kz),(DU,GY),(CD,EY),(Ci,HO),(GU,M4),(Bs,Dg),(BA,CZ),(HB,K0),(E1,K1),(DV,JB),(Dm,G4),(I0,M5),(GV,M6),(EE,HS),(C4,Hz),(DB,MK),(CB,ML),(B6,M7),(CQ,M8),(D7,MM)]
def call:Nat->CI
 | 0=>λU U U U U=>False
 | d+1=>λf vs ks H Q=>op (AN f Q1) λi=>ID (call d) i vs ks H Q
end Mine
end
section
namespace Mine
open PySem
theorem dl{a u n:Nat}(h:8*a+u+n<=7900):a<1000:=Nat.lt_of_mul_lt_mul_left (Zr (Yn (Yn (Yz (8*a) u) (Yz _ n)) h) (by decide:7900<8*1000))
theorem dm{a u x y:Nat}(h:8*a+u+24*y<=7900)(k:x<=y):8*a+u+24*x<=7900:=Yn (ZC (aa 24 k) _) h
theorem e8{a u b:Nat}:8*(a+1)+(u+3)+b=8*a+u+b+11:=by
 show 8*a+8+u+3+b=_
 rw[Zl (8*a) 8 u];exact Zl (8*a+u) 11 b
theorem di{a u x y:Nat}(h:8*a+u+24*y<=7900)(k:x+1<=y):8*(a+1)+(u+3)+24*x+12<=7900:=by
 rw[e8];exact Yn (Zu (8*a+u+24*x+23)) (dm (x:=x+1) h k)
theorem dw{a x:Nat}(h:a+x+12<=7900):a+x<=7900:=Yn (Yz _ _) h
theorem d0{a x:Nat}(h:a+x<=7900):a<=7900:=Yn (Yz _ _) h
theorem dc{a x b:Nat}(h:a+24*x+12<=7900)(h':b<=a+12):b+24*x<=7900:=Yn (ZA h' _) (Zl a 12 (24*x)▸h)
theorem dj{a u x:Nat}(h:8*a+u+24*(x+2)<=7900):8*(a+1)+(u+1+3)+24*x+12<=7900:=by
 rw[e8,<- ai _ u 1,Zl _ 1 (24*x)];exact Yn (ZC (by decide:24<=48) (8*a+u+24*x)) h
theorem dk{a u x:Nat}(h:8*(a+1)+(u+3)+x<=7900):8*a+u+x<=7900:=Yn (Yz _ 11) (e8▸h)
theorem sl2{a b n:Nat}(h:a+b+2<=n+1):a<=n:=Yn (Yz _ _) (aW (ZX h))
theorem sr2{a b n:Nat}(h:a+b+2<=n+1):b<=n:=Yn (ZK _ _) (aW (ZX h))
theorem l1{d n:Nat}:d+1<=d+3+n:=Yn (ZC (by decide) d) (Yz _ _)
theorem l2{d n:Nat}:d+2<=d+3+n:=Yn (Zu _) (Yz _ _)
theorem l4{d n:Nat}:d+4<=d+3+(n+1):=ZU (Yz _ _)
theorem m24{x y:Nat}(h:x<=y):24*x<=24*y:=aa 24 h
theorem d3{a:Nat}(h:a+12<=7900):a+3<=7900:=Yn (ZC (by decide) a) h
theorem dv{a u b:Nat}(h:8*a+u+(b+12)<=7900):8*(a+1)+(u+3)+b<=7900:=by rw[e8];exact Yn (Zu (8*a+u+b+11)) h
theorem up{a b c:Nat}(h:b<=c)(k:a+c<=7900):a+b<=7900:=Yn (ZC h _) k
theorem dy{a u b x:Nat}(h:x+12<=b)(k:8*a+u+b<=7900):8*(a+1)+(u+1+3)+x<=7900:=by
 rw[e8,<- ai _ u 1,Zl _ 1 x];exact Yn (ZC h (8*a+u)) k
theorem d2{a u b:Nat}(h:a+u+b+2<=7900):a+(u+1+1)+b<=7900:=Yn (Zo (by rw[Zl (a+u) b 2];rfl)) h
theorem ph2{x a b c n:Nat}(h1:x<=a+b+2)(h2:a+2+(b+2+c)<=n):x+2+c<=n :=
 Yn (ZA (ZA h1 2) c) (Yn (Zo (by rw[<- ai (a+2) (b+2) c];exact congrArg (·+2+c) (Zl a b 2))) h2)
theorem ph1{x a c n:Nat}(h1:x<=a+1)(h2:a+2+c<=n):x+2+c<=n+3:=Yn (ZA (ZA h1 2) c) (Yn (Zo (by rw[Zl a 1 2,Zl (a+2) 1 c])) (Yn (ZU h2) (ZC (by decide:1<=3) n)))
theorem ph0{x c n:Nat}(h:x=1)(h2:c<=n):x+2+c<=n+3:=by rw[h,cf];exact ZA h2 3
theorem m3{i:Nat}:3*i<=3*(i+1):=aa 3 (Zu i)
theorem du{a u:Nat}:8*(a+1)+(u+1)<=8*a+u+12:=Yn (Zo (congrArg (·+1) (Zl (8*a) 8 u))) (ZC (by decide:9<=12) (8*a+u))
theorem d4{a u b:Nat}(h:a+u+b+3<=7900):a+(u+1+1+1)+b<=7900:=Yn (Zo (by rw[Zl (a+u) b 3];rfl)) h
theorem EU{r x:Int}(h:r<=0)(k:0<=x):¬ x<r:=aq.mpr (Y3 h k)
theorem Q2{r m:Int}(h:r<=0)(k:0<=m):r-m<=0:=Y3 (cN r k) h
theorem be{x y:Int}(h:(x==y)=true):x=y:=eq_of_beq h
theorem bf{x y:Int}(h:(x==y)=false):x≠y:=ne_of_beq_false h
theorem bn{x y:Int}(h:(x !=y)=true):x≠y:=bne_iff_ne.mp h
theorem be'{x y:Int}(h:(x !=y)=false):x=y:=ZM λz=>by rw[bne_iff_ne.mpr z] at h;cases h
theorem mc{α:Type}{P:α->Prop}{a x:α}{l:List α}(h:x∈a::l)(k:P a)(q:x∈l->P x):P x:=(cM.mp h).elim (λe=>e▸k) q
theorem O2{n e:Nat}(h:n+1<=e):∃e',e=e'+1:=⟨e-1,(Nat.succ_pred_eq_of_pos (ZB (bO n) h)).symm⟩
theorem sl1{a b n:Nat}(h:a+b+1<=n+1):a<=n:=Yn (Yz _ _) (ZX h)
theorem sr1{a b n:Nat}(h:a+b+1<=n+1):b<=n:=Yn (ZK _ _) (ZX h)
theorem sl0{a b n:Nat}(h:a+b+1<=n):a<=n:=Yn (Yn (Yz _ _) (Zu _)) h
theorem sr0{a b n:Nat}(h:a+b+1<=n):b<=n:=Yn (Yn (ZK _ _) (Zu _)) h
theorem tnl{a b:Int}(h:a<b)(hb:0<b):a.toNat<b.toNat:=(Int.toNat_lt_toNat hb).mpr h
theorem ms0{x x1:Int}(h:x<x1)(h1:x1<1000):(1000-x1).toNat<(1000-x).toNat:=tnl (ac h _) (Z2 (bP h h1))
theorem ms1{x y x1:Int}(h:x<x1)(hx:x1<1000)(hy:y<1000):(2000-x1-y).toNat<(2000-x-y).toNat:=tnl (gH (ac h _) _) (Z2 (bP hy (ac (bP h hx) 2000)))
theorem ms2{x y y1:Int}(h:y<y1)(hy:y1<1000)(hx:x<1000):(2000-x-y1).toNat<(2000-x-y).toNat:=tnl (ac h _) (Z2 (bP (bP h hy) (ac hx 2000)))
theorem b2{P:Nat->Nat->Prop}(h:∀x<4,∀y<4,P x y){x y:Nat}(hx:x<=3)(hy:y<=3):P x y:=h x (aK hx) y (aK hy)
theorem AJ{P:Prop}(h:∀G:Prop,(P->G)->G):P:=h P id
section
variable{a b c d e f g i l:Prop}{G:Prop}
theorem Am(h:a/\b)(k:a->b->G):G:=k h.1 h.2
theorem CV(h:a/\b/\c)(k:a->b->c->G):G:=Am h.2 (k h.1)
theorem IM(h:a/\b/\c/\d)(k:a->b->c->d->G):G:=CV h.2 (k h.1)
theorem Nf(h:a/\b/\c/\d/\e)(k:a->b->c->d->e->G):G:=IM h.2 (k h.1)
theorem x06(h:a/\b/\c/\d/\e/\f)(k:a->b->c->d->e->f->G):G:=Nf h.2 (k h.1)
theorem x07(h:a/\b/\c/\d/\e/\f/\g)(k:a->b->c->d->e->f->g->G):G:=x06 h.2 (k h.1)
theorem Vm(h:a/\b/\c/\d/\e/\f/\g/\i)(k:a->b->c->d->e->f->g->i->G):G:=x07 h.2 (k h.1)
theorem x09(h:a/\b/\c/\d/\e/\f/\g/\i/\l)(k:a->b->c->d->e->f->g->i->l->G):G:=Vm h.2 (k h.1)
end
section
universe u0
variable{α0:Sort u0}{a b c d e f g i l:α0->Prop}{G:Prop}
theorem BB(h:∃s,a s)(k:∀s,a s->G):G:=h.elim λs h=>k s h
theorem AR(h:∃s,a s/\b s)(k:∀s,a s->b s->G):G:=h.elim λs h=>Am h (k s)
theorem Es(h:∃s,a s/\b s/\c s)(k:∀s,a s->b s->c s->G):G:=h.elim λs h=>CV h (k s)
theorem x14(h:∃s,a s/\b s/\c s/\d s)(k:∀s,a s->b s->c s->d s->G):G:=h.elim λs h=>IM h (k s)
theorem x15(h:∃s,a s/\b s/\c s/\d s/\e s)(k:∀s,a s->b s->c s->d s->e s->G):G:=h.elim λs h=>Nf h (k s)
theorem x16(h:∃s,a s/\b s/\c s/\d s/\e s/\f s)(k:∀s,a s->b s->c s->d s->e s->f s->G):G:=h.elim λs h=>x06 h (k s)
theorem x17(h:∃s,a s/\b s/\c s/\d s/\e s/\f s/\g s)(k:∀s,a s->b s->c s->d s->e s->f s->g s->G):G:=h.elim λs h=>x07 h (k s)
theorem x18(h:∃s,a s/\b s/\c s/\d s/\e s/\f s/\g s/\i s)(k:∀s,a s->b s->c s->d s->e s->f s->g s->i s->G):G:=h.elim λs h=>Vm h (k s)
end
section
universe u0 u1
variable{α0:Sort u0}{α1:Sort u1}{a b c d e f g i l:α0->α1->Prop}{G:Prop}
theorem HT(h:∃s t,a s t)(k:∀s t,a s t->G):G:=h.elim λs h=>BB h (k s)
theorem Gs(h:∃s t,a s t/\b s t)(k:∀s t,a s t->b s t->G):G:=h.elim λs h=>AR h (k s)
theorem Dy(h:∃s t,a s t/\b s t/\c s t)(k:∀s t,a s t->b s t->c s t->G):G:=h.elim λs h=>Es h (k s)
theorem Q3(h:∃s t,a s t/\b s t/\c s t/\d s t)(k:∀s t,a s t->b s t->c s t->d s t->G):G:=h.elim λs h=>x14 h (k s)
theorem Vn(h:∃s t,a s t/\b s t/\c s t/\d s t/\e s t)(k:∀s t,a s t->b s t->c s t->d s t->e s t->G):G:=h.elim λs h=>x15 h (k s)
theorem x26(h:∃s t,a s t/\b s t/\c s t/\d s t/\e s t/\f s t)(k:∀s t,a s t->b s t->c s t->d s t->e s t->f s t->G):G:=h.elim λs h=>x16 h (k s)
theorem x27(h:∃s t,a s t/\b s t/\c s t/\d s t/\e s t/\f s t/\g s t)(k:∀s t,a s t->b s t->c s t->d s t->e s t->f s t->g s t->G):G:=h.elim λs h=>x17 h (k s)
theorem x28(h:∃s t,a s t/\b s t/\c s t/\d s t/\e s t/\f s t/\g s t/\i s t)(k:∀s t,a s t->b s t->c s t->d s t->e s t->f s t->g s t->i s t->G):G:=h.elim λs h=>x18 h (k s)
end
section
universe u0 u1 u2
variable{α0:Sort u0}{α1:Sort u1}{α2:Sort u2}{a b c d e f g i:α0->α1->α2->Prop}{G:Prop}
theorem FY(h:∃s t u,a s t u)(k:∀s t u,a s t u->G):G:=h.elim λs h=>HT h (k s)
theorem NB(h:∃s t u,a s t u/\b s t u)(k:∀s t u,a s t u->b s t u->G):G:=h.elim λs h=>Gs h (k s)
theorem x33(h:∃s t u,a s t u/\b s t u/\c s t u)(k:∀s t u,a s t u->b s t u->c s t u->G):G:=h.elim λs h=>Dy h (k s)
theorem O3(h:∃s t u,a s t u/\b s t u/\c s t u/\d s t u)(k:∀s t u,a s t u->b s t u->c s t u->d s t u->G):G:=h.elim λs h=>Q3 h (k s)
theorem x35(h:∃s t u,a s t u/\b s t u/\c s t u/\d s t u/\e s t u)(k:∀s t u,a s t u->b s t u->c s t u->d s t u->e s t u->G):G:=h.elim λs h=>Vn h (k s)
theorem x36(h:∃s t u,a s t u/\b s t u/\c s t u/\d s t u/\e s t u/\f s t u)(k:∀s t u,a s t u->b s t u->c s t u->d s t u->e s t u->f s t u->G):G:=h.elim λs h=>x26 h (k s)
theorem x37(h:∃s t u,a s t u/\b s t u/\c s t u/\d s t u/\e s t u/\f s t u/\g s t u)(k:∀s t u,a s t u->b s t u->c s t u->d s t u->e s t u->f s t u->g s t u->G):G:=h.elim λs h=>x27 h (k s)
theorem x38(h:∃s t u,a s t u/\b s t u/\c s t u/\d s t u/\e s t u/\f s t u/\g s t u/\i s t u)(k:∀s t u,a s t u->b s t u->c s t u->d s t u->e s t u->f s t u->g s t u->i s t u->G):G:=h.elim λs h=>x28 h (k s)
end
section
universe u0 u1 u2 u3
variable{α0:Sort u0}{α1:Sort u1}{α2:Sort u2}{α3:Sort u3}{a b c d e f g:α0->α1->α2->α3->Prop}{G:Prop}
theorem HU(h:∃s t u v,a s t u v)(k:∀s t u v,a s t u v->G):G:=h.elim λs h=>FY h (k s)
theorem x42(h:∃s t u v,a s t u v/\b s t u v)(k:∀s t u v,a s t u v->b s t u v->G):G:=h.elim λs h=>NB h (k s)
theorem x43(h:∃s t u v,a s t u v/\b s t u v/\c s t u v)(k:∀s t u v,a s t u v->b s t u v->c s t u v->G):G:=h.elim λs h=>x33 h (k s)
theorem x44(h:∃s t u v,a s t u v/\b s t u v/\c s t u v/\d s t u v)(k:∀s t u v,a s t u v->b s t u v->c s t u v->d s t u v->G):G:=h.elim λs h=>O3 h (k s)
theorem x45(h:∃s t u v,a s t u v/\b s t u v/\c s t u v/\d s t u v/\e s t u v)(k:∀s t u v,a s t u v->b s t u v->c s t u v->d s t u v->e s t u v->G):G:=h.elim λs h=>x35 h (k s)
theorem x46(h:∃s t u v,a s t u v/\b s t u v/\c s t u v/\d s t u v/\e s t u v/\f s t u v)(k:∀s t u v,a s t u v->b s t u v->c s t u v->d s t u v->e s t u v->f s t u v->G):G:=h.elim λs h=>x36 h (k s)
theorem x47(h:∃s t u v,a s t u v/\b s t u v/\c s t u v/\d s t u v/\e s t u v/\f s t u v/\g s t u v)(k:∀s t u v,a s t u v->b s t u v->c s t u v->d s t u v->e s t u v->f s t u v->g s t u v->G):G:=h.elim λs h=>x37 h (k s)
end
section
universe u0 u1 u2 u3 u4
variable{α0:Sort u0}{α1:Sort u1}{α2:Sort u2}{α3:Sort u3}{α4:Sort u4}{a b c d e f:α0->α1->α2->α3->α4->Prop}{G:Prop}
theorem x51(h:∃s t u v w,a s t u v w)(k:∀s t u v w,a s t u v w->G):G:=h.elim λs h=>HU h (k s)
theorem x53(h:∃s t u v w,a s t u v w/\b s t u v w/\c s t u v w)(k:∀s t u v w,a s t u v w->b s t u v w->c s t u v w->G):G:=h.elim λs h=>x43 h (k s)
theorem x54(h:∃s t u v w,a s t u v w/\b s t u v w/\c s t u v w/\d s t u v w)(k:∀s t u v w,a s t u v w->b s t u v w->c s t u v w->d s t u v w->G):G:=h.elim λs h=>x44 h (k s)
theorem x55(h:∃s t u v w,a s t u v w/\b s t u v w/\c s t u v w/\d s t u v w/\e s t u v w)(k:∀s t u v w,a s t u v w->b s t u v w->c s t u v w->d s t u v w->e s t u v w->G):G:=h.elim λs h=>x45 h (k s)
theorem x56(h:∃s t u v w,a s t u v w/\b s t u v w/\c s t u v w/\d s t u v w/\e s t u v w/\f s t u v w)(k:∀s t u v w,a s t u v w->b s t u v w->c s t u v w->d s t u v w->e s t u v w->f s t u v w->G):G:=h.elim λs h=>x46 h (k s)
end
section
universe u0 u1 u2 u3 u4 u5
variable{α0:Sort u0}{α1:Sort u1}{α2:Sort u2}{α3:Sort u3}{α4:Sort u4}{α5:Sort u5}{a b c d e:α0->α1->α2->α3->α4->α5->Prop}{G:Prop}
theorem x61(h:∃s t u v w x,a s t u v w x)(k:∀s t u v w x,a s t u v w x->G):G:=h.elim λs h=>x51 h (k s)
theorem x63(h:∃s t u v w x,a s t u v w x/\b s t u v w x/\c s t u v w x)(k:∀s t u v w x,a s t u v w x->b s t u v w x->c s t u v w x->G):G:=h.elim λs h=>x53 h (k s)
theorem x64(h:∃s t u v w x,a s t u v w x/\b s t u v w x/\c s t u v w x/\d s t u v w x)(k:∀s t u v w x,a s t u v w x->b s t u v w x->c s t u v w x->d s t u v w x->G):G:=h.elim λs h=>x54 h (k s)
end
section
universe u0 u1 u2 u3 u4 u5 u6
variable{α0:Sort u0}{α1:Sort u1}{α2:Sort u2}{α3:Sort u3}{α4:Sort u4}{α5:Sort u5}{α6:Sort u6}{a b c d:α0->α1->α2->α3->α4->α5->α6->Prop}{G:Prop}
theorem x74(h:∃s t u v w x y,a s t u v w x y/\b s t u v w x y/\c s t u v w x y/\d s t u v w x y)(k:∀s t u v w x y,a s t u v w x y->b s t u v w x y->c s t u v w x y->d s t u v w x y->G):G:=h.elim λs h=>x64 h (k s)
end
section
universe u0 u1 u2 u3 u4 u5 u6 u7
variable{α0:Sort u0}{α1:Sort u1}{α2:Sort u2}{α3:Sort u3}{α4:Sort u4}{α5:Sort u5}{α6:Sort u6}{α7:Sort u7}{a b c:α0->α1->α2->α3->α4->α5->α6->α7->Prop}{G:Prop}
end
theorem zN.{u}{α:Type u}{a:α}{G:Prop}(h:none=some a):G:=nomatch h
theorem zS.{u}{α:Type u}{a:α}{G:Prop}(h:some a=none):G:=nomatch h
theorem zT{G:Prop}(h:false=true):G:=nomatch h
theorem zF{G:Prop}(h:true=false):G:=nomatch h
theorem nS.{u}{α:Type u}{x:Option α}{a:α}{G:Prop}(h:x=none)(e:x=some a):G:=zN (h.symm.trans e)
theorem sN.{u}{α:Type u}{x:Option α}{a:α}{G:Prop}(h:x=some a)(e:x=none):G:=zN (e.symm.trans h)
theorem fT{x:Bool}{G:Prop}(h:x=false)(e:x=true):G:=zT (h.symm.trans e)
theorem tG{x:Bool}{G:Prop}(h:x=true)(e:x=false):G:=zT (e.symm.trans h)
theorem oCs.{u}{α:Type u}{G:Prop}(x:Option α)(h:x=none->G)(k:∀a,x=some a->G):G:=by
 cases x
 ·exact h rfl
 ·exact k _ rfl
theorem UJ{G:Prop}(x:Bool)(h:x=true->G)(k:x=false->G):G:=by
 cases x
 ·exact k rfl
 ·exact h rfl
theorem lCs.{u}{α:Type u}{G:Prop}(x:List α)(h:x=[]->G)(k:∀a r,x=a::r->G):G:=by
 cases x
 ·exact h rfl
 ·exact k _ _ rfl
theorem mcP.{u}{α:Type u}{a b:α}{l:List α}(h:a∈b::l):a=b\/a∈l:=cM.mp h
theorem msP.{u}{α:Type u}{a b:α}(h:a∈[b]):a=b:=gz.mp h
theorem maP.{u}{α:Type u}{a:α}{l r:List α}(h:a∈l++r):a∈l\/a∈r:=List.mem_append.mp h
theorem ncP.{u}{α:Type u}{a:α}{l:List α}(h:(a::l).Nodup):a∉l/\l.Nodup:=List.nodup_cons.mp h
theorem ncR.{u}{α:Type u}{a:α}{l:List α}(h:a∉l/\l.Nodup):(a::l).Nodup:=List.nodup_cons.mpr h
theorem laP.{u}{α:Type u}{p:α->Bool}{l:List α}(h:l.all p=true):∀x∈l,p x=true:=List.all_eq_true.mp h
theorem mmP.{u,v} {α:Type u} {β:Type v} {f:α->β} {l:List α} {b:β} (h:b∈l.map f):∃a,a∈l/\f a=b:=fV.mp h
theorem mfP.{u}{α:Type u}{p:α->Bool}{l:List α}{a:α}(h:a∈l.filter p):a∈l/\p a=true:=Zi.mp h
theorem UU{a b:Bool}(h:(a||b)=true):a=true\/b=true:=Bool.or_eq_true_iff.mp h
theorem Ng{a b:Nat}(h:a<=b):¬ b<a:=bu.mpr h
theorem ozA{a b:Nat}(e:a=b)(h:a<=1000):b<=16777216:=e▸Yn h (by decide)
theorem ozB{a b:Nat}(e:a=b)(h:a<=1000):(b:Int)<2 ^ 63:=e▸aQ (aT.mpr h) (by decide)
theorem ozD{n l i:Nat}(e:n=l-i)(h:i<l):l-(i+1)<n:=e▸eH h (aG i)
theorem ozE{i l:Nat}(h:i<=l)(k:¬ i<l):i=l:=aY h (bu.mp k)
theorem ozF{a u:Nat}(h:8*a+u<=7900):u+64<9900:=Zr (ZA (Yn (ZK _ _) h) 64) (by decide)
theorem ozH{y v p m:Nat}(e:v=y)(h:v<=p)(k:m=p):y<=m:=k▸e▸h
theorem ozI{a b:Nat}(e:a=b)(h:a<=40):b<=1000:=e▸Yn h (by decide)
theorem ozJ{i a n:Nat}(e:a=n)(h:i<n):i<a:=e▸h
theorem ozK{b:Int}(h:0<=b/\b<=1000):b.natAbs<=1000000:=aT.mp ((Int.natAbs_of_nonneg h.1).symm▸Y3 h.2 (by decide))
theorem ozL{r lo x n:Int}(k:lo<=x/\x<n)(h:r<=n-(x+1)):r+1<=n-lo:=Y3 (eR (Int.sub_sub n x 1▸h)) (Int.sub_le_sub_left k.1 n)
theorem ozN{j:Int}{n:Nat}(h:0<=j)(k:j.toNat<n)(l:n<=1000):j<2 ^ 63:=aQ ((eJ h)▸aT.mpr (Yn (ZY k) l)) (by decide)
theorem ozO{v x:Nat}{j:Int}(e:v=x)(h:-(v:Int)<=j):-(x:Int)<=j:=e▸h
theorem ozP{v:Nat}{j:Int}(h:-(v:Int)<=j)(l:v<=1000):-2 ^ 63<=j:=Y3 (Y3 (by decide) (Int.neg_le_neg (aT.mpr l))) h
theorem ozQ{a b:Nat}(e:a=b)(h:a<=1000):b+1<=16777216:=e▸Yn (ZU h) (by decide)
theorem ozR{a b:Nat}(e:a=b)(h:b<=1000):a+1<4096:=e▸Zr (ZU h) (by decide)
theorem ozS{a b:Nat}(e:a<=b)(h:b<=1000):a<4096:=Zr (Yn e h) (by decide)
theorem ozU{a r s b:Nat}(h:a+(r+1)<=s)(k:s<b):a+1<b:=Zr (Yn (ZC (ZU (Zp _)) _) h) k
theorem ozV{a r s:Nat}(h:a+(r+1)<=s):a+1+r<=s:=Yn (Zo (Zl a 1 r)) h
theorem ocA{a u b v:Nat}(h:8*a+u<=2412)(k:8*b+v<=8*(a+1)+(u+3)+12):8*b+v+24*199<=7900:=Yn (ZA (Yn k (Yn (Zo (e8 (b:=12))) (ZA h 23))) _) (by decide)
theorem ocB{a u z:Nat}(h:8*a+u<=2412)(k:z<=24):8*(a+1)+(u+3)+24*(199+3+z)+2<=7900:=Yn (ZA (Yn (Zo e8) (ZA (bG h (aa 24 (ZC k 202))) 11)) 2) (by decide)
theorem ozX{x:Int}(h:0<20-x/\20-x<=20):0<(1:Int)/\-1000<=(0:Int)/\(0:Int)<=1000/\-1000<=20-x/\20-x-0<=1000/\(1:Int)<=1000:=⟨by decide,by decide,by decide,Y3 (by decide) (ZZ h.1),Y3 (cN _ (ZP 0)) (Y3 h.2 (by decide)),by decide⟩
theorem smI{x:Int}(h:-1000<=x)(k:x<=5000):-2 ^ 63<=x/\x<2 ^ 63:=⟨Y3 (by decide) h,aQ k (by decide)⟩
theorem mxI{i j:Int}:(if j > i then j else i)=max i j:=by
 rw[Int.max_def];by_cases z:i<=j
 ·rw[if_pos z];by_cases q:j > i
  ·exact if_pos q
  ·rw[if_neg q];exact eC z (aq.mp q)
 ·rw[if_neg z];exact if_neg λq=>z (ZZ q)
theorem mnI{i j:Int}:(if j<i then j else i)=min i j:=by
 rw[Int.min_def];by_cases z:i<=j
 ·rw[if_pos z];exact if_neg (aq.mpr z)
 ·rw[if_neg z];exact if_pos (cR.mp z)
theorem lnI{x y:Int}(h:x<=y)(k:x≠y):x<y:=dz.mpr ⟨h,k⟩
section
set_option genInjectivity false
noncomputable abbrev D:=Int->Option Int
set_option genCtorIdx true in
inductive BK
 | uni|dm|inter|anot|maybe
inductive UK
 | filt (sa:Nat) (xs:List Int) (ex:Bool) (bo:Int)
 | inv (ma:Nat) (lim wt id:Int)
 | con (sc:Int)
inductive Tr
 | null (a:Nat)
 | leaf (a la wa i:Nat) (ds:List (Int×Int))
 | bin (k:BK) (a:Nat) (A B:Tr)
 | una (k:UK) (a:Nat) (A:Tr)
 | req (a i:Nat) (A B:Tr)
noncomputable def Jl(d:Int):List (Int×Int)->Option Int
 | []=>none
 | p::r=>if p.1=d then some p.2 else Jl d r
noncomputable def Rz:Option Int->Option Int->Option Int
 | none,o=>o
 | some s,none=>some s
 | some s,some t=>some (s+t)
noncomputable def SA(o:Option Int)(p:Option Int):Option Int:=o.bind λU=>p
noncomputable def dU(A B:D):D:=λd=>Rz (A d) (B d)
def dI(A B:D):D:=λd=>SA (A d) (SA (B d) (Rz (A d) (B d)))
noncomputable def dN(A B:D):D:=λd=>if B d=none then A d else none
noncomputable def dM(A _B:D):D:=A
def dR(A B:D):D:=λd=>SA (B d) (A d)
noncomputable def keep(xs:List Int)(ex:Bool)(d:Int):Bool:=xs.contains d !=ex
def dF(xs:List Int)(ex:Bool)(bo:Int)(A:D):D:=λd=>if keep xs ex d=true then(A d).map (·*bo) else none
noncomputable def dV(lim wt id:Int)(A:D):D:=λd=>if id<=d/\d<lim/\A d=none then some wt else none
noncomputable def dC(sc:Int)(A:D):D:=λd=>(A d).map λU=>sc
def dB:BK->D->D->D
 | .uni=>dU|.dm=>dU|.inter=>dI|.anot=>dN|.maybe=>dM
def dA:UK->D->D
 | .filt _ xs ex bo=>dF xs ex bo
 | .inv _ lim wt id=>dV lim wt id
 | .con sc=>dC sc
noncomputable def frm(A:D)(y:Int):D:=λd=>if y<=d then A d else none
def Ag(A:D):Prop:=∃d,A d≠none
def Hd(A:D)(x:Int):Prop:=A x≠none/\∀d,A d≠none->x<=d
def KX(A:D)(b:Bool):Prop:=b=true<->Ag A
def Bd(A:D):Prop:=∀d,A d≠none->0<=d/\d<1000
def Tr.den:Tr->D
 | .null _=>λU=>none
 | .leaf _ _ _ i ds=>λd=>Jl d (ds.drop i)
 | .bin k _ A B=>dB k A.den B.den
 | .una k _ A=>dA k A.den
 | .req _ _ A B=>dR A.den B.den
def al:Tr->Int->Prop
 | .null _=>λU=>False
 | .leaf _ _ _ _ ds=>λd=>Jl d ds≠none
 | .bin k _ A B=>λd=>match k with
  | .inter=>al A d/\al B d
  | _=>dB k A.den B.den d≠none
 | .una k _ A=>λd=>match k with
  | .filt _ xs ex _=>al A d/\keep xs ex d=true
  | .inv _ lim wt id=>dV lim wt id A.den d≠none
  | .con _=>al A d
 | .req _ _ A B=>λd=>al A d/\al B d
noncomputable def Tr.addr:Tr->Nat
 | .null a|.leaf a _ _ _ _|.bin _ a _ _|.una _ a _|.req a _ _ _=>a
noncomputable def bC:BK->Cl
 | .uni=>.Union|.dm=>.DMax|.inter=>.Inter|.anot=>.AndNot|.maybe=>.AndMaybe
noncomputable def uC:UK->Cl
 | .filt _ _ _ _=>.Filter|.inv _ _ _ _=>.Inverse|.con _=>.Const
def Tr.cl:Tr->Cl
 | .null _=>.Null|.leaf _ _ _ _ _=>.Leaf|.bin k _ _ _=>bC k|.una k _ _=>uC k|.req _ _ _ _=>.Require
def idf:Option V->As
 | none=>[]
 | some v=>[(Au,v)]
def bF(k:BK)(p q:Nat)(id:Option V):As:=(Ak,.ref p)::(Av,.ref q)::match k with
 | .dm=>(B8,.int 0)::idf id
 | _=>idf id
def Ea(la wa i:Nat):As:=[(Bg,.ref la),(Cd,.ref wa),(Bo,.none),(Fx,.none),(KK,.int i),(Fy,.none),(Eo,.none),(KW,.none),(FT,.none)]
def uF(p:Nat):UK->As
 | .filt sa _ ex bo=>[(AE,.ref p),(Ad,.int bo),(Bg,.ref sa),(Bc,.bool ex)]
 | .inv ma lim wt id=>[(AE,.ref p),(Ad,.int 1),(Aq,.int lim),(BX,.int wt),(Af,.ref ma),(Au,.int id)]
 | .con sc=>[(AE,.ref p),(Ad,.int 1),(ED,.int sc)]
def reqF(p q i:Nat):As:=[(Ak,.ref p),(Av,.ref q),(AE,.ref i),(Ad,.int 1)]
noncomputable def Q4:BK->Bool
 | .uni|.dm=>true
 | _=>false
def GZ(k:BK)(A:D):Option V->Prop
 | none=>True
 | some .none=>Q4 k=true
 | some (.int x)=>Q4 k=true/\Hd A x
 | _=>False
def uX(H:MH):UK->Prop
 | .filt sa xs _ _=>H sa=some (.set xs)
 | .inv ma _ _ _=>H ma=some (.tup [])
 | .con _=>True
def A4(H:MH):Tr->Prop
 | .null a=>H a=some (.inst .Null [])
 | .leaf a la wa i ds=>H a=some (.inst .Leaf (Ea la wa i))/\H la=some (.list (ds.map λp=>.int p.1))/\H wa=some (.list (ds.map λp=>.int p.2))
 | .bin k a A B=>(∃id,H a=some (.inst (bC k) (bF k A.addr B.addr id))/\GZ k (dB k A.den B.den) id)/\A4 H A/\A4 H B
 | .una k a A=>H a=some (.inst (uC k) (uF A.addr k))/\uX H k/\A4 H A
 | .req a i A B=>H a=some (.inst .Require (reqF A.addr B.addr i))/\H i=some (.inst .Inter (bF .inter A.addr B.addr none))/\A4 H A/\A4 H B
noncomputable def fp:Tr->List Nat
 | .null _=>[]
 | .leaf a _ _ _ _=>[a]
 | .bin _ a A B=>a::(fp A++fp B)
 | .una _ a A=>a::fp A
 | .req a i A B=>a::i::(fp A++fp B)
noncomputable def sz:Tr->Nat
 | .null _|.leaf _ _ _ _ _=>1
 | .bin _ _ A B=>sz A+sz B+1
 | .una _ _ A=>sz A+1
 | .req _ _ A B=>sz A+sz B+2
noncomputable def sc:Tr->Nat
 | .null _|.leaf _ _ _ _ _=>0
 | .bin k _ A B=>match k with
  | .maybe=>max (if sc A<=1 then 1 else 3) (if sc B=0 then 1 else max (sc B) 2)
  | _=>max (max (sc A) (sc B)) 1
 | .una _ _ A=>sc A
 | .req _ _ A B=>max (max (sc A) 1) (if sc B<=1 then 1 else 3)
def Al(A B:D):Prop:=∀x y,Hd A x->Hd B y->x=y
def RN(A B:D):Prop:=Ag A->∀d,B d≠none->∃e,d<=e/\A e≠none
def Rq:BK->D->D->Prop
 | .uni|.dm=>λU U=>True
 | .inter=>Al
 | .anot=>λA B=>(∀x,Hd A x->∀d,B d≠none->x<d)/\RN A B
 | .maybe=>λU U=>True
def okV(lim id:Int)(A:D):Prop:=(∀x,Hd A x->id<=x)/\(id<lim->A id=none)
def okU:UK->D->Prop
 | .filt _ xs ex bo=>λA=>(0<=bo/\bo<=1000/\xs.length<=1000)/\∀x,Hd A x->keep xs ex x=true
 | .inv _ lim wt id=>λA=>(0<=wt/\0<=id/\lim<=50)/\okV lim id A
 | .con sc=>λU=>0<=sc
noncomputable def Dz(i:Nat)(ds:List (Int×Int)):Prop:=ds.Pairwise (λp q=>p.1<q.1)/\(∀p∈ds,0<=p.1/\p.1<50/\0<=p.2)/\i<=ds.length/\ds.length<=1000
def Ok:Tr->Prop
 | .null _=>True
 | .leaf _ _ _ i ds=>Dz i ds
 | .bin k _ A B=>Ok A/\Ok B/\Rq k A.den B.den
 | .una k _ A=>Ok A/\okU k A.den
 | .req _ _ A B=>Ok A/\Ok B/\Al A.den B.den
noncomputable def ro:O->Bool
 | .inst .Null _|.list _|.set _|.tup _|.txt=>true
 | _=>false
structure An(H H':MH)(F:List Nat):Prop where
 kp:∀b o,H b=some o->b∉F\/ro o=true->H' b=some o
 dm:∀b,H' b=none->H b=none
structure AG(H:MH)(T:Tr):Prop where
 rep:A4 H T
 ok:Ok T
 nd:(fp T).Nodup
structure Qt(H H':MH)(F:List Nat):Prop where
 fr:An H H' F
 rp:∀S,A4 H S->A4 H' S
structure Upd(H:MH)(T:Tr)(H':MH)(T':Tr):Prop where
 ad:T'.addr=T.addr
 fp:fp T'=fp T
 sz:sz T'=sz T
 sc:sc T'=sc T
 ok:Ok T'
 rep:A4 H' T'
 fr:An H H' (Mine.fp T)
 al:∀d,al T' d->al T d
 cl:T'.cl=T.cl
end
theorem AH(H:MH)(a:Nat)(o:O):H.put a o a=some o:=by show cond (Y4 a a) _ _=_;rw[cD];rfl
theorem Ab(H:MH){a b:Nat}(o:O)(h:b≠a):H.put a o b=H b:=by
 show cond (Y4 b a) _ _=_
 exact(show Y4 b a=false from by cases q:Y4 b a with
  | false=>rfl
  | true=>exact absurd (Y6 q) h)▸rfl
theorem Hd.uniq{A:D}{x y}(h:Hd A x)(k:Hd A y):x=y:=eC (h.2 _ k.1) (k.2 _ h.1)
theorem Hd.act{A:D}{x}(h:Hd A x):Ag A:=⟨x,h.1⟩
theorem OA{A:D}(b:Bd A)(h:Ag A):∃x,Hd A x:=by
 refine BB h λd hs=>?_;have key:∀n:Nat,∀d,A d≠none->d<=n->∃x,Hd A x:=by
  intro n
  induction n with
  | zero=>exact λd hs hle=>⟨d,hs,λe ht=>Y3 hle (b _ ht).1⟩
  | succ n ih =>
   intro d hs hle;by_cases q:∃e,A e≠none/\e<=n
   ·refine AR q λe ht hle=>?_;exact ih e ht hle
   ·exact⟨d,hs,λe ht=>Y3 hle (cR.mp λz=>q ⟨e,ht,z⟩)⟩
 exact key d.toNat d hs (Int.self_le_toNat d)
theorem FE{A:D}{y d}:frm A y d≠none<->y<=d/\A d≠none:=by
 unfold frm;split
 ·exact⟨λh=>⟨by assumption,h⟩,λh=>h.2⟩
 ·exact⟨λh=>absurd rfl h,λh=>absurd h.1 (by assumption)⟩
theorem BV{A:D}{y d}(h:y<=d):frm A y d=A d:=if_pos h
theorem Fu{A B:D}{y}(h:∀d,y<=d->B d=A d)(k:∀d,B d≠none->y<=d):B=frm A y:=by
 funext d;unfold frm;split
 ·exact h d (by assumption)
 ·exact ZM λz=>absurd (k d z) (by assumption)
theorem Fv{A:D}{x y}(h:Hd A x)(q:y<=x):frm A y=A:=(Fu (λU U=>rfl) λd e=>Y3 q (h.2 _ e)).symm
theorem UW{A:D}{x y}(q:x<=y):frm (frm A x) y=frm A y:=by
 funext d;unfold frm;split
 ·exact if_pos (Y3 q (by assumption))
 ·rfl
theorem OC{A:D}{x}(h:¬ Ag A):frm A x=A:=(Fu (λU U=>rfl) λd e=>absurd ⟨d,e⟩ h).symm
theorem Hd.frm_ge{A:D}{x y}(h:Hd (Mine.frm A y) x):y<=x:=(FE.mp h.1).1
theorem KX.t{A:D}(h:Ag A):KX A true:=⟨λU=>h,λU=>rfl⟩
theorem KX.f{A:D}(h:¬ Ag A):KX A false:=by constructor<;>intro z;exact zT z;exact absurd z h
theorem KX.pos{A:D}(h:KX A true):Ag A:=h.mp rfl
theorem KX.neg{A:D}(h:KX A false):¬ Ag A:=λz=>nomatch h.mpr z
theorem QB{p q:Option Int}:Rz p q≠none<->p≠none\/q≠none:=by cases p<;>cases q<;>simp[Rz]
theorem NC{p q:Option Int}:SA p q≠none<->p≠none/\q≠none:=by cases p<;>simp[SA]
theorem IN{A B:D}{d}:dU A B d≠none<->A d≠none\/B d≠none:=QB
theorem Gu{A B:D}{d}:dI A B d≠none<->A d≠none/\B d≠none:=by
 unfold dI;rw[NC,NC,QB];exact⟨λh=>⟨h.1,h.2.1⟩,λh=>⟨h.1,h.2,.inl h.1⟩⟩
theorem Gv{A B:D}{d}:dR A B d≠none<->A d≠none/\B d≠none:=by unfold dR;rw[NC];exact And.comm
theorem KB{A B:D}{d}:dN A B d≠none<->A d≠none/\B d=none:=by
 unfold dN;split
 ·exact⟨λh=>⟨h,by assumption⟩,λh=>h.1⟩
 ·exact⟨λh=>absurd rfl h,λh=>absurd h.2 (by assumption)⟩
theorem HV{xs ex bo}{A:D}{d}:dF xs ex bo A d≠none<->A d≠none/\keep xs ex d=true:=by
 unfold dF;split
 ·rename_i h;simp[h]
 ·rename_i h;simp[h]
theorem K2{lim wt id}{A:D}{d}:dV lim wt id A d≠none<->id<=d/\d<lim/\A d=none:=by
 unfold dV;split
 ·rename_i h;simp[h]
 ·rename_i h;simp[h]
theorem HW{sc}{A:D}{d}:dC sc A d≠none<->A d≠none:=by unfold dC;simp
theorem FZ{d}:∀{l:List (Int×Int)},Jl d l≠none->∃s,Jl d l=some s/\(d,s)∈l
 | [],h=>absurd rfl h
 | p::r,h=>by
  unfold Jl at h ⊢;split at h
  ·rename_i e;rw[if_pos e];exact⟨_,rfl,by exact e▸.head _⟩
  ·rename_i e;refine(if_neg e).symm▸?_;refine AR (FZ h) λs h1 h2=>?_;exact⟨s,h1,.tail _ h2⟩
theorem Bd.sub{A B:D}(b:Bd A)(h:∀d,B d≠none->A d≠none):Bd B:=λd e=>b d (h d e)
theorem Ok.bd:∀{T:Tr},Ok T->Bd T.den
 | .null _,_=>λU h=>absurd rfl h
 | .leaf _ _ _ i ds,h=>λd e=>by
  refine AR (FZ e) λs U h1=>?_;have:=h.2.1 _ (bv h1);exact⟨this.1,bP this.2.1 (by decide)⟩
 | .bin k _ A B,h=>by
  cases k with
  | uni=>exact λd e=>(IN.mp e).elim (Ok.bd h.1 d) (Ok.bd h.2.1 d)
  | dm=>exact λd e=>(IN.mp e).elim (Ok.bd h.1 d) (Ok.bd h.2.1 d)
  | inter=>exact(Ok.bd h.1).sub λd e=>(Gu.mp e).1
  | anot=>exact(Ok.bd h.1).sub λd e=>(KB.mp e).1
  | maybe=>exact(Ok.bd h.1).sub λd e=>e
 | .una k _ A,h=>by
  cases k with
  | filt=>exact(Ok.bd h.1).sub λd e=>(HV.mp e).1
  | inv=>exact λd e=>have z:=K2.mp e;⟨Y3 h.2.1.2.1 z.1,Z4 z.2.1 (Y3 h.2.1.2.2 (by decide))⟩
  | con=>exact(Ok.bd h.1).sub λd e=>HW.mp e
 | .req _ _ A B,h=>(Ok.bd h.1).sub λd e=>(Gv.mp e).1
theorem An.refl{H:MH}{F}:An H H F:=⟨λU U e U=>e,λU e=>e⟩
theorem An.trans{H H' H'':MH}{F}(h:An H H' F)(k:An H' H'' F):An H H'' F:=⟨λb o e q=>k.kp b o (h.kp b o e q) q,λb e=>h.dm b (k.dm b e)⟩
theorem An.mono{H H':MH}{F G}(h:An H H' F)(q:∀x∈F,x∈G):An H H' G:=⟨λb o e z=>h.kp b o e (z.imp (λn m=>n (q _ m)) id),h.dm⟩
theorem An.drop{WP H H':MH}{F}(WM:An WP H [])(h:An H H' F)(q:∀x∈F,WP x=none):An WP H' [] :=
 ⟨λb o e U=>h.kp b o (WM.kp b o e (.inl (Zn))) (.inl λm=>by exact zN ((q b m).symm.trans e)),λb e=>WM.dm b (h.dm b e)⟩
theorem An.put{H:MH}{a:Nat}{o:O}{F}(h:a∈F)(hr:∀o',H a=some o'->ro o'=false):An H (H.put a o) F:=by
 refine⟨λb o' e q=>?_,λb e=>?_⟩
 ·by_cases z:b=a
  ·subst z;rcases q with q|q
   ·exact absurd h q
   ·exact fT (hr _ e) q
  ·rw[Ab _ _ z];exact e
 ·by_cases z:b=a
  ·subst z;rw[AH] at e;exact zS e
  ·rw[Ab _ _ z] at e;exact e
theorem An.new{H:MH}{a:Nat}{o:O}{F}(h:H a=none):An H (H.put a o) F:=by
 refine⟨λb o' e q=>?_,λb e=>?_⟩
 ·rw[Ab _ _ λz=>by subst z;exact nS h e];exact e
 ·by_cases z:b=a
  ·subst z;exact h
  ·rw[Ab _ _ z] at e;exact e
theorem uX.keep{H H':MH}{F}(f:An H H' F):∀{k:UK},uX H k->uX H' k
 | .filt _ _ _ _,h=>f.kp _ _ h (.inr rfl)
 | .inv _ _ _ _,h=>f.kp _ _ h (.inr rfl)
 | .con _,h=>h
theorem A4.own{H:MH}:∀{T:Tr},A4 H T->∃as,H T.addr=some (.inst T.cl as)
 | .null _,h=>⟨_,h⟩
 | .bin _ _ _ _,h=>AR h.1 λU h U=>⟨_,h⟩
 | .leaf _ _ _ _ _,h|.una _ _ _,h|.req _ _ _ _,h=>⟨_,h.1⟩
theorem A4.frame{H H':MH}{F:List Nat}(f:An H H' F):∀{T:Tr},A4 H T->(∀x∈fp T,x∉F)->A4 H' T
 | .null _,h,_=>f.kp _ _ h (.inr rfl)
 | .leaf _ _ _ _ _,h,q=>⟨f.kp _ _ h.1 (.inl (q _ (.head _))),f.kp _ _ h.2.1 (.inr rfl),f.kp _ _ h.2.2 (.inr rfl)⟩
 | .bin _ _ _ _,⟨⟨id,h1,hc⟩,h2,h3⟩,q=>⟨⟨id,f.kp _ _ h1 (.inl (q _ (.head _))),hc⟩,A4.frame f h2 λx m=>q x (.tail _ (Yw _ m)),A4.frame f h3 λx m=>q x (.tail _ (Yt _ m))⟩
 | .una _ _ _,h,q=>⟨f.kp _ _ h.1 (.inl (q _ (.head _))),uX.keep f h.2.1,A4.frame f h.2.2 λx m=>q x (.tail _ m)⟩
 | .req _ _ _ _,h,q=>⟨f.kp _ _ h.1 (.inl (q _ (.head _))),f.kp _ _ h.2.1 (.inl (q _ (.tail _ (.head _)))),A4.frame f h.2.2.1 λx m=>q x (.tail _ (.tail _ (Yw _ m))),A4.frame f h.2.2.2 λx m=>q x (.tail _ (.tail _ (Yt _ m)))⟩
theorem OD(k:BK) (as):ro (.inst (bC k) as)=false:=by cases k<;>rfl
theorem uC_ro(k:UK) (as):ro (.inst (uC k) as)=false:=by cases k<;>rfl
theorem A4.fps{H:MH}:∀{T:Tr},A4 H T->∀x∈fp T,∃o,H x=some o/\ro o=false
 | .null _,_,_,m=>nomatch m
 | .leaf _ _ _ _ _,h,_,m=>⟨_,msP m▸h.1,rfl⟩
 | .bin k _ _ _,h,x,m=>(mcP m).elim (λe=>AR h.1 λU h U=>⟨_,e▸h,OD k _⟩) λm=>(maP m).elim (A4.fps h.2.1 x) (A4.fps h.2.2 x)
 | .una k _ _,h,x,m=>(mcP m).elim (λe=>⟨_,e▸h.1,uC_ro k _⟩) (A4.fps h.2.2 x)
 | .req _ _ _ _,h,x,m=>(mcP m).elim (λe=>⟨_,e▸h.1,rfl⟩) λm=>(mcP m).elim (λe=>⟨_,e▸h.2.1,rfl⟩) λm=>(maP m).elim (A4.fps h.2.2.1 x) (A4.fps h.2.2.2 x)
theorem dsEq:∀{ds es:List (Int×Int)},ds.map (λp=>V.int p.1)=es.map (λp=>V.int p.1)->ds.map (λp=>V.int p.2)=es.map (λp=>V.int p.2)->ds=es
 | [],[],_,_=>rfl
 | [],_::_,h,_=>nomatch h
 | _::_,[],h,_=>nomatch h
 | p::ds,q::es,h,k=>by
  injection h with h1 h2;injection k with k1 k2;injection h1 with h1;injection k1 with k1
  exact(dsEq h2 k2)▸(Prod.ext h1 k1)▸rfl
theorem PG{H:MH}{a:Nat}{c c':Cl}{as as':As}(h:H a=some (.inst c as))(k:H a=some (.inst c' as')):c=c'/\as=as':=by
 replace k:=h.symm.trans k;cases k;exact⟨rfl,rfl⟩
noncomputable def bCi:Cl->BK
 | .Union=>.uni|.DMax=>.dm|.Inter=>.inter|.AndNot=>.anot|_=>.maybe
theorem SB(k:BK):bCi (bC k)=k:=by cases k<;>rfl
theorem bC_inj{k k':BK}(h:bC k=bC k'):k=k':=(SB k).symm.trans ((congrArg bCi h).trans (SB k'))
theorem lr{as as':As}{x p q:Nat}(h:as=as')(a:AN x as=some (.ref p))(b:AN x as'=some (.ref q)):p=q:=V.ref.inj (Ys (a.symm.trans ((congrArg (AN x) h).trans b)))
theorem li{as as':As}{x:Nat}{p q:Int}(h:as=as')(a:AN x as=some (.int p))(b:AN x as'=some (.int q)):p=q:=V.int.inj (Ys (a.symm.trans ((congrArg (AN x) h).trans b)))
theorem lb{as as':As}{x:Nat}{p q:Bool}(h:as=as')(a:AN x as=some (.bool p))(b:AN x as'=some (.bool q)):p=q:=V.bool.inj (Ys (a.symm.trans ((congrArg (AN x) h).trans b)))
theorem bF_inj{k:BK}{p q p' q' id id'}(h:bF k p q id=bF k p' q' id'):p=p'/\q=q':=⟨lr (x:=Ak) h rfl rfl,lr (x:=Av) h rfl rfl⟩
theorem uF_inj{H:MH}{k k':UK}{p p'}(hc:uC k=uC k')(h:uF p k=uF p' k')(x:uX H k)(x':uX H k'):k=k'/\p=p':=by
 have e:p=p':=lr (x:=AE) h (by cases k<;>rfl) (by cases k'<;>rfl)
 refine⟨?_,e⟩;cases k<;>cases k'<;>try (cases hc;done)
 ·cases lr (x:=Bg) h rfl rfl
  cases O.set.inj (Ys (Eq.trans (Eq.symm x) x'))
  cases li (x:=Ad) h rfl rfl
  cases lb (x:=Bc) h rfl rfl
  rfl
 ·cases lr (x:=Af) h rfl rfl
  cases li (x:=Aq) h rfl rfl
  cases li (x:=BX) h rfl rfl
  cases li (x:=Au) h rfl rfl
  rfl
 ·cases li (x:=ED) h rfl rfl
  rfl
noncomputable def tg:Cl->Nat
 | .Null=>0|.Leaf=>1|.Union|.DMax|.Inter|.AndNot|.AndMaybe=>2|.Filter|.Inverse|.Const=>3|_=>4
noncomputable def tgT:Tr->Nat
 | .null _=>0|.leaf _ _ _ _ _=>1|.bin _ _ _ _=>2|.una _ _ _=>3|.req _ _ _ _=>4
theorem SC(T:Tr):tg T.cl=tgT T:=by
 cases T with
 | bin k=>cases k<;>rfl
 | una k=>cases k<;>rfl
 | _=>rfl
theorem A4.tag{H:MH}{S T:Tr}(h:A4 H S)(k:A4 H T)(e:S.addr=T.addr):tgT S=tgT T:=by
 refine BB h.own λU h=>?_;obtain⟨U,k⟩:=k.own;rw[<- SC,<- SC,(PG h (e▸k)).1]
theorem noN{a b:Nat}{P:Prop}(h:a=b)(k:Y4 a b=false):P:=by subst h;rw[cD] at k;exact zF k
theorem A4.fun{H:MH}:∀{S T:Tr},A4 H S->A4 H T->S.addr=T.addr->S=T
 | .null _,T,h,k,e=>by cases T<;>first|(cases e;rfl)|exact noN (h.tag k e) rfl
 | .leaf _ _ _ i ds,T,h,k,e=>by
  cases T<;>first|exact noN (h.tag k e) rfl|skip
  cases e
  have z:=(PG h.1 k.1).2;cases lr (x:=Bg) z rfl rfl
  cases lr (x:=Cd) z rfl rfl
  have z:=li (x:=KK) z rfl rfl;have h2:=h.2.1;replace h2:=k.2.1.symm.trans h2;have h3:=h.2.2;exact(dsEq (O.list.inj (Ys h2)) (O.list.inj (Ys (k.2.2.symm.trans h3))))▸(Int.ofNat.inj z)▸rfl
 | .bin _ _ A B,T,h,k,e=>by
  cases T<;>first|exact noN (h.tag k e) rfl|skip
  cases e
  refine CV h λy h2 h3=>?_;refine AR y λU h1 U=>?_;refine CV k λy k2 k3=>?_;refine AR y λU k1 U=>?_;refine Am (PG h1 k1) λz1 z2=>?_;cases bC_inj z1
  refine Am (bF_inj z2) λe1 e2=>?_;exact(A4.fun h2 k2 e1)▸(A4.fun h3 k3 e2)▸rfl
 | .una _ _ A,T,h,k,e=>by
  cases T<;>first|exact noN (h.tag k e) rfl|skip
  cases e
  refine Am (PG h.1 k.1) λz1 z2=>?_;refine Am (uF_inj z1 z2 h.2.1 k.2.1) λy e=>?_;obtain rfl:=y;exact(A4.fun h.2.2 k.2.2 e)▸rfl
 | .req _ _ A B,T,h,k,e=>by
  cases T<;>first|exact noN (h.tag k e) rfl|skip
  cases e
  have z:=(PG h.1 k.1).2;cases lr (x:=AE) z rfl rfl
  exact(A4.fun h.2.2.1 k.2.2.1 (lr (x:=Ak) z rfl rfl))▸(A4.fun h.2.2.2 k.2.2.2 (lr (x:=Av) z rfl rfl))▸rfl
/-! Rv of the mini language -/
theorem AB{H:MH}{a n K c as}(h:H a=some (.inst c as))(k:op ((AN n as).or (GW c n)) K):MW H (.ref a) n K:=⟨c,as,h,k⟩
theorem Cu{H:MH}{a n u Q c as}(h:H a=some (.inst c as))(l:fU (put n u as).length 40=true)(k:Q (H.put a (.inst c (put n u as)))):Qw H (.ref a) n u Q:=⟨c,as,h,ZQ l,k⟩
theorem Ae{H:MH}{a m f K c as}(h:H a=some (.inst c as))(h1:(AN m as).isNone=true)(h2:Bt c m=some f)(k:K f):Ba H (.ref a) m K :=
 ⟨c,as,h,cJ.mp h1,by rw[h2];exact k⟩
theorem Bx{H:MH}{a o}{K:O->Prop}(h:H a=some o)(k:K o):Qs H (.ref a) K:=⟨o,h,k⟩
theorem AI{b A B}(h:b=true->A)(k:b=false->B):HC b A B:=by
 cases b
 ·exact k rfl
 ·exact h rfl
theorem DR{C c vs us Q f}{H:MH}(h:Bt c AV=some f)(k:∀a,H a=none->C f (.ref a::vs) us (H.put a (.inst c [])) λv H=>v=.none/\Q (.ref a) H):Eb C c vs us H Q:=by
 unfold Eb;intro a z;exact h.symm▸k a z
noncomputable def Cn(v:V):Prop:=v=.none\/v=.bool false
def F9(T:Tr)(m:Nat):Nat:=(Bt T.cl m).getD 0
structure Ib(T T':Tr):Prop where
 ad:T'.addr=T.addr
 fp:fp T'=fp T
 sz:sz T'=sz T
 sc:sc T'=sc T
 al:∀d,al T' d->al T d
structure OE(H:MH)(T:Tr)(H':MH)(T' WY:Tr):Prop where
 gd:AG H' WY
 eq:Ib T WY
 den:WY.den=T.den
 ch:Mine.sc T=0->WY=T/\(T'=T\/H T'.addr=none/\∀x∈Mine.fp T',H x=none)
structure OF(H:MH)(T:Tr)(H':MH)(T':Tr):Prop where
 fr:An H H' (fp T)
 gd:AG H' T'
 den:T'.den=T.den
 sz:Mine.sz T'<=Mine.sz T
 sc:Mine.sc T'<=Mine.sc T
 nw:∀x∈fp T',x∈fp T\/H x=none
 io:EM H' T.addr
 old:Mine.sc T<=1->∃WY,OE H T H' T' WY
structure FQ(d:Nat)(T:Tr):Prop where
 act:∀{H Q},AG H T->(∀b,KX T.den b->Q (.bool b) H)->call d (F9 T AC) [.ref T.addr] [] H Q
 id:∀{H Q},AG H T->Ag T.den->(∀x H',Qt H H' (fp T)->Hd T.den x->Q (.int x) H')->call d (F9 T AW) [.ref T.addr] [] H Q
 mq:∀{H Q},AG H T->(∀q,0<=q->Q (.int q) H)->call d (F9 T AF) [.ref T.addr] [] H Q
 next:∀{H Q},AG H T->Ag T.den->(∀v x T' H',Cn v->Upd H T H' T'->Hd T.den x->T'.den=frm T.den (x+1)->Q v H')->call d (F9 T Ar) [.ref T.addr] [] H Q
 skip:∀{H Q y},AG H T->Ag T.den->(∀v T' H',Cn v->Upd H T H' T'->T'.den=frm T.den y->Q v H')->call d (F9 T AP) [.ref T.addr,.int y] [] H Q
 copy:∀{H Q},AG H T->(∀T' H',Qt H H' (fp T)->AG H' T'->T'.den=T.den->sz T'<=sz T->sc T'<=sc T->T'.cl=T.cl->(∀x∈fp T',H x=none)->Q (.ref T'.addr) H')->call d (F9 T A8) [.ref T.addr] [] H Q
 repl:∀{H Q vs},AG H T->sc T<=2->(vs=[]\/∃q,q<=0/\vs=[.int q])->(∀T' H',OF H T H' T'->Q (.ref T'.addr) H')->call d (F9 T AK) (.ref T.addr::vs) [] H Q
theorem Qt.refl{H F}:Qt H H F:=⟨.refl,λU h=>h⟩
theorem Qt.mono{H H' F G}(h:Qt H H' F)(q:∀x∈F,x∈G):Qt H H' G:=⟨h.fr.mono q,h.rp⟩
theorem AG.q{H H' F T}(g:AG H T)(q:Qt H H' F):AG H' T:=⟨q.rp _ g.rep,g.ok,g.nd⟩
theorem AG.u{H H' T T'}(g:AG H T)(u:Upd H T H' T'):AG H' T':=⟨u.rep,u.ok,u.fp▸g.nd⟩
theorem Upd.refl{H T}(g:AG H T):Upd H T H T:=⟨rfl,rfl,rfl,rfl,g.ok,g.rep,.refl,λU h=>h,rfl⟩
theorem Upd.q{H T H' T' H''}(u:Upd H T H' T')(w:Qt H' H'' (Mine.fp T)):Upd H T H'' T':=⟨u.ad,u.fp,u.sz,u.sc,u.ok,w.rp _ u.rep,u.fr.trans w.fr,u.al,u.cl⟩
theorem Qt.u{H T H'}(g:AG H T)(w:Qt H H' (fp T)):Upd H T H' T:=(Upd.refl g).q w
theorem UX{T:Tr}(h:Ag T.den):tgT T≠0:=by
 cases T with
 | null a=>exact absurd rfl h.choose_spec
 | _=>exact λz=>noN z rfl
def D0:List Nat:=[Ak,Av,B8,Au,Bg,Cd,Bo,Fx,KK,Fy,Eo,KW,FT,AE,Ad,Bc,Aq,BX,Af,ED]
theorem Hk{x:Nat}:∀{l:List Nat},has x l=true->x∈l
 | y::r,h=>(eD _ _▸h).elim (λe=>Y6 e▸.head _) λe=>.tail _ (Hk e)
theorem QC{m:Nat}{L:List Nat}(hm:has m L=false):∀{as:As},as.all (λp=>has p.1 L)=true->(AN m as).isNone=true
 | [],_=>rfl
 | p::r,h=>by
  refine Am (Zv.mp h) λh1 h2=>?_
  show(cond (Y4 p.1 m) _ _:Option V).isNone=true
  cases e:Y4 p.1 m with
  | true=>exact absurd ((Y6 e▸hm:has p.1 L=false).symm.trans h1) (by decide)
  | false=>exact QC hm h2
theorem fnd(T:Tr)(m:Nat)(h:(Bt T.cl m).isSome=true):Bt T.cl m=some (F9 T m):=by
 unfold F9;cases e:Bt T.cl m with
 | none=>replace h:=e▸h;exact zT h
 | some f=>rfl
theorem A4.m{H:MH}{T:Tr}{m}{K:Nat->Prop}(r:A4 H T)(h1:(Bt T.cl m).isSome=true)(hm:has m D0=false)(k:K (F9 T m)):Ba H (.ref T.addr) m K:=by
 have key:∀as,H T.addr=some (.inst T.cl as)->as.all (λp=>has p.1 D0)=true->Ba H (.ref T.addr) m K:=λas h2 h3=>Ae h2 (QC hm h3) (fnd T m h1) k;cases T with
 | null a=>exact key _ r rfl
 | leaf a la wa i ds=>exact key _ r.1 rfl
 | bin kk a A B=>obtain⟨⟨id,r,U⟩,U⟩:=r;exact key _ r (by cases kk<;>cases id<;>rfl)
 | una kk a A=>exact key _ r.1 (by cases kk<;>rfl)
 | req a i A B=>exact key _ r.1 rfl
theorem fm1(T:Tr):([AC,AF,A8,AK].all λm=>(Bt T.cl m).isSome)=true:=by
 cases T with
 | bin kk=>cases kk<;>rfl
 | una kk=>cases kk<;>rfl
 | _=>rfl
theorem fm2(T:Tr)(h:tgT T≠0):([AW,Ar,AP].all λm=>(Bt T.cl m).isSome)=true:=by
 cases T with
 | null a=>exact absurd rfl h
 | bin kk=>cases kk<;>rfl
 | una kk=>cases kk<;>rfl
 | _=>rfl
theorem A4.m1{H:MH}{T:Tr}{m}{K:Nat->Prop}(r:A4 H T)(hm:(has m [AC,AF,A8,AK]&&!has m D0)=true)(k:K (F9 T m)):Ba H (.ref T.addr) m K :=
 have h:=Zv.mp hm
 r.m (laP (fm1 T) m (Hk h.1)) (Zq _▸h.2) k
theorem A4.m2{H:MH}{T:Tr}{m}{K:Nat->Prop}(r:A4 H T)(ha:Ag T.den)(hm:(has m [AW,Ar,AP]&&!has m D0)=true)(k:K (F9 T m)):Ba H (.ref T.addr) m K :=
 have h:=Zv.mp hm
 r.m (laP (fm2 T (UX ha)) m (Hk h.1)) (Zq _▸h.2) k
theorem Mb{α:Type}(f:α->Int):∀l:List α,F1 (l.map λp=>.int (f p))=some (l.map f)
 | []=>rfl
 | p::r=>by simp only[Zz,F1,Mb f r,Option.map_some]
theorem Hl{ds:List (Int×Int)}{i:Nat}(h:i<ds.length):ds.drop i=ds[i]::ds.drop (i+1):=ee h
theorem QD{ds:List (Int×Int)}{i:Nat}(h:¬ i<ds.length):(λd=>Jl d (ds.drop i))=λU=>none:=by rw[List.drop_eq_nil_of_le (bu.mp h)];rfl
theorem OG{i:Nat}{ds:List (Int×Int)}(ok:Dz i ds)(h:i<ds.length):Hd (λd=>Jl d (ds.drop i)) ds[i].1/\Jl ds[i].1 (ds.drop i)=some ds[i].2:=by
 have e:Jl ds[i].1 (ds.drop i)=some ds[i].2:=by rw[Hl h];exact if_pos rfl
 refine⟨⟨by show Jl _ _≠_;rw[e];exact gj _,λd q=>?_⟩,e⟩
 refine AR (FZ q) λs U m=>?_;rw[Hl h] at m;rcases mcP m with z|m
 ·exact Int.le_of_eq (congrArg Prod.fst z.symm)
 ·have hp:=ok.1.sublist (cj i ds);rw[Hl h] at hp;exact ZZ ((Z5.mp hp).1 _ m)
theorem UY{i:Nat}{ds:List (Int×Int)}(ok:Dz i ds)(h:i<ds.length):(λd=>Jl d (ds.drop (i+1)))=frm (λd=>Jl d (ds.drop i)) (ds[i].1+1):=by
 have hp:=ok.1.sublist (cj i ds);rw[Hl h] at hp;refine Fu (λd q=>?_) λd q=>?_
 ·exact(Hl h).symm▸(if_neg (iF ‹_›)).symm
 ·refine AR (FZ q) λs U m=>?_;exact(Z5.mp hp).1 _ m
theorem Jm{i:Nat}{ds:List (Int×Int)}(ok:Dz i ds):Ag (λd=>Jl d (ds.drop i))<->i<ds.length :=
 ⟨λy=>BB y λd q=>ZM λz=>q (congrFun (QD z) d),λh=>(OG ok h).1.act⟩
section
variable{a la wa i:Nat}{ds:List (Int×Int)}{H:MH}{Q:V->MH->Prop}{e:Nat}
theorem K3(h:ds.length<=1000):Lz (.list (ds.map λp=>V.int p.1)) ds.length:=by
 have:=Lz.list (vs:=ds.map λp=>V.int p.1) (by rw[Y2];exact h)
 rwa [Y2] at this
theorem OH{f:Int×Int->Int}(h:ds.length<=1000)(k:i<ds.length):Kn (i:Int) (.int (f ds[i])) (.list (ds.map λp=>V.int (f p))):=by
 refine .list (by rw[Y2];exact h) ?_
 unfold nth;rw[if_pos (cS i),Zj,Ze,ZH k];rfl
theorem FG(r:A4 H (.leaf a la wa i ds))(ok:Dz i ds)(q:∀b,KX (Tr.leaf a la wa i ds).den b->Q (.bool b) H):call (e+1) Cr [.ref a] [] H Q:=by
 refine(AB r.1 (AB r.1 (Bx r.2.1 ⟨_,K3 ok.2.2.2,q _ ?_⟩)):Ap (call e) [] Dw [(AA,.ref a)] H (AS Q));exact⟨λz=>(Jm ok).mpr (ag.mp (of_decide_eq_true z)),λz=>decide_eq_true (ag.mpr ((Jm ok).mp z))⟩
theorem QE(r:A4 H (.leaf a la wa i ds))(ok:Dz i ds)(h:i<ds.length)(q:Q (.int ds[i].1) H):call (e+1) Jd [.ref a] [] H Q:=by
 exact(AB r.1 (AB r.1 (Bx r.2.1 ⟨_,OH ok.2.2.2 h,q⟩)):Ap (call e) [] MY [(AA,.ref a)] H (AS Q))
theorem K4{j:Nat}(r:A4 H (.leaf a la wa i ds)):A4 (H.put a (.inst .Leaf (Ea la wa j))) (.leaf a la wa j ds)/\An H (H.put a (.inst .Leaf (Ea la wa j))) [a]:=by
 have f:An H (H.put a (.inst .Leaf (Ea la wa j))) [a]:=An.put (.head _) λo' z=>by obtain rfl:=Ys (r.1.symm.trans z);rfl
 exact⟨⟨AH _ _ _,f.kp _ _ r.2.1 (.inr rfl),f.kp _ _ r.2.2 (.inr rfl)⟩,f⟩
theorem Q6(r:A4 H (.leaf a la wa i ds))(q:Q .none (H.put a (.inst .Leaf (Ea la wa (i+1))))):call (e+1) G6 [.ref a] [] H Q:=by
 exact(AB r.1 (Cu r.1 rfl q):Ap (call e) [] J7 [(AA,.ref a)] H (AS Q))
theorem SD(r:A4 H (.leaf a la wa i ds))(ok:Dz i ds)(q:∀m,0<=m->Q (.int m) H):call (e+1) CG [.ref a] [] H Q:=by
 refine(AB r.1 (AB r.1 ⟨_,.inl r.2.2,by rw[Y2];exact ok.2.2.2,AI (λz=>?_) λU=>q 1 (by decide)⟩):Ap (call e) [] DT [(AA,.ref a)] H (AS Q))
 refine AB r.1 ⟨_,_,r.2.2,by rw[Y2];exact ok.2.2.2,Mb (·.2) ds,λz'=>?_,λm hm U=>q m ?_⟩
 ·replace z:=(List.map_eq_nil_iff.mp z')▸z;exact zT z
 ·refine AR (mmP hm) λp hp y=>?_;obtain rfl:=y;exact(ok.2.1 p hp).2.2
theorem QF(r:A4 H (.leaf a la wa i ds))(ok:Dz i ds)(q:∀m,0<=m->Q (.int m) H):call (e+2) DK [.ref a] [] H Q:=by
 exact(AB r.1 (Ae r.1 rfl rfl (SD r ok q)):Ap (call (e+1)) [] E4 [(AA,.ref a)] H (AS Q))
inductive LS (H:MH) (a la wa i:Nat) (ds:List (Int×Int)) (y:Int):Nat->As->MH->Prop
 | mk (j:Nat) (H':MH) (h1:i<=j) (h2:j<=ds.length) (h3:∀k (hk:k<ds.length),i<=k->k<j->ds[k].1<y) (r':A4 H' (.leaf a la wa j ds)) (hH:H'=H/\j=i\/H'=H.put a (.inst .Leaf (Ea la wa j))):LS H a la wa i ds y (ds.length-j) [(AA,.ref a),(AW,.int y)] H'
theorem Q7{y:Int}(r:A4 H (.leaf a la wa i ds))(ok:Dz i ds)(h:i<ds.length)(q:∀j,Dz j ds->A4 (H.put a (.inst .Leaf (Ea la wa j))) (.leaf a la wa j ds)->An H (H.put a (.inst .Leaf (Ea la wa j))) [a]->(λd=>Jl d (ds.drop j))=frm (λd=>Jl d (ds.drop i)) y->(y<=ds[i].1->j=i)->Q .none (H.put a (.inst .Leaf (Ea la wa j))))(q0:y<ds[i].1->Q .none H) :
 call (e+2) Bq [.ref a,.int y] [] H Q:=by
 refine(Ae r.1 rfl rfl (FG r ok λb hb=>?_):Ap (call (e+1)) [] HG [(AA,.ref a),(AW,.int y)] H (AS Q));refine(hb.mpr ((Jm ok).mpr h)).symm▸Ae r.1 rfl rfl (QE r ok h (AI (λz=>q0 (of_decide_eq_true z)) λz=>?_));refine⟨LS H a la wa i ds y,_,.mk i H (Y1 _) ok.2.2.1 (λk U h1 h2=>absurd h2 (Ng h1)) r (.inl ⟨rfl,rfl⟩),?_⟩;rintro U U H' ⟨j,H',h1,h2,h3,r',hH⟩;have okj:Dz j ds:=⟨ok.1,ok.2.1,h2,ok.2.2.2⟩;have fin:(∀hj:j<ds.length,¬ ds[j].1<y)->Q .none H':=λhj=>by
  have e:(λd=>Jl d (ds.drop j))=frm (λd=>Jl d (ds.drop i)) y:=by
   have e0:∀d,y<=d->∀k,i<=k->k<=j->Jl d (ds.drop k)=Jl d (ds.drop i):=by
    intro d hd k hk
    induction k with
    | zero=>intro _;exact(Nat.le_zero.mp hk)▸rfl
    | succ k ih =>
     intro hkj;by_cases z:i=k+1
     ·exact z▸rfl
     ·have hk':k<ds.length:=ZB hkj h2;have hi:i<=k:=ay (aR hk z);rw[<- ih hi (ZY hkj),Hl hk'];exact(if_neg (iF (Z4 (h3 k hk' hi hkj) hd))).symm
   refine Fu (λd hd=>e0 d hd j h1 (Y1 _)) λd hd=>?_;by_cases hj':j<ds.length
   ·exact aq.mp λz=>hj hj' (aQ ((OG okj hj').1.2 d hd) z)
   ·exact absurd (congrFun (QD hj') d) hd
  have e1:H'=H.put a (.inst .Leaf (Ea la wa j)):=by
   rcases hH with⟨rfl,rfl⟩|rfl
   ·funext b
    by_cases q:b=a
    ·subst q;rw[AH];exact r.1
    ·rw[Ab _ _ q]
   ·rfl
  rw[e1] at r' ⊢;exact q j okj r' (K4 r).2 e λz=>ZM λne=>a5 _ (Z4 (h3 i h (Y1 _) (aR h1 (aL ne))) z)
 refine AB r'.1 (AB r'.1 (Bx r'.2.1 ⟨_,K3 ok.2.2.2,AI (λz1=>?_) λz1=>?_⟩))
 ·have hj:j<ds.length:=ag.mp (of_decide_eq_true z1);refine AB r'.1 (AB r'.1 (Bx r'.2.1 ⟨_,OH ok.2.2.2 hj,AI (λz2=>?_) λz2=>fin λU=>of_decide_eq_false z2⟩));refine AB r'.1 (Cu r'.1 rfl ⟨_,eH hj (aG j),.mk (j+1) _ (Zk h1) hj (λk hk g1 g2=>?_) (K4 r').1 (.inr ?_)⟩)
  ·by_cases g3:k=j
   ·subst g3;exact of_decide_eq_true z2
   ·exact h3 k hk g1 (aR (ay g2) g3)
  ·rcases hH with⟨rfl,rfl⟩|rfl
   ·rfl
   ·funext b
    by_cases q:b=a
    ·subst q;rw[AH,AH];rfl
    ·rw[Ab _ _ q,Ab _ _ q,Ab _ _ q]
 ·exact fin λhj=>absurd (decide_eq_true (ag.mpr hj)) (by rw[z1];exact Zg)
end
theorem UZ{H:MH}{a:Nat}{o o':O}:(H.put a o).put a o'=H.put a o':=by
 funext b
 by_cases q:b=a
 ·subst q;rw[AH,AH]
 ·rw[Ab _ _ q,Ab _ _ q,Ab _ _ q]
theorem Ee{H:MH}{n m u Q c as}(l:fU (put m u as).length 40=true)(k:Q (H.put n (.inst c (put m u as)))):Qw (H.put n (.inst c as)) (.ref n) m u Q:=Cu (AH _ _ _) l (by rw[UZ];exact k)
theorem OJ{H:MH}{n m f K c as}(h1:(AN m as).isNone=true)(h2:Bt c m=some f)(k:K f):Ba (H.put n (.inst c as)) (.ref n) m K:=Ae (AH _ _ _) h1 h2 k
theorem Di{A A':D}{y:Int}(e:A'=frm A y)(d:Int)(h:A' d≠none):A d≠none:=λz=>h (by rw[e];unfold frm;split<;>first|exact z|rfl)
theorem Ib.refl{T}:Ib T T:=⟨rfl,rfl,rfl,rfl,λU h=>h⟩
theorem Ib.trans{A B C}(h:Ib A B)(k:Ib B C):Ib A C:=⟨k.ad.trans h.ad,k.fp.trans h.fp,k.sz.trans h.sz,k.sc.trans h.sc,λd z=>h.al d (k.al d z)⟩
theorem Upd.eqv{H T H' T'}(u:Upd H T H' T'):Ib T T':=⟨u.ad,u.fp,u.sz,u.sc,u.al⟩
structure Bk(WP H:MH)(a:Nat)(c:Cl)(xs:As)(WL WN A B:Tr):Prop where
 own:H a=some (.inst c xs)
 oA:Ok A
 oB:Ok B
 rA:A4 H A
 rB:A4 H B
 eA:Ib WL A
 eB:Ib WN B
 fr:An WP H (a::(fp WL++fp WN))
 nd:(a::(fp WL++fp WN)).Nodup
section
variable{WP H H':MH}{a:Nat}{c:Cl}{xs ys:As}{WL WN A B A' B':Tr}
theorem Lw{α:Type}{a:α}{l m:List α}(h:(a::(l++m)).Nodup):(a∉l/\a∉m)/\l.Nodup/\m.Nodup/\∀x∈l,x∉m:=by
 refine Am (ncP h) λh1 h2=>?_;refine CV (bj.mp h2) λk1 k2 k3=>?_;exact⟨⟨λz=>h1 (Yw _ z),λz=>h1 (Yt _ z)⟩,k1,k2,λx hx hm=>k3 x hx x hm rfl⟩
theorem Bk.gA(b:Bk WP H a c xs WL WN A B):AG H A:=⟨b.rA,b.oA,b.eA.fp▸(Lw b.nd).2.1⟩
theorem Bk.gB(b:Bk WP H a c xs WL WN A B):AG H B:=⟨b.rB,b.oB,b.eB.fp▸(Lw b.nd).2.2.1⟩
theorem Bk.mA(b:Bk WP H a c xs WL WN A B)(u:Upd H A H' A'):Bk WP H' a c xs WL WN A' B :=
 have n:=Lw b.nd
 ⟨u.fr.kp _ _ b.own (.inl (b.eA.fp▸n.1.1)),u.ok,b.oB,u.rep,b.rB.frame u.fr λx m=>by rw[b.eA.fp];rw[b.eB.fp] at m;exact λz=>n.2.2.2 x z m,b.eA.trans u.eqv,b.eB,
  b.fr.trans (u.fr.mono λx m=>by rw[b.eA.fp] at m;exact .tail _ (Yw _ m)),b.nd⟩
theorem Bk.mB(b:Bk WP H a c xs WL WN A B)(u:Upd H B H' B'):Bk WP H' a c xs WL WN A B' :=
 have n:=Lw b.nd
 ⟨u.fr.kp _ _ b.own (.inl (b.eB.fp▸n.1.2)),b.oA,u.ok,b.rA.frame u.fr λx m=>by rw[b.eB.fp];rw[b.eA.fp] at m;exact n.2.2.2 x m,u.rep,b.eA,b.eB.trans u.eqv,
  b.fr.trans (u.fr.mono λx m=>by rw[b.eB.fp] at m;exact .tail _ (Yt _ m)),b.nd⟩
theorem Bk.qA(b:Bk WP H a c xs WL WN A B)(q:Qt H H' (fp A)):Bk WP H' a c xs WL WN A B:=b.mA (q.u b.gA)
theorem Bk.qB(b:Bk WP H a c xs WL WN A B)(q:Qt H H' (fp B)):Bk WP H' a c xs WL WN A B:=b.mB (q.u b.gB)
theorem Bk.put(b:Bk WP H a c xs WL WN A B)(hr:∀as,ro (.inst c as)=false):Bk WP (H.put a (.inst c ys)) a c ys WL WN A B :=
 have n:=Lw b.nd;have f:An H (H.put a (.inst c ys)) [a]:=An.put (.head _) λo' z=>by obtain rfl:=Ys (b.own.symm.trans z);exact hr _
 ⟨AH _ _ _,b.oA,b.oB,b.rA.frame f λx m=>λz=>n.1.1 (msP z▸b.eA.fp▸m),b.rB.frame f λx m=>λz=>n.1.2 (msP z▸b.eB.fp▸m),b.eA,b.eB,
  b.fr.trans (f.mono λx m=>msP m▸.head _),b.nd⟩
theorem Bk.start{k:BK}(g:AG H (.bin k a A B)):∃id,GZ k (dB k A.den B.den) id/\Bk H H a (bC k) (bF k A.addr B.addr id) A B A B:=by
 refine AJ λGG hG=>?_;obtain⟨⟨⟨id,h1,h2⟩,h3,h4⟩,ok,nd⟩:=g;refine hG ?_;exact⟨id,h2,h1,ok.1,ok.2.1,h3,h4,.refl,.refl,.refl,nd⟩
theorem Bk.upd{k:BK}{id:Option V}(b:Bk WP H a (bC k) (bF k WL.addr WN.addr id) WL WN A B)(hc:GZ k (dB k A.den B.den) id)(ok:Rq k A.den B.den)(hm:k=.inter\/∀d,dB k A.den B.den d≠none->dB k WL.den WN.den d≠none):Upd WP (.bin k a WL WN) H (.bin k a A B):=by
 refine⟨rfl,?_,?_,?_,⟨b.oA,b.oB,ok⟩,⟨⟨id,?_,hc⟩,b.rA,b.rB⟩,b.fr,λd h=>?_,rfl⟩
 ·show a::(fp A++fp B)=a::(fp WL++fp WN);exact b.eA.fp▸b.eB.fp▸rfl
 ·show sz A+sz B+1=sz WL+sz WN+1;exact b.eA.sz▸b.eB.sz▸rfl
 ·cases k<;>(show(_:Nat)=_;unfold sc;simp only[b.eA.sc,b.eB.sc])
 ·rw[b.eA.ad,b.eB.ad];exact b.own
 ·rcases hm with rfl|hm
  ·exact⟨b.eA.al d h.1,b.eB.al d h.2⟩
  ·cases k with
   | inter=>exact⟨b.eA.al d h.1,b.eB.al d h.2⟩
   | _=>exact hm d h
end
structure Uk(WP H:MH)(a:Nat)(c:Cl)(xs:As)(WL A:Tr):Prop where
 own:H a=some (.inst c xs)
 oA:Ok A
 rA:A4 H A
 eA:Ib WL A
 fr:An WP H (a::fp WL)
 nd:(a::fp WL).Nodup
section
variable{WP H H':MH}{a:Nat}{c:Cl}{xs ys:As}{WL A A':Tr}
theorem Uk.gA(b:Uk WP H a c xs WL A):AG H A:=⟨b.rA,b.oA,b.eA.fp▸(ncP b.nd).2⟩
theorem Uk.mA(b:Uk WP H a c xs WL A)(u:Upd H A H' A'):Uk WP H' a c xs WL A' :=
 ⟨u.fr.kp _ _ b.own (.inl (b.eA.fp▸(ncP b.nd).1)),u.ok,u.rep,b.eA.trans u.eqv,b.fr.trans (u.fr.mono λx m=>by rw[b.eA.fp] at m;exact .tail _ m),b.nd⟩
theorem Uk.qA(b:Uk WP H a c xs WL A)(q:Qt H H' (fp A)):Uk WP H' a c xs WL A:=b.mA (q.u b.gA)
theorem Uk.put(b:Uk WP H a c xs WL A)(hr:∀as,ro (.inst c as)=false):Uk WP (H.put a (.inst c ys)) a c ys WL A :=
 have f:An H (H.put a (.inst c ys)) [a]:=An.put (.head _) λo' z=>by obtain rfl:=Ys (b.own.symm.trans z);exact hr _
 ⟨AH _ _ _,b.oA,b.rA.frame f λx m=>λz=>(ncP b.nd).1 (msP z▸b.eA.fp▸m),b.eA,b.fr.trans (f.mono λx m=>msP m▸.head _),b.nd⟩
theorem Uk.start{k:UK}(g:AG H (.una k a A)):Uk H H a (uC k) (uF A.addr k) A A:=⟨g.rep.1,g.ok.1,g.rep.2.2,.refl,.refl,g.nd⟩
theorem Uk.upd{k₀ k:UK}(b:Uk WP H a (uC k) (uF WL.addr k) WL A)(hs:∀T:Tr,(Tr.una k a T).cl=(Tr.una k₀ a T).cl)(x:uX H k)(ok:okU k A.den)(hm:∀d,al (.una k a A) d->al (.una k₀ a WL) d):Upd WP (.una k₀ a WL) H (.una k a A):=by
 refine⟨rfl,?_,?_,?_,⟨b.oA,ok⟩,⟨?_,x,b.rA⟩,b.fr,hm,hs A⟩
 ·show a::fp A=a::fp WL;exact b.eA.fp▸rfl
 ·show sz A+1=sz WL+1;exact b.eA.sz▸rfl
 ·exact b.eA.sc
 ·rw[b.eA.ad];exact b.own
end
section
variable{e:Nat}{H:MH}{Q:V->MH->Prop}
theorem Ef{A:D}{z d}(h:¬ z<=d):frm A z d=none:=if_neg h
theorem OK{A B:D}{z}:frm (dU A B) z=dU (frm A z) (frm B z):=by
 funext d;by_cases q:z<=d
 ·unfold dU;rw[BV q,BV q,BV q]
 ·unfold dU;rw[Ef q,Ef q,Ef q];rfl
theorem frm_dI{A B:D}{z}:frm (dI A B) z=dI (frm A z) (frm B z):=by
 funext d;by_cases q:z<=d
 ·unfold dI;rw[BV q,BV q,BV q]
 ·unfold dI;rw[Ef q,Ef q,Ef q];rfl
theorem PH{A B:D}{z}:frm (dR A B) z=dR (frm A z) (frm B z):=by
 funext d;by_cases q:z<=d
 ·unfold dR;rw[BV q,BV q,BV q]
 ·unfold dR;rw[Ef q,Ef q,Ef q];rfl
theorem PJ{A B:D}{z}:frm (dN A B) z=dN (frm A z) (frm B z):=by
 funext d;by_cases q:z<=d
 ·unfold dN;rw[BV q,BV q,BV q]
 ·unfold dN;rw[Ef q,Ef q,Ef q];rfl
theorem SG{A:D}{s z}:frm (dC s A) z=dC s (frm A z):=by
 funext d;by_cases q:z<=d
 ·unfold dC;rw[BV q,BV q]
 ·unfold dC;rw[Ef q,Ef q];rfl
theorem PL{A:D}{xs ex bo z}:frm (dF xs ex bo A) z=dF xs ex bo (frm A z):=by
 funext d;by_cases q:z<=d
 ·unfold dF;rw[BV q,BV q]
 ·unfold dF;rw[Ef q,Ef q];exact(ite_self _).symm
theorem KY{A:D}(h:¬ Ag A):A=λU=>none:=funext λd=>ZM λz=>h ⟨d,z⟩
theorem MN{A B:D}(h:¬ Ag A):dU A B=B:=by rw[KY h];rfl
theorem Q8{p:Option Int}:Rz p none=p:=by cases p<;>rfl
theorem Q9{A B:D}(h:¬ Ag B):dU A B=A:=by rw[KY h];funext d;exact Q8
theorem Jn{A B:D}:Ag (dU A B)<->Ag A\/Ag B :=
 ⟨λz=>BB z λd h=>(IN.mp h).imp (⟨d,·⟩) (⟨d,·⟩),λh=>h.elim (λ⟨d,h⟩=>⟨d,IN.mpr (.inl h)⟩) λ⟨d,h⟩=>⟨d,IN.mpr (.inr h)⟩⟩
theorem Vo{A B:D}{x y}(h:Hd A x)(k:Hd B y):Hd (dU A B) (min x y):=by
 refine⟨IN.mpr ?_,λd q=>?_⟩
 ·rcases Int.le_total x y with z|z
  ·rw[Int.min_eq_left z];exact .inl h.1
  ·rw[Int.min_eq_right z];exact .inr k.1
 ·rcases IN.mp q with q|q
  ·exact Y3 (Int.min_le_left _ _) (h.2 _ q)
  ·exact Y3 (Int.min_le_right _ _) (k.2 _ q)
def Ih(n d:Nat):Prop:=∀T,sz T<=n->∀e,d<=e->FQ e T
theorem AG.bA{H k a A B}(g:AG H (.bin k a A B)):AG H A:=⟨g.rep.2.1,g.ok.1,(Lw g.nd).2.1⟩
theorem AG.bB{H k a A B}(g:AG H (.bin k a A B)):AG H B:=⟨g.rep.2.2,g.ok.2.1,(Lw g.nd).2.2.1⟩
theorem AG.uA{H k a A}(g:AG H (.una k a A)):AG H A:=⟨g.rep.2.2,g.ok.1,(ncP g.nd).2⟩
noncomputable def idv:Option V->V
 | none=>.none
 | some v=>v
theorem rdId{k p q id c}{K:V->Prop}(hu:Q4 k=true)(hc:c=bC k)(h:K (idv id)):op ((AN Au (bF k p q id)).or (GW c Au)) K:=by
 subst hc;cases k<;>first|exact zT hu;done|(cases id<;>exact h)
theorem Mc{k p q id v}:put Au v (bF k p q id)=bF k p q (some v):=by cases k<;>cases id<;>rfl
theorem HX{k p q id v}:fU (put Au v (bF k p q id)).length 40=true:=by rw[Mc];cases k<;>rfl
theorem ND{k:BK}(hu:Q4 k=true):dB k=dU:=by cases k<;>first|rfl|exact zT hu
theorem Vp{k:BK}{A B:D}(hu:Q4 k=true):Rq k A B:=by cases k<;>first|trivial|cases hu
theorem A4.cache{H:MH}{k a A B v}(r:A4 H (.bin k a A B))(hu:Q4 k=true)(hc:GZ k (dB k A.den B.den) (some v)):∀{S:Tr},A4 H S->A4 (H.put a (.inst (bC k) (bF k A.addr B.addr (some v)))) S:=by
 obtain⟨id,own,U⟩:=r.1;have ht:tg (bC k)=2:=SC (.bin k a A B);have kI:∀{b c as},H b=some (.inst c as)->Y4 (tg c) 2=false->(H.put a (.inst (bC k) (bF k A.addr B.addr (some v)))) b=some (.inst c as):=λ{b c as} h hn=>by
  rw[Ab _ _ λz=>?_];· exact h
  subst z;replace hn:=ht▸((PG own h).1)▸hn;exact zF hn
 have kO:∀{b o},H b=some o->(∀c as,o≠.inst c as)->(H.put a (.inst (bC k) (bF k A.addr B.addr (some v)))) b=some o:=λ{b o} h hn=>by
  rw[Ab _ _ λz=>?_];· exact h
  subst z;obtain rfl:=Ys (own.symm.trans h);exact hn _ _ rfl
 intro S
 induction S with
 | null b=>exact λh=>kI h rfl
 | leaf b la wa i ds=>exact λh=>⟨kI h.1 rfl,kO h.2.1 λU U z=>(nomatch z),kO h.2.2 λU U z=>(nomatch z)⟩
 | bin k' b A' B' ia ib =>
  intro h;refine⟨?_,ia h.2.1,ib h.2.2⟩;by_cases q:b=a
  ·subst q;cases A4.fun r h rfl
   exact⟨_,AH _ _ _,hc⟩
  ·refine AR h.1 λid' h1 h2=>?_;exact⟨id',by exact(Ab _ _ q).symm▸h1,h2⟩
 | una k' b A' ia =>
  intro h;refine⟨kI h.1 (by cases k'<;>rfl),?_,ia h.2.2⟩
  cases k' with
  | filt=>exact kO h.2.1 λU U z=>(nomatch z)
  | inv=>exact kO h.2.1 λU U z=>(nomatch z)
  | con=>trivial
 | req b i A' B' ia ib =>
  intro h;refine⟨kI h.1 rfl,?_,ia h.2.2.1,ib h.2.2.2⟩;rw[Ab _ _ λz=>?_];· exact h.2.1
  subst z;have:=(PG own h.2.1).1;cases k<;>first|exact zT hu;done|exact nomatch this
section
variable{n d a:Nat}{k:BK}{A B:Tr}
theorem QG(ih:Ih n d)(he:d<=e)(hA:sz A<=n)(hB:sz B<=n)(hu:Q4 k=true)(g:AG H (.bin k a A B))(q:∀b,KX (Tr.bin k a A B).den b->Q (.bool b) H):call (e+1) BZ [.ref a] [] H Q:=by
 refine AR g.rep.1 λid own U=>?_;refine(AB own (g.rep.2.1.m1 rfl ((ih A hA e he).act g.bA λb hb=>?_)):Ap (call e) [] DZ [(AA,.ref a)] H (AS Q));replace q:=(show(Tr.bin k a A B).den=dU A.den B.den from congrFun (congrFun (ND hu) _) _)▸q
 cases b with
 | true=>exact q true (KX.t (Jn.mpr (.inl hb.pos)))
 | false=>exact AB own (g.rep.2.2.m1 rfl ((ih B hB e he).act g.bB λb hb'=>q b (by exact(MN hb.neg).symm▸hb')))
theorem SH(ih:Ih n d)(he:d<=e)(hA:sz A<=n)(hB:sz B<=n)(hu:Q4 k=true)(g:AG H (.bin k a A B))(ha:Ag (Tr.bin k a A B).den)
 (q:∀x H',Qt H H' (fp (.bin k a A B))->Hd (Tr.bin k a A B).den x->Q (.int x) H'):call (e+1) GT [.ref a] [] H Q:=by
 have hd:(Tr.bin k a A B).den=dU A.den B.den:=congrFun (congrFun (ND hu) _) _;refine AR (Bk.start g) λid hc b=>?_;refine(AB b.own (rdId hu rfl ?_):Ap (call e) [] GX [(AA,.ref a)] H (AS Q));have slow:idv id=.none->Ap (call e) [] GX.tail [(AA,.ref a),(Au,.none)] H (AS Q):=λU=>by
  have fin:∀{H' x ρ},Bk H H' a (bC k) (bF k A.addr B.addr id) A B A B->(∀S,A4 H S->A4 H' S)->Hd (dU A.den B.den) x->ρ=[(AA,.ref a),(Au,.int x),(Ak,.ref A.addr),(Av,.ref B.addr)] ->
   Ap (call e) [] (GX.drop 5) ρ H' (AS Q):=λ{H' x ρ} b' rp hx hρ=>by
   subst hρ;refine Cu b'.own HX ?_;have c:GZ k (dB k A.den B.den) (some (.int x)):=⟨hu,by rw[ND hu];exact hx⟩
   refine Mc.symm▸?_;exact q x _ ⟨(b'.put (OD k)).fr,λS h=>(rp _ g.rep).cache hu c (rp S h)⟩ (hd▸hx)
  refine AB b.own (AB b.own (g.rep.2.1.m1 rfl ((ih A hA e he).act g.bA λba hba=>?_)));have hB':=ih B hB e he;have hA':=ih A hA e he;cases ba with
  | false =>
   rw[hd,MN hba.neg] at ha;refine g.rep.2.2.m2 ha rfl (hB'.id g.bB ha λx H' w hx=>?_);exact fin (b.qB w) w.rp (by rw[MN hba.neg];exact hx) rfl
  | true =>
   refine g.rep.2.2.m1 rfl (hB'.act g.bB λbb hbb=>?_);cases bb with
   | false =>
    refine g.rep.2.1.m2 hba.pos rfl (hA'.id g.bA hba.pos λx H' w hx=>?_);exact fin (b.qA w) w.rp (by rw[Q9 hbb.neg];exact hx) rfl
   | true =>
    refine g.rep.2.1.m2 hba.pos rfl (hA'.id g.bA hba.pos λx H' w hx=>?_);have b1:=b.qA w;refine b1.rB.m2 hbb.pos rfl (hB'.id b1.gB hbb.pos λy H'' w' hy=>?_);exact fin (b1.qB w') (λS h=>w'.rp S (w.rp S h)) (Vo hx hy) rfl
 cases id with
 | none=>exact slow rfl
 | some v =>
  cases v with
  | none=>exact slow rfl
  | int x=>exact q x H .refl hc.2
  | bool=>exact hc.elim
  | ref=>exact hc.elim
theorem OL(ih:Ih n d)(he:d<=e)(hA:sz A<=n)(hB:sz B<=n)(hu:Q4 k=true)(g:AG H (.bin k a A B))(ha:Ag (Tr.bin k a A B).den)
 (q:∀v x T' H',Cn v->Upd H (.bin k a A B) H' T'->Hd (Tr.bin k a A B).den x->T'.den=frm (Tr.bin k a A B).den (x+1)->Q v H'):call (e+1) BP [.ref a] [] H Q:=by
 have hd:(Tr.bin k a A B).den=dU A.den B.den:=congrFun (congrFun (ND hu) _) _;obtain⟨id,hc,b⟩:=Bk.start g
 show Ap (call e) [] I7 [(AA,.ref a)] H (AS Q)
 refine Cu b.own HX ?_;rw[Mc];replace b:=b.put (ys:=bF k A.addr B.addr (some .none)) (OD k)
 generalize H.put a _=H1 at b ⊢
 have fin:∀{v x H' A' B'},Cn v->Bk H H' a (bC k) (bF k A.addr B.addr (some .none)) A B A' B'->Hd (dU A.den B.den) x->dU A'.den B'.den=frm (dU A.den B.den) (x+1)->Q v H':=λ{v x H' A' B'} f b' hx e =>
  have e0:(Tr.bin k a A' B').den=frm (Tr.bin k a A B).den (x+1):=(congrFun (congrFun (ND hu) _) _).trans (hd▸e)
  q v x (.bin k a A' B') H' f (b'.upd hu (Vp hu) (.inr (Di e0))) (hd▸hx) e0
 have oA:=ih A hA e he;have oB:=ih B hB e he;refine AB b.own (AB b.own (b.rA.m1 rfl (oA.act b.gA λba hba=>b.rB.m1 rfl (oB.act b.gB λbb hbb=>?_))));cases ba with
 | false =>
  cases bb with
  | false=>rw[hd,MN hba.neg] at ha;exact absurd ha hbb.neg
  | true=>exact b.rB.m2 hbb.pos rfl (oB.next b.gB hbb.pos λv x B' H' f u hx e=>fin f (b.mB u) (by rw[MN hba.neg];exact hx) (by rw[MN hba.neg,MN hba.neg];exact e))
 | true =>
  cases bb with
  | false=>exact b.rA.m2 hba.pos rfl (oA.next b.gA hba.pos λv x A' H' f u hx e=>fin f (b.mA u) (by rw[Q9 hbb.neg];exact hx) (by rw[Q9 hbb.neg,Q9 hbb.neg];exact e))
  | true =>
   refine b.rA.m2 hba.pos rfl (oA.id b.gA hba.pos λx H' w hx=>?_);replace b:=b.qA w;refine b.rB.m2 hbb.pos rfl (oB.id b.gB hbb.pos λy H' w hy=>?_);replace b:=b.qB w;have hm:=Vo hx hy;have e0:frm (dU A.den B.den) (min x y+1)=dU (frm A.den (min x y+1)) (frm B.den (min x y+1)):=OK;refine AI (λz=>?_) λz=>?_
   ·have hxy:=of_decide_eq_true z;have em:min x y=x:=Int.min_eq_left hxy;rw[em] at hm e0;refine b.rA.m2 hba.pos rfl (oA.next b.gA hba.pos λv x' A' H' f u hx' eA=>?_);rw[hx'.uniq hx] at eA;replace b:=b.mA u;refine AI (λz=>?_) λz=>?_
    ·have hyx:=of_decide_eq_true z;have exy:y=x:=eC hyx hxy;rw[exy] at hy;refine b.rB.m2 hbb.pos rfl (oB.next b.gB hbb.pos λv' y' B' H' f' u hy' eB=>?_);rw[hy'.uniq hy] at eB;have z:=fin f' (b.mB u) hm (by rw[e0,eA,eB])
     rcases f with rfl|rfl<;>exact z
    ·have z:=fin (.inl rfl) b hm (by rw[e0,eA,Fv hy (cR.mp (of_decide_eq_false z))])
     rcases f with rfl|rfl<;>exact z
   ·have hyx:=ZZ (cR.mp (of_decide_eq_false z));have em:min x y=y:=Int.min_eq_right hyx;rw[em] at hm e0;refine AI (λz'=>?_) λz'=>absurd hyx (of_decide_eq_false z');refine b.rB.m2 hbb.pos rfl (oB.next b.gB hbb.pos λv' y' B' H' f' u hy' eB=>?_);rw[hy'.uniq hy] at eB;refine fin f' (b.mB u) hm ?_;rw[e0,eB,Fv hx (cR.mp (of_decide_eq_false z))]
theorem OM{y:Int}(ih:Ih n d)(he:d<=e)(hA:sz A<=n)(hB:sz B<=n)(hu:Q4 k=true)(g:AG H (.bin k a A B))
 (q:∀v T' H',Cn v->Upd H (.bin k a A B) H' T'->T'.den=frm (Tr.bin k a A B).den y->Q v H'):call (e+1) DE [.ref a,.int y] [] H Q:=by
 have hd:∀A B,(Tr.bin k a A B).den=dU A.den B.den:=λA B=>congrFun (congrFun (ND hu) _) _;refine AR (Bk.start g) λid hc b=>?_;refine(Cu b.own HX ?_:Ap (call e) [] EQ [(AA,.ref a),(AW,.int y)] H (AS Q));rw[Mc];replace b:=b.put (ys:=bF k A.addr B.addr (some .none)) (OD k)
 generalize H.put a _=H1 at b ⊢
 have fin:∀{v H' A' B'},Cn v->Bk H H' a (bC k) (bF k A.addr B.addr (some .none)) A B A' B'->A'.den=frm A.den y->B'.den=frm B.den y->Q v H':=λ{v H' A' B'} f b' e1 e2 =>
  have e0:(Tr.bin k a A' B').den=frm (Tr.bin k a A B).den y:=by rw[hd,hd,e1,e2,OK]
  q v (.bin k a A' B') H' f (b'.upd hu (Vp hu) (.inr (Di e0))) e0
 have oA:=ih A hA e he;have oB:=ih B hB e he;have rest:∀{v H' A'},Cn v->Bk H H' a (bC k) (bF k A.addr B.addr (some .none)) A B A' B->A'.den=frm A.den y->Ap (call e) [] (EQ.drop 3) [(AA,.ref a),(AW,.int y),(Jb,v),(Is,.bool false)] H' (AS Q):=λ{v H' A'} f b e1=>by
  refine AB b.own (b.rB.m1 rfl (oB.act b.gB λbb hbb=>?_));cases bb with
  | false =>
   have z:=fin (.inr rfl) b e1 (OC hbb.neg).symm;rcases f with rfl|rfl<;>exact z
  | true =>
   refine AB b.own (b.rB.m2 hbb.pos rfl (oB.skip b.gB hbb.pos λv' B' H' f' u e2=>?_));have z:=fin f' (b.mB u) e1 e2;rcases f with rfl|rfl<;>exact z
 refine AB b.own (b.rA.m1 rfl (oA.act b.gA λba hba=>?_));cases ba with
 | false=>exact rest (.inr rfl) b (OC hba.neg).symm
 | true=>exact AB b.own (b.rA.m2 hba.pos rfl (oA.skip b.gA hba.pos λv' A' H' f' u e2=>rest f' (b.mA u) e2))
end
section
variable{p:Nat}{T:Tr}
theorem Aa(o:FQ e T)(g:AG H T)(ad:T.addr=p)(q:∀b,KX T.den b->Q (.bool b) H):Ba H (.ref p) AC λf=>call e f [.ref p] [] H Q:=by
 subst ad;exact g.rep.m1 rfl (o.act g q)
theorem B7{x}(o:FQ e T)(g:AG H T)(ad:T.addr=p)(hx:Hd T.den x)(q:∀H',Qt H H' (fp T)->Q (.int x) H'):Ba H (.ref p) AW λf=>call e f [.ref p] [] H Q:=by
 subst ad;exact g.rep.m2 hx.act rfl (o.id g hx.act λy H' w hy=>by exact(hy.uniq hx).symm▸q H' w)
theorem Cy(o:FQ e T)(g:AG H T)(ad:T.addr=p)(q:∀m,0<=m->Q (.int m) H):Ba H (.ref p) AF λf=>call e f [.ref p] [] H Q:=by
 subst ad;exact g.rep.m1 rfl (o.mq g q)
theorem Eg{x}(o:FQ e T)(g:AG H T)(ad:T.addr=p)(hx:Hd T.den x)(q:∀v T' H',Cn v->Upd H T H' T'->T'.den=frm T.den (x+1)->Q v H'):Ba H (.ref p) Ar λf=>call e f [.ref p] [] H Q:=by
 subst ad;exact g.rep.m2 hx.act rfl (o.next g hx.act λv y T' H' f u hy e=>by rw[hy.uniq hx] at e;exact q v T' H' f u e)
theorem DH{y}(o:FQ e T)(g:AG H T)(ad:T.addr=p)(ha:Ag T.den)(q:∀v T' H',Cn v->Upd H T H' T'->T'.den=frm T.den y->Q v H'):Ba H (.ref p) AP λf=>call e f [.ref p,.int y] [] H Q:=by
 subst ad;exact g.rep.m2 ha rfl (o.skip g ha q)
theorem Eh(o:FQ e T)(g:AG H T)(ad:T.addr=p)(q:∀T' H',Qt H H' (fp T)->AG H' T'->T'.den=T.den->sz T'<=sz T->sc T'<=sc T->T'.cl=T.cl->(∀x∈fp T',H x=none)->Q (.ref T'.addr) H') :
 Ba H (.ref p) A8 λf=>call e f [.ref p] [] H Q:=by
 subst ad;exact g.rep.m1 rfl (o.copy g q)
theorem Ca{vs}(o:FQ e T)(g:AG H T)(hs:sc T<=2)(ad:T.addr=p)(hv:vs=[]\/∃q,q<=0/\vs=[.int q])(q:∀T' H',OF H T H' T'->Q (.ref T'.addr) H') :
 Ba H (.ref p) AK λf=>call e f (.ref p::vs) [] H Q:=by
 subst ad;exact g.rep.m1 rfl (o.repl g hs hv q)
end
theorem tB{H:MH}{b}{K:Bool->Prop}(k:K b):Fq H (.bool b) K:=k
theorem ifT{A B}(k:A):HC true A B:=k
theorem KQ{A B}(k:B):HC false A B:=k
theorem CJ{C κ ρ H Q}(k:Q .next ρ H):Ap C κ [] ρ H Q:=k
theorem FP{K Q ρ H}(k:K ρ H):IT K Q .next ρ H:=k
theorem BE{x:Nat}{v:V}:∀{ρ:As},AN x (put x v ρ)=some v
 | []=>by show cond (Y4 x x) _ _=_;rw[cD];rfl
 | p::r=>by
  show AN x (cond (Y4 p.1 x) _ _)=_
  cases e:Y4 p.1 x with
  | true=>show cond (Y4 p.1 x) _ _=_;exact e▸rfl
  | false=>show cond (Y4 p.1 x) _ _=_;exact e.symm▸BE
theorem SJ{C κ x y r ρ H Q u v}(hu:AN x ρ=some u)(fu:Cn u)(hv:AN y ρ=some v)(k:Ap C κ r (put x v ρ) H Q):Ap C κ (.asg x (.or [.var x,.var y])::r) ρ H Q:=by
 show op (AN x ρ) _
 refine hu.symm▸?_;have:op (AN y ρ) λv=>IT (λρ H=>Ap C κ r ρ H Q) Q .next (put x v ρ) H:=by rw[hv];exact k
 rcases fu with rfl|rfl<;>exact this
theorem Ag.hd{A:D}(h:Ag A)(b:Bd A):∃x,Hd A x:=OA b h
def Fa(A B A' B':D):Prop:=dR A' B'=dR A B/\dR B' A'=dR B A
theorem dI_R{A B:D}:dI A B=dI (dR A B) (dR B A):=by
 funext d;unfold dI dR
 cases A d<;>cases B d<;>rfl
theorem Fa.dI{A B A' B':D}(h:Fa A B A' B'):Mine.dI A' B'=Mine.dI A B:=by rw[dI_R,h.1,h.2,<- dI_R]
theorem dR_l{A B:D}{y}(h:Hd B y):dR (frm A y) B=dR A B:=by
 have e:frm (dR A B) y=dR A B:=(Fu (λU U=>rfl) λd q=>h.2 _ (Gv.mp q).2).symm;rw[<- e,PH,Fv h (ZP _)]
theorem dR_r{A B:D}{x}(h:Hd A x):dR A (frm B x)=dR A B:=by
 have e:frm (dR A B) x=dR A B:=(Fu (λU U=>rfl) λd q=>h.2 _ (Gv.mp q).1).symm;rw[<- e,PH,Fv h (ZP _)]
theorem Fa.l{A B A' B':D}{y}(h:Fa A B A' B')(k:Hd B' y):Fa A B (frm A' y) B':=⟨(dR_l k).trans h.1,(dR_r k).trans h.2⟩
theorem Fa.r{A B A' B':D}{x}(h:Fa A B A' B')(k:Hd A' x):Fa A B A' (frm B' x):=⟨(dR_r k).trans h.1,(dR_l k).trans h.2⟩
theorem dI_act{A B:D}{x}(h:Hd A x)(k:Hd B x):Hd (dI A B) x:=⟨Gu.mpr ⟨h.1,k.1⟩,λd q=>h.2 _ (Gu.mp q).1⟩
theorem C8{A B:D}(h:Ag (dI A B)):Ag A/\Ag B:=BB h λd h=>⟨⟨d,(Gu.mp h).1⟩,⟨d,(Gu.mp h).2⟩⟩
theorem Hd.frm_lt{A:D}{x y z}(h:Hd A x)(k:Hd (frm A y) z)(q:x<y):x<z:=Z4 q k.frm_ge
section
variable{n d a:Nat}{WL WN A B:Tr}{WP:MH}
inductive II (WP:MH) (a:Nat) (WL WN A B:Tr):Nat->As->MH->Prop
 | mk (A' B':Tr) (x y:Int) (r:V) (t:As) (H':MH) (b:Bk WP H' a .Inter (bF .inter WL.addr WN.addr none) WL WN A' B') (hx:Hd A'.den x) (hy:Hd B'.den y) (hd:Fa A.den B.den A'.den B'.den) (hr:Cn r):II WP a WL WN A B (2000-x-y).toNat ((AA,.ref a)::(Ak,.ref WL.addr)::(Av,.ref WN.addr)::(Fj,.int x)::(Fk,.int y)::(It,r)::t) H'
theorem K5(ih:Ih n d)(he:d<=e)(hA:sz WL<=n)(hB:sz WN<=n)(b:Bk WP H a .Inter (bF .inter WL.addr WN.addr none) WL WN A B){x y:Int}(hx:Hd A.den x)(hy:Hd B.den y)(ne:x≠y)
 (q:∀v A' B' H',Cn v->Bk WP H' a .Inter (bF .inter WL.addr WN.addr none) WL WN A' B'->Al A'.den B'.den->Fa A.den B.den A'.den B'.den->Q v H'):call (e+1) DM [.ref a] [] H Q:=by
 have cA:∀{H A B},Bk WP H a .Inter (bF .inter WL.addr WN.addr none) WL WN A B->FQ e A:=λb=>ih _ (b.eA.sz▸hA) e he;have cB:∀{H A B},Bk WP H a .Inter (bF .inter WL.addr WN.addr none) WL WN A B->FQ e B:=λb=>ih _ (b.eB.sz▸hB) e he;refine(AB b.own (AB b.own (B7 (cA b) b.gA b.eA.ad hx λH1 w=>?_)):Ap (call e) [] E9 [(AA,.ref a)] H (AS Q));replace b:=b.qA w;refine B7 (cB b) b.gB b.eB.ad hy λH2 w=>?_;replace b:=b.qB w;refine⟨by simpa using ne,?_⟩
 refine⟨II WP a WL WN A B,_,.mk A B x y (.bool false) [] _ b hx hy ⟨rfl,rfl⟩ (.inr rfl),?_⟩;clear hx hy ne b w;rintro U U H' ⟨A',B',x,y,r,t,H',b,hx,hy,hd,hr⟩;refine Aa (cA b) b.gA b.eA.ad λba hba=>?_;refine(hba.mpr hx.act).symm▸Aa (cB b) b.gB b.eB.ad λbb hbb=>?_;refine(hbb.mpr hy.act).symm▸AI (λne=>?_) λz=>?_
 ·have ne:x≠y:=by first|exact bf ne|exact bn ne
  have lx:=b.oA.bd _ hx.1;have ly:=b.oB.bd _ hy.1;refine AI (λz=>?_) λz=>?_
  ·have lt:=of_decide_eq_true z;refine DH (cA b) b.gA b.eA.ad hx.act λv A1 H1 f u e1=>?_;have hd':Fa A.den B.den A1.den B'.den:=by exact e1.symm▸hd.l hy
   replace b:=b.mA u;refine Aa (cA b) b.gA b.eA.ad λba hba=>?_;cases ba with
   | false=>exact q .none _ _ _ (.inl rfl) b (λx y hx U=>absurd hx.act hba.neg) hd'
   | true =>
    refine BB (hba.pos.hd b.oA.bd) λx1 hx1=>?_;have lt1:x<x1:=hx.frm_lt (e1▸hx1) lt;have lx1:=b.oA.bd _ hx1.1;refine tB (KQ (CJ (FP (SJ rfl hr BE ?_))));refine B7 (cA b) b.gA b.eA.ad hx1 λH2 w=>?_;exact⟨_,ms1 lt1 lx1.2 ly.2,.mk A1 B' x1 y v _ _ (b.qA w) hx1 hy hd' f⟩
  ·have lt:y<x:=lnI (aq.mp (of_decide_eq_false z)) (aL ‹x≠y›);refine DH (cB b) b.gB b.eB.ad hy.act λv B1 H1 f u e1=>?_;have hd':Fa A.den B.den A'.den B1.den:=by exact e1.symm▸hd.r hx
   replace b:=b.mB u;refine Aa (cB b) b.gB b.eB.ad λbb hbb=>?_;cases bb with
   | false=>exact q .none _ _ _ (.inl rfl) b (λx y U hy=>absurd hy.act hbb.neg) hd'
   | true =>
    refine BB (hbb.pos.hd b.oB.bd) λy1 hy1=>?_;have lt1:y<y1:=hy.frm_lt (e1▸hy1) lt;have ly1:=b.oB.bd _ hy1.1;refine tB (KQ (CJ (FP (SJ rfl hr BE ?_))));refine B7 (cB b) b.gB b.eB.ad hy1 λH2 w=>?_;exact⟨_,ms2 lt1 ly1.2 lx.2,.mk A' B1 x y1 v _ _ (b.qB w) hx hy1 hd' f⟩
 ·have exy:x=y:=by first|exact be z|exact be' z
  subst exy;exact q r A' B' H' hr b (λu v hu hv=>(hu.uniq hx).trans (hv.uniq hy).symm) hd
end
theorem dI_fl{A B:D}{z}:dI (frm A z) B=frm (dI A B) z:=by
 funext d;by_cases q:z<=d
 ·rw[BV q];unfold dI;rw[BV q]
 ·rw[Ef q];unfold dI;rw[Ef q];rfl
theorem dR_fl{A B:D}{z}:dR (frm A z) B=frm (dR A B) z/\dR B (frm A z)=frm (dR B A) z:=by
 constructor
 ·funext d;by_cases q:z<=d
  ·rw[BV q];unfold dR;rw[BV q]
  ·rw[Ef q];unfold dR;rw[Ef q];cases B d<;>rfl
 ·funext d;by_cases q:z<=d
  ·rw[BV q];unfold dR;rw[BV q]
  ·rw[Ef q];unfold dR;rw[Ef q];rfl
theorem Al.hd{A B:D}(al:Al A B)(bA:Bd A)(bB:Bd B)(hA:Ag A)(hB:Ag B):∃x,Hd A x/\Hd B x/\Hd (dI A B) x:=by
 refine BB (OA bA hA) λx hx=>?_;refine BB (OA bB hB) λy hy=>?_;cases al x y hx hy
 exact⟨x,hx,hy,dI_act hx hy⟩
theorem JH{C κ x y ρ H Q u v}(hu:AN x ρ=some u)(fu:Cn u)(hv:AN y ρ=some v)(k:Q (.ret v) ρ H):Ap C κ [.ret (.or [.var x,.var y])] ρ H Q:=by
 show op (AN x ρ) _
 refine hu.symm▸?_;have:op (AN y ρ) λv=>IT (λρ H=>Ap C κ [] ρ H Q) Q (.ret v) ρ H:=by rw[hv];exact k
 rcases fu with rfl|rfl<;>exact this
theorem QH{C κ x y z ρ H Q u v w}(hu:AN x ρ=some u)(fu:Cn u)(hv:AN y ρ=some v)(fv:Cn v)(hw:AN z ρ=some w)(k:Q (.ret w) ρ H):Ap C κ [.ret (.or [.var x,.var y,.var z])] ρ H Q:=by
 show op (AN x ρ) _
 refine hu.symm▸?_;have:op (AN z ρ) λv=>IT (λρ H=>Ap C κ [] ρ H Q) Q (.ret v) ρ H:=by exact hw.symm▸k
 have:op (AN y ρ) λv=>Fq H v λb=>HC b (IT (λρ H=>Ap C κ [] ρ H Q) Q (.ret v) ρ H) (op (AN z ρ) λv=>IT (λρ H=>Ap C κ [] ρ H Q) Q (.ret v) ρ H):=by
  rw[hv];rcases fv with rfl|rfl<;>exact this
 rcases fu with rfl|rfl<;>exact this
theorem K6{H a K c as}(h:H a=some (.inst c as))(k:K c as):rdI H a K:=⟨c,as,h,k⟩
def alB:BK->D->D->Prop
 | .uni|.dm=>λU U=>True
 | .inter=>Al
 | .anot=>Rq .anot
 | .maybe=>λU U=>False
structure Mk(k:BK)(H:MH)(A B:Tr)(n:Nat)(A' B':Tr)(H':MH):Prop where
 good:AG H' (.bin k n A' B')
 den:dB k A'.den B'.den=dB k A.den B.den
 eA:Ib A A'
 eB:Ib B B'
 fr:An H H' (fp A++fp B)
 nn:H n=none
 qt:alB k A.den B.den->∀S,A4 H S->A4 H' S
theorem An.new'{H H':MH}{n:Nat}{o:O}{F}(h:H n=none)(f:An (H.put n o) H' (n::F)):An H H' F :=
 ⟨λb o' e q=>by
  have ne:b≠n:=λz=>by subst z;exact nS h e
  exact f.kp b o' (by rw[Ab _ _ ne];exact e) (q.imp (λm z=>(mcP z).elim ne m) id),λb e=>(An.new (F:=[]) h).dm b (f.dm b e)⟩
theorem A4.new{H:MH}{n:Nat}{o:O}{S:Tr}(h:H n=none)(r:A4 H S):A4 (H.put n o) S:=r.frame (F:=[]) (An.new h) λU U=>Zn
theorem A4.nin{H:MH}{n:Nat}{S:Tr}(r:A4 H S)(h:H n=none):n∉fp S:=λm=>by refine AR (r.fps n m) λo e U=>?_;exact nS h e
section
variable{n d a m:Nat}{WL WN A B:Tr}{WP H':MH}{k:BK}{c:Cl}{ido:Option V}
theorem Bk.fresh{xs}(gA:AG H A)(gB:AG H B)(dj:∀x∈fp A,x∉fp B)(h:H m=none):Bk (H.put m (.inst c xs)) (H.put m (.inst c xs)) m c xs A B A B :=
 ⟨AH _ _ _,gA.ok,gB.ok,gA.rep.new h,gB.rep.new h,.refl,.refl,.refl,ncR ⟨λz=>(maP z).elim (gA.rep.nin h) (gB.rep.nin h),bj.mpr ⟨gA.nd,gB.nd,λx hx y hy e=>dj x hx (e▸hy)⟩⟩⟩
theorem Bk.made{o id}{A' B':Tr}(b:Bk (H.put m o) H' m (bC k) (bF k A.addr B.addr id) A B A' B')(h:H m=none)(hc:GZ k (dB k A'.den B'.den) id)(ok:Rq k A'.den B'.den)(dn:dB k A'.den B'.den=dB k A.den B.den)(qt:alB k A.den B.den->∀S,A4 (H.put m o) S->A4 H' S) :
 Mk k H A B m A' B' H' :=
 ⟨⟨⟨⟨id,by rw[b.eA.ad,b.eB.ad];exact b.own,hc⟩,b.rA,b.rB⟩,⟨b.oA,b.oB,ok⟩,by show(m::(fp A'++fp B')).Nodup;rw[b.eA.fp,b.eB.fp];exact b.nd⟩,dn,b.eA,b.eB,An.new' h b.fr,h,λz S r=>qt z S (r.new h)⟩
theorem JI{p q:Nat}(k:Q .none (H.put m (.inst c (bF .inter p q none)))):call (e+1) By [.ref m,.ref p,.ref q] [] (H.put m (.inst c [])) Q:=by
 show Ap (call e) [] MZ [(AA,.ref m),(Ak,.ref p),(Av,.ref q)] _ (AS Q)
 exact Ee rfl (Ee rfl k)
/-! or -/
theorem NE(gA:AG H A)(gB:AG H B)(dj:∀x∈fp A,x∉fp B)(q:∀m H',Mk .uni H A B m A B H'->Q (.ref m) H'):Eb (call (e+1)) .Union [.ref A.addr,.ref B.addr] [] H Q :=
 DR rfl λm h=>JI ⟨rfl,q m _ ((Bk.fresh (c:=.Union) gA gB dj h).made (k:=.uni) (id:=none) h trivial trivial rfl λU U r=>r)⟩
theorem PM(gA:AG H A)(gB:AG H B)(dj:∀x∈fp A,x∉fp B){us:As}(hu:us=[]\/us=[(B8,.int 0)])(q:∀m H',Mk .dm H A B m A B H'->Q (.ref m) H'):Eb (call (e+2)) .DMax [.ref A.addr,.ref B.addr] us H Q:=by
 refine DR rfl λm h=>?_;have fin:Ap (call (e+1)) [] J8 [(AA,.ref m),(Ak,.ref A.addr),(Av,.ref B.addr),(B8,.int 0)] (H.put m (.inst .DMax [])) (AS λv H'=>v=.none/\Q (.ref m) H'):=by
  refine K6 (AH _ _ _) ⟨rfl,JI ?_⟩;exact Ee rfl ⟨rfl,q m _ ((Bk.fresh (c:=.DMax) gA gB dj h).made (k:=.dm) (id:=none) h trivial trivial rfl λU U r=>r)⟩
 rcases hu with rfl|rfl<;>exact fin
/-! and -/
theorem Ga(ih:Ih n d)(he:d<=e)(hA:sz WL<=n)(hB:sz WN<=n)(b:Bk WP H a .Inter (bF .inter WL.addr WN.addr none) WL WN A B)(q:∀b,(b=true<->Ag A.den/\Ag B.den)->Q (.bool b) H):call (e+1) B0 [.ref a] [] H Q:=by
 refine(AB b.own (Aa (ih _ (b.eA.sz▸hA) e he) b.gA b.eA.ad λba hba=>?_):Ap (call e) [] Dd [(AA,.ref a)] H (AS Q));cases ba with
 | false=>exact q false ⟨λz=>(zT z),λz=>absurd z.1 hba.neg⟩
 | true=>exact AB b.own (Aa (ih _ (b.eB.sz▸hB) e he) b.gB b.eB.ad λbb hbb=>q bb ⟨λz=>⟨hba.pos,hbb.mp z⟩,λz=>hbb.mpr z.2⟩)
theorem RA(ih:Ih n d)(he:d<=e)(hA:sz WL<=n)(hB:sz WN<=n)(b:Bk WP H a .Inter (bF .inter WL.addr WN.addr none) WL WN A B)
 (q:∀A' B' H',Bk WP H' a .Inter (bF .inter WL.addr WN.addr none) WL WN A' B'->Al A'.den B'.den->Fa A.den B.den A'.den B'.den->(Al A.den B.den->∀S,A4 H S->A4 H' S)->Q .none H'):call (e+2) Cz [.ref a] [] H Q:=by
 have cA:∀{H A B},Bk WP H a .Inter (bF .inter WL.addr WN.addr none) WL WN A B->FQ (e+1) A:=λb=>ih _ (b.eA.sz▸hA) _ (Zk he);have cB:∀{H A B},Bk WP H a .Inter (bF .inter WL.addr WN.addr none) WL WN A B->FQ (e+1) B:=λb=>ih _ (b.eB.sz▸hB) _ (Zk he);refine(AB b.own (Aa (cA b) b.gA b.eA.ad λba hba=>?_):Ap (call (e+1)) [] EV [(AA,.ref a)] H (AS Q));cases ba with
 | false=>exact q _ _ _ b (λU U h U=>absurd h.act hba.neg) ⟨rfl,rfl⟩ λU U r=>r
 | true =>
  refine AB b.own (Aa (cB b) b.gB b.eB.ad λbb hbb=>?_);cases bb with
  | false=>exact q _ _ _ b (λU U U h=>absurd h.act hbb.neg) ⟨rfl,rfl⟩ λU U r=>r
  | true =>
   obtain⟨x,hx⟩:=hba.pos.hd b.oA.bd;refine BB (hbb.pos.hd b.oB.bd) λy hy=>?_;refine AB b.own (B7 (cA b) b.gA b.eA.ad hx λH1 w1=>?_);replace b:=b.qA w1;refine AB b.own (B7 (cB b) b.gB b.eB.ad hy λH2 w2=>?_);replace b:=b.qB w2;refine AI (λz=>?_) λz=>?_
   ·have ne:x≠y:=by first|exact bf z|exact bn z
    exact Ae b.own rfl rfl (K5 ih he hA hB b hx hy ne λv A' B' H' U b al e=>q A' B' H' b al e λal'=>absurd (al' x y hx hy) ne)
   ·have exy:x=y:=by first|exact be z|exact be' z
    exact q _ _ _ b (λu v hu hv=>(hu.uniq hx).trans (exy.trans (hy.uniq hv))) ⟨rfl,rfl⟩ λU S r=>w2.rp S (w1.rp S r)
theorem KZ(ih:Ih n d)(he:d<=e)(hA:sz A<=n)(hB:sz B<=n)(gA:AG H A)(gB:AG H B)(dj:∀x∈fp A,x∉fp B)(q:∀m A' B' H',Mk .inter H A B m A' B' H'->Fa A.den B.den A'.den B'.den->Q (.ref m) H'):Eb (call (e+3)) .Inter [.ref A.addr,.ref B.addr] [] H Q:=by
 refine DR rfl λm h=>?_;refine(K6 (AH _ _ _) ⟨rfl,JI ?_⟩:Ap (call (e+2)) [] I8 [(AA,.ref m),(Ak,.ref A.addr),(Av,.ref B.addr)] (H.put m (.inst .Inter [])) (AS λv H'=>v=.none/\Q (.ref m) H'));refine OJ rfl rfl (RA ih he hA hB (Bk.fresh gA gB dj h) λA' B' H' b al dn qt=>⟨rfl,q m A' B' H' (b.made (k:=.inter) h trivial al dn.dI qt) dn⟩)
theorem int_id(ih:Ih n d)(he:d<=e)(hA:sz A<=n)(g:AG H (.bin .inter a A B))(ha:Ag (Tr.bin .inter a A B).den)(q:∀x H',Qt H H' (fp (.bin .inter a A B))->Hd (Tr.bin .inter a A B).den x->Q (.int x) H'):call (e+1) IS [.ref a] [] H Q:=by
 refine AJ λGG hG=>?_;refine AR (Bk.start g) λid hc b=>?_;refine Es (g.ok.2.2.hd b.oA.bd b.oB.bd (C8 ha).1 (C8 ha).2) λx hx hy hd=>?_;refine hG ?_;clear hG GG;exact(AB b.own (B7 (ih _ hA e he) b.gA rfl hx λH' w=>q x H' (w.mono λx m=>.tail _ (Yw _ m)) hd):Ap (call e) [] IY [(AA,.ref a)] H (AS Q))
theorem PN(ih:Ih n d)(he:d<=e)(hA:sz WL<=n)(hB:sz WN<=n)(b:Bk WP H a c (bF k WL.addr WN.addr ido) WL WN A B)(q:∀m,0<=m->Q (.int m) H):call (e+1) BY [.ref a] [] H Q:=by
 have cA:=ih _ (b.eA.sz▸hA) e he;have cB:=ih _ (b.eB.sz▸hB) e he
 show Ap (call e) [] DY [(AA,.ref a)] H (AS Q)
 have rest:∀m,0<=m->Ap (call e) [] (DY.drop 2) [(AA,.ref a),(x_q,.int m)] H (AS Q):=λm hm=>by
  refine AB b.own (Aa cB b.gB b.eB.ad λbb U=>?_);cases bb with
  | false=>exact q m hm
  | true=>exact AB b.own (Cy cB b.gB b.eB.ad λm' hm'=>q _ (Zm hm hm'))
 refine AB b.own (Aa cA b.gA b.eA.ad λba U=>?_);cases ba with
 | false=>exact rest 0 (ZP _)
 | true=>exact AB b.own (Cy cA b.gA b.eA.ad λm' hm'=>rest _ (Zm (ZP _) hm'))
theorem ON(ih:Ih n d)(he:d<=e)(hA:sz A<=n)(hB:sz B<=n)(g:AG H (.bin .inter a A B))(ha:Ag (Tr.bin .inter a A B).den)
 (q:∀v x A' B' H',Cn v->Upd H (.bin .inter a A B) H' (.bin .inter a A' B')->Ib A A'->Ib B B'->Hd (Tr.bin .inter a A B).den x->(Tr.bin .inter a A' B').den=frm (Tr.bin .inter a A B).den (x+1)->Al A'.den B'.den->dR A'.den B'.den=frm (dR A.den B.den) (x+1)->Q v H'):call (e+2) B3 [.ref a] [] H Q:=by
 refine AR (Bk.start g) λid hc b=>?_;have hid:id=none:=by
  cases id with
  | none=>rfl
  | some v=>exact nomatch v<;>first|exact zT hc;done|(cases hc.1;done)|exact hc.elim
 subst hid;refine Es (g.ok.2.2.hd b.oA.bd b.oB.bd (C8 ha).1 (C8 ha).2) λx hx hy hd=>?_;have he':=Zk he;refine(Ae b.own rfl rfl (Ga ih he hA hB b λba hba=>?_):Ap (call (e+1)) [] I9 [(AA,.ref a)] H (AS Q));refine(hba.mpr (C8 ha)).symm▸AB b.own (Eg (ih _ hA _ he') b.gA b.eA.ad hx λv A' H1 f u e1=>?_);replace b:=b.mA u;have dn:dI A'.den B.den=frm (dI A.den B.den) (x+1):=by exact e1.symm▸dI_fl
 have rn:dR A'.den B.den=frm (dR A.den B.den) (x+1):=by rw[e1];exact dR_fl.1
 refine Ae b.own rfl rfl (Ga ih he hA hB b λbb hbb=>?_);cases bb with
 | false=>exact q .none x A' B H1 (.inl rfl) (b.upd (k:=.inter) (id:=none) trivial (λu v hu hv=>nomatch hbb.mpr ⟨hu.act,hv.act⟩) (.inl rfl)) b.eA b.eB hd dn (λu v hu hv=>nomatch hbb.mpr ⟨hu.act,hv.act⟩) rn
 | true =>
  refine BB ((hbb.mp rfl).1.hd b.oA.bd) λx1 hx1=>?_;have lt:x<x1:=by have:=(e1▸hx1:Hd (frm A.den (x+1)) x1).frm_ge;assumption
  refine Ae b.own rfl rfl (K5 ih he hA hB b hx1 hy (Int.ne_of_gt lt) λv' A2 B2 H2 f' b al e2=>?_);exact JH rfl f rfl (q v' x A2 B2 H2 f' (b.upd (k:=.inter) (id:=none) trivial al (.inl rfl)) b.eA b.eB hd (e2.dI.trans dn) al (e2.1.trans rn))
theorem OQ{y:Int}(ih:Ih n d)(he:d<=e)(hA:sz A<=n)(hB:sz B<=n)(g:AG H (.bin .inter a A B))(ha:Ag (Tr.bin .inter a A B).den)
 (q:∀v A' B' H',Cn v->Upd H (.bin .inter a A B) H' (.bin .inter a A' B')->Ib A A'->Ib B B'->(Tr.bin .inter a A' B').den=frm (Tr.bin .inter a A B).den y->Al A'.den B'.den->dR A'.den B'.den=frm (dR A.den B.den) y->Q v H'):call (e+2) BD [.ref a,.int y] [] H Q:=by
 refine AR (Bk.start g) λid hc b=>?_;have hid:id=none:=by
  cases id with
  | none=>rfl
  | some v=>cases v<;>first|exact zT hc;done|(cases hc.1;done)|exact hc.elim
 subst hid;have he':=Zk he;refine(Ae b.own rfl rfl (Ga ih he hA hB b λba hba=>?_):Ap (call (e+1)) [] Gq [(AA,.ref a),(AW,.int y)] H (AS Q));refine(hba.mpr (C8 ha)).symm▸AB b.own (DH (ih _ hA _ he') b.gA b.eA.ad (C8 ha).1 λv A' H1 f u e1=>?_);replace b:=b.mA u;refine AB b.own (DH (ih _ hB _ he') b.gB b.eB.ad (C8 ha).2 λv' B' H2 f' u e2=>?_);replace b:=b.mB u;refine Es (g.ok.2.2.hd g.bA.ok.bd g.bB.ok.bd (C8 ha).1 (C8 ha).2) λx hx hy hd=>?_;have dn:dI A'.den B'.den=frm (dI A.den B.den) y:=by exact e1.symm▸e2.symm▸frm_dI.symm
 have rn:dR A'.den B'.den=frm (dR A.den B.den) y:=by exact e1.symm▸e2.symm▸PH.symm
 refine Ae b.own rfl rfl (Ga ih he hA hB b λbb hbb=>?_);cases bb with
 | false=>exact q .none A' B' H2 (.inl rfl) (b.upd (k:=.inter) (id:=none) trivial (λu v hu hv=>nomatch hbb.mpr ⟨hu.act,hv.act⟩) (.inl rfl)) b.eA b.eB dn (λu v hu hv=>nomatch hbb.mpr ⟨hu.act,hv.act⟩) rn
 | true =>
  refine AJ λGG hG=>?_;refine BB ((hbb.mp rfl).1.hd b.oA.bd) λx1 hx1=>?_;refine BB ((hbb.mp rfl).2.hd b.oB.bd) λy1 hy1=>?_;refine hG ?_;have cA:=ih _ (b.eA.sz▸hA) _ he';have cB:=ih _ (b.eB.sz▸hB) _ he';refine AB b.own (B7 cA b.gA b.eA.ad hx1 λH3 w3=>?_);replace b:=b.qA w3;refine AB b.own (B7 cB b.gB b.eB.ad hy1 λH4 w4=>?_);replace b:=b.qB w4;refine AI (λz=>?_) λz=>?_
  ·have ne:x1≠y1:=by first|exact bf z|exact bn z
   refine Ae b.own rfl rfl (K5 ih he hA hB b hx1 hy1 ne λv' A2 B2 H2 f'' b al e2'=>?_);exact FP (CJ (FP (QH rfl f rfl f' rfl (q v' A2 B2 H2 f'' (b.upd (k:=.inter) (id:=none) trivial al (.inl rfl)) b.eA b.eB (e2'.dI.trans dn) al (e2'.1.trans rn)))))
  ·have exy:x1=y1:=by first|exact be z|exact be' z
   exact CJ (FP (QH rfl f rfl f' rfl (q _ A' B' H4 (.inr rfl) (b.upd (k:=.inter) (id:=none) trivial (λu v hu hv=>(hu.uniq hx1).trans (exy.trans (hy1.uniq hv))) (.inl rfl)) b.eA b.eB dn (λu v hu hv=>(hu.uniq hx1).trans (exy.trans (hy1.uniq hv))) rn)))
end
theorem QI{A B:D}{z}:dN (frm A z) B=frm (dN A B) z:=by
 funext d;by_cases q:z<=d
 ·rw[BV q];unfold dN;rw[BV q]
 ·rw[Ef q];unfold dN;rw[Ef q];exact ite_self _
theorem Vq{A B:D}{x}(h:Hd A x):dN A (frm B x)=dN A B:=by
 have e:frm (dN A B) x=dN A B:=(Fu (λU U=>rfl) λd q=>h.2 _ (KB.mp q).1).symm;rw[<- e,PJ,Fv h (ZP _)]
theorem dN_nx{A B:D}{x}(h:Hd A x)(k:B x≠none):dN (frm A (x+1)) B=dN A B:=by
 refine QI.symm▸(Fu (λU U=>rfl) λd q=>?_).symm;refine Am (KB.mp q) λq1 q2=>?_;have z:d≠x:=λe=>k (e▸q2);exact lnI (h.2 _ q1) z.symm
theorem RN.frm{A B:D}{y}(h:RN A B)(ha:Ag A):RN (Mine.frm A y) (Mine.frm B y):=λU d q=>by
 obtain⟨q1,q2⟩:=FE.mp q;refine AR (h ha d q2) λe l k=>?_;exact⟨e,l,FE.mpr ⟨Y3 q1 l,k⟩⟩
theorem RN.nx{A B:D}{y}(h:RN A B)(ha:Ag A)(k:∀d,B d≠none->y<=d):RN (Mine.frm A y) B:=λU d q=>by
 refine AR (h ha d q) λe l k'=>?_;exact⟨e,l,FE.mpr ⟨Y3 (k d q) l,k'⟩⟩
theorem QJ{A B:D}{x}(h:Hd A x)(k:∀d,B d≠none->x<d):Hd (dN A B) x :=
 ⟨KB.mpr ⟨h.1,ZM λz=>a5 _ (k x z)⟩,λd q=>h.2 _ (KB.mp q).1⟩
theorem K7{A B:D}(h:Ag (dN A B)):Ag A:=BB h λd h=>⟨d,(KB.mp h).1⟩
theorem Ka{A B:D}(b:Bd A)(h:∀x,Hd A x->∀d,B d≠none->x<d):Ag (dN A B)<->Ag A :=
 ⟨K7,λha=>BB (OA b ha) λx hx=>(QJ hx (h x hx)).act⟩
theorem Cb{k:BK}{A:D}{id}(hk:Q4 k=false)(h:GZ k A id):id=none:=by
 cases id with
 | none=>rfl
 | some v=>cases v<;>first|exact absurd (hk.symm.trans h) (by decide)|exact absurd (hk.symm.trans h.1) (by decide)|exact h.elim
section
variable{n d a m:Nat}{WL WN A B:Tr}{WP H':MH}
abbrev BN(WP H:MH)(a:Nat)(WL WN A B:Tr):Prop:=Bk WP H a .AndNot (bF .anot WL.addr WN.addr none) WL WN A B
abbrev BM(WP H:MH)(a:Nat)(WL WN A B:Tr):Prop:=Bk WP H a .AndMaybe (bF .maybe WL.addr WN.addr none) WL WN A B
/-! and not -/
theorem Ua(ih:Ih n d)(he:d<=e)(hA:sz WL<=n)(b:BN WP H a WL WN A B)(q:∀b,KX A.den b->Q (.bool b) H):call (e+1) CP [.ref a] [] H Q:=by
 exact(AB b.own (Aa (ih _ (b.eA.sz▸hA) e he) b.gA b.eA.ad q):Ap (call e) [] DO [(AA,.ref a)] H (AS Q))
inductive NI (WP H:MH) (a:Nat) (WL WN A B:Tr):Nat->As->MH->Prop
 | mk (A' B':Tr) (x:Int) (r:V) (t:As) (H':MH) (b:BN WP H' a WL WN A' B') (hx:Hd A'.den x) (ge:∀d,B'.den d≠none->x<=d) (rn:RN A'.den B'.den) (hd:dN A'.den B'.den=dN A.den B.den) (st:Rq .anot A.den B.den->(∀d,B'.den d≠none->x<d)/\∀S,A4 H S->A4 H' S) (hr:Cn r):NI WP H a WL WN A B (1000-x).toNat ((AA,.ref a)::(J0,.ref WL.addr)::(Iu,.ref WN.addr)::(EC,.int x)::(It,r)::t) H'
theorem K8(ih:Ih n d)(he:d<=e)(hA:sz WL<=n)(hB:sz WN<=n)(b:BN WP H a WL WN A B)(pr:Ag B.den->Ag A.den)(rn:RN A.den B.den)
 (q:∀v A' B' H',Cn v->BN WP H' a WL WN A' B'->Rq .anot A'.den B'.den->dN A'.den B'.den=dN A.den B.den->(Rq .anot A.den B.den->∀S,A4 H S->A4 H' S)->Q v H'):call (e+1) C0 [.ref a] [] H Q:=by
 have cA:∀{H A B},BN WP H a WL WN A B->FQ e A:=λb=>ih _ (b.eA.sz▸hA) e he;have cB:∀{H A B},BN WP H a WL WN A B->FQ e B:=λb=>ih _ (b.eB.sz▸hB) e he;refine(AB b.own (AB b.own (Aa (cB b) b.gB b.eB.ad λbb hbb=>?_)):Ap (call e) [] C6 [(AA,.ref a)] H (AS Q));cases bb with
 | false=>exact q .none _ _ _ (.inl rfl) b ⟨λx U d z=>absurd ⟨d,z⟩ hbb.neg,rn⟩ rfl λU U r=>r
 | true =>
  refine AJ λGG hG=>?_;refine BB ((pr hbb.pos).hd b.oA.bd) λx hx=>?_;refine BB (hbb.pos.hd b.oB.bd) λy hy=>?_;refine hG ?_;refine tB (KQ (CJ (FP (B7 (cA b) b.gA b.eA.ad hx λH1 w1=>?_))));replace b:=b.qA w1;refine B7 (cB b) b.gB b.eB.ad hy λH2 w2=>?_;replace b:=b.qB w2;have w:∀S,A4 H S->A4 H2 S:=λS r=>w2.rp S (w1.rp S r);clear w1 w2;have loop:∀{B1 H1},BN WP H1 a WL WN A B1->(∀d,B1.den d≠none->x<=d)->RN A.den B1.den->dN A.den B1.den=dN A.den B.den->(Rq .anot A.den B.den->Hd B1.den y/\∀S,A4 H S->A4 H1 S) ->
   Ap (call e) [] (C6.drop 6) [(AA,.ref a),(J0,.ref WL.addr),(Iu,.ref WN.addr),(EC,.int x),(It,.bool false)] H1 (AS Q):=λ{B1 H1} b ge rn hd st=>by
   refine⟨NI WP H a WL WN A B,_,.mk A B1 x (.bool false) [] _ b hx ge rn hd (λo=>⟨λd z=>Z4 (o.1 x hx y hy.1) ((st o).1.2 d z),(st o).2⟩) (.inr rfl),?_⟩;clear hx hy b ge rn hd st pr w;rintro U U H' ⟨A',B',x,r,t,H',b,hx,ge,rn,hd,st,hr⟩;refine Aa (cA b) b.gA b.eA.ad λba hba=>?_;refine(hba.mpr hx.act).symm▸Aa (cB b) b.gB b.eB.ad λbb hbb=>?_;cases bb with
   | false=>exact q r _ _ _ hr b ⟨λx U d z=>absurd ⟨d,z⟩ hbb.neg,rn⟩ hd λo=>(st o).2
   | true =>
    refine BB (hbb.pos.hd b.oB.bd) λy hy=>?_;refine tB (ifT (B7 (cB b) b.gB b.eB.ad hy λH1 w=>?_));replace b:=b.qB w;refine AI (λz=>?_) λz=>?_
    ·have exy:x=y:=by first|exact be z|exact be' z
     subst exy;have no:¬ Rq .anot A.den B.den:=λo=>a5 _ ((st o).1 x hy.1);refine Eg (cA b) b.gA b.eA.ad hx λv A1 H2 f u e1=>?_;replace b:=b.mA u;have hd1:dN A1.den B'.den=dN A.den B.den:=by exact e1.symm▸(dN_nx hx hy.1).symm▸hd
     refine Aa (cA b) b.gA b.eA.ad λba hba=>?_;cases ba with
     | false=>exact q r _ _ _ hr b ⟨λx h=>absurd h.act hba.neg,λh=>absurd h hba.neg⟩ hd1 λo=>absurd o no
     | true =>
      refine BB (hba.pos.hd b.oA.bd) λx1 hx1=>?_;have lt:x<x1:=by have:=(e1▸hx1:Hd (frm A'.den (x+1)) x1).frm_ge;assumption
      have lx1:=b.oA.bd _ hx1.1;refine tB (KQ (CJ (FP (SJ rfl hr BE ?_))));refine B7 (cA b) b.gA b.eA.ad hx1 λH3 w=>?_;replace b:=b.qA w;refine DH (cB b) b.gB b.eB.ad hy.act λv' B1 H4 f' u e2=>?_;replace b:=b.mB u;have eA:frm A'.den x1=A1.den:=by
       have z:=Fv hx1 (ZP x1);rw[e1,UW (by assumption)] at z
       rw[e1];exact z
      exact⟨_,ms0 lt lx1.2,.mk A1 B1 x1 v _ _ b hx1 (λd z=>(FE.mp (e2▸z)).1) (by exact e2.symm▸eA▸rn.frm hx.act) (by exact e2.symm▸(Vq hx1).symm▸hd1) (λo=>absurd o no) f⟩
    ·have ne:x≠y:=by first|exact bf z|exact bn z
     have lt:x<y:=lnI (ge y hy.1) ne;exact q r _ _ _ hr b ⟨λx' hx' d z=>by rw[hx'.uniq hx];exact Z4 lt (hy.2 d z),rn⟩ hd λo S h=>w.rp S ((st o).2 S h)
  refine AI (λz=>?_) λz=>?_
  ·have lt:=of_decide_eq_true z;refine DH (cB b) b.gB b.eB.ad hbb.pos λv B1 H1 f u e1=>?_;refine loop (b.mB u) (λd z=>by rw[e1] at z;exact(FE.mp z).1) (λha d z=>by rw[e1] at z;exact rn ha d (FE.mp z).2) (by rw[e1,Vq hx]) λo=>?_
   have:=o.1 x hx y hy.1;exact absurd (bP ‹(_:Int)<_› ‹_›) (a5 _)
  ·exact loop b (λd z'=>Y3 (aq.mp (of_decide_eq_false z)) (hy.2 d z')) rn rfl λo=>⟨hy,w⟩
theorem not_id(ih:Ih n d)(he:d<=e)(hA:sz A<=n)(g:AG H (.bin .anot a A B))(ha:Ag (Tr.bin .anot a A B).den)(q:∀x H',Qt H H' (fp (.bin .anot a A B))->Hd (Tr.bin .anot a A B).den x->Q (.int x) H'):call (e+1) G9 [.ref a] [] H Q:=by
 refine AR (Bk.start g) λid hc b=>?_;refine BB ((K7 ha).hd b.oA.bd) λx hx=>?_;exact(AB b.own (B7 (ih _ hA e he) b.gA rfl hx λH' w=>q x H' (w.mono λx m=>.tail _ (Yw _ m)) (QJ hx (g.ok.2.2.1 x hx))):Ap (call e) [] KA [(AA,.ref a)] H (AS Q))
theorem not_mq(ih:Ih n d)(he:d<=e)(hA:sz A<=n)(g:AG H (.bin .anot a A B))(q:∀m,0<=m->Q (.int m) H):call (e+1) Ch [.ref a] [] H Q:=by
 refine AR (Bk.start g) λid hc b=>?_;exact(AB b.own (Cy (ih _ hA e he) b.gA rfl q):Ap (call e) [] EG [(AA,.ref a)] H (AS Q))
theorem SK(ih:Ih n d)(he:d<=e)(hA:sz A<=n)(hB:sz B<=n)(g:AG H (.bin .anot a A B))(ha:Ag (Tr.bin .anot a A B).den)
 (q:∀v x T' H',Cn v->Upd H (.bin .anot a A B) H' T'->Hd (Tr.bin .anot a A B).den x->T'.den=frm (Tr.bin .anot a A B).den (x+1)->Q v H'):call (e+2) CA [.ref a] [] H Q:=by
 refine AR (Bk.start g) λid hc b=>?_;cases Cb rfl hc
 replace b:BN H H a A B A B:=b;refine BB ((K7 ha).hd b.oA.bd) λx hx=>?_;have ok:=g.ok.2.2;have hd:=QJ hx (ok.1 x hx);have he':=Zk he;refine(AB b.own (Aa (ih _ hA _ he') b.gA b.eA.ad λba hba=>?_):Ap (call (e+1)) [] Fs [(AA,.ref a)] H (AS Q));refine(hba.mpr hx.act).symm▸tB (KQ (CJ (FP (AB b.own (Eg (ih _ hA _ he') b.gA b.eA.ad hx λv A' H1 f u e1=>?_)))));replace b:=b.mA u;have dn:dN A'.den B.den=frm (dN A.den B.den) (x+1):=by rw[e1,QI]
 have rn:RN A'.den B.den:=by rw[e1];exact ok.2.nx hx.act λd q=>ok.1 x hx d q
 refine AB b.own (Aa (ih _ (b.eA.sz▸hA) _ he') b.gA b.eA.ad λba hba=>?_);have cases0:(∀x,Hd A'.den x->∀d,B.den d≠none->x<d)->Ap (call (e+1)) [] (Fs.drop 4) [(AA,.ref a),(Kk,v),(Nm,.bool false)] H1 (AS Q):=λo =>
  JH rfl f rfl (q (.bool false) x _ H1 (.inr rfl) (b.upd (k:=.anot) (id:=none) trivial ⟨o,rn⟩ (.inr (Di dn))) hd dn)
 cases ba with
 | false=>exact cases0 λx h=>absurd h.act hba.neg
 | true =>
  refine AB b.own (Aa (ih _ hB _ he') b.gB b.eB.ad λbb hbb=>?_);cases bb with
  | false=>exact cases0 λx U d h=>absurd ⟨d,h⟩ hbb.neg
  | true=>exact Ae b.own rfl rfl (K8 ih he hA hB b (λU=>hba.pos) rn λv' A2 B2 H2 f' b ok2 e2 U=>FP (CJ (FP (JH rfl f rfl (q v' x _ H2 f' (b.upd (k:=.anot) (id:=none) trivial ok2 (.inr (Di (e2.trans dn)))) hd (e2.trans dn))))))
theorem SM{y:Int}(ih:Ih n d)(he:d<=e)(hA:sz A<=n)(hB:sz B<=n)(g:AG H (.bin .anot a A B))(ha:Ag (Tr.bin .anot a A B).den)
 (q:∀v T' H',Cn v->Upd H (.bin .anot a A B) H' T'->T'.den=frm (Tr.bin .anot a A B).den y->Q v H'):call (e+2) BH [.ref a,.int y] [] H Q:=by
 refine AR (Bk.start g) λid hc b=>?_;cases Cb rfl hc
 replace b:BN H H a A B A B:=b;refine BB ((K7 ha).hd b.oA.bd) λx hx=>?_;have ok:=g.ok.2.2;have hd:=QJ hx (ok.1 x hx);have he':=Zk he;refine(AB b.own (Aa (ih _ hA _ he') b.gA b.eA.ad λba hba=>?_):Ap (call (e+1)) [] F6 [(AA,.ref a),(AW,.int y)] H (AS Q));refine(hba.mpr hx.act).symm▸tB (KQ (CJ (FP (AB b.own (B7 (ih _ hA _ he') b.gA b.eA.ad hx λH0 w=>?_)))));replace b:=b.qA w;refine AI (λz=>?_) λz=>?_
 ·have lt:=of_decide_eq_true z;exact q .none _ H0 (.inl rfl) (b.upd (k:=.anot) (id:=none) trivial ok (.inr (Di (Fv hd (ZZ lt)).symm))) (Fv hd (ZZ lt)).symm
 refine AB b.own (DH (ih _ hA _ he') b.gA b.eA.ad hx.act λv A' H1 f u e1=>?_);replace b:=b.mA u;refine AB b.own (Aa (ih _ hB _ he') b.gB b.eB.ad λbb hbb=>?_);cases bb with
 | false =>
  refine q .none _ H1 (.inl rfl) (b.upd (k:=.anot) (id:=none) trivial ⟨λx U d h=>absurd ⟨d,h⟩ hbb.neg,λU d h=>absurd ⟨d,h⟩ hbb.neg⟩ (.inr (Di (y:=y) (by show dN A'.den B.den=_;exact e1▸QI▸rfl)))) (by show dN A'.den B.den=_;exact e1▸QI▸rfl)
 | true =>
  refine AB b.own (DH (ih _ hB _ he') b.gB b.eB.ad hbb.pos λv' B' H2 f' u e2=>?_);replace b:=b.mB u;refine Ae b.own rfl rfl (K8 ih he hA hB b (λt=>BB t λd h=>?_) (by exact e1.symm▸e2.symm▸ok.2.frm hx.act) λv' A2 B2 H3 f' b ok2 e3 st=>?_)
  ·replace h:=e2▸h;refine Am (FE.mp h) λl h=>?_;refine AR (ok.2 hx.act d h) λe l' h'=>?_;exact⟨e,by exact e1.symm▸FE.mpr ⟨Y3 l l',h'⟩⟩
  ·refine q .none _ H3 (.inl rfl) (b.upd (k:=.anot) (id:=none) trivial ok2 (.inr (Di (y:=y) (by show dN A2.den B2.den=_;exact e3.symm▸e1.symm▸e2.symm▸PJ.symm)))) (by show dN A2.den B2.den=_;exact e3.symm▸e1.symm▸e2.symm▸PJ.symm)
theorem RB(ih:Ih n d)(he:d<=e)(hA:sz WL<=n)(hB:sz WN<=n)(b:BN WP H a WL WN A B)(pr:∀x,Hd A.den x->∀d,B.den d≠none->x<=d)(rn:RN A.den B.den)
 (q:∀A' B' H',BN WP H' a WL WN A' B'->Rq .anot A'.den B'.den->dN A'.den B'.den=dN A.den B.den->(Rq .anot A.den B.den->∀S,A4 H S->A4 H' S)->Q .none H'):call (e+2) Cg [.ref a] [] H Q:=by
 have cA:∀{H A B},BN WP H a WL WN A B->FQ (e+1) A:=λb=>ih _ (b.eA.sz▸hA) _ (Zk he);have cB:∀{H A B},BN WP H a WL WN A B->FQ (e+1) B:=λb=>ih _ (b.eB.sz▸hB) _ (Zk he);refine(AB b.own (Aa (cA b) b.gA b.eA.ad λba hba=>?_):Ap (call (e+1)) [] EF [(AA,.ref a)] H (AS Q));cases ba with
 | false=>exact q _ _ _ b ⟨λx h=>absurd h.act hba.neg,rn⟩ rfl λU U r=>r
 | true =>
  refine AB b.own (Aa (cB b) b.gB b.eB.ad λbb hbb=>?_);cases bb with
  | false=>exact q _ _ _ b ⟨λx U d h=>absurd ⟨d,h⟩ hbb.neg,rn⟩ rfl λU U r=>r
  | true =>
   refine BB (hba.pos.hd b.oA.bd) λx hx=>?_;refine BB (hbb.pos.hd b.oB.bd) λy hy=>?_;refine AB b.own (B7 (cA b) b.gA b.eA.ad hx λH1 w1=>?_);replace b:=b.qA w1;refine AB b.own (B7 (cB b) b.gB b.eB.ad hy λH2 w2=>?_);replace b:=b.qB w2;refine AI (λz=>?_) λz=>?_
   ·have exy:x=y:=by first|exact be z|exact be' z
    subst exy;exact Ae b.own rfl rfl (K8 ih he hA hB b (λU=>hba.pos) rn λv A' B' H' U b ok e U=>q A' B' H' b ok e λo=>absurd (o.1 x hx x hy.1) (a5 _))
   ·have ne:x≠y:=by first|exact bf z|exact bn z
    have lt:x<y:=lnI (pr x hx y hy.1) ne;exact q _ _ _ b ⟨λu hu d z=>by exact(hu.uniq hx).symm▸Z4 lt (hy.2 d z),rn⟩ rfl λU S r=>w2.rp S (w1.rp S r)
theorem NF(ih:Ih n d)(he:d<=e)(hA:sz A<=n)(hB:sz B<=n)(gA:AG H A)(gB:AG H B)(dj:∀x∈fp A,x∉fp B)(pr:∀x,Hd A.den x->∀d,B.den d≠none->x<=d)(rn:RN A.den B.den)(q:∀m A' B' H',Mk .anot H A B m A' B' H'->Q (.ref m) H'):Eb (call (e+3)) .AndNot [.ref A.addr,.ref B.addr] [] H Q:=by
 refine DR rfl λm h=>?_;refine(K6 (AH _ _ _) ⟨rfl,JI ?_⟩:Ap (call (e+2)) [] IE [(AA,.ref m),(Ak,.ref A.addr),(Av,.ref B.addr)] (H.put m (.inst .AndNot [])) (AS λv H'=>v=.none/\Q (.ref m) H'));exact OJ rfl rfl (RB ih he hA hB (Bk.fresh gA gB dj h) pr rn λA' B' H' b ok dn qt=>⟨rfl,q m A' B' H' (b.made (k:=.anot) h trivial ok dn qt)⟩)
/-! and maybe -/
theorem mb_act(ih:Ih n d)(he:d<=e)(hA:sz WL<=n)(b:BM WP H a WL WN A B)(q:∀b,KX A.den b->Q (.bool b) H):call (e+1) B4 [.ref a] [] H Q:=by
 exact(AB b.own (Aa (ih _ (b.eA.sz▸hA) e he) b.gA b.eA.ad q):Ap (call e) [] Cj [(AA,.ref a)] H (AS Q))
theorem mb_id(ih:Ih n d)(he:d<=e)(hA:sz A<=n)(g:AG H (.bin .maybe a A B))(ha:Ag (Tr.bin .maybe a A B).den)(q:∀x H',Qt H H' (fp (.bin .maybe a A B))->Hd (Tr.bin .maybe a A B).den x->Q (.int x) H'):call (e+1) Fm [.ref a] [] H Q:=by
 refine AR (Bk.start g) λid hc b=>?_;refine BB ((show Ag A.den from ha).hd b.oA.bd) λx hx=>?_
 exact(AB b.own (B7 (ih _ hA e he) b.gA rfl hx λH' w=>q x H' (w.mono λx m=>.tail _ (Yw _ m)) hx):Ap (call e) [] IF [(AA,.ref a)] H (AS Q))
theorem Ub(ih:Ih n d)(he:d<=e)(hA:sz A<=n)(hB:sz B<=n)(g:AG H (.bin .maybe a A B))(ha:Ag (Tr.bin .maybe a A B).den)
 (q:∀v x T' H',Cn v->Upd H (.bin .maybe a A B) H' T'->Hd (Tr.bin .maybe a A B).den x->T'.den=frm (Tr.bin .maybe a A B).den (x+1)->Q v H'):call (e+1) Bf [.ref a] [] H Q:=by
 refine AR (Bk.start g) λid hc b=>?_;cases Cb rfl hc
 replace b:BM H H a A B A B:=b;refine BB ((show Ag A.den from ha).hd b.oA.bd) λx hx=>?_
 refine(AB b.own (Aa (ih _ hA _ he) b.gA b.eA.ad λba hba=>?_):Ap (call e) [] ET [(AA,.ref a)] H (AS Q));refine(hba.mpr hx.act).symm▸tB (KQ (CJ (FP (AB b.own (Eg (ih _ hA _ he) b.gA b.eA.ad hx λv A' H1 f u e1=>?_)))));replace b:=b.mA u;have fin:∀{v' B' H2},Cn v'->BM H H2 a A B A' B'->Ap (call e) [] (ET.drop 4) [(AA,.ref a),(Kk,v),(O9,v')] H2 (AS Q):=λ{v' B' H2} f' b =>
  JH rfl f rfl (q v' x _ H2 f' (b.upd (k:=.maybe) (id:=none) trivial trivial (.inr (Di e1))) hx e1)
 refine AB b.own (Aa (ih _ (b.eA.sz▸hA) _ he) b.gA b.eA.ad λba hba=>?_);cases ba with
 | false=>exact fin (.inr rfl) b
 | true =>
  obtain⟨x1,hx1⟩:=hba.pos.hd b.oA.bd;refine AB b.own (Aa (ih _ hB _ he) b.gB b.eB.ad λbb hbb=>?_);cases bb with
  | false=>exact fin (.inr rfl) b
  | true =>
   refine AB b.own (b.rB.m2 hbb.pos rfl (AB b.own (B7 (ih _ (b.eA.sz▸hA) _ he) b.gA b.eA.ad hx1 λH2 w=>?_)));replace b:=b.qA w;refine(ih _ hB _ he).skip b.gB hbb.pos λv' B' H3 f' u e2=>?_;exact FP (CJ (FP (fin f' (b.mB u))))
theorem Uc{y:Int}(ih:Ih n d)(he:d<=e)(hA:sz A<=n)(hB:sz B<=n)(g:AG H (.bin .maybe a A B))(ha:Ag (Tr.bin .maybe a A B).den)
 (q:∀v T' H',Cn v->Upd H (.bin .maybe a A B) H' T'->T'.den=frm (Tr.bin .maybe a A B).den y->Q v H'):call (e+1) A3 [.ref a,.int y] [] H Q:=by
 refine AR (Bk.start g) λid hc b=>?_;cases Cb rfl hc
 replace b:BM H H a A B A B:=b;refine BB ((show Ag A.den from ha).hd b.oA.bd) λx hx=>?_
 refine(AB b.own (Aa (ih _ hA _ he) b.gA b.eA.ad λba hba=>?_):Ap (call e) [] DP [(AA,.ref a),(AW,.int y)] H (AS Q));refine(hba.mpr hx.act).symm▸tB (KQ (CJ (FP (AB b.own (DH (ih _ hA _ he) b.gA b.eA.ad hx.act λv A' H1 f u e1=>?_)))));replace b:=b.mA u;have fin:∀{v' B' H2},Cn v'->BM H H2 a A B A' B'->Ap (call e) [] (DP.drop 4) [(AA,.ref a),(AW,.int y),(Jb,v),(Is,v')] H2 (AS Q):=λ{v' B' H2} f' b =>
  JH rfl f rfl (q v' _ H2 f' (b.upd (k:=.maybe) (id:=none) trivial trivial (.inr (Di e1))) e1)
 refine AB b.own (Aa (ih _ (b.eA.sz▸hA) _ he) b.gA b.eA.ad λba hba=>?_);cases ba with
 | false=>exact fin (.inr rfl) b
 | true =>
  refine AB b.own (Aa (ih _ hB _ he) b.gB b.eB.ad λbb hbb=>?_);cases bb with
  | false=>exact fin (.inr rfl) b
  | true =>
   refine AB b.own (DH (ih _ hB _ he) b.gB b.eB.ad hbb.pos λv' B' H3 f' u e2=>?_);exact FP (CJ (FP (fin f' (b.mB u))))
def Mv(H:MH)(B:Tr)(H':MH)(B':Tr):Prop:=∃H1,(∀S,A4 H S->A4 H1 S)/\Upd H1 B H' B'
theorem SN(ih:Ih n d)(he:d<=e)(hA:sz WL<=n)(hB:sz WN<=n)(b:BM WP H a WL WN A B)
 (q:∀B' H',BM WP H' a WL WN A B'->Mv H B H' B'->Q .none H'):call (e+1) C1 [.ref a] [] H Q:=by
 have cA:∀{H A B},BM WP H a WL WN A B->FQ e A:=λb=>ih _ (b.eA.sz▸hA) _ he;have cB:∀{H A B},BM WP H a WL WN A B->FQ e B:=λb=>ih _ (b.eB.sz▸hB) _ he;refine(AB b.own (AB b.own (Aa (cA b) b.gA b.eA.ad λba hba=>?_)):Ap (call e) [] EW [(AA,.ref a)] H (AS Q));cases ba with
 | false=>exact q _ _ b ⟨_,λU r=>r,.refl b.gB⟩
 | true =>
  refine Aa (cB b) b.gB b.eB.ad λbb hbb=>?_;cases bb with
  | false=>exact q _ _ b ⟨_,λU r=>r,.refl b.gB⟩
  | true =>
   obtain⟨x,hx⟩:=hba.pos.hd b.oA.bd;refine BB (hbb.pos.hd b.oB.bd) λy hy=>?_;refine tB (ifT (B7 (cA b) b.gA b.eA.ad hx λH1 w1=>?_));replace b:=b.qA w1;refine B7 (cB b) b.gB b.eB.ad hy λH2 w2=>?_;replace b:=b.qB w2;refine AI (λz=>?_) λz=>?_
   ·have mB:∀{m K},(has m [AW,Ar,AP]&&!has m D0)=true->K (F9 B m)->Ba H2 (.ref WN.addr) m K:=λh k=>by exact b.eB.ad▸b.rB.m2 hbb.pos h k
    refine mB rfl (B7 (cA b) b.gA b.eA.ad hx λH3 w3=>?_);replace b:=b.qA w3;have:=(cB b).skip (y:=x) b.gB hbb.pos (Q:=λU H'=>Q .none H') λv B' H4 f u e2 =>
     q _ _ (b.mB u) ⟨H3,λS r=>w3.rp S (w2.rp S (w1.rp S r)),u⟩
    rw[b.eB.ad] at this;exact this
   ·exact q _ _ b ⟨H2,λS r=>w2.rp S (w1.rp S r),.refl b.gB⟩
theorem PO(ih:Ih n d)(he:d<=e)(hA:sz A<=n)(hB:sz B<=n)(gA:AG H A)(gB:AG H B)(dj:∀x∈fp A,x∉fp B)(q:∀m B' H',Mk .maybe H A B m A B' H'->Mv H B H' B'->Q (.ref m) H'):Eb (call (e+2)) .AndMaybe [.ref A.addr,.ref B.addr] [] H Q:=by
 refine DR rfl λm h=>?_;refine(JI ?_:Ap (call (e+1)) [] Gr [(AA,.ref m),(Ak,.ref A.addr),(Av,.ref B.addr)] (H.put m (.inst .AndMaybe [])) (AS λv H'=>v=.none/\Q (.ref m) H'));exact OJ rfl rfl (SN ih he hA hB (Bk.fresh gA gB dj h) λB' H' b y=>AR y λH1 rp u=>⟨rfl,q m B' H' (b.made (k:=.maybe) h trivial trivial rfl λz=>z.elim) ⟨H1,λS r=>rp S (r.new h),u⟩⟩)
end
end
theorem iteC{α:Type}{p q:Prop}[Decidable p][Decidable q]{a b:α}(h:p<->q):(if p then a else b)=if q then a else b:=by
 by_cases k:p
 ·rw[if_pos k,if_pos (h.mp k)]
 ·rw[if_neg k,if_neg λz=>k (h.mpr z)]
theorem Vr{A:D}{s x}:Hd (dC s A) x<->Hd A x:=⟨λh=>⟨HW.mp h.1,λd q=>h.2 d (HW.mpr q)⟩,λh=>⟨HW.mpr h.1,λd q=>h.2 d (HW.mp q)⟩⟩
theorem K9{A:D}{s}:Ag (dC s A)<->Ag A:=⟨λz=>BB z λd h=>⟨d,HW.mp h⟩,λz=>BB z λd h=>⟨d,HW.mpr h⟩⟩
theorem SP{A:D}{xs ex bo x}(h:Hd A x)(k:keep xs ex x=true):Hd (dF xs ex bo A) x:=⟨HV.mpr ⟨h.1,k⟩,λd q=>h.2 _ (HV.mp q).1⟩
theorem Kb{A:D}{xs ex bo}(h:Ag (dF xs ex bo A)):Ag A:=BB h λd h=>⟨d,(HV.mp h).1⟩
theorem SQ{A:D}{xs ex bo}(b:Bd A)(k:∀x,Hd A x->keep xs ex x=true):Ag (dF xs ex bo A)<->Ag A :=
 ⟨Kb,λh=>BB (OA b h) λx hx=>(SP hx (k x hx)).act⟩
theorem dF_nx{A:D}{xs ex bo x}(h:Hd A x)(k:keep xs ex x=false):dF xs ex bo (frm A (x+1))=dF xs ex bo A:=by
 refine PL▸(Fu (λU U=>rfl) λd q=>?_).symm;obtain⟨q1,q2⟩:=HV.mp q;exact dz.mpr ⟨h.2 _ q1,λe=>absurd ((e▸q2:keep xs ex x=true).symm.trans k) (by decide)⟩
theorem NG{A:D}{lim wt id y}(h:id<=y):dV lim wt y A=frm (dV lim wt id A) y:=by
 refine Fu (λd q=>?_) λd q=>(K2.mp q).1;have e:(y<=d/\d<lim/\A d=none)<->(id<=d/\d<lim/\A d=none):=⟨λz=>⟨Y3 h q,z.2⟩,λz=>⟨q,z.2⟩⟩;exact iteC e
theorem LA{A:D}{lim wt id}(h:id<lim)(k:A id=none):Hd (dV lim wt id A) id:=⟨K2.mpr ⟨ZP _,h,k⟩,λd q=>(K2.mp q).1⟩
theorem Kc{A:D}{lim wt id}(h:Ag (dV lim wt id A)):id<lim:=BB h λd h=>have z:=K2.mp h;aQ z.1 z.2.1
theorem QK{A:D}{lim wt id}:dV lim wt id (frm A id)=dV lim wt id A:=by
 funext d;refine iteC ⟨λz=>⟨z.1,z.2.1,?_⟩,λz=>⟨z.1,z.2.1,?_⟩⟩
 ·exact(BV z.1).symm.trans z.2.2
 ·exact(BV z.1).trans z.2.2
theorem dV_nx{A:D}{lim wt id}(k:A id≠none):dV lim wt (id+1) (frm A (id+1))=dV lim wt id A:=by
 rw[QK]
 funext d;exact iteC ⟨λz=>⟨ZZ z.1,z.2⟩,λz=>⟨dz.mpr ⟨z.1,λe=>k (e▸z.2.2)⟩,z.2⟩⟩
theorem Jo{e m p:Nat}{c:Cl}{H:MH}{Q:V->MH->Prop}{vs us}(hv:(vs=[.ref m,.ref p]/\us=[]) )(k:Q .none (H.put m (.inst c [(AE,.ref p),(Ad,.int 1)]))):call (e+1) BR vs us (H.put m (.inst c [])) Q:=by
 obtain⟨rfl,rfl⟩:=hv
 show Ap (call e) [] HK [(AA,.ref m),(AE,.ref p),(Ad,.int 1)] _ (AS Q)
 exact Ee rfl (Ee rfl k)
section
variable{n d e a m p i:Nat}{WL WN A B:Tr}{WP H H':MH}{Q:V->MH->Prop}{c:Cl}{xs:As}
/-! what all wrappers share -/
theorem JJ{nm:Nat}{K:V->Prop}(own:H a=some (.inst c xs))(hp:AN AE xs=some (.ref p))(k:K (.ref p)):MW H (.ref a) AE K :=
 AB own (by exact hp.symm▸k)
/-! filter -/
abbrev UF(WP H:MH)(a sa:Nat)(xs:List Int)(ex:Bool)(bo:Int)(WL A:Tr):Prop:=Uk WP H a .Filter (uF WL.addr (.filt sa xs ex bo)) WL A
variable{sa:Nat}{ys:List Int}{ex:Bool}{bo:Int}
theorem QL{x:Int}{K:Bool->Prop}(hl:ys.length<=1000)(h:H sa=some (.set ys))(k:K (ys.contains x)):∃o b,H sa=some o/\I5 x o b/\K b:=⟨_,_,h,.set hl,k⟩
inductive FI (WP H:MH) (a sa:Nat) (ys:List Int) (ex:Bool) (bo:Int) (WL A:Tr):Nat->As->MH->Prop
 | mk (A':Tr) (r:V) (m:Nat) (H':MH) (hm:∀x,Hd A'.den x->(1000-x).toNat<=m) (b:UF WP H' a sa ys ex bo WL A') (hs:H' sa=some (.set ys)) (hd:dF ys ex bo A'.den=dF ys ex bo A.den) (st:(∀x,Hd A.den x->keep ys ex x=true)->A'.den=A.den/\∀S,A4 H S->A4 H' S) (hr:Cn r):FI WP H a sa ys ex bo WL A m [(AA,.ref a),(AE,.ref WL.addr),(BO,.ref sa),(It,r)] H'
theorem Jp(ih:Ih n d)(he:d<=e)(hA:sz WL<=n)(b:UF WP H a sa ys ex bo WL A)(hs:H sa=some (.set ys))(hl:ys.length<=1000)
 (q:∀v A' H',Cn v->UF WP H' a sa ys ex bo WL A'->H' sa=some (.set ys)->(∀x,Hd A'.den x->keep ys ex x=true)->dF ys ex bo A'.den=dF ys ex bo A.den->((∀x,Hd A.den x->keep ys ex x=true)->A'.den=A.den/\∀S,A4 H S->A4 H' S)->Q v H'):call (e+1) C3 [.ref a] [] H Q:=by
 have cA:∀{H A},UF WP H a sa ys ex bo WL A->FQ e A:=λb=>ih _ (b.eA.sz▸hA) e he
 show Ap (call e) [] EX [(AA,.ref a)] H (AS Q)
 have inv:∀{cd:T},(∀{H' A' r},UF WP H' a sa ys ex bo WL A'->H' sa=some (.set ys)->∀{K:Bool->MH->Prop},(∀H2 t,UF WP H2 a sa ys ex bo WL A'->H2 sa=some (.set ys)->(∀S,A4 H' S->A4 H2 S)->(t=true->∃x,Hd A'.den x/\keep ys ex x=false)->(t=false->∀x,Hd A'.den x->keep ys ex x=true)->K t H2) ->
  wT (call e) [] cd [(AA,.ref a),(AE,.ref WL.addr),(BO,.ref sa),(It,r)] H' K) ->
  Ap (call e) [] [.while cd [.asg It (.or [.meth (.var AE) Ar [] [],.var It])]] [(AA,.ref a),(AE,.ref WL.addr),(BO,.ref sa),(It,.bool false)] H (IT (λρ H=>Ap (call e) [] [.ret (.var It)] ρ H (AS Q)) (AS Q)):=λ{cd} test=>by
  refine⟨FI WP H a sa ys ex bo WL A,1000,.mk A (.bool false) _ _ (λx hx=>Int.toNat_le.mpr (cN _ (b.oA.bd _ hx.1).1)) b hs rfl (λU=>⟨rfl,λU r=>r⟩) (.inr rfl),?_⟩;rintro m U H' ⟨A',r,m,H',hm,b,hs,hd,st,hr⟩;refine test b hs λH2 t b hs rp ht hf=>?_;cases t with
  | false=>exact q r A' H2 hr b hs (hf rfl) hd λo=>⟨(st o).1,λS h=>rp S ((st o).2 S h)⟩
  | true =>
   obtain⟨x,hx,hk⟩:=ht rfl;have hm:=hm x hx;have lx:=b.oA.bd _ hx.1;refine Eg (cA b) b.gA b.eA.ad hx λv A1 H3 f u e1=>?_;have hs':H3 sa=some (.set ys):=u.fr.kp _ _ hs (.inr rfl);have out:∀r',Cn r'->∃m',m'<m/\FI WP H a sa ys ex bo WL A m' [(AA,.ref a),(AE,.ref WL.addr),(BO,.ref sa),(It,r')] H3:=λr' f' =>
    ⟨(1000-x).toNat-1,ZB (Nat.sub_one_lt (bQ (Int.lt_toNat.mpr (Z2 lx.2)))) hm,.mk A1 r' _ _ (λx1 hx1=>gJ (ms0 (Int.lt_of_add_one_le (e1▸hx1:Hd (frm A'.den (x+1)) x1).frm_ge) ((b.mA u).oA.bd _ hx1.1).2)) (b.mA u) hs' (by rw[e1,dF_nx hx hk];exact hd) (λo=>absurd ((o x ((st o).1▸hx)).symm.trans hk) (by decide)) f'⟩
   rcases f with rfl|rfl<;>exact out r hr
 refine AB b.own (AB b.own (AB b.own ?_));have ex':=ex;refine UJ ex (λhex=>?_) λhex=>?_
 ·
  subst hex;refine inv (cd:=.and [.e (.meth (.var AE) AC [] []),.e (.cmp .In (.meth (.var AE) AW [] []) (.var BO))]) λ{H' A' r} b hs K k=>?_;refine Aa (cA b) b.gA b.eA.ad λba hba=>?_;cases ba with
  | false=>exact k H' false b hs (λU r=>r) (λz=>zT z) λU x h=>absurd h.act hba.neg
  | true =>
   obtain⟨x,hx⟩:=hba.pos.hd b.oA.bd;refine tB (ifT (B7 (cA b) b.gA b.eA.ad hx λH2 w=>?_));have hs':H2 sa=some (.set ys):=w.fr.kp _ _ hs (.inr rfl);refine QL hl hs' ?_;have key:=k H2 (ys.contains x) (b.qA w) hs' w.rp (λz=>⟨x,hx,by unfold keep;rw[z];rfl⟩) λz x' hx'=>by rw[hx'.uniq hx];unfold keep;rw[z];rfl
   cases hc:ys.contains x<;>rw[hc] at key<;>exact key
 ·
  subst hex;refine inv (cd:=.and [.e (.meth (.var AE) AC [] []),.e (.cmp .NotIn (.meth (.var AE) AW [] []) (.var BO))]) λ{H' A' r} b hs K k=>?_;refine Aa (cA b) b.gA b.eA.ad λba hba=>?_;cases ba with
  | false=>exact k H' false b hs (λU r=>r) (λz=>zT z) λU x h=>absurd h.act hba.neg
  | true =>
   obtain⟨x,hx⟩:=hba.pos.hd b.oA.bd;refine tB (ifT (B7 (cA b) b.gA b.eA.ad hx λH2 w=>?_));have hs':H2 sa=some (.set ys):=w.fr.kp _ _ hs (.inr rfl);refine QL hl hs' ?_;have key:=k H2 (!ys.contains x) (b.qA w) hs' w.rp (λz=>⟨x,hx,by unfold keep;rw[show ys.contains x=false from by simpa using z];rfl⟩) λz x' hx'=>by rw[hx'.uniq hx];unfold keep;rw[show ys.contains x=true from by simpa using z];rfl
   cases hc:ys.contains x<;>rw[hc] at key<;>exact key
theorem RC(ih:Ih n d)(he:d<=e)(hA:sz A<=n)(g:AG H (.una (.filt sa ys ex bo) a A))(ha:Ag (Tr.una (.filt sa ys ex bo) a A).den)
 (q:∀v x T' H',Cn v->Upd H (.una (.filt sa ys ex bo) a A) H' T'->Hd (Tr.una (.filt sa ys ex bo) a A).den x->T'.den=frm (Tr.una (.filt sa ys ex bo) a A).den (x+1)->Q v H'):call (e+2) Fo [.ref a] [] H Q:=by
 have b:UF H H a sa ys ex bo A A:=Uk.start g;have ok:=g.ok.2;refine BB ((Kb ha).hd b.oA.bd) λx hx=>?_;refine(AB b.own (Eg (ih _ hA _ (Zk he)) b.gA rfl hx λv A' H1 f u e1=>?_):Ap (call (e+1)) [] IH [(AA,.ref a)] H (AS Q));replace b:=b.mA u;refine Ae b.own rfl rfl (Jp ih he hA b (u.fr.kp _ _ g.rep.2.1 (.inr rfl)) ok.1.2.2 λv A2 H2 U b hs k e2 U=>?_);exact q .none x _ H2 (.inl rfl) (b.upd (λU=>rfl) hs ⟨ok.1,k⟩ λd h=>⟨b.eA.al d h.1,h.2⟩) (SP hx (ok.2 x hx)) (by show dF ys ex bo A2.den=frm (dF ys ex bo A.den) (x+1);rw[e2,e1,PL])
theorem RD{y:Int}(ih:Ih n d)(he:d<=e)(hA:sz A<=n)(g:AG H (.una (.filt sa ys ex bo) a A))(ha:Ag (Tr.una (.filt sa ys ex bo) a A).den)
 (q:∀v T' H',Cn v->Upd H (.una (.filt sa ys ex bo) a A) H' T'->T'.den=frm (Tr.una (.filt sa ys ex bo) a A).den y->Q v H'):call (e+2) Du [.ref a,.int y] [] H Q:=by
 have b:UF H H a sa ys ex bo A A:=Uk.start g;have ok:=g.ok.2;refine BB ((Kb ha).hd b.oA.bd) λx hx=>?_;refine(AB b.own (DH (ih _ hA _ (Zk he)) b.gA rfl hx.act λv A' H1 f u e1=>?_):Ap (call (e+1)) [] F8 [(AA,.ref a),(AW,.int y)] H (AS Q));replace b:=b.mA u;refine Ae b.own rfl rfl (Jp ih he hA b (u.fr.kp _ _ g.rep.2.1 (.inr rfl)) ok.1.2.2 λv A2 H2 U b hs k e2 U=>?_);exact q .none _ H2 (.inl rfl) (b.upd (λU=>rfl) hs ⟨ok.1,k⟩ λd h=>⟨b.eA.al d h.1,h.2⟩) (by show dF ys ex bo A2.den=frm (dF ys ex bo A.den) y;rw[e2,e1,PL])
theorem OS(ih:Ih n d)(he:d<=e)(hA:sz A<=n)(gA:AG H A)(own:H a=some (.inst c xs))(hp:AN AE xs=some (.ref A.addr))(q:∀b,KX A.den b->Q (.bool b) H):call (e+1) BI [.ref a] [] H Q:=by
 exact(JJ (nm:=0) own hp (Aa (ih _ hA e he) gA rfl q):Ap (call e) [] Bn [(AA,.ref a)] H (AS Q))
theorem QM{x:Int}(ih:Ih n d)(he:d<=e)(hA:sz A<=n)(gA:AG H A)(own:H a=some (.inst c xs))(hp:AN AE xs=some (.ref A.addr))(hx:Hd A.den x)(q:∀H',Qt H H' (fp A)->Q (.int x) H'):call (e+1) Ep [.ref a] [] H Q:=by
 exact(JJ (nm:=0) own hp (B7 (ih _ hA e he) gA rfl hx q):Ap (call e) [] Ji [(AA,.ref a)] H (AS Q))
theorem RE{x:Int}(ih:Ih n d)(he:d<=e)(hA:sz A<=n)(gA:AG H A)(own:H a=some (.inst c xs))(hp:AN AE xs=some (.ref A.addr))(hx:Hd A.den x)(q:∀A' H',Upd H A H' A'->A'.den=frm A.den (x+1)->Q .none H'):call (e+1) Bm [.ref a] [] H Q:=by
 exact(JJ (nm:=0) own hp (Eg (ih _ hA e he) gA rfl hx λv A' H' U u e=>q A' H' u e):Ap (call e) [] HM [(AA,.ref a)] H (AS Q))
theorem RF{y:Int}(ih:Ih n d)(he:d<=e)(hA:sz A<=n)(gA:AG H A)(own:H a=some (.inst c xs))(hp:AN AE xs=some (.ref A.addr))(ha:Ag A.den)(q:∀v A' H',Cn v->Upd H A H' A'->A'.den=frm A.den y->Q v H'):call (e+1) Az [.ref a,.int y] [] H Q:=by
 exact(JJ (nm:=0) own hp (DH (ih _ hA e he) gA rfl ha q):Ap (call e) [] FC [(AA,.ref a),(AW,.int y)] H (AS Q))
theorem QN{bo:Int}(ih:Ih n d)(he:d<=e)(hA:sz A<=n)(gA:AG H A)(own:H a=some (.inst c xs))(hp:AN AE xs=some (.ref A.addr))(hb:AN Ad xs=some (.int bo))(hbo:0<=bo/\bo<=1000)(q:∀m,0<=m->Q (.int m) H):call (e+1) Br [.ref a] [] H Q:=by
 refine(JJ (nm:=0) own hp (Cy (ih _ hA e he) gA rfl λm hm=>AB own ?_):Ap (call e) [] FD [(AA,.ref a)] H (AS Q));exact hb.symm▸⟨.inr (ozK ‹_›),q _ (Int.mul_nonneg hm hbo.1)⟩
/-! inverse -/
abbrev UV(WP H:MH)(a ma:Nat)(lim wt i:Int)(WL A:Tr):Prop:=Uk WP H a .Inverse (uF WL.addr (.inv ma lim wt i)) WL A
variable{ma:Nat}{lim wt j:Int}
inductive VI (WP H:MH) (a ma:Nat) (lim wt j:Int) (WL A:Tr):Nat->As->MH->Prop
 | mk (A':Tr) (i:Int) (H2:MH) (le:j<=i) (b:UV WP H2 a ma lim wt i WL A') (hs:H2 ma=some (.tup [])) (ge:∀d,A'.den d≠none->i<=d) (hd:dV lim wt i A'.den=dV lim wt j A.den) (st:okV lim j A.den->i=j/\A'.den=A.den/\∀S,A4 H S->A4 H2 S):VI WP H a ma lim wt j WL A (lim-i).toNat [(AA,.ref a),(AE,.ref WL.addr),(Af,.ref ma)] H2
theorem LB(ih:Ih n d)(he:d<=e)(hA:sz WL<=n)(b:UV WP H a ma lim wt j WL A)(hs:H ma=some (.tup []))
 (q:∀j' A' H',UV WP H' a ma lim wt j' WL A'->H' ma=some (.tup [])->j<=j'->okV lim j' A'.den->dV lim wt j' A'.den=dV lim wt j A.den->(okV lim j A.den->j'=j/\∀S,A4 H S->A4 H' S)->Q .none H'):call (e+1) Ci [.ref a] [] H Q:=by
 have cA:∀{H A j},UV WP H a ma lim wt j WL A->FQ e A:=λb=>ih _ (b.eA.sz▸hA) e he;have miss:∀{H:MH} {x:Int} {K:Bool->Prop},H ma=some (.tup [])->K false->∃o b,H ma=some o/\I5 x o b/\K b:=λ{H x K} h k=>⟨_,_,h,.tup (is:=[]) (by decide) rfl,k⟩
 refine(AB b.own (AB b.own (Aa (cA b) b.gA b.eA.ad λba hba=>?_)):Ap (call e) [] BU [(AA,.ref a)] H (AS Q));cases ba with
 | false =>
  refine tB (ifT (AB b.own (miss hs ?_)));exact q j A H b hs (ZP _) ⟨λx h=>absurd h.act hba.neg,λU=>ZM λz=>hba.neg ⟨_,z⟩⟩ rfl λU=>⟨rfl,λU r=>r⟩
 | true =>
  obtain⟨x,hx⟩:=hba.pos.hd b.oA.bd;refine tB (KQ (KQ (CJ (FP ?_))));refine⟨λm ρ H'=>m=0/\H'=H/\ρ=[(AA,.ref a),(AE,.ref WL.addr),(Af,.ref ma)],0,⟨rfl,rfl,rfl⟩,?_⟩;rintro m ρ H' ⟨rfl,rfl,rfl⟩;have after:Ap (call e) [] (BU.drop 4) [(AA,.ref a),(AE,.ref WL.addr),(Af,.ref ma)] H' (AS Q):=by
   have loop:∀{A1 H1},UV WP H1 a ma lim wt j WL A1->H1 ma=some (.tup [])->(∀d,A1.den d≠none->j<=d)->dV lim wt j A1.den=dV lim wt j A.den->(okV lim j A.den->A1.den=A.den/\∀S,A4 H' S->A4 H1 S) ->
    Ap (call e) [] (BU.drop 5) [(AA,.ref a),(AE,.ref WL.addr),(Af,.ref ma)] H1 (AS Q):=λ{A1 H1} b1 hs1 ge1 hd1 st1=>by
    refine⟨VI WP H' a ma lim wt j WL A,_,.mk A1 j _ (ZP _) b1 hs1 ge1 hd1 λo=>⟨rfl,st1 o⟩,?_⟩;clear b hx hba hs b1 hs1 ge1 hd1 st1;rintro U U H2 ⟨A',i,H2,le,b,hs,ge,hd,st⟩;refine Aa (cA b) b.gA b.eA.ad λba hba=>?_;cases ba with
    | false=>exact q i A' H2 b hs le ⟨λx h=>absurd h.act hba.neg,λU=>ZM λz=>hba.neg ⟨_,z⟩⟩ hd λo=>⟨(st o).1,(st o).2.2⟩
    | true =>
     refine tB (ifT (AB b.own (AB b.own (AI (λz=>?_) λz=>?_))))
     ·have lt:=of_decide_eq_true z;refine AB b.own (miss hs (tB (KQ (CJ (FP ?_)))));refine BB (hba.pos.hd b.oA.bd) λx hx=>?_;refine AB b.own (B7 (cA b) b.gA b.eA.ad hx λH3 w=>?_);replace b:=b.qA w;have hs':H3 ma=some (.tup []):=w.fr.kp _ _ hs (.inr rfl);refine AI (λz=>?_) λz=>?_
      ·have eix:i=x:=by first|exact be z|exact be' z
       subst eix;refine AB b.own (Cu b.own rfl ?_);have b':=b.put (ys:=uF WL.addr (.inv ma lim wt (i+1))) (λU=>rfl);have hs2:(H3.put a (.inst .Inverse (uF WL.addr (.inv ma lim wt (i+1))))) ma=some (.tup []):=by rw[Ab _ _ λz=>by exact nomatch (b.own▸z▸hs')];exact hs'
       refine Eg (cA b') b'.gA b'.eA.ad hx λv A2 H4 f u e1=>?_;have no:¬ okV lim j A.den:=λo=>by
        refine CV (st o) λe1 e2 U=>?_;subst e1;exact hx.1 (by exact e2.symm▸o.2 lt)
       exact⟨_,tnl (ac (et _) _) (Z2 lt),.mk A2 (i+1) _ (Y3 le (ZZ (et _))) (b'.mA u) (u.fr.kp _ _ hs2 (.inr rfl)) (λd z=>(FE.mp (e1▸z)).1) (by rw[e1,dV_nx hx.1];exact hd) λo=>absurd o no⟩
      ·have ne:i≠x:=by first|exact bf z|exact bn z
       have:=ge x hx.1;refine q i A' H3 b hs' le ⟨λy hy=>?_,λU=>ZM λz=>?_⟩ hd λo=>⟨(st o).1,λS r=>w.rp S ((st o).2.2 S r)⟩
       ·rw[hy.uniq hx];exact this
       ·exact absurd (eC this (hx.2 i z)) ne
     ·exact q i A' H2 b hs le ⟨λy hy=>ge y hy.1,λl=>absurd l (of_decide_eq_false z)⟩ hd λo=>⟨(st o).1,(st o).2.2⟩
   refine Aa (cA b) b.gA b.eA.ad λba hba'=>?_;rw[hba'.mpr hx.act];refine tB (ifT (B7 (cA b) b.gA b.eA.ad hx λH1 w=>?_));replace b:=b.qA w;have hs':H1 ma=some (.tup []):=w.fr.kp _ _ hs (.inr rfl);refine AB b.own (AI (λz=>?_) λz=>?_)
   ·have lt:=of_decide_eq_true z;have mA:∀{m K},(has m [AW,Ar,AP]&&!has m D0)=true->K (F9 A m)->Ba H1 (.ref WL.addr) m K:=λh k=>by exact b.eA.ad▸b.rA.m2 hx.act h k
    refine mA rfl (AB b.own ?_);have:=(cA b).skip (y:=j) b.gA hx.act (Q:=λU H'=>Ap (call e) [] (BU.drop 5) [(AA,.ref a),(AE,.ref WL.addr),(Af,.ref ma)] H' (AS Q)) λv A1 H2 f u e1 =>
     loop (b.mA u) (u.fr.kp _ _ hs' (.inr rfl)) (λd z=>by rw[e1] at z;exact(FE.mp z).1) (by rw[e1,QK]) λo=>absurd (aQ (o.1 x hx) lt) (a5 _)
    rw[b.eA.ad] at this;exact this
   ·exact loop b hs' (λd z'=>Y3 (aq.mp (of_decide_eq_false z)) (hx.2 d z')) rfl λU=>⟨rfl,w.rp⟩
  refine AB b.own (AB b.own (AI (λU=>AB b.own (miss hs after)) λU=>after))
theorem Ud(own:H a=some (.inst .Inverse (uF p (.inv ma lim wt j))))(q:∀b,(b=true<->j<lim)->Q (.bool b) H):call (e+1) CD [.ref a] [] H Q:=by
 exact(AB own (AB own (q _ ⟨of_decide_eq_true,λh=>decide_eq_true h⟩)):Ap (call e) [] C7 [(AA,.ref a)] H (AS Q))
theorem inv_id(own:H a=some (.inst .Inverse (uF p (.inv ma lim wt j))))(q:Q (.int j) H):call (e+1) GU [.ref a] [] H Q:=by
 exact(AB own q:Ap (call e) [] JA [(AA,.ref a)] H (AS Q))
theorem QO(b:UV WP H a ma lim wt j WL A)(hs:H ma=some (.tup []))(j':Int):UV WP (H.put a (.inst .Inverse (uF WL.addr (.inv ma lim wt j')))) a ma lim wt j' WL A/\(H.put a (.inst .Inverse (uF WL.addr (.inv ma lim wt j')))) ma=some (.tup []) :=
 ⟨b.put (λU=>rfl),by rw[Ab _ _ λz=>by exact nomatch (b.own▸z▸hs)];exact hs⟩
theorem SR(ih:Ih n d)(he:d<=e)(hA:sz A<=n)(g:AG H (.una (.inv ma lim wt j) a A))(ha:Ag (Tr.una (.inv ma lim wt j) a A).den)
 (q:∀v x T' H',Cn v->Upd H (.una (.inv ma lim wt j) a A) H' T'->Hd (Tr.una (.inv ma lim wt j) a A).den x->T'.den=frm (Tr.una (.inv ma lim wt j) a A).den (x+1)->Q v H'):call (e+2) Bs [.ref a] [] H Q:=by
 have b:UV H H a ma lim wt j A A:=Uk.start g;have ok:=g.ok.2;have lt:=Kc ha;refine(AB b.own (AB b.own (AI (λz=>absurd (of_decide_eq_true z) (cR.mpr lt)) λU=>CJ (FP (AB b.own (Cu b.own rfl ?_))))):Ap (call (e+1)) [] HP [(AA,.ref a)] H (AS Q));refine Am (QO b g.rep.2.1 (j+1)) λb hs=>?_;refine Ae b.own rfl rfl (LB ih he hA b hs λj' A' H' b hs le ok' e' U=>?_);exact q .none j (.una (.inv ma lim wt j') a A') H' (.inl rfl) (Uk.upd (k₀:=.inv ma lim wt j) (k:=.inv ma lim wt j') b (λU=>rfl) hs ⟨⟨ok.1.1,Y3 ok.1.2.1 (Y3 (ZZ (et j)) le),ok.1.2.2⟩,ok'⟩ (Di (e'.trans (NG (ZZ (et j)))))) (LA lt (ok.2.2 lt)) (e'.trans (NG (ZZ (et j))))
theorem SU{y:Int}(ih:Ih n d)(he:d<=e)(hA:sz A<=n)(g:AG H (.una (.inv ma lim wt j) a A))(ha:Ag (Tr.una (.inv ma lim wt j) a A).den)
 (q:∀v T' H',Cn v->Upd H (.una (.inv ma lim wt j) a A) H' T'->T'.den=frm (Tr.una (.inv ma lim wt j) a A).den y->Q v H'):call (e+2) BA [.ref a,.int y] [] H Q:=by
 have b:UV H H a ma lim wt j A A:=Uk.start g;have ok:=g.ok.2;have lt:=Kc ha;have hd:Hd (dV lim wt j A.den) j:=LA lt (ok.2.2 lt);refine(AB b.own (AB b.own (AI (λz=>absurd (of_decide_eq_true z) (cR.mpr lt)) λU=>CJ (FP (AB b.own (AI (λz=>?_) λz=>?_))))):Ap (call (e+1)) [] FX [(AA,.ref a),(AW,.int y)] H (AS Q))
 ·have lt:=of_decide_eq_true z;exact q .none _ H (.inl rfl) (.refl g) (Fv hd (ZZ lt)).symm
 ·have ge:j<=y:=aq.mp (of_decide_eq_false z);refine Cu b.own rfl ?_;refine Am (QO b g.rep.2.1 y) λb hs=>?_;refine Ae b.own rfl rfl (LB ih he hA b hs λj' A' H' b hs le ok' e' U=>?_);exact q .none (.una (.inv ma lim wt j') a A') H' (.inl rfl) (Uk.upd (k₀:=.inv ma lim wt j) (k:=.inv ma lim wt j') b (λU=>rfl) hs ⟨⟨ok.1.1,Y3 ok.1.2.1 (Y3 ge le),ok.1.2.2⟩,ok'⟩ (Di (e'.trans (NG ge)))) (e'.trans (NG ge))
/-! constant -/
theorem con_q{s:Int}(own:H a=some (.inst .Const (uF p (.con s))))(q:Q (.int s) H):call (e+1) C4 [.ref a] [] H Q:=by
 exact(AB own q:Ap (call e) [] EZ [(AA,.ref a)] H (AS Q))
end
section
variable{n d e a m p i:Nat}{WL WN A B:Tr}{WP H H1 H':MH}{Q:V->MH->Prop}{c:Cl}{xs us:As}{vs:List V}
structure RG(k:UK)(H:MH)(A:Tr)(m:Nat)(k':UK)(A':Tr)(H':MH):Prop where
 good:AG H' (.una k' m A')
 den:dA k' A'.den=dA k A.den
 eA:Ib A A'
 sc:∀T,sc (.una k' m T)=sc (.una k m T)
 fr:An H H' (fp A)
 nn:H m=none
 qt:okU k A.den->∀S,A4 H S->A4 H' S
theorem An.new2{H H1 H':MH}{n:Nat}{F}(f0:An H H1 [])(f:An H1 H' (n::F))(h:H n=none):An H H' F :=
 ⟨λb o' e q=>f.kp b o' (f0.kp b o' e (.inl (Zn))) (q.imp (λm z=>(mcP z).elim (λz=>by exact zN (h▸z▸e)) m) id),λb e=>f0.dm b (f.dm b e)⟩
theorem An.more{H H1 H':MH}{F G}(f:An H H1 F)(g:An H1 H' G)(q:∀x∈G,x∈F\/H x=none):An H H' F :=
 ⟨λb o e z=>g.kp b o (f.kp b o e z) (z.imp (λm y=>(q b y).elim m λy=>by exact zN (y.symm.trans e)) id),λb e=>f.dm b (g.dm b e)⟩
theorem A4.nil{H H1:MH}{S:Tr}(r:A4 H S)(f0:An H H1 []):A4 H1 S:=r.frame f0 λU U=>Zn
theorem AG.nil{H H1:MH}{S:Tr}(g:AG H S)(f0:An H H1 []):AG H1 S:=⟨g.rep.nil f0,g.ok,g.nd⟩
theorem An.new0{H:MH}{n:Nat}{o:O}(h:H n=none):An H (H.put n o) []:=An.new h
section
theorem Uk.fresh(f0:An H H1 [])(own:H1 m=some (.inst c xs))(g:AG H A)(h:H m=none):Uk H1 H1 m c xs A A :=
 ⟨own,g.ok,g.rep.nil f0,.refl,.refl,ncR ⟨g.rep.nin h,g.nd⟩⟩
theorem Uk.made{k k':UK}{A':Tr}(f0:An H H1 [])(b:Uk H1 H' m (uC k') (uF A.addr k') A A')(h:H m=none)(x:uX H' k')(ok:okU k' A'.den)(dn:dA k' A'.den=dA k A.den)(hs:∀T,sc (.una k' m T)=sc (.una k m T))(qt:okU k A.den->∀S,A4 H1 S->A4 H' S) :
 RG k H A m k' A' H' :=
 ⟨⟨⟨by rw[b.eA.ad];exact b.own,x,b.rA⟩,⟨b.oA,ok⟩,by show(m::fp A').Nodup;rw[b.eA.fp];exact b.nd⟩,dn,b.eA,hs,An.new2 f0 b.fr h,h,λz S r=>qt z S (r.nil f0)⟩
theorem Ue{C Q}(h:Bt c AV=none)(k:∀a,H a=none->Q (.ref a) (H.put a (.inst c []))):Eb C c [] [] H Q:=by
 unfold Eb;intro a z;exact h.symm▸⟨rfl,rfl,k a z⟩
theorem SV(q:∀m,H m=none->AG (H.put m (.inst .Null [])) (.null m)->Q (.ref m) (H.put m (.inst .Null []))):call (e+1) AM [] [] H Q:=by
 refine(Ue rfl λm h=>q m h ⟨AH _ _ _,trivial,bE⟩:Ap (call e) [] Gp [] H (AS Q))
theorem NH{s:Int}(g:AG H A)(h0:0<=s)(q:∀m H',RG (.con s) H A m (.con s) A H'->Q (.ref m) H'):Eb (call (e+2)) .Const [.ref A.addr] [(GR,.int s)] H Q:=by
 refine DR rfl λm h=>?_;refine(Jo ⟨rfl,rfl⟩ (Ee rfl ⟨rfl,q m _ ?_⟩):Ap (call (e+1)) [] JC [(AA,.ref m),(AE,.ref A.addr),(GR,.int s)] (H.put m (.inst .Const [])) (AS λv H'=>v=.none/\Q (.ref m) H'));exact(Uk.fresh (An.new0 h) (AH _ _ _) g h).made (k:=.con s) (k':=.con s) (An.new0 h) h trivial h0 rfl (λU=>rfl) λU U r=>r
theorem Jq{sa:Nat}{ys:List Int}{ex:Bool}{bo:Int}(ih:Ih n d)(he:d<=e)(hA:sz A<=n)(g:AG H A)(hs:H sa=some (.set ys))(hl:ys.length<=1000)(hb:0<=bo/\bo<=1000)(h:H m=none)
 (q:∀A' H',RG (.filt sa ys ex bo) H A m (.filt sa ys ex bo) A' H'->Q (.ref m) H') :
 Ap (call (e+1)) [] Ft [(AA,.ref m),(AE,.ref A.addr),(BO,.ref sa),(Dq,.bool ex),(Ad,.int bo)] (H.put m (.inst .Filter [])) (AS λv H'=>v=.none/\Q (.ref m) H'):=by
 refine K6 (AH _ _ _) ⟨rfl,Jo ⟨rfl,rfl⟩ (Ee rfl (Ee rfl (Ee rfl (OJ rfl rfl ?_))))⟩;have f0:An H (H.put m (.inst .Filter (uF A.addr (.filt sa ys ex bo)))) []:=An.new0 h;have b:UF _ _ m sa ys ex bo A A:=Uk.fresh f0 (AH _ _ _) g h;exact Jp ih he hA b (f0.kp _ _ hs (.inr rfl)) hl λv A' H' U b' hs' k e2 st=>⟨rfl,q A' H' (b'.made (k:=.filt sa ys ex bo) (k':=.filt sa ys ex bo) f0 h hs' ⟨⟨hb.1,hb.2,hl⟩,k⟩ e2 (λU=>rfl) λo=>(st o.2).2)⟩
theorem LC{lim wt j:Int}{mv:V}(ih:Ih n d)(he:d<=e)(hA:sz A<=n)(g:AG H A)(hb:0<=wt/\0<=j/\lim<=50)(hm:mv=.none\/∃ma,mv=.ref ma/\H ma=some (.tup []))(h:H m=none)
 (q:∀t t' j' A' H',RG (.inv t lim wt j) H A m (.inv t' lim wt j') A' H'->Q (.ref m) H') :
 Ap (call (e+1)) [] Cm [(AA,.ref m),(AE,.ref A.addr),(Aq,.int lim),(Af,mv),(DA,.int wt),(AW,.int j)] (H.put m (.inst .Inverse [])) (AS λv H'=>v=.none/\Q (.ref m) H'):=by
 refine K6 (AH _ _ _) ⟨rfl,Jo ⟨rfl,rfl⟩ (Ee rfl (Ee rfl ?_))⟩;have rest:∀t,(H.put m (.inst .Inverse [(AE,.ref A.addr),(Ad,.int 1),(Aq,.int lim),(BX,.int wt)])) t=none ->
  Ap (call (e+1)) [] (Cm.drop 4) [(AA,.ref m),(AE,.ref A.addr),(Aq,.int lim),(Af,mv),(DA,.int wt),(AW,.int j)]
   (((H.put m (.inst .Inverse [(AE,.ref A.addr),(Ad,.int 1),(Aq,.int lim),(BX,.int wt)])).put t (.tup [])).put m (.inst .Inverse [(AE,.ref A.addr),(Ad,.int 1),(Aq,.int lim),(BX,.int wt),(Af,.ref t)]))
   (AS λv H'=>v=.none/\Q (.ref m) H'):=λt ht=>by
  refine Ee rfl (OJ rfl rfl ?_);have ne:t≠m:=λz=>by rw[z,AH] at ht;exact zS ht
  have f1:=(An.new0 (o:=.inst .Inverse [(AE,.ref A.addr),(Ad,.int 1),(Aq,.int lim),(BX,.int wt)]) h).trans (An.new0 (o:=.tup []) ht);have hm':=(Ab _ (.tup []) (aL ne)).trans (AH H m (.inst .Inverse [(AE,.ref A.addr),(Ad,.int 1),(Aq,.int lim),(BX,.int wt)]));have f0:=f1.drop (An.put (o:=.inst .Inverse (uF A.addr (.inv t lim wt j))) (.head _) λo' z=>by obtain rfl:=Ys (hm'.symm.trans z);rfl) λx hx=>by exact(msP hx).symm▸h
  have b:UV _ _ m t lim wt j A A:=Uk.fresh f0 (AH _ _ _) g h;exact LB ih he hA b ((Ab _ _ ne).trans (AH _ _ _)) λj' A' H' b' hs' le ok e2 st =>
   ⟨rfl,q t t j' A' H' (b'.made (k:=.inv t lim wt j) (k':=.inv t lim wt j') f0 h hs' ⟨⟨hb.1,by exact Y3 ‹_/\_/\_›.2.1 ‹_›,hb.2.2⟩,ok⟩ e2 (λU=>rfl) λo=>(st o.2).2)⟩
 have key:∀t,(H.put m (.inst .Inverse [(AE,.ref A.addr),(Ad,.int 1),(Aq,.int lim),(BX,.int wt)])) t=none->_:=λt ht =>
  Cu (n:=Af) (u:=.ref t) (Q:=λH'=>Ap (call (e+1)) [] (Cm.drop 4) [(AA,.ref m),(AE,.ref A.addr),(Aq,.int lim),(Af,mv),(DA,.int wt),(AW,.int j)] H' (AS λv H'=>v=.none/\Q (.ref m) H'))
   ((Ab _ (.tup []) (λz=>by rw[<- z,AH] at ht;exact zS ht)).trans (AH H m (.inst .Inverse [(AE,.ref A.addr),(Ad,.int 1),(Aq,.int lim),(BX,.int wt)]))) rfl (rest t ht)
 rcases hm with rfl|⟨ma,rfl,hma⟩
 ·exact⟨Zp _,key⟩
 ·refine⟨[],.inr ?_,Zp _,⟨Zp _,key⟩⟩;rw[Ab _ _ λz=>by exact zN (h▸z▸hma)];exact hma
/-! require -/
structure MkR(H:MH)(A B:Tr)(m i:Nat)(A' B':Tr)(H':MH):Prop where
 good:AG H' (.req m i A' B')
 den:dR A'.den B'.den=dR A.den B.den
 eA:Ib A A'
 eB:Ib B B'
 fr:An H H' (fp A++fp B)
 nm:H m=none
 ni:H i=none
 qt:Al A.den B.den->∀S,A4 H S->A4 H' S
theorem NJ(ih:Ih n d)(he:d<=e)(hA:sz A<=n)(hB:sz B<=n)(gA:AG H A)(gB:AG H B)(dj:∀x∈fp A,x∉fp B)(q:∀m i A' B' H',MkR H A B m i A' B' H'->Q (.ref m) H'):Eb (call (e+4)) .Require [.ref A.addr,.ref B.addr] [] H Q:=by
 refine DR rfl λm h=>?_;refine(Ee rfl ?_:Ap (call (e+3)) [] HQ [(AA,.ref m),(Ak,.ref A.addr),(Av,.ref B.addr)] (H.put m (.inst .Require [])) (AS λv H'=>v=.none/\Q (.ref m) H'));refine Ee rfl ?_;have f0:=An.new0 (o:=.inst .Require [(Ak,.ref A.addr),(Av,.ref B.addr)]) h;have gA':=gA.nil f0;refine KZ ih he hA hB gA' (gB.nil f0) dj λi A' B' H2 mk sr=>?_;have hm:H2 m=some (.inst .Require [(Ak,.ref A.addr),(Av,.ref B.addr)]):=mk.fr.kp _ _ (AH _ _ _) (.inl λz=>(maP z).elim (gA.rep.nin h) (gB.rep.nin h));have ne:m≠i:=λz=>by have:=mk.nn;rw[<- z,AH] at this;exact zS this
 have wr:∀{Q':V->MH->Prop},Q' .none (H2.put m (.inst .Require (reqF A.addr B.addr i)))->call (e+3) BR [.ref m,.ref i] [] H2 Q':=λ{Q'} k=>by
  exact(Cu hm rfl (Ee rfl k):Ap (call (e+2)) [] HK [(AA,.ref m),(AE,.ref i),(Ad,.int 1)] H2 (AS Q'))
 refine wr ⟨rfl,q m i A' B' _ ?_⟩;have ni:H i=none:=f0.dm _ mk.nn;have nd:=mk.good.nd;have mf:m∉fp (.bin .inter i A' B'):=λz=>by
  rcases mcP z with z|z
  ·exact ne z
  ·rw[mk.eA.fp,mk.eB.fp] at z;exact(maP z).elim (gA.rep.nin h) (gB.rep.nin h)
 have f2:An H2 (H2.put m (.inst .Require (reqF A.addr B.addr i))) [m]:=An.put (.head _) λo' z=>by obtain rfl:=Ys (hm.symm.trans z);rfl
 have r2:=mk.good.rep.frame f2 λx hx z=>mf (msP z▸hx);have f3:An H H2 (fp A++fp B):=⟨λb o e z=>mk.fr.kp b o (f0.kp b o e (.inl (Zn))) z,λb e=>f0.dm b (mk.fr.dm b e)⟩;refine AR r2.1 λid own hc=>?_;cases Cb rfl hc
 exact⟨⟨⟨by rw[mk.eA.ad,mk.eB.ad];exact AH _ _ _,own,r2.2.1,r2.2.2⟩,⟨mk.good.ok.1,mk.good.ok.2.1,mk.good.ok.2.2⟩,ncR ⟨mf,nd⟩⟩,sr.1,mk.eA,mk.eB,
  f3.more f2 λx hx=>.inr (by rw[msP hx];exact h),h,ni,λal S r=>(mk.qt al S (r.nil f0)).frame f2 λx hx z=>r.nin h (msP z▸hx)⟩
end
section
variable{k:BK}{Wo:UK}
/-! or: the score;the greater of two sides' qualities -/
theorem dm_mq(ih:Ih n d)(he:d<=e)(hA:sz A<=n)(hB:sz B<=n)(g:AG H (.bin .dm a A B))(q:∀m,0<=m->Q (.int m) H):call (e+1) DL [.ref a] [] H Q:=by
 refine AR (Bk.start g) λid hc b=>?_;exact(AB b.own (Cy (ih _ hA e he) b.gA rfl λx hx=>AB b.own (Cy (ih _ hB e he) b.gB rfl λy U=>q _ (Y3 hx (Int.le_max_left _ _)))):Ap (call e) [] E8 [(AA,.ref a)] H (AS Q))
/-! require -/
theorem AG.rI{a i A B}(g:AG H (.req a i A B)):AG H (.bin .inter i A B):=⟨⟨⟨none,g.rep.2.1,trivial⟩,g.rep.2.2⟩,⟨g.ok.1,g.ok.2.1,g.ok.2.2⟩,(ncP g.nd).2⟩
theorem QP{i:Nat}{A' B':Tr}(g:AG H (.req a i A B))(u:Upd H (.bin .inter i A B) H' (.bin .inter i A' B'))(eA:Ib A A')(eB:Ib B B'):Upd H (.req a i A B) H' (.req a i A' B'):=by
 refine AR u.rep.1 λid own hc=>?_;cases Cb rfl hc
 refine⟨rfl,?_,?_,?_,⟨u.ok.1,u.ok.2.1,u.ok.2.2⟩,⟨?_,own,u.rep.2⟩,u.fr.mono λx m=>.tail _ m,u.al,rfl⟩
 ·show a::i::(fp A'++fp B')=_;exact eA.fp▸eB.fp▸rfl
 ·show sz A'+sz B'+2=_;rw[eA.sz,eB.sz];rfl
 ·show max (max (sc A') 1) (if sc B'<=1 then 1 else 3)=_;exact eA.sc▸eB.sc▸rfl
 ·rw[eA.ad,eB.ad];exact u.fr.kp _ _ g.rep.1 (.inl (ncP g.nd).1)
theorem dR_hd{A B:D}{x}(h:Hd A x)(k:Hd B x):Hd (dR A B) x:=⟨Gv.mpr ⟨h.1,k.1⟩,λd q=>h.2 _ (Gv.mp q).1⟩
theorem Ic{A B:D}:Ag (dR A B)<->Ag (dI A B):=⟨λz=>BB z λd h=>⟨d,Gu.mpr (Gv.mp h)⟩,λz=>BB z λd h=>⟨d,Gv.mpr (Gu.mp h)⟩⟩
theorem PP{i:Nat}(g:AG H (.req a i A B))(ha:Ag (dR A.den B.den)):∃x,Hd A.den x/\Hd B.den x/\Hd (dI A.den B.den) x/\Hd (dR A.den B.den) x:=by
 refine AJ λGG hG=>?_;refine Am (C8 (Ic.mp ha)) λhA hB=>?_;refine Es (g.ok.2.2.hd g.ok.1.bd g.ok.2.1.bd hA hB) λx h1 h2 h3=>?_;refine hG ?_;clear hG GG;exact⟨x,h1,h2,h3,dR_hd h1 h2⟩
theorem SW{i:Nat}(ih:Ih n d)(he:d<=e)(hA:sz A<=n)(hB:sz B<=n)(g:AG H (.req a i A B))(ha:Ag (Tr.req a i A B).den)
 (q:∀v x T' H',Cn v->Upd H (.req a i A B) H' T'->Hd (Tr.req a i A B).den x->T'.den=frm (Tr.req a i A B).den (x+1)->Q v H'):call (e+3) Bm [.ref a] [] H Q:=by
 refine AJ λGG hG=>?_;refine x14 (PP g ha) λx h1 h2 h3 h4=>?_;refine hG ?_;clear hG GG;refine(AB g.rep.1 (Ae g.rep.2.1 rfl rfl (ON ih he hA hB g.rI h3.act λv x' A' B' H' f u eA eB hx e U er=>?_)):Ap (call (e+2)) [] HM [(AA,.ref a)] H (AS Q));rw[hx.uniq h3] at er;exact q .none x _ H' (.inl rfl) (QP g u eA eB) h4 er
theorem SX{i:Nat}{y:Int}(ih:Ih n d)(he:d<=e)(hA:sz A<=n)(hB:sz B<=n)(g:AG H (.req a i A B))(ha:Ag (Tr.req a i A B).den)
 (q:∀v T' H',Cn v->Upd H (.req a i A B) H' T'->T'.den=frm (Tr.req a i A B).den y->Q v H'):call (e+3) Az [.ref a,.int y] [] H Q:=by
 refine AJ λGG hG=>?_;refine x14 (PP g ha) λx h1 h2 h3 h4=>?_;refine hG ?_;clear hG GG;refine(AB g.rep.1 (Ae g.rep.2.1 rfl rfl (OQ ih he hA hB g.rI h3.act λv A' B' H' f u eA eB U U er=>?_)):Ap (call (e+2)) [] FC [(AA,.ref a),(AW,.int y)] H (AS Q));exact q v _ H' f (QP g u eA eB) er
/-! copies -/
structure Vt(H:MH)(A B:Tr)(H2:MH)(A' B':Tr):Prop where
 gA:AG H2 A'
 gB:AG H2 B'
 dA:A'.den=A.den
 dB:B'.den=B.den
 sA:sz A'<=sz A
 sB:sz B'<=sz B
 cA:sc A'<=sc A
 cB:sc B'<=sc B
 dj:∀x∈fp A',x∉fp B'
 nf:∀x∈fp A'++fp B',H x=none
 fr:An H H2 (fp A++fp B)
 rp:∀S,A4 H S->A4 H2 S
theorem BW:∀T:Tr,sc T<=3
 | .null _|.leaf _ _ _ _ _=>Zp _
 | .una _ _ A=>BW A
 | .bin k _ A B=>by
  have key:=b2 (P:=λx y=>max (if x<=1 then 1 else 3) (if y=0 then 1 else max y 2)<=3) (by decide) (BW A) (BW B)
  cases k<;>first|exact key|exact a6.mpr ⟨a6.mpr ⟨BW A,BW B⟩,ZK 1 2⟩
 | .req _ _ A B=>b2 (P:=λx y=>max (max x 1) (if y<=1 then 1 else 3)<=3) (by decide) (BW A) (BW B)
theorem max_le{a b c d:Nat}(h:a<=c)(k:b<=d):max a b<=max c d:=a6.mpr ⟨Yn h (cO _ _),Yn k (dP _ _)⟩
theorem Vu{x y:Nat}(h:x<=y)(hy:y<=3):(if x<=1 then 1 else 3)<=(if y<=1 then 1 else 3):=b2 (P:=λx y=>x<=y->(if x<=1 then 1 else 3)<=(if y<=1 then 1 else 3)) (by decide) (Yn h hy) hy h
theorem sc_k1{x y:Nat}(h:x<=y)(hy:y<=3):(if x=0 then 1 else max x 2)<=(if y=0 then 1 else max y 2):=b2 (P:=λx y=>x<=y->(if x=0 then 1 else max x 2)<=(if y=0 then 1 else max y 2)) (by decide) (Yn h hy) hy h
theorem PQ{k:BK}{a b:Nat}{A A' B B':Tr}(hA:sc A'<=sc A)(hB:sc B'<=sc B):sc (.bin k b A' B')<=sc (.bin k a A B):=by
 cases k<;>first
  | exact max_le (max_le hA hB) (Y1 1)
  | exact max_le (Vu hA (BW A)) (sc_k1 hB (BW B))
theorem PR{a b i j:Nat}{A A' B B':Tr}(hA:sc A'<=sc A)(hB:sc B'<=sc B):sc (.req b j A' B')<=sc (.req a i A B):=max_le (max_le hA (Y1 1)) (Vu hB (BW B))
theorem Vt.of{H2:MH}{A' B':Tr}(w1:Qt H H1 (fp A))(g1:AG H1 A')(d1:A'.den=A.den)(s1:sz A'<=sz A)(c1:sc A'<=sc A)(f1:∀x∈fp A',H x=none)(w2:Qt H1 H2 (fp B))(g2:AG H2 B')(d2:B'.den=B.den)(s2:sz B'<=sz B)(c2:sc B'<=sc B)(f2:∀x∈fp B',H1 x=none):Vt H A B H2 A' B' :=
 ⟨g1.q w2,g2,d1,d2,s1,s2,c1,c2,λx hx hx'=>(by refine AR (g1.rep.fps x hx) λo e U=>?_;exact zN ((f2 x hx').symm.trans e)),λx hx=>(maP hx).elim (f1 x) λh=>w1.fr.dm x (f2 x h),
  (w1.fr.mono λx m=>Yw _ m).trans (w2.fr.mono λx m=>Yt _ m),λS r=>w2.rp S (w1.rp S r)⟩
def Gb(H:MH)(T:Tr)(Q:V->MH->Prop):Prop:=∀T' H',Qt H H' (fp T)->AG H' T'->T'.den=T.den->sz T'<=sz T->sc T'<=sc T->T'.cl=T.cl->(∀x∈fp T',H x=none)->Q (.ref T'.addr) H'
theorem Mk.out{A' B':Tr}{H2 H3:MH}{A2 B2:Tr}(mk:Mk k H2 A' B' m A2 B2 H3)(t:Vt H A B H2 A' B')(q:Gb H (.bin k a A B) Q):Q (.ref m) H3:=by
 refine q (.bin k m A2 B2) H3 ⟨(t.fr.more mk.fr λx hx=>.inr (t.nf x hx)).mono λx h=>.tail _ h,λS r=>(t.rp S r).frame mk.fr λx hx hx'=>?_⟩ mk.good ?_ ?_ ?_ ?_ λx hx=>?_
 ·refine AR (r.fps x hx) λo e U=>?_;exact nS (t.nf x hx') e
 ·show Mine.dB k A2.den B2.den=Mine.dB k A.den B.den;exact mk.den▸t.dA▸t.dB▸rfl
 ·show sz A2+sz B2+1<=sz A+sz B+1;exact mk.eA.sz.symm▸mk.eB.sz.symm▸ZA (bG t.sA t.sB) _
 ·exact PQ (mk.eA.sc▸t.cA) (mk.eB.sc▸t.cB)
 ·rfl
 ·rcases mcP hx with rfl|hx
  ·exact t.fr.dm _ mk.nn
  ·rw[mk.eA.fp,mk.eB.fp] at hx;exact t.nf x hx
theorem JK(ih:Ih n d)(he:d<=e)(hA:sz A<=n)(hB:sz B<=n)(g:AG H (.bin k a A B))(hk:k≠.dm)(q:Gb H (.bin k a A B) Q):call (e+5) DS [.ref a] [] H Q:=by
 refine AR (Bk.start g) λid hc b=>?_;have cA:=ih _ hA (e+4) (Ym he);have cB:=ih _ hB (e+4) (Ym he);have na:=Lw g.nd;have ok:=g.ok.2.2;have key:∀f,(Bt (bC k) A6=some f)->(∀{H2 A' B'},Vt H A B H2 A' B'->call (e+4) f [.ref a,.ref A'.addr,.ref B'.addr] [] H2 Q)->Ap (call (e+4)) [] Ma [(AA,.ref a)] H (AS Q):=λf hf mk=>by
  refine Ae b.own (by cases k<;>cases id<;>rfl) hf (AB b.own (Eh cA b.gA rfl λA' H1 w1 g1 d1 s1 c1 U f1=>?_))
  refine AB (w1.fr.kp _ _ b.own (.inl na.1.1)) (Eh cB (b.gB.q w1) rfl λB' H2 w2 g2 d2 s2 c2 U f2=>?_);exact mk (Vt.of w1 g1 d1 s1 c1 f1 w2 g2 d2 s2 c2 f2)
 have le:∀{H2 A' B'},Vt H A B H2 A' B'->sz A'<=n/\sz B'<=n:=λt=>⟨Yn t.sA hA,Yn t.sB hB⟩;cases k with
 | uni=>exact key _ rfl λt=>NE t.gA t.gB t.dj λm H' mk=>mk.out t q
 | dm=>exact absurd rfl hk
 | inter=>exact key _ rfl λt=>KZ ih he (le t).1 (le t).2 t.gA t.gB t.dj λm A' B' H' mk U=>mk.out t q
 | anot=>exact key _ rfl λt=>NF ih he (le t).1 (le t).2 t.gA t.gB t.dj (by exact t.dA.symm▸t.dB.symm▸(λx hx d h=>ZZ (ok.1 x hx d h))) (by rw[t.dA,t.dB];exact ok.2) λm A' B' H' mk=>mk.out t q
 | maybe=>exact key _ rfl λt=>PO ih (Zk he) (le t).1 (le t).2 t.gA t.gB t.dj λm B' H' mk U=>mk.out t q
theorem Uf(ih:Ih n d)(he:d<=e)(hA:sz A<=n)(hB:sz B<=n)(g:AG H (.bin .dm a A B))(q:Gb H (.bin .dm a A B) Q):call (e+3) G7 [.ref a] [] H Q:=by
 refine AR (Bk.start g) λid hc b=>?_;have na:=Lw g.nd;refine(AB b.own (Eh (ih _ hA _ (Ym he)) b.gA rfl λA' H1 w1 g1 d1 s1 c1 U f1=>?_):Ap (call (e+2)) [] J9 [(AA,.ref a)] H (AS Q));have own1:=w1.fr.kp _ _ b.own (.inl na.1.1);refine AB own1 (Eh (ih _ hB _ (Ym he)) (b.gB.q w1) rfl λB' H2 w2 g2 d2 s2 c2 U f2=>?_);have t:=Vt.of w1 g1 d1 s1 c1 f1 w2 g2 d2 s2 c2 f2;exact AB (w2.fr.kp _ _ own1 (.inl na.1.2)) (PM t.gA t.gB t.dj (.inr rfl) λm H' mk=>mk.out t q)
theorem SY{i:Nat}(ih:Ih n d)(he:d<=e)(hA:sz A<=n)(hB:sz B<=n)(g:AG H (.req a i A B))(q:Gb H (.req a i A B) Q):call (e+5) E1 [.ref a] [] H Q:=by
 have gi:=g.rI;have nr:=(ncP g.nd).1;have nA:a∉fp A:=λz=>nr (.tail _ (Yw _ z));refine(AB g.rep.1 (Eh (ih _ hA _ (Ym he)) gi.bA rfl λA' H1 w1 g1 d1 s1 c1 U f1=>?_):Ap (call (e+4)) [] HR [(AA,.ref a)] H (AS Q));refine AB (w1.fr.kp _ _ g.rep.1 (.inl nA)) (Eh (ih _ hB _ (Ym he)) (gi.bB.q w1) rfl λB' H2 w2 g2 d2 s2 c2 U f2=>?_);have t:=Vt.of w1 g1 d1 s1 c1 f1 w2 g2 d2 s2 c2 f2;refine NJ ih he (Yn t.sA hA) (Yn t.sB hB) t.gA t.gB t.dj λm j A2 B2 H3 mk=>?_;refine q (.req m j A2 B2) H3 ⟨(t.fr.more mk.fr λx hx=>.inr (t.nf x hx)).mono λx h=>.tail _ (.tail _ h),λS r=>(t.rp S r).frame mk.fr λx hx hx'=>?_⟩ mk.good ?_ ?_ ?_ ?_ λx hx=>?_
 ·refine AR (r.fps x hx) λo e U=>?_;exact nS (t.nf x hx') e
 ·show dR A2.den B2.den=dR A.den B.den;exact mk.den▸t.dA▸t.dB▸rfl
 ·show sz A2+sz B2+2<=sz A+sz B+2;exact mk.eA.sz.symm▸mk.eB.sz.symm▸ZA (bG t.sA t.sB) _
 ·exact PR (mk.eA.sc▸t.cA) (mk.eB.sc▸t.cB)
 ·rfl
 ·rcases mcP hx with rfl|hx
  ·exact t.fr.dm _ mk.nm
  ·rcases mcP hx with rfl|hx
   ·exact t.fr.dm _ mk.ni
   ·rw[mk.eA.fp,mk.eB.fp] at hx;exact t.nf x hx
theorem RG.out{uk uk':UK}{A' A2:Tr}{H2:MH}(mk:RG uk H1 A' m uk' A2 H2)(w1:Qt H H1 (fp A))(d1:A'.den=A.den)(s1:sz A'<=sz A)(c1:Mine.sc A'<=Mine.sc A)(f1:∀x∈fp A',H x=none)(hd:dA uk A.den=dA Wo A.den)(hs:uC uk'=uC Wo)(q:Gb H (.una Wo a A) Q):Q (.ref m) H2:=by
 refine q (.una uk' m A2) H2 ⟨(w1.fr.more mk.fr λx hx=>.inr (f1 x hx)).mono λx h=>.tail _ h,λS r=>(w1.rp S r).frame mk.fr λx hx hx'=>?_⟩ mk.good ?_ ?_ ?_ ?_ λx hx=>?_
 ·refine AR (r.fps x hx) λo e U=>?_;exact nS (f1 x hx') e
 ·show dA uk' A2.den=dA Wo A.den;rw[mk.den,d1,hd]
 ·show sz A2+1<=sz A+1;exact mk.eA.sz.symm▸ZU s1
 ·exact mk.eA.sc▸c1
 ·exact hs
 ·rcases mcP hx with rfl|hx
  ·exact w1.fr.dm _ mk.nn
  ·rw[mk.eA.fp] at hx;exact f1 x hx
theorem RH{sa:Nat}{ys:List Int}{ex:Bool}{bo:Int}(ih:Ih n d)(he:d<=e)(hA:sz A<=n)(g:AG H (.una (.filt sa ys ex bo) a A))(q:Gb H (.una (.filt sa ys ex bo) a A) Q):call (e+3) Fn [.ref a] [] H Q:=by
 have na:=(ncP g.nd).1;refine(AB g.rep.1 (Eh (ih _ hA _ (Ym he)) g.uA rfl λA' H1 w1 g1 d1 s1 c1 U f1=>?_):Ap (call (e+2)) [] IG [(AA,.ref a)] H (AS Q));have own1:=w1.fr.kp _ _ g.rep.1 (.inl na);refine AB own1 (AB own1 (AB own1 ?_));exact DR rfl λm h=>Jq ih he (Yn s1 hA) g1 (w1.fr.kp _ _ g.rep.2.1 (.inr rfl)) g.ok.2.1.2.2 ⟨g.ok.2.1.1,g.ok.2.1.2.1⟩ h λA2 H2 mk=>mk.out w1 d1 s1 c1 f1 rfl rfl q
theorem SZ{ma:Nat}{lim wt j:Int}(ih:Ih n d)(he:d<=e)(hA:sz A<=n)(g:AG H (.una (.inv ma lim wt j) a A))(q:Gb H (.una (.inv ma lim wt j) a A) Q):call (e+3) E0 [.ref a] [] H Q:=by
 have na:=(ncP g.nd).1;refine(AB g.rep.1 (Eh (ih _ hA _ (Ym he)) g.uA rfl λA' H1 w1 g1 d1 s1 c1 U f1=>?_):Ap (call (e+2)) [] HN [(AA,.ref a)] H (AS Q));have own1:=w1.fr.kp _ _ g.rep.1 (.inl na);refine AB own1 (AB own1 (AB own1 (AB own1 ?_)));exact DR rfl λm h=>LC ih he (Yn s1 hA) g1 ⟨g.ok.2.1.1,g.ok.2.1.2.1,g.ok.2.1.2.2⟩ (.inr ⟨ma,rfl,(w1.fr.kp _ _ g.rep.2.1 (.inr rfl))⟩) h λt t' j' A2 H2 mk=>mk.out w1 d1 s1 c1 f1 rfl rfl q
theorem Sa{s:Int}(ih:Ih n d)(he:d<=e)(hA:sz A<=n)(g:AG H (.una (.con s) a A))(q:Gb H (.una (.con s) a A) Q):call (e+3) GV [.ref a] [] H Q:=by
 have na:=(ncP g.nd).1;refine(AB g.rep.1 (Eh (ih _ hA _ (Ym he)) g.uA rfl λA' H1 w1 g1 d1 s1 c1 U f1=>?_):Ap (call (e+2)) [] JD [(AA,.ref a)] H (AS Q));exact AB (w1.fr.kp _ _ g.rep.1 (.inl na)) (NH g1 g.ok.2 λm H2 mk=>mk.out w1 d1 s1 c1 f1 rfl rfl q)
theorem OT{la wa j:Nat}{ds:List (Int×Int)}(h1:H la=some (.list (ds.map λp=>.int p.1)))(h2:H wa=some (.list (ds.map λp=>.int p.2)))(ok:Dz j ds)(h:H m=none)(q:AG (H.put m (.inst .Leaf (Ea la wa j))) (.leaf m la wa j ds)->Q (.ref m) (H.put m (.inst .Leaf (Ea la wa j)))) :
 Ap (call e) [] HE [(AA,.ref m),(BO,.ref la),(En,.ref wa),(Ip,.none),(Iq,.none),(Ir,.none),(GL,.int j),(D5,.none),(Ms,.none),(GM,.none)] (H.put m (.inst .Leaf [])) (AS λv H'=>v=.none/\Q (.ref m) H'):=by
 refine Ee rfl (Ee rfl (Ee rfl (Ee rfl (Ee rfl (Ee rfl (Ee rfl (Ee rfl (Ee rfl ⟨rfl,q ?_⟩))))))));have f0:=An.new0 (o:=.inst .Leaf (Ea la wa j)) h;exact⟨⟨AH _ _ _,f0.kp _ _ h1 (.inr rfl),f0.kp _ _ h2 (.inr rfl)⟩,ok,ncR ⟨Zn,bE⟩⟩
theorem RI{la wa j:Nat}{ds:List (Int×Int)}(g:AG H (.leaf a la wa j ds))(q:Gb H (.leaf a la wa j ds) Q):call (e+2) G5 [.ref a] [] H Q:=by
 have o:=g.rep.1;refine(AB o (AB o (AB o (AB o (AB o (AB o (AB o (DR rfl λm h=>?_))))))):Ap (call (e+1)) [] J6 [(AA,.ref a)] H (AS Q));exact OT g.rep.2.1 g.rep.2.2 g.ok h λgn=>q _ _ ⟨An.new h,λS r=>r.new h⟩ gn rfl (Y1 _) (Y1 _) rfl λx hx=>by exact(msP hx).symm▸h
end
def CW(H:MH)(T:Tr)(Q:V->MH->Prop):Prop:=∀T' H',OF H T H' T'->Q (.ref T'.addr) H'
theorem Sb:∀T:Tr,1<=sz T
 | .null _|.leaf _ _ _ _ _=>Y1 _
 | .bin _ _ _ _|.una _ _ _=>ZK _ _
 | .req _ _ _ _=>Yn (by decide) (ZK 2 _)
section
variable{T:Tr}{k:BK}{uk uk' Wo:UK}{Xt:Int}
theorem D1{F:List Nat}(h:EM H p)(f:An H H' F)(n:p∉F):EM H' p:=HT h λU U h=>⟨_,_,f.kp _ _ h (.inl n)⟩
theorem A4.isI{T:Tr}(r:A4 H T):EM H T.addr:=BB r.own λU h=>⟨_,_,h⟩
theorem Ug{F:List Nat}(r:A4 H A)(rB:∀x∈F,∃o,H x=some o/\ro o=false)(dj:∀x∈fp A,x∉F):A.addr∉F:=λz=>by
 cases A with
 | null a=>refine AR (rB _ z) λo e k=>?_;obtain rfl:=Ys ((show H (Tr.null a).addr=_ from r).symm.trans e);exact zF k
 | _=>exact dj _ (.head _) z
structure Fw(H:MH)(A B:Tr)(H2:MH)(A' B':Tr):Prop where
 gA:AG H2 A'
 gB:AG H2 B'
 dA:A'.den=A.den
 dB:B'.den=B.den
 sA:sz A'<=sz A
 sB:sz B'<=sz B
 cA:sc A'<=sc A
 cB:sc B'<=sc B
 dj:∀x∈fp A',x∉fp B'
 nA:∀x∈fp A',x∈fp A\/H x=none
 nB:∀x∈fp B',x∈fp B\/H x=none
 fr:An H H2 (fp A++fp B)
 iA:EM H2 A.addr
 iB:EM H2 B.addr
 oA:sc A<=1->∃WY,OE H A H2 A' WY
 oB:sc B<=1->∃WY,OE H B H2 B' WY
theorem OF.bB(r:OF H A H1 A')(gB:AG H B)(dj:∀x∈fp A,x∉fp B):AG H1 B:=⟨gB.rep.frame r.fr λx h z=>dj x z h,gB.ok,gB.nd⟩
theorem Fw.of{H2:MH}{A' B':Tr}(gA:AG H A)(gB:AG H B)(dj:∀x∈fp A,x∉fp B)(r:OF H A H1 A')(s:OF H1 B H2 B'):Fw H A B H2 A' B':=by
 have dA:∀x∈fp A',x∉fp B:=λx hx hx'=>(r.nw x hx).elim (λh=>dj x h hx') λh=>by obtain⟨o,e,U⟩:=gB.rep.fps x hx';rw[h] at e;exact zN e
 have dj':∀x∈fp A',x∉fp B':=λx hx hx'=>by
  rcases s.nw x hx' with h|h
  ·exact dA x hx h
  ·obtain⟨o,e,U⟩:=r.gd.rep.fps x hx;rw[h] at e;exact zN e
 have iA:EM H2 A.addr:=D1 r.io s.fr (Ug gA.rep (λx hx=>gB.rep.fps x hx) dj);refine⟨⟨r.gd.rep.frame s.fr dA,r.gd.ok,r.gd.nd⟩,s.gd,r.den,s.den,r.sz,s.sz,r.sc,s.sc,dj',r.nw,λx hx=>(s.nw x hx).imp id (r.fr.dm x),
  (r.fr.mono λx m=>Yw _ m).trans (s.fr.mono λx m=>Yt _ m),iA,s.io,λh=>?_,λh=>?_⟩
 ·refine BB (r.old h) λWY o=>?_;exact⟨WY,⟨o.gd.rep.frame s.fr λx hx=>dj x (o.eq.fp▸hx),o.gd.ok,o.gd.nd⟩,o.eq,o.den,o.ch⟩
 ·obtain⟨WY,o⟩:=s.old h;exact⟨WY,o.gd,o.eq,o.den,λz=>⟨(o.ch z).1,(o.ch z).2.imp id λk=>⟨r.fr.dm _ k.1,λx hx=>r.fr.dm _ (k.2 x hx)⟩⟩⟩
theorem Vv:sc (.bin k a A B)≠0:=by
 have key:=b2 (P:=λx y=>max (if x<=1 then 1 else 3) (if y=0 then 1 else max y 2)≠0) (by decide) (BW A) (BW B)
 cases k<;>first|exact key|exact bQ (dP _ _)
theorem Uh(h:sc (.bin k a A B)<=1):sc A<=1/\sc B<=1/\(k=.maybe->sc B=0):=by
 have key:=b2 (P:=λx y=>max (if x<=1 then 1 else 3) (if y=0 then 1 else max y 2)<=1->x<=1/\y<=1/\y=0) (by decide) (BW A) (BW B)
 have key':max (max (sc A) (sc B)) 1<=1->sc A<=1/\sc B<=1:=λh=>a6.mp (a6.mp h).1;cases k
 case maybe=>exact⟨(key h).1,(key h).2.1,λU=>(key h).2.2⟩
 all_goals exact⟨(key' h).1,(key' h).2,λz=>nomatch z⟩
theorem Gc(h:sc (.bin k a A B)<=2):sc A<=2/\sc B<=2/\(k=.maybe->sc A<=1):=by
 have key:=b2 (P:=λx y=>max (if x<=1 then 1 else 3) (if y=0 then 1 else max y 2)<=2->x<=2/\y<=2/\x<=1) (by decide) (BW A) (BW B)
 have key':max (max (sc A) (sc B)) 1<=2->sc A<=2/\sc B<=2:=λh=>a6.mp (a6.mp h).1;cases k
 case maybe=>exact⟨(key h).1,(key h).2.1,λU=>(key h).2.2⟩
 all_goals exact⟨(key' h).1,(key' h).2,λz=>nomatch z⟩
theorem OU{i:Nat}(h:sc (.req a i A B)<=2):sc A<=2/\sc B<=1:=b2 (P:=λx y=>max (max x 1) (if y<=1 then 1 else 3)<=2->x<=2/\y<=1) (by decide) (BW A) (BW B) h
theorem Sc{i:Nat}(h:sc (.req a i A B)<=1):sc A<=1:=(a6.mp (a6.mp h).1).1
theorem sc_l2:sc A<=sc (.bin k a A B):=by
 have key:=b2 (P:=λx y=>x<=max (if x<=1 then 1 else 3) (if y=0 then 1 else max y 2)) (by decide) (BW A) (BW B)
 cases k<;>first|exact key|exact Yn (cO _ _) (cO _ _)
theorem sc_r2(hk:k≠.maybe):sc B<=sc (.bin k a A B):=by
 cases k<;>first|exact absurd rfl hk|exact Yn (dP _ _) (cO _ _)
theorem NK(eA:Ib A WL)(eB:Ib B WN)(hd:Mine.dB k WL.den WN.den=Mine.dB k A.den B.den):Ib (.bin k a A B) (.bin k a WL WN):=by
 refine⟨rfl,?_,?_,?_,λd h=>?_⟩
 ·show a::(fp WL++fp WN)=_;exact eA.fp▸eB.fp▸rfl
 ·show sz WL+sz WN+1=_;exact eA.sz▸eB.sz▸rfl
 ·cases k<;>(show(_:Nat)=_;unfold sc;simp only[eA.sc,eB.sc])
 ·cases k with
  | inter=>exact⟨eA.al d h.1,eB.al d h.2⟩
  | _=>unfold al at h ⊢;rw[hd] at h;exact h
theorem JL{F}(g:AG H (.bin k a A B))(f:An H H' F)(na:a∉F)(gA:AG H' WL)(gB:AG H' WN)(eA:WL.addr=A.addr)(eB:WN.addr=B.addr)(dA:WL.den=A.den)(dB:WN.den=B.den)(nd:(a::(fp WL++fp WN)).Nodup):AG H' (.bin k a WL WN):=by
 refine Am g.rep λz U=>?_;refine AR z λid own hc=>?_;exact⟨⟨⟨id,by rw[eA,eB];exact f.kp _ _ own (.inl na),by rw[dA,dB];exact hc⟩,gA.rep,gB.rep⟩,⟨gA.ok,gB.ok,by rw[dA,dB];exact g.ok.2.2⟩,nd⟩
theorem MO(g:AG H (.bin k a A B)):a∉fp A++fp B:=(ncP g.nd).1
theorem Fw.oldT{A' B':Tr}{H2:MH}(t:Fw H A B H2 A' B')(g:AG H (.bin k a A B))(h:sc (.bin k a A B)<=1):∃WL WN,AG H2 (.bin k a WL WN)/\OE H A H2 A' WL/\OE H B H2 B' WN:=by
 refine CV (Uh h) λhA hB U=>?_;obtain⟨WL,oA⟩:=t.oA hA;obtain⟨WN,oB⟩:=t.oB hB;exact⟨WL,WN,JL g t.fr (MO g) oA.gd oB.gd oA.eq.ad oB.eq.ad oA.den oB.den (by exact oA.eq.fp.symm▸oB.eq.fp.symm▸g.nd),oA,oB⟩
theorem OE.bin{A' B' T':Tr}{H2:MH}(gd:AG H2 (.bin k a WL WN))(eA:Ib A WL)(eB:Ib B WN)(dA:WL.den=A.den)(dB:WN.den=B.den):OE H (.bin k a A B) H2 T' (.bin k a WL WN) :=
 ⟨gd,NK eA eB (by rw[dA,dB]),by show Mine.dB k WL.den WN.den=Mine.dB k A.den B.den;rw[dA,dB],λz=>absurd z Vv⟩
theorem Fw.nA'{A' B':Tr}{H2:MH}(t:Fw H A B H2 A' B')(g:AG H (.bin k a A B)):a∉fp A'++fp B':=λz=>by
 refine AR (g.rep.fps a (.head _)) λo e U=>?_;have n:=Lw g.nd;refine iG (maP z) (λz=>?_) λz=>?_
 ·rcases t.nA a z with h|h
  ·exact n.1.1 h
  ·rw[h] at e;exact zN e
 ·rcases t.nB a z with h|h
  ·exact n.1.2 h
  ·rw[h] at e;exact zN e
theorem Fw.nf{A' B':Tr}{H2:MH}(t:Fw H A B H2 A' B'):∀x∈fp A'++fp B',x∈fp A++fp B\/H x=none:=λx hx=>(maP hx).elim (λh=>(t.nA x h).imp (Yw _) id) λh=>(t.nB x h).imp (Yt _) id
theorem Fw.self0{A' B':Tr}{H2:MH}(t:Fw H A B H2 A' B')(g:AG H (.bin k a A B))(eA:A'.addr=A.addr)(eB:B'.addr=B.addr):OF H (.bin k a A B) H2 (.bin k a A' B'):=by
 have nd:(a::(fp A'++fp B')).Nodup:=ncR ⟨t.nA' g,bj.mpr ⟨t.gA.nd,t.gB.nd,λx hx y hy e=>t.dj x hx (e▸hy)⟩⟩;refine⟨t.fr.mono λx h=>.tail _ h,JL g t.fr (MO g) t.gA t.gB eA eB t.dA t.dB nd,by show Mine.dB k A'.den B'.den=Mine.dB k A.den B.den;exact t.dA▸t.dB▸rfl,by exact(ZA (bG t.sA t.sB) _:sz A'+sz B'+1<=sz A+sz B+1),PQ t.cA t.cB,λx hx=>?_,D1 g.rep.isI t.fr (MO g),λh=>?_⟩
 ·exact(mcP hx).elim (λz=>.inl (z▸.head _)) λz=>(t.nf x z).imp (.tail _) id
 ·refine Dy (t.oldT g h) λWL WN gd oA oB=>?_;exact⟨_,OE.bin (A':=A') (B':=B') gd oA.eq oB.eq oA.den oB.den⟩
theorem Fw.self{A' B':Tr}{H2:MH}(t:Fw H A B H2 A' B')(g:AG H (.bin k a A B))(eA:A'.addr=A.addr)(eB:B'.addr=B.addr)(q:CW H (.bin k a A B) Q):Q (.ref a) H2:=q _ _ (t.self0 g eA eB)
theorem OF.put{T':Tr}{H2 H3:MH}(r:OF H T H2 T')(rp:∀S,A4 H2 S->A4 H3 S)(f:An H2 H3 (fp T))(io:EM H3 T.addr):OF H T H3 T' :=
 ⟨r.fr.trans f,⟨rp _ r.gd.rep,r.gd.ok,r.gd.nd⟩,r.den,r.sz,r.sc,r.nw,io,λh=>BB (r.old h) λWY o=>⟨WY,⟨rp _ o.gd.rep,o.gd.ok,o.gd.nd⟩,o.eq,o.den,o.ch⟩⟩
theorem Mk.outR{A' B':Tr}{H2 H3:MH}{A2 B2:Tr}(mk:Mk k H2 A' B' m A2 B2 H3)(t:Fw H A B H2 A' B')(g:AG H (.bin k a A B))(old:sc (.bin k a A B)<=1->∃WY,OE H (.bin k a A B) H3 (.bin k m A2 B2) WY)(q:CW H (.bin k a A B) Q):Q (.ref m) H3:=by
 refine q (.bin k m A2 B2) H3 ⟨(t.fr.more mk.fr t.nf).mono λx h=>.tail _ h,mk.good,?_,?_,PQ (mk.eA.sc▸t.cA) (mk.eB.sc▸t.cB),λx hx=>?_,D1 (D1 g.rep.isI t.fr (MO g)) mk.fr (t.nA' g),old⟩
 ·show Mine.dB k A2.den B2.den=Mine.dB k A.den B.den;exact mk.den▸t.dA▸t.dB▸rfl
 ·show sz A2+sz B2+1<=sz A+sz B+1;exact mk.eA.sz.symm▸mk.eB.sz.symm▸ZA (bG t.sA t.sB) _
 ·rcases mcP hx with rfl|hx
  ·exact .inr (t.fr.dm _ mk.nn)
  ·rw[mk.eA.fp,mk.eB.fp] at hx;exact(t.nf x hx).imp (gr _) id
theorem Mk.oldR{A' B':Tr}{H2 H3:MH}{A2 B2:Tr}(mk:Mk k H2 A' B' m A2 B2 H3)(t:Fw H A B H2 A' B')(g:AG H (.bin k a A B))(al:alB k A'.den B'.den)(h:sc (.bin k a A B)<=1):∃WY,OE H (.bin k a A B) H3 (.bin k m A2 B2) WY:=by
 refine Dy (t.oldT g h) λWL WN gd oA oB=>?_;exact⟨_,OE.bin (A':=A') (B':=B') ⟨mk.qt al _ gd.rep,gd.ok,gd.nd⟩ oA.eq oB.eq oA.den oB.den⟩
theorem FH(g:AG H T)(hn:¬ Ag T.den)(q:CW H T Q):call (e+1) AM [] [] H Q :=
 SV λm h g'=>q (.null m) _ {
  fr:=(An.new (F:=[]) h).mono λU z=>nomatch z
  gd:=g'
  den:=(KY hn).symm
  sz:=Sb T
  sc:=Zp _
  nw:=λx hx=>(nomatch hx)
  io:=D1 (F:=[]) g.rep.isI (An.new h) λz=>(nomatch z)
  old:=λU=>⟨T,⟨g.rep.new h,g.ok,g.nd⟩,.refl,rfl,λU=>⟨rfl,.inr ⟨h,λx hx=>(nomatch hx)⟩⟩⟩}
theorem D2{x y:Nat}{K:Bool->Prop}(r:EM H x)(r':EM H y)(k:K (x !=y)):Km H x y K:=by
 unfold Km;exact⟨r,r',k⟩
theorem FJ{x y:Nat}(h:(x !=y)=false):x=y:=by simpa using h
theorem QQ(g:AG H (.bin k a A B))(hd:A.den=dB k A.den B.den)(q:CW H (.bin k a A B) Q):CW H A Q:=λT' H' r=>by
 have gB:=r.bB g.bB (Lw g.nd).2.2.2;have na:=(Lw g.nd).1.1;refine q T' H' ⟨r.fr.mono λx h=>.tail _ (Yw _ h),r.gd,r.den.trans hd,Yn r.sz (sl0 (Y1 (sz A+sz B+1))),Yn r.sc sc_l2,λx hx=>(r.nw x hx).imp (λh=>.tail _ (Yw _ h)) id,D1 g.rep.isI r.fr na,λh=>?_⟩;obtain⟨WL,o⟩:=r.old (Uh h).1;exact⟨_,OE.bin (A':=A) (B':=B) (JL g r.fr na o.gd gB o.eq.ad rfl o.den rfl (by exact o.eq.fp.symm▸g.nd)) o.eq .refl o.den rfl⟩
theorem Vx(g:AG H (.bin k a A B))(hk:k≠.maybe)(hd:B.den=dB k A.den B.den)(q:CW H (.bin k a A B) Q):CW H B Q:=λT' H' r=>by
 have gA:AG H' A:=⟨g.bA.rep.frame r.fr λx h z=>(Lw g.nd).2.2.2 x h z,g.bA.ok,g.bA.nd⟩;have na:=(Lw g.nd).1.2;refine q T' H' ⟨r.fr.mono λx h=>.tail _ (Yt _ h),r.gd,r.den.trans hd,Yn r.sz (sr0 (Y1 (sz A+sz B+1))),Yn r.sc (sc_r2 hk),λx hx=>(r.nw x hx).imp (λh=>.tail _ (Yt _ h)) id,D1 g.rep.isI r.fr na,λh=>?_⟩;obtain⟨WN,o⟩:=r.old (Uh h).2.1;exact⟨_,OE.bin (A':=A) (B':=B) (JL g r.fr na gA o.gd rfl o.eq.ad rfl o.den (by exact o.eq.fp.symm▸g.nd)) .refl o.eq rfl o.den⟩
theorem OF.same{T:Tr}(g:AG H T):OF H T H T:=⟨.refl,g,rfl,Y1 _,Y1 _,λU h=>.inl h,g.rep.isI,λU=>⟨T,g,.refl,rfl,λU=>⟨rfl,.inl rfl⟩⟩⟩
theorem RJ{vs:List V}(g:AG H (.null a))(hv:vs=[]\/∃r:Int,r<=0/\vs=[.int r])(q:CW H (.null a) Q):call (e+1) CF (.ref a::vs) [] H Q:=by
 have z:=q (.null a) H (.same g);rcases hv with rfl|⟨r,_,rfl⟩<;>exact z
theorem RK{la wa j:Nat}{ds:List (Int×Int)}{vs:List V}(g:AG H (.leaf a la wa j ds))(hv:vs=[]\/∃r:Int,r<=0/\vs=[.int r])(q:CW H (.leaf a la wa j ds) Q):call (e+4) Ey (.ref a::vs) [] H Q:=by
 have key:∀r:Int,r<=0->Ap (call (e+3)) [] HH [(AA,.ref a),(AD,.int r)] H (AS Q):=λr hr=>by
  refine Ae g.rep.1 rfl rfl (FG g.rep g.ok λb hb=>?_);cases b with
  | false=>exact FH g hb.neg q
  | true =>
   have z:=q _ H (.same g);refine tB (KQ (AI (λU=>Ae g.rep.1 rfl rfl (QF g.rep g.ok λm hm=>AI (λz=>absurd (of_decide_eq_true z) (by first|exact EU hr hma|exact EU hr hmb|exact EU hr hm|exact EU hr (Zm hma hmb))) λU=>z)) λU=>z))
 rcases hv with rfl|⟨r,hr,rfl⟩
 ·exact key 0 (ZP _)
 ·exact key r hr
theorem Sd{vs:List V}(ih:Ih n d)(he:d<=e)(hA:sz A<=n)(hB:sz B<=n)(g:AG H (.bin .uni a A B))(hs:sc (.bin .uni a A B)<=2)(hv:vs=[]\/∃r:Int,r<=0/\vs=[.int r])(q:CW H (.bin .uni a A B) Q):call (e+3) EK (.ref a::vs) [] H Q:=by
 refine AR (Bk.start g) λid hc b=>?_;have cA:=ih _ hA (e+2) (Ym he);have cB:=ih _ hB (e+2) (Ym he);have na:=Lw g.nd;have key:∀r:Int,r<=0->Ap (call (e+2)) [] EN [(AA,.ref a),(AD,.int r)] H (AS Q):=λr hr=>by
  refine AB b.own (AB b.own (Aa cA b.gA rfl λba hba=>Aa cB b.gB rfl λbb hbb=>?_));cases ba with
  | false =>
   have e1:B.den=dU A.den B.den:=(MN hba.neg).symm;have none1:bb=false->Q=Q->call (e+2) AM [] [] H Q:=λh U=>FH g (by rw[show(Tr.bin .uni a A B).den=dU A.den B.den from rfl,Jn];subst h;exact λz=>z.elim hba.neg hbb.neg) q
   cases bb with
   | false=>exact AI (λU=>none1 rfl rfl) λU=>none1 rfl rfl
   | true =>
    have z:Ba H (.ref B.addr) AK λf=>call (e+2) f [.ref B.addr,.int r] [] H Q:=Ca cB b.gB (Gc hs).2.1 rfl (.inr ⟨r,hr,rfl⟩) (Vx g (λz=>nomatch z) e1 q);exact AI (λU=>z) λU=>z
  | true =>
   cases bb with
   | false =>
    have e1:A.den=dU A.den B.den:=(Q9 hbb.neg).symm;have z:Ba H (.ref A.addr) AK λf=>call (e+2) f [.ref A.addr,.int r] [] H Q:=Ca cA b.gA (Gc hs).1 rfl (.inr ⟨r,hr,rfl⟩) (QQ g e1 q);exact AI (λU=>z) λU=>z
   | true =>
    have rest:∀t,Ap (call (e+2)) [] (EN.drop 6) ((AA,.ref a)::(AD,.int r)::(Ak,.ref A.addr)::(Av,.ref B.addr)::(AZ,.bool true)::(AX,.bool true)::t) H (AS Q):=λt=>by
     refine b.rA.m1 rfl ?_;refine(λ(rA:∀s:Int,s<=0->call (e+2) (F9 A AK) [.ref A.addr,.int s] [] H _)=>AI (λU=>Cy cB b.gB rfl λm hm=>rA (r-m) (Q2 hr hm)) λU=>rA 0 (ZP _)) ?_;refine λs hs'=>cA.repl b.gA (Gc hs).1 (.inr ⟨s,hs',rfl⟩) λA' H1 rA=>?_;have gB1:=rA.bB b.gB na.2.2.2;refine gB1.rep.m1 rfl ?_;refine(λ(rB:∀s:Int,s<=0->call (e+2) (F9 B AK) [.ref B.addr,.int s] [] H1 _)=>AI (λU=>Cy (ih _ (Yn rA.sz hA) (e+2) (Ym he)) rA.gd rfl λm hm=>rB (r-m) (Q2 hr hm)) λU=>rB 0 (ZP _)) ?_;refine λs hs'=>cB.repl gB1 (Gc hs).2.1 (.inr ⟨s,hs',rfl⟩) λB' H2 rB=>?_;have t:=Fw.of b.gA b.gB na.2.2.2 rA rB;have own:=t.fr.kp _ _ b.own (.inl (MO g));have nomade:(AN A6 (bF .uni A.addr B.addr id)).isNone=true:=by cases id<;>rfl
     have made:Eb (call (e+1)) .Union [.ref A'.addr,.ref B'.addr] [] H2 Q:=NE t.gA t.gB t.dj λm H' mk=>mk.outR t g (mk.oldR t g trivial) q;refine AB own (D2 t.gA.rep.isI t.iA (AI (λU=>Ae (m:=A6) own nomade rfl made) λzA=>?_));refine AB own (D2 t.gB.rep.isI t.iB (AI (λU=>Ae (m:=A6) own nomade rfl made) λzB=>?_));refine Cu own HX ?_;refine Mc.symm▸?_;have z:=t.self0 g (FJ zA) (FJ zB);have rp:∀S,A4 H2 S->A4 (H2.put a (.inst (bC .uni) (bF .uni A'.addr B'.addr (some .none)))) S:=λS h=>z.gd.rep.cache (v:=.none) rfl rfl h;exact q _ _ (z.put ((FJ zB)▸(FJ zA)▸rp) (An.put (.head _) λo' z=>by obtain rfl:=Ys (own.symm.trans z);rfl) ⟨_,_,AH _ _ _⟩)
    refine AI (λU=>Cy cA b.gA rfl λma hma=>Cy cB b.gB rfl λmb hmb=>?_) λU=>rest [];refine AI (λz=>absurd (of_decide_eq_true z) (by first|exact EU hr hma|exact EU hr hmb|exact EU hr hm|exact EU hr (Zm hma hmb))) λU=>KQ ?_
    refine AI (λz=>absurd (of_decide_eq_true z) (by first|exact EU hr hma|exact EU hr hmb|exact EU hr hm|exact EU hr (Zm hma hmb))) λU=>?_
    exact AI (λz=>absurd (of_decide_eq_true z) (by first|exact EU hr hma|exact EU hr hmb|exact EU hr hm|exact EU hr (Zm hma hmb))) λU=>rest [(DC,.int ma),(DD,.int mb)]
 rcases hv with rfl|⟨r,hr,rfl⟩
 ·exact key 0 (ZP _)
 ·exact key r hr
end
section
variable{T:Tr}{k:BK}{uk uk' Wo:UK}{Xt:Int}
theorem Ui{vs:List V}(ih:Ih n d)(he:d<=e)(hA:sz A<=n)(hB:sz B<=n)(g:AG H (.bin .dm a A B))(hs:sc (.bin .dm a A B)<=2)(hv:vs=[]\/∃r:Int,r<=0/\vs=[.int r])(q:CW H (.bin .dm a A B) Q):call (e+4) Ez (.ref a::vs) [] H Q:=by
 refine AR (Bk.start g) λid hc b=>?_;have cA:=ih _ hA (e+3) (Ym he);have cB:=ih _ hB (e+3) (Ym he);have na:=Lw g.nd;have key:∀r:Int,r<=0->Ap (call (e+3)) [] E7 [(AA,.ref a),(AD,.int r)] H (AS Q):=λr hr=>by
  refine AB b.own (AB b.own (Aa cA b.gA rfl λba hba=>Aa cB b.gB rfl λbb hbb=>?_));cases ba with
  | false =>
   cases bb with
   | false =>
    have z:call (e+3) AM [] [] H Q:=FH g (by rw[show(Tr.bin .dm a A B).den=dU A.den B.den from rfl,Jn];exact λz=>z.elim hba.neg hbb.neg) q
    exact AI (λU=>z) λU=>z
   | true =>
    have z:Ba H (.ref B.addr) AK λf=>call (e+3) f [.ref B.addr,.int r] [] H Q:=Ca cB b.gB (Gc hs).2.1 rfl (.inr ⟨r,hr,rfl⟩) (Vx g (λz=>nomatch z) (MN hba.neg).symm q);exact AI (λU=>z) λU=>z
  | true =>
   cases bb with
   | false =>
    have z:Ba H (.ref A.addr) AK λf=>call (e+3) f [.ref A.addr,.int r] [] H Q:=Ca cA b.gA (Gc hs).1 rfl (.inr ⟨r,hr,rfl⟩) (QQ g (Q9 hbb.neg).symm q);exact AI (λU=>z) λU=>z
   | true =>
    have rest:∀t,Ap (call (e+3)) [] (E7.drop 6) ((AA,.ref a)::(AD,.int r)::(Ak,.ref A.addr)::(Av,.ref B.addr)::(AZ,.bool true)::(AX,.bool true)::t) H (AS Q):=λt=>by
     refine Ca cA b.gA (Gc hs).1 rfl (.inr ⟨r,hr,rfl⟩) λA' H1 rA=>?_;refine Ca cB (rA.bB b.gB na.2.2.2) (Gc hs).2.1 rfl (.inr ⟨r,hr,rfl⟩) λB' H2 rB=>?_;have t:=Fw.of b.gA b.gB na.2.2.2 rA rB;have own:=t.fr.kp _ _ b.own (.inl (MO g));have nomade:(AN A6 (bF .dm A.addr B.addr id)).isNone=true:=by cases id<;>rfl
     have made:Eb (call (e+2)) .DMax [.ref A'.addr,.ref B'.addr] [] H2 Q:=PM t.gA t.gB t.dj (.inl rfl) λm H' mk=>mk.outR t g (mk.oldR t g trivial) q;refine Aa (ih _ (Yn rA.sz hA) _ (Ym he)) t.gA rfl λba hba'=>?_;refine(hba'.mpr (rA.den▸hba.pos)).symm▸Aa (ih _ (Yn rB.sz hB) _ (Ym he)) t.gB rfl λbb hbb'=>?_;refine(hbb'.mpr (rB.den▸hbb.pos)).symm▸AB own (D2 t.gA.rep.isI t.iA (AI (λU=>Ae (m:=A6) own nomade rfl made) λzA=>?_));refine AB own (D2 t.gB.rep.isI t.iB (AI (λU=>Ae (m:=A6) own nomade rfl made) λzB=>?_));exact t.self g (FJ zA) (FJ zB) q
    refine AI (λU=>Cy cA b.gA rfl λma hma=>Cy cB b.gB rfl λmb hmb=>?_) λU=>rest [];refine AI (λz=>absurd (of_decide_eq_true z) (by first|exact EU hr hma|exact EU hr hmb|exact EU hr hm|exact EU hr (Zm hma hmb))) λU=>KQ ?_
    refine AI (λz=>absurd (of_decide_eq_true z) (by first|exact EU hr hma|exact EU hr hmb|exact EU hr hm|exact EU hr (Zm hma hmb))) λU=>?_
    exact AI (λz=>absurd (of_decide_eq_true z) (by first|exact EU hr hma|exact EU hr hmb|exact EU hr hm|exact EU hr (Zm hma hmb))) λU=>rest [(DC,.int ma),(DD,.int mb)]
 rcases hv with rfl|⟨r,hr,rfl⟩
 ·exact key 0 (ZP _)
 ·exact key r hr
theorem Se{vs:List V}(ih:Ih n d)(he:d<=e)(hA:sz A<=n)(hB:sz B<=n)(g:AG H (.bin .inter a A B))(hs:sc (.bin .inter a A B)<=2)(hv:vs=[]\/∃r:Int,r<=0/\vs=[.int r])(q:CW H (.bin .inter a A B) Q):call (e+5) EL (.ref a::vs) [] H Q:=by
 refine AR (Bk.start g) λid hc b=>?_;cases Cb rfl hc
 have cA:=ih _ hA (e+4) (Ym he);have cB:=ih _ hB (e+4) (Ym he);have na:=Lw g.nd;have key:∀r:Int,r<=0->Ap (call (e+4)) [] ES [(AA,.ref a),(AD,.int r)] H (AS Q):=λr hr=>by
  have nul:¬ (Ag A.den/\Ag B.den)->call (e+4) AM [] [] H Q:=λh=>FH g (λz=>h (C8 z)) q;refine AB b.own (AB b.own (Aa cA b.gA rfl λba hba=>Aa cB b.gB rfl λbb hbb=>?_));cases ba with
  | false=>exact nul λh=>hba.neg h.1
  | true =>
   cases bb with
   | false=>exact nul λh=>hbb.neg h.2
   | true =>
    have rest:∀{u v:Int} {t:As},u<=0->v<=0->AN GN t=some (.int u)->AN GO t=some (.int v)->Ap (call (e+4)) [] (ES.drop 6) ((AA,.ref a)::(AD,.int r)::(Ak,.ref A.addr)::(Av,.ref B.addr)::(AZ,.bool true)::(AX,.bool true)::t) H (AS Q):=λ{u v t} hu hv tu tv=>by
     refine b.rA.m1 rfl ?_
     show op (AN GN t) _
     refine tu.symm▸cA.repl b.gA (Gc hs).1 (.inr ⟨u,hu,rfl⟩) λA' H1 rA=>?_;have gB1:=rA.bB b.gB na.2.2.2;refine gB1.rep.m1 rfl ?_
     show op (AN GO t) _
     refine tv.symm▸cB.repl gB1 (Gc hs).2.1 (.inr ⟨v,hv,rfl⟩) λB' H2 rB=>?_;have t:=Fw.of b.gA b.gB na.2.2.2 rA rB;have own:=t.fr.kp _ _ b.own (.inl (MO g));have made:Eb (call (e+3)) .Inter [.ref A'.addr,.ref B'.addr] [] H2 Q:=KZ ih he (Yn rA.sz hA) (Yn rB.sz hB) t.gA t.gB t.dj λm A2 B2 H' mk U=>mk.outR t g (mk.oldR t g (by exact t.dA.symm▸t.dB.symm▸g.ok.2.2)) q
     refine Aa (ih _ (Yn rA.sz hA) _ (Ym he)) t.gA rfl λba hba'=>?_;refine(hba'.mpr (rA.den▸hba.pos)).symm▸Aa (ih _ (Yn rB.sz hB) _ (Ym he)) t.gB rfl λbb hbb'=>?_;rw[hbb'.mpr (rB.den▸hbb.pos)];refine AB own (D2 t.gA.rep.isI t.iA (AI (λU=>Ae (m:=A6) own rfl rfl made) λzA=>?_));refine AB own (D2 t.gB.rep.isI t.iB (AI (λU=>Ae (m:=A6) own rfl rfl made) λzB=>?_));exact t.self g (FJ zA) (FJ zB) q
    refine AI (λU=>Cy cA b.gA rfl λma hma=>Cy cB b.gB rfl λmb hmb=>?_) λU=>rest (u:=0) (v:=0) (t:=[(GN,.int 0),(GO,.int 0)]) (by decide) (by decide) rfl rfl
    exact AI (λz=>absurd (of_decide_eq_true z) (by first|exact EU hr hma|exact EU hr hmb|exact EU hr hm|exact EU hr (Zm hma hmb))) λU=>rest (u:=r-mb) (v:=r-ma) (t:=[(DC,.int ma),(DD,.int mb),(GN,.int (r-mb)),(GO,.int (r-ma))]) (Q2 hr hmb) (Q2 hr hma) rfl rfl
 rcases hv with rfl|⟨r,hr,rfl⟩
 ·exact key 0 (ZP _)
 ·exact key r hr
theorem Sg{vs:List V}(ih:Ih n d)(he:d<=e)(hA:sz A<=n)(hB:sz B<=n)(g:AG H (.bin .anot a A B))(hs:sc (.bin .anot a A B)<=2)(hv:vs=[]\/∃r:Int,r<=0/\vs=[.int r])(q:CW H (.bin .anot a A B) Q):call (e+5) Dt (.ref a::vs) [] H Q:=by
 refine AR (Bk.start g) λid hc b=>?_;cases Cb rfl hc
 have cA:=ih _ hA (e+4) (Ym he);have cB:=ih _ hB (e+4) (Ym he);have na:=Lw g.nd;have ok:=g.ok.2.2;have key:∀r:Int,r<=0->Ap (call (e+4)) [] Dx [(AA,.ref a),(AD,.int r)] H (AS Q):=λr hr=>by
  refine AB b.own (Aa cA b.gA rfl λba hba=>?_);cases ba with
  | false =>
   have nul:call (e+4) AM [] [] H Q:=FH g (λz=>hba.neg (K7 z)) q;exact nul
  | true =>
   have rest:Ap (call (e+4)) [] [.cond (.not (.e (.meth (.attr (.var AA) Av) AC [] []))) [.ret (.meth (.attr (.var AA) Ak) AK [.var AD] [])] []] [(AA,.ref a),(AD,.int r)] H (IT (λρ H=>Ap (call (e+4)) [] (Dx.drop 1) ρ H (AS Q)) (AS Q)):=by
    refine AB b.own (Aa cB b.gB rfl λbb hbb=>?_);cases bb with
    | false =>
     exact AB b.own (Ca cA b.gA (Gc hs).1 rfl (.inr ⟨r,hr,rfl⟩) (QQ g (by rw[KY hbb.neg];rfl) q))
    | true =>
     refine tB (KQ (CJ (FP (AB b.own (Ca cA b.gA (Gc hs).1 rfl (.inr ⟨r,hr,rfl⟩) λA' H1 rA=>?_)))));have gB1:=rA.bB b.gB na.2.2.2;refine AB (rA.fr.kp _ _ b.own (.inl na.1.1)) (Ca cB gB1 (Gc hs).2.1 rfl (.inl rfl) λB' H2 rB=>?_);have t:=Fw.of b.gA b.gB na.2.2.2 rA rB;have own:=t.fr.kp _ _ b.own (.inl (MO g));have made:Eb (call (e+3)) .AndNot [.ref A'.addr,.ref B'.addr] [] H2 Q:=NF ih he (Yn rA.sz hA) (Yn rB.sz hB) t.gA t.gB t.dj (by exact t.dA.symm▸t.dB.symm▸(λx hx d h=>ZZ (ok.1 x hx d h))) (by rw[t.dA,t.dB];exact ok.2) λm A2 B2 H' mk=>mk.outR t g (mk.oldR t g (by rw[t.dA,t.dB];exact ok)) q
     refine AB own (D2 t.gA.rep.isI t.iA (AI (λU=>Ae (m:=A6) own rfl rfl made) λzA=>?_));refine AB own (D2 t.gB.rep.isI t.iB (AI (λU=>Ae (m:=A6) own rfl rfl made) λzB=>?_));exact t.self g (FJ zA) (FJ zB) q
   exact tB (KQ (AI (λU=>AB b.own (Cy cA b.gA rfl λma hma=>AI (λz=>absurd (of_decide_eq_true z) (by first|exact EU hr hma|exact EU hr hmb|exact EU hr hm|exact EU hr (Zm hma hmb))) λU=>KQ rest)) λU=>KQ rest))
 rcases hv with rfl|⟨r,hr,rfl⟩
 ·exact key 0 (ZP _)
 ·exact key r hr
theorem Mk.oldM{A' B':Tr}{H2 H3:MH}{A2 B2:Tr}(mk:Mk .maybe H2 A' B' m A2 B2 H3)(t:Fw H A B H2 A' B')(g:AG H (.bin .maybe a A B))(mv:Mv H2 B' H3 B2)(h:sc (.bin .maybe a A B)<=1):∃WY,OE H (.bin .maybe a A B) H3 (.bin .maybe m A2 B2) WY:=by
 refine Dy (t.oldT g h) λWL WN gd oA oB=>?_;refine AR mv λH1 rp u=>?_;refine Am (oB.ch ((Uh h).2.2 rfl)) λe0 e1=>?_;subst e0;have g1:AG H1 (.bin .maybe a WL WN):=⟨rp _ gd.rep,gd.ok,gd.nd⟩;have n:=Lw g1.nd;rcases e1 with rfl|⟨_,e1⟩
 ·refine Am g1.rep λy U=>?_;refine AR y λid own hc=>?_;have gd':AG H3 (.bin .maybe a WL B2):=⟨⟨⟨id,by rw[u.ad];exact u.fr.kp _ _ own (.inl n.1.2),hc⟩,g1.bA.rep.frame u.fr n.2.2.2,u.rep⟩,⟨g1.ok.1,u.ok,trivial⟩,by show(a::(fp WL++fp B2)).Nodup;rw[u.fp];exact g1.nd⟩
  exact⟨.bin .maybe a WL B2,gd',NK oA.eq u.eqv oA.den,oA.den,λz=>absurd z Vv⟩
 ·refine⟨.bin .maybe a WL WN,OE.bin (A':=A') (B':=B') ⟨g1.rep.frame u.fr λx hx hx'=>?_,g1.ok,g1.nd⟩ oA.eq oB.eq oA.den rfl⟩;refine AR (g.rep.fps x (by rw[show fp (Tr.bin .maybe a WL WN)=fp (Tr.bin .maybe a A WN) from(NK (k:=.maybe) (a:=a) oA.eq .refl oA.den).fp] at hx;exact hx)) λo e U=>?_
  exact nS (e1 x hx') e
theorem Uj{vs:List V}(ih:Ih n d)(he:d<=e)(hA:sz A<=n)(hB:sz B<=n)(g:AG H (.bin .maybe a A B))(hs:sc (.bin .maybe a A B)<=2)(hv:vs=[]\/∃r:Int,r<=0/\vs=[.int r])(q:CW H (.bin .maybe a A B) Q):call (e+4) DN (.ref a::vs) [] H Q:=by
 refine AR (Bk.start g) λid hc b=>?_;cases Cb rfl hc
 have cA:=ih _ hA (e+3) (Ym he);have cB:=ih _ hB (e+3) (Ym he);have na:=Lw g.nd;have key:∀r:Int,r<=0->Ap (call (e+3)) [] DQ [(AA,.ref a),(AD,.int r)] H (AS Q):=λr hr=>by
  refine AB b.own (AB b.own (Aa cA b.gA rfl λba hba=>Aa cB b.gB rfl λbb hbb=>?_));cases ba with
  | false =>
   have nul:call (e+3) AM [] [] H Q:=FH g (λz=>hba.neg z) q;exact nul
  | true =>
   cases bb with
   | false =>
    have z:Ba H (.ref A.addr) AK λf=>call (e+3) f [.ref A.addr,.int r] [] H Q:=Ca cA b.gA (Gc hs).1 rfl (.inr ⟨r,hr,rfl⟩) (QQ g rfl q);exact AI (λU=>z) λU=>z
   | true =>
    have rest:Ap (call (e+3)) [] (DQ.drop 5) ((AA,.ref a)::(AD,.int r)::(Ak,.ref A.addr)::(Av,.ref B.addr)::(AZ,.bool true)::(AX,.bool true)::[]) H (AS Q):=by
     refine b.rA.m1 rfl (Cy cB b.gB rfl λmb hmb=>?_);refine cA.repl b.gA (Gc hs).1 (.inr ⟨r-mb,Q2 hr hmb,rfl⟩) λA' H1 rA=>?_;have gB1:=rA.bB b.gB na.2.2.2;obtain⟨WT,oA⟩:=rA.old ((Gc hs).2.2 rfl);refine gB1.rep.m1 rfl (Cy (ih _ (oA.eq.sz▸hA) (e+3) (Ym he)) oA.gd oA.eq.ad λma hma=>?_);refine cB.repl gB1 (Gc hs).2.1 (.inr ⟨r-ma,Q2 hr hma,rfl⟩) λB' H2 rB=>?_;have t:=Fw.of b.gA b.gB na.2.2.2 rA rB;have own:=t.fr.kp _ _ b.own (.inl (MO g));have made:Eb (call (e+2)) .AndMaybe [.ref A'.addr,.ref B'.addr] [] H2 Q:=PO ih he (Yn rA.sz hA) (Yn rB.sz hB) t.gA t.gB t.dj λm B2 H' mk mv=>mk.outR t g (mk.oldM t g mv) q;refine D2 t.gA.rep.isI t.iA (AI (λU=>Ae (m:=A6) own rfl rfl made) λzA=>?_);refine D2 t.gB.rep.isI t.iB (AI (λU=>Ae (m:=A6) own rfl rfl made) λzB=>?_);exact t.self g (FJ zA) (FJ zB) q
    refine AI (λU=>Cy cA b.gA rfl λma hma=>Cy cB b.gB rfl λmb hmb=>AI (λz=>absurd (of_decide_eq_true z) (by first|exact EU hr hma|exact EU hr hmb|exact EU hr hm|exact EU hr (Zm hma hmb))) λU=>Cy cA b.gA rfl λma hma=>AI (λz=>absurd (of_decide_eq_true z) (by first|exact EU hr hma|exact EU hr hmb|exact EU hr hm|exact EU hr (Zm hma hmb))) λU=>rest) λU=>rest
 rcases hv with rfl|⟨r,hr,rfl⟩
 ·exact key 0 (ZP _)
 ·exact key r hr
theorem OV{F}(g:AG H (.una uk a A))(f:An H H' F)(na:a∉F)(gA:AG H' WL)(eA:WL.addr=A.addr)(dA:WL.den=A.den)(nd:(a::fp WL).Nodup):AG H' (.una uk a WL) :=
 ⟨⟨by rw[eA];exact f.kp _ _ g.rep.1 (.inl na),uX.keep f g.rep.2.1,gA.rep⟩,⟨gA.ok,by rw[dA];exact g.ok.2⟩,nd⟩
theorem Ul(eA:Ib A WL)(dA:WL.den=A.den):Ib (.una uk a A) (.una uk a WL):=by
 refine⟨rfl,?_,?_,eA.sc,λd h=>?_⟩
 ·show a::fp WL=_;rw[eA.fp];rfl
 ·show sz WL+1=_;rw[eA.sz];rfl
 ·cases uk with
  | inv=>unfold al at h ⊢;rw[dA] at h;exact h
  | con=>exact eA.al d h
  | filt=>exact⟨eA.al d h.1,h.2⟩
theorem Sh{A':Tr}(g:AG H (.una uk a A))(r:OF H A H1 A'):a∉fp A':=λz=>(r.nw a z).elim (ncP g.nd).1 λh=>by exact sN (show H a=_ from g.rep.1) h
theorem QR{A' T':Tr}(g:AG H (.una uk a A))(r:OF H A H1 A')(ch:sc A=0->(A'=A\/H A'.addr=none/\∀x∈fp A',H x=none)->T'=.una uk a A\/H T'.addr=none/\∀x∈fp T',H x=none)(h:sc (.una uk a A)<=1):∃WY,OE H (.una uk a A) H1 T' WY:=by
 refine BB (r.old h) λWL o=>?_;exact⟨_,OV g r.fr ((ncP g.nd).1) o.gd o.eq.ad o.den (by rw[o.eq.fp];exact g.nd),Ul o.eq o.den,by show Mine.dA uk WL.den=Mine.dA uk A.den;exact o.den▸rfl,λz=>⟨by exact((o.ch z).1)▸rfl,ch z (o.ch z).2⟩⟩
theorem RG.outR{A' A2:Tr}{H2:MH}(mk:RG uk H1 A' m uk' A2 H2)(r:OF H A H1 A')(g:AG H (.una Wo a A))(ok:okU uk A'.den)(hd:dA uk A.den=dA Wo A.den)(ne:(A'.addr !=A.addr)=true)(q:CW H (.una Wo a A) Q):Q (.ref m) H2:=by
 refine q (.una uk' m A2) H2 ⟨(r.fr.more mk.fr r.nw).mono λx h=>.tail _ h,mk.good,?_,?_,mk.eA.sc▸r.sc,λx hx=>?_,D1 (D1 g.rep.isI r.fr ((ncP g.nd).1)) mk.fr (Sh g r),λh=>?_⟩
 ·show dA uk' A2.den=dA Wo A.den;rw[mk.den,r.den,hd]
 ·show sz A2+1<=sz A+1;exact mk.eA.sz.symm▸ZU r.sz
 ·rcases mcP hx with rfl|hx
  ·exact .inr (r.fr.dm _ mk.nn)
  ·rw[mk.eA.fp] at hx;exact(r.nw x hx).imp (gr _) id
 ·obtain⟨WY,o⟩:=QR (T':=.una uk' m A2) g r (λU z=>by
   rcases z with rfl|⟨_,z⟩
   ·simp at ne
   ·exact .inr ⟨r.fr.dm _ mk.nn,λx hx=>(mcP hx).elim (λe=>e▸r.fr.dm _ mk.nn) λhx=>z x (mk.eA.fp▸hx)⟩) h
  exact⟨WY,⟨mk.qt ok _ o.gd.rep,o.gd.ok,o.gd.nd⟩,o.eq,o.den,o.ch⟩
theorem Si{A':Tr}(r:OF H A H1 A')(g:AG H (.una uk a A))(e:A'.addr=A.addr)(q:CW H (.una uk a A) Q):Q (.ref a) H1:=by
 have na:=(ncP g.nd).1;refine q (.una uk a A') H1 ⟨r.fr.mono λx h=>.tail _ h,OV g r.fr na r.gd e r.den (ncR ⟨Sh g r,r.gd.nd⟩),by show dA uk A'.den=dA uk A.den;exact r.den▸rfl,ZU r.sz,r.sc,λx hx=>(mcP hx).elim (λz=>.inl (z▸.head _)) λh=>(r.nw x h).imp (.tail _) id,D1 g.rep.isI r.fr na,QR g r λU z=>?_⟩
 rcases z with rfl|⟨z,_⟩
 ·exact .inl rfl
 ·refine BB g.rep.2.2.own λU h=>?_;exact zN (z▸e▸h)
theorem LD{vs:List V}(ih:Ih n d)(he:d<=e)(hA:sz A<=n)(g:AG H (.una uk a A))(hs:sc (.una uk a A)<=2)(hv:vs=[]\/∃r:Int,r<=0/\vs=[.int r])(q:CW H (.una uk a A) Q):call (e+4) CH (.ref a::vs) [] H Q:=by
 have na:=(ncP g.nd).1;have hch:AN AE (uF A.addr uk)=some (.ref A.addr):=by cases uk<;>rfl
 have key:∀r:Int,r<=0->Ap (call (e+3)) [] HL [(AA,.ref a),(AD,.int r)] H (AS Q):=λr hr=>by
  refine AB g.rep.1 ?_;refine hch.symm▸Ca (ih _ hA _ (Ym he)) g.uA hs rfl (.inr ⟨r,hr,rfl⟩) λA' H1 rA=>?_;have own:=rA.fr.kp _ _ g.rep.1 (.inl na);have hx:=uX.keep rA.fr g.rep.2.1;have made:(A'.addr !=A.addr)=true->Ba H1 (.ref a) A9 λf=>call (e+3) f [.ref a,.ref A'.addr] [] H1 Q:=λne=>by
   have hsz:=Yn rA.sz hA;have ok:=g.ok.2;have go:∀f,Bt (uC uk) A9=some f->call (e+3) f [.ref a,.ref A'.addr] [] H1 Q->Ba H1 (.ref a) A9 λf=>call (e+3) f [.ref a,.ref A'.addr] [] H1 Q:=λf hf k=>Ae own (by cases uk<;>rfl) hf k
   cases uk with
   | filt sa ys ex bo =>
    refine go _ rfl ?_;exact(AB own (AB own (AB own (DR rfl λm h=>Jq ih he hsz rA.gd hx ok.1.2.2 ⟨ok.1.1,ok.1.2.1⟩ h λA2 H2 mk=>mk.outR rA g (by rw[rA.den];exact ok) rfl ne q))):Ap (call (e+2)) [] Do [(AA,.ref a),(Bp,.ref A'.addr)] H1 (AS Q))
   | inv ma lim wt j =>
    refine go _ rfl ?_;exact(AB own (AB own (AB own (AB own (DR rfl λm h=>LC ih he hsz rA.gd ok.1 (.inr ⟨ma,rfl,hx⟩) h λt t' j' A2 H2 mk=>mk.outR rA g (by rw[rA.den];exact ok) rfl ne q)))):Ap (call (e+2)) [] Df [(AA,.ref a),(Bp,.ref A'.addr)] H1 (AS Q))
   | con s =>
    refine go _ rfl ?_;exact(AB own (NH rA.gd ok λm H2 mk=>mk.outR rA g ok rfl ne q):Ap (call (e+2)) [] EI [(AA,.ref a),(Bp,.ref A'.addr)] H1 (AS Q))
  refine AB own ?_;refine hch.symm▸(D2 rA.gd.rep.isI rA.io (AI made λz=>?_));exact Si rA g (FJ z) q
 rcases hv with rfl|⟨r,hr,rfl⟩
 ·exact key 0 (ZP _)
 ·exact key r hr
theorem LE{F}{i:Nat}(g:AG H (.req a i A B))(f:An H H' F)(na:a∉F)(ni:i∉F)(gA:AG H' WL)(gB:AG H' WN)(eA:WL.addr=A.addr)(eB:WN.addr=B.addr)(dA:WL.den=A.den)(dB:WN.den=B.den)(nd:(a::i::(fp WL++fp WN)).Nodup):AG H' (.req a i WL WN) :=
 ⟨⟨by rw[eA,eB];exact f.kp _ _ g.rep.1 (.inl na),by rw[eA,eB];exact f.kp _ _ g.rep.2.1 (.inl ni),gA.rep,gB.rep⟩,⟨gA.ok,gB.ok,by rw[dA,dB];exact g.ok.2.2⟩,nd⟩
theorem QS{i:Nat}{T':Tr}(gd:AG H' (.req a i WL WN))(eA:Ib A WL)(eB:Ib B WN)(dA:WL.den=A.den)(dB:WN.den=B.den):OE H (.req a i A B) H' T' (.req a i WL WN):=by
 refine⟨gd,⟨rfl,?_,?_,?_,λd h=>⟨eA.al d h.1,eB.al d h.2⟩⟩,by show dR WL.den WN.den=dR A.den B.den;exact dA▸dB▸rfl,λz=>?_⟩
 ·show a::i::(fp WL++fp WN)=_;exact eA.fp▸eB.fp▸rfl
 ·show sz WL+sz WN+2=_;exact eA.sz▸eB.sz▸rfl
 ·show max (max (sc WL) 1) (if sc WN<=1 then 1 else 3)=_;exact eA.sc▸eB.sc▸rfl
 ·have:∀x y:Nat,max (max x 1) y≠0:=λx y=>bQ (Yn (dP x 1) (cO _ y));exact absurd z (this _ _)
theorem Sj{i:Nat}{vs:List V}(ih:Ih n d)(he:d<=e)(hA:sz A<=n)(hB:sz B<=n)(g:AG H (.req a i A B))(hs:sc (.req a i A B)<=2)(hv:vs=[]\/∃r:Int,r<=0/\vs=[.int r])(q:CW H (.req a i A B) Q):call (e+5) DV (.ref a::vs) [] H Q:=by
 have gi:=g.rI;refine AR (Bk.start gi) λid hc b=>?_;cases Cb rfl hc
 have cA:=ih _ hA (e+4) (Ym he);have cB:=ih _ hB (e+4) (Ym he);have na:=Lw gi.nd;have nr:=(ncP g.nd).1;have nAB:a∉fp A++fp B:=λz=>nr (.tail _ z);have nI:=MO gi;have key:∀r:Int,r<=0->Ap (call (e+4)) [] Dh [(AA,.ref a),(AD,.int r)] H (AS Q):=λr hr=>by
  refine AB g.rep.1 (Ae g.rep.2.1 rfl rfl (Ga ih (e:=e+3) (Ym he) hA hB b λba hba=>?_));cases ba with
  | false =>
   have nul:call (e+4) AM [] [] H Q:=FH g (λz=>nomatch hba.mpr (C8 (Ic.mp z))) q;exact nul
  | true =>
   have hAB:=hba.mp rfl;have rest:Ap (call (e+4)) [] (Dh.drop 1) [(AA,.ref a),(AD,.int r)] H (AS Q):=by
    refine AB g.rep.1 (Ca cA b.gA (OU hs).1 rfl (.inr ⟨r,hr,rfl⟩) λA' H1 rA=>?_);refine AB (rA.fr.kp _ _ g.rep.1 (.inl λz=>nAB (Yw _ z))) (Ca cB (rA.bB b.gB na.2.2.2) (Yn (OU hs).2 (Zu 1)) rfl (.inl rfl) λB' H2 rB=>?_);have t:=Fw.of b.gA b.gB na.2.2.2 rA rB;have own:=t.fr.kp _ _ g.rep.1 (.inl nAB);refine BB (t.oB (OU hs).2) λWN oB=>?_;have gB2:=oB.gd;have dj2:∀x∈fp A',x∉fp WN:=λx hx hx'=>by
     replace hx':=oB.eq.fp▸hx';rcases t.nA x hx with h|h
     ·exact na.2.2.2 x h hx'
     ·refine AR (b.rB.fps x hx') λo e U=>?_;exact nS h e
    have nf:∀{x o},H x=some o->x∉fp A++fp B->x∉fp A'++fp WN:=λ{x o} e h z=>by
     refine iG (maP z) (λz=>?_) λz=>?_
     ·rcases t.nA x z with k|k
      ·exact h (Yw _ k)
      ·exact nS k e
     ·exact h (Yt _ (oB.eq.fp▸z))
    have made:Eb (call (e+4)) .Require [.ref A'.addr,.ref B.addr] [] H2 Q:=by
     refine oB.eq.ad▸NJ ih he (Yn rA.sz hA) (oB.eq.sz▸hB) t.gA gB2 dj2 λm j A2 B2 H3 mk=>?_;refine q (.req m j A2 B2) H3 ⟨(t.fr.more mk.fr λx hx=>?_).mono λx h=>.tail _ (.tail _ h),mk.good,?_,?_,PR (mk.eA.sc▸t.cA) (by exact mk.eB.sc▸oB.eq.sc▸Y1 _),λx hx=>?_,D1 (D1 g.rep.isI t.fr nAB) mk.fr (nf g.rep.1 nAB),λh=>?_⟩
     ·exact(maP hx).elim (λh=>(t.nA x h).imp (Yw _) (λz=>z)) λh=>.inl (Yt _ (oB.eq.fp▸h))
     ·show dR A2.den B2.den=dR A.den B.den;exact mk.den▸t.dA▸oB.den▸rfl
     ·show sz A2+sz B2+2<=sz A+sz B+2;exact mk.eA.sz.symm▸mk.eB.sz.symm▸oB.eq.sz.symm▸ZA (ZA t.sA _) 2
     ·rcases mcP hx with rfl|hx
      ·exact .inr (t.fr.dm _ mk.nm)
      ·rcases mcP hx with rfl|hx
       ·exact .inr (t.fr.dm _ mk.ni)
       ·rw[mk.eA.fp,mk.eB.fp,oB.eq.fp] at hx;exact(maP hx).elim (λh=>(t.nA x h).imp (λz=>.tail _ (.tail _ (Yw _ z))) (λz=>z)) λh=>.inl (.tail _ (.tail _ (Yt _ h)))
     ·refine BB (t.oA (Sc h)) λWL oA=>?_;have g2:AG H2 (.req a i WL WN):=LE g t.fr nAB nI oA.gd gB2 oA.eq.ad oB.eq.ad oA.den oB.den (by exact oA.eq.fp.symm▸oB.eq.fp.symm▸g.nd)
      exact⟨_,QS ⟨mk.qt (by exact t.dA.symm▸oB.den.symm▸g.ok.2.2) _ g2.rep,g2.ok,g2.nd⟩ oA.eq oB.eq oA.den oB.den⟩
    refine Aa (ih _ (Yn rA.sz hA) _ (Ym he)) t.gA rfl λbb hbb=>?_;refine(hbb.mpr (t.dA▸hAB.1)).symm▸tB (KQ (AB own (D2 t.gA.rep.isI t.iA (AI (λU=>AB own made) λzA=>?_))));refine AB own (D2 t.gB.rep.isI t.iB (AI (λU=>AB own made) λzB=>?_));have nf':∀{x o},H x=some o->x∉fp A++fp B->x∉fp A'++fp B':=λ{x o} e h z=>by
     rcases t.nf x z with k|k
     ·exact h k
     ·exact nS k e
    have nd:(a::i::(fp A'++fp B')).Nodup:=ncR ⟨λz=>(mcP z).elim (λe=>nr (e▸.head _)) (nf' g.rep.1 nAB),ncR ⟨nf' g.rep.2.1 nI,bj.mpr ⟨t.gA.nd,t.gB.nd,λx hx y hy e=>t.dj x hx (e▸hy)⟩⟩⟩;refine q (.req a i A' B') H2 ⟨t.fr.mono λx h=>.tail _ (.tail _ h),LE g t.fr nAB nI t.gA t.gB (FJ zA) (FJ zB) t.dA t.dB nd,by show dR A'.den B'.den=dR A.den B.den;exact t.dA▸t.dB▸rfl,by exact(ZA (bG t.sA t.sB) _:sz A'+sz B'+2<=sz A+sz B+2),PR t.cA t.cB,λx hx=>?_,D1 g.rep.isI t.fr nAB,λh=>?_⟩
    ·rcases mcP hx with rfl|hx
     ·exact .inl (.head _)
     ·exact(mcP hx).elim (λe=>.inl (e▸.tail _ (.head _))) λh=>(t.nf x h).imp (λz=>.tail _ (.tail _ z)) id
    ·refine BB (t.oA (Sc h)) λWL oA=>?_;exact⟨_,QS (LE g t.fr nAB nI oA.gd gB2 oA.eq.ad oB.eq.ad oA.den oB.den (by exact oA.eq.fp.symm▸oB.eq.fp.symm▸g.nd)) oA.eq oB.eq oA.den oB.den⟩
   exact tB (KQ (AI (λU=>AB g.rep.1 (Cy cA b.gA rfl λma hma=>AI (λz=>absurd (of_decide_eq_true z) (by first|exact EU hr hma|exact EU hr hmb|exact EU hr hm|exact EU hr (Zm hma hmb))) λU=>rest)) λU=>rest))
 rcases hv with rfl|⟨r,hr,rfl⟩
 ·exact key 0 (ZP _)
 ·exact key r hr
end
end
section
variable{n d e a i:Nat}{A B:Tr}
theorem Sl:FQ (e+8) (.null a) :=
 ⟨λg q=>by exact(q false (KX.f λ⟨_,z⟩=>z rfl):Ap (call (e+7)) [] Dv [(AA,.ref a)] _ (AS _)),λU ⟨_,z⟩=>absurd rfl z,
  λg q=>by exact(q 0 (ZP _):Ap (call (e+7)) [] E3 [(AA,.ref a)] _ (AS _)),λU ⟨_,z⟩=>absurd rfl z,λU ⟨_,z⟩=>absurd rfl z,
  λg q=>by exact(q (.null a) _ .refl g rfl (Y1 _) (Y1 _) rfl λU h=>(nomatch h):Ap (call (e+7)) [] J5 [(AA,.ref a)] _ (AS _)),
  λg U hv q=>RJ g hv q⟩
theorem Sm{la wa j:Nat}{ds:List (Int×Int)}:FQ (e+8) (.leaf a la wa j ds):=by
 have act:∀{H},AG H (.leaf a la wa j ds)->Ag (Tr.leaf a la wa j ds).den->j<ds.length:=λg h=>(Jm g.ok).mp h;refine⟨λg q=>FG g.rep g.ok q,λg ha q=>QE g.rep g.ok (act g ha) (q _ _ .refl (OG g.ok (act g ha)).1),
  λg q=>QF g.rep g.ok q,λ{H Q} g ha q=>Q6 g.rep ?_,λ{H Q y} g ha q=>?_,λg q=>RI g q,λg U hv q=>RK g hv q⟩
 ·have h:=act g ha;refine Am (K4 (j:=j+1) g.rep) λr' f=>?_;exact q .none _ (.leaf a la wa (j+1) ds) _ (.inl rfl) ⟨rfl,rfl,rfl,rfl,⟨g.ok.1,g.ok.2.1,h,g.ok.2.2.2⟩,r',f,λU h=>h,rfl⟩ (OG g.ok h).1 (UY g.ok h)
 ·have h:=act g ha;exact Q7 g.rep g.ok h (λj' ok' r' f e' U=>q .none (.leaf a la wa j' ds) _ (.inl rfl) ⟨rfl,rfl,rfl,rfl,ok',r',f,λU h=>h,rfl⟩ e') λlt=>q .none _ H (.inl rfl) (.refl g) (Fv ((OG g.ok h).1) (ZZ lt)).symm
theorem Um(ih:Ih n d)(he:d<=e)(hA:sz A<=n)(hB:sz B<=n):FQ (e+8) (.bin .uni a A B) :=
 ⟨λg q=>QG ih (e:=e+7) (Ym he) hA hB rfl g q,λg ha q=>SH ih (e:=e+7) (Ym he) hA hB rfl g ha q,
  λg q=>AR (Bk.start g) λU U b=>PN (k:=.uni) ih (e:=e+7) (Ym he) hA hB b q,λg ha q=>OL ih (e:=e+7) (Ym he) hA hB rfl g ha q,λg ha q=>OM ih (e:=e+7) (Ym he) hA hB rfl g q,
  λg q=>JK ih (e:=e+3) (Ym he) hA hB g (λz=>nomatch z) q,λg hs hv q=>Sd ih (e:=e+5) (Ym he) hA hB g hs hv q⟩
theorem con_dm(ih:Ih n d)(he:d<=e)(hA:sz A<=n)(hB:sz B<=n):FQ (e+8) (.bin .dm a A B) :=
 ⟨λg q=>QG ih (e:=e+7) (Ym he) hA hB rfl g q,λg ha q=>SH ih (e:=e+7) (Ym he) hA hB rfl g ha q,
  λg q=>dm_mq ih (e:=e+7) (Ym he) hA hB g q,λg ha q=>OL ih (e:=e+7) (Ym he) hA hB rfl g ha q,λg ha q=>OM ih (e:=e+7) (Ym he) hA hB rfl g q,
  λg q=>Uf ih (e:=e+5) (Ym he) hA hB g q,λg hs hv q=>Ui ih (e:=e+4) (Ym he) hA hB g hs hv q⟩
theorem Un(ih:Ih n d)(he:d<=e)(hA:sz A<=n)(hB:sz B<=n):FQ (e+8) (.bin .inter a A B):=by
 refine⟨λ{H Q} g q=>?_,λg ha q=>int_id ih (e:=e+7) (Ym he) hA g ha q,
  λg q=>AR (Bk.start g) λU U b=>PN (k:=.inter) ih (e:=e+7) (Ym he) hA hB b q,λg ha q=>ON ih (e:=e+6) (Ym he) hA hB g ha λv x A' B' H' f u U U hx e U U=>q v x _ H' f u hx e,λg ha q=>OQ ih (e:=e+6) (Ym he) hA hB g ha λv A' B' H' f u U U e U U=>q v _ H' f u e,
  λg q=>JK ih (e:=e+3) (Ym he) hA hB g (λz=>nomatch z) q,λg hs hv q=>Se ih (e:=e+3) (Ym he) hA hB g hs hv q⟩
 ·refine AR (Bk.start g) λid hc b=>?_;cases Cb rfl hc
  refine Ga ih (e:=e+7) (Ym he) hA hB b λt ht=>q t ⟨λz=>?_,λz=>ht.mpr (C8 z)⟩;refine Es (g.ok.2.2.hd b.oA.bd b.oB.bd (ht.mp z).1 (ht.mp z).2) λx U U h=>?_;exact h.act
theorem Uo(ih:Ih n d)(he:d<=e)(hA:sz A<=n)(hB:sz B<=n):FQ (e+8) (.bin .anot a A B):=by
 refine⟨λ{H Q} g q=>?_,λg ha q=>not_id ih (e:=e+7) (Ym he) hA g ha q,
  λg q=>not_mq ih (e:=e+7) (Ym he) hA g q,λg ha q=>SK ih (e:=e+6) (Ym he) hA hB g ha q,λg ha q=>SM ih (e:=e+6) (Ym he) hA hB g ha q,
  λg q=>JK ih (e:=e+3) (Ym he) hA hB g (λz=>nomatch z) q,λg hs hv q=>Sg ih (e:=e+3) (Ym he) hA hB g hs hv q⟩
 refine AR (Bk.start g) λid hc b=>?_;cases Cb rfl hc
 exact Ua ih (e:=e+7) (Ym he) hA b λt ht=>q t (ht.trans (Ka b.oA.bd g.ok.2.2.1).symm)
theorem con_mb(ih:Ih n d)(he:d<=e)(hA:sz A<=n)(hB:sz B<=n):FQ (e+8) (.bin .maybe a A B):=by
 refine⟨λ{H Q} g q=>?_,λg ha q=>mb_id ih (e:=e+7) (Ym he) hA g ha q,
  λg q=>AR (Bk.start g) λU U b=>PN (k:=.maybe) ih (e:=e+7) (Ym he) hA hB b q,λg ha q=>Ub ih (e:=e+7) (Ym he) hA hB g ha q,λg ha q=>Uc ih (e:=e+7) (Ym he) hA hB g ha q,
  λg q=>JK ih (e:=e+3) (Ym he) hA hB g (λz=>nomatch z) q,λg hs hv q=>Uj ih (e:=e+4) (Ym he) hA hB g hs hv q⟩
 refine AR (Bk.start g) λid hc b=>?_;cases Cb rfl hc
 exact mb_act ih (e:=e+7) (Ym he) hA b λt ht=>q t (ht)
theorem Sn{sa:Nat}{ys:List Int}{ex:Bool}{bo:Int}(ih:Ih n d)(he:d<=e)(hA:sz A<=n):FQ (e+8) (.una (.filt sa ys ex bo) a A):=by
 have up:∀{H H'},Qt H H' (fp A)->Qt H H' (fp (.una (.filt sa ys ex bo) a A)):=λw=>w.mono λx m=>.tail _ m;refine⟨λg q=>OS ih (e:=e+7) (Ym he) hA g.uA g.rep.1 rfl λt ht=>q t (ht.trans (SQ g.uA.ok.bd g.ok.2.2).symm),λ{H Q} g ha q=>?_,
  λg q=>QN ih (e:=e+7) (Ym he) hA g.uA g.rep.1 rfl rfl ⟨g.ok.2.1.1,g.ok.2.1.2.1⟩ q,λg ha q=>RC ih (e:=e+6) (Ym he) hA g ha q,λg ha q=>RD ih (e:=e+6) (Ym he) hA g ha q,
  λg q=>RH ih (e:=e+5) (Ym he) hA g q,λg hs hv q=>LD ih (e:=e+4) (Ym he) hA g hs hv q⟩
 ·refine BB ((Kb ha).hd g.uA.ok.bd) λx hx=>?_;exact QM ih (e:=e+7) (Ym he) hA g.uA g.rep.1 rfl hx λH' w=>q x H' (up w) (SP hx (g.ok.2.2 x hx))
theorem Uq{ma:Nat}{lim wt j:Int}(ih:Ih n d)(he:d<=e)(hA:sz A<=n):FQ (e+8) (.una (.inv ma lim wt j) a A):=by
 have act:∀{H},AG H (.una (.inv ma lim wt j) a A)->(Ag (Tr.una (.inv ma lim wt j) a A).den<->j<lim):=λg=>⟨Kc,λh=>(LA h (g.ok.2.2.2 h)).act⟩;have hd:∀{H},AG H (.una (.inv ma lim wt j) a A)->Ag (Tr.una (.inv ma lim wt j) a A).den->Hd (Tr.una (.inv ma lim wt j) a A).den j:=λg h=>have l:=(act g).mp h;LA l (g.ok.2.2.2 l);exact⟨λg q=>Ud g.rep.1 λt ht=>q t (ht.trans (act g).symm),λg ha q=>inv_id g.rep.1 (q j _ .refl (hd g ha)),
  λg q=>QN ih (e:=e+7) (Ym he) hA g.uA g.rep.1 rfl rfl ⟨by decide,by decide⟩ q,λg ha q=>SR ih (e:=e+6) (Ym he) hA g ha q,λg ha q=>SU ih (e:=e+6) (Ym he) hA g ha q,
  λg q=>SZ ih (e:=e+5) (Ym he) hA g q,λg hs hv q=>LD ih (e:=e+4) (Ym he) hA g hs hv q⟩
theorem Ur{s:Int}(ih:Ih n d)(he:d<=e)(hA:sz A<=n):FQ (e+8) (.una (.con s) a A):=by
 have up:∀{H H'},Qt H H' (fp A)->Qt H H' (fp (.una (.con s) a A)):=λw=>w.mono λx m=>.tail _ m;have out:∀{H H' A'},AG H (.una (.con s) a A)->Upd H A H' A'->Upd H (.una (.con s) a A) H' (.una (.con s) a A'):=λg u=>((Uk.start g).mA u).upd (λU=>rfl) trivial g.ok.2 λd h=>u.al d h;refine⟨λg q=>OS ih (e:=e+7) (Ym he) hA g.uA g.rep.1 rfl λt ht=>q t (ht.trans K9.symm),λ{H Q} g ha q=>?_,
  λg q=>con_q g.rep.1 (q s g.ok.2),λ{H Q} g ha q=>?_,λ{H Q y} g ha q=>?_,
  λg q=>Sa ih (e:=e+5) (Ym he) hA g q,λg hs hv q=>LD ih (e:=e+4) (Ym he) hA g hs hv q⟩
 ·obtain⟨x,hx⟩:=(K9.mp ha).hd g.uA.ok.bd;exact QM ih (e:=e+7) (Ym he) hA g.uA g.rep.1 rfl hx λH' w=>q x H' (up w) (Vr.mpr hx)
 ·obtain⟨x,hx⟩:=(K9.mp ha).hd g.uA.ok.bd;exact RE ih (e:=e+7) (Ym he) hA g.uA g.rep.1 rfl hx λA' H' u e'=>q .none x _ H' (.inl rfl) (out g u) (Vr.mpr hx) (by show dC s A'.den=frm (dC s A.den) (x+1);rw[e',SG])
 ·exact RF ih (e:=e+7) (Ym he) hA g.uA g.rep.1 rfl (K9.mp ha) λv A' H' f u e'=>q v _ H' f (out g u) (by show dC s A'.den=frm (dC s A.den) y;rw[e',SG])
theorem Us(ih:Ih n d)(he:d<=e)(hA:sz A<=n)(hB:sz B<=n):FQ (e+8) (.req a i A B):=by
 have up:∀{H H'},Qt H H' (fp A)->Qt H H' (fp (.req a i A B)):=λw=>w.mono λx m=>.tail _ (.tail _ (Yw _ m));refine⟨λ{H Q} g q=>?_,λ{H Q} g ha q=>?_,λ{H Q} g q=>?_,
  λg ha q=>SW ih (e:=e+5) (Ym he) hA hB g ha q,λg ha q=>SX ih (e:=e+5) (Ym he) hA hB g ha q,λg q=>SY ih (e:=e+3) (Ym he) hA hB g q,λg hs hv q=>Sj ih (e:=e+3) (Ym he) hA hB g hs hv q⟩
 ·have gi:=g.rI;obtain⟨id,hc,b⟩:=Bk.start gi;cases Cb rfl hc
  refine(AB g.rep.1 (Ae g.rep.2.1 rfl rfl (Ga ih (e:=e+6) (Ym he) hA hB b λt ht=>q t ⟨λz=>?_,λz=>ht.mpr (C8 (Ic.mp z))⟩)):Ap (call (e+7)) [] Bn [(AA,.ref a)] H (AS Q));refine Es (g.ok.2.2.hd b.oA.bd b.oB.bd (ht.mp z).1 (ht.mp z).2) λx U U h=>?_;exact Ic.mpr h.act
 ·refine AJ λGG hG=>?_;refine x14 (PP g ha) λx h1 h2 h3 h4=>?_;refine hG ?_;clear hG GG;refine(AB g.rep.1 (Ae g.rep.2.1 rfl rfl ?_):Ap (call (e+7)) [] Ji [(AA,.ref a)] H (AS Q));exact(AB g.rep.2.1 (B7 (ih _ hA (e+6) (Ym he)) g.rI.bA rfl h1 λH' w=>q x H' (up w) h4):Ap (call (e+6)) [] IY [(AA,.ref i)] H (AS Q))
 ·exact(AB g.rep.1 (Cy (ih _ hA (e+7) (Ym he)) g.rI.bA rfl q):Ap (call (e+7)) [] Dp [(AA,.ref a)] H (AS Q))
end
theorem JM:∀n,Ih n (8*n)
 | 0=>λT h=>absurd (Sb T) (Ng h)
 | n+1=>λT h e he=>by
  have ih:=JM n;obtain⟨e,rfl⟩:∃e',e=e'+8:=⟨e-8,(g0 (Yn (ZK _ _) he)).symm⟩;have he:8*n<=e:=Nat.le_of_add_le_add_right he;cases T with
  | null a=>exact Sl
  | leaf=>exact Sm
  | bin k a A B =>
   have hA:sz A<=n:=sl1 h;have hB:sz B<=n:=sr1 h;cases k
   ·exact Um ih he hA hB
   ·exact con_dm ih he hA hB
   ·exact Un ih he hA hB
   ·exact Uo ih he hA hB
   ·exact con_mb ih he hA hB
  | una k a A =>
   have hA:sz A<=n:=ZX h;cases k
   ·exact Sn ih he hA
   ·exact Uq ih he hA
   ·exact Ur ih he hA
  | req a i A B =>
   have hA:sz A<=n:=sl2 h;have hB:sz B<=n:=sr2 h;exact Us ih he hA hB
noncomputable def SL(l x:Nat):Prop:=1<=l/\(l<=3->x<l)
theorem SL.leaf:SL 1 0:=⟨Y1 _,λU=>Nat.zero_lt_one⟩
theorem SL.of{l m x y z:Nat}(h:SL l x)(j:SL m y)(k:l<4->m<4->l+m<=3->x<l->y<m->z<l+m):SL (l+m) z :=
 ⟨Yn h.1 (Yz _ _),λs=>have a:=Yn (Yz _ _) s;have b:=Yn (ZK _ _) s;k (aK a) (aK b) s (h.2 a) (j.2 b)⟩
theorem b4{P:Nat->Nat->Nat->Nat->Prop}(h:∀l<4,∀m<4,∀x<4,∀y<4,P l m x y){l m x y:Nat}(hx:x<=3)(hy:y<=3)(a:l<4)(b:m<4):P l m x y:=h l a m b x (aK hx) y (aK hy)
set_option synthInstance.maxSize 2000 in
set_option synthInstance.maxHeartbeats 400000 in
theorem SL.bin{k:BK}{a l m:Nat}{A B:Tr}(h:SL l (sc A))(j:SL m (sc B)):SL (l+m) (sc (.bin k a A B)):=by
 cases k<;>first
  | exact h.of j (b4 (P:=λl m x y=>l+m<=3->x<l->y<m->max (max x y) 1<l+m) (by decide) (BW A) (BW B))
  | exact h.of j (b4 (P:=λl m x y=>l+m<=3->x<l->y<m->max (if x<=1 then 1 else 3) (if y=0 then 1 else max y 2)<l+m) (by decide) (BW A) (BW B))
set_option synthInstance.maxSize 2000 in
set_option synthInstance.maxHeartbeats 400000 in
theorem SL.req{a i l m:Nat}{A B:Tr}(h:SL l (sc A))(j:SL m (sc B)):SL (l+m) (sc (.req a i A B)) :=
 h.of j (b4 (P:=λl m x y=>l+m<=3->x<l->y<m->max (max x 1) (if y<=1 then 1 else 3)<l+m) (by decide) (BW A) (BW B))
/-! the generator all_ids: its loop over a tree -/
section
variable{n e s x_:Nat}{T:Tr}{H:MH}
abbrev PU(s:Nat)(i:Int)(m:Nat):As:=[(AA,.ref s),(US,.int i),(UH,.ref m)]
theorem OW{i:Int}{Q:Bool->MH->Prop}(c:FQ e T)(g:AG H T)(q:∀b,KX T.den b->Q b H):wT (call e) [] Jk (PU s i T.addr) H Q :=
 Aa c g rfl λb hb=>q b hb
theorem RL{i x:Int}{Q:V->MH->Prop}(c:FQ e T)(g:AG H T)(hx:Hd T.den x)(q:∀H',Qt H H' (fp T)->Q (.int x) H'):wE (call e) [] JG (PU s i T.addr) H Q :=
 B7 c g rfl hx q
theorem So{i x:Int}{Q:Fl->As->MH->Prop}(c:∀T,sz T<=n->FQ e T)(g:AG H T)(hn:sz T<=n)(hs:sc T<=2)(hx:Hd T.den x)
 (q:∀i' T' H',AG H' T'->T'.den=frm T.den (x+1)->sz T'<=n->sc T'<=2->An H H' (fp T)->(∀y∈fp T',y∈fp T\/H y=none)->Q .next (PU s i' T'.addr) H'):Ap (call e) [] NA (PU s i T.addr) H Q:=by
 refine Eg (c T hn) g rfl hx λv T1 H1 f u e1=>?_;have g1:=g.u u;refine u.ad▸AI (λU=>?_) λU=>?_
 ·refine Ca (c T1 (u.sz▸hn)) g1 (u.sc▸hs) rfl (.inl rfl) λT2 H2 r=>?_;exact q 0 T2 H2 r.gd (r.den.trans e1) (Yn r.sz (u.sz▸hn)) (Yn r.sc (u.sc▸hs)) (u.fr.trans (u.fp▸r.fr)) λy hy=>(r.nw y hy).imp (λh=>u.fp▸h) (u.fr.dm y)
 ·exact q _ T1 H1 g1 e1 (u.sz▸hn) (u.sc▸hs) u.fr λy hy=>.inl (u.fp▸hy)
end
noncomputable def Gw(is:List Int):Prop:=is.Pairwise (· < ·)
theorem Gw.nd{is:List Int}(h:Gw is):is.Nodup:=h.imp λz=>iF z
theorem CT:∀l:List Int,F1 (l.map .int)=some l
 | []=>rfl
 | x::r=>by show(F1 (r.map .int)).map (x::·)=_;exact(CT r)▸rfl
theorem An.l{H H':MH}{b o}(f:An H H' [])(h:H b=some o):H' b=some o:=f.kp b o h (.inl (Zn))
theorem A4.fpi{H:MH}:∀{T:Tr},A4 H T->∀x∈fp T,∃c as,H x=some (.inst c as)
 | .null _,_,_,m=>nomatch m
 | .leaf _ _ _ _ _,h,_,m=>⟨_,_,msP m▸h.1⟩
 | .bin k _ _ _,h,x,m=>(mcP m).elim (λe=>AR h.1 λU h U=>⟨_,_,e▸h⟩) λm=>(maP m).elim (A4.fpi h.2.1 x) (A4.fpi h.2.2 x)
 | .una k _ _,h,x,m=>(mcP m).elim (λe=>⟨_,_,e▸h.1⟩) (A4.fpi h.2.2 x)
 | .req _ _ _ _,h,x,m=>(mcP m).elim (λe=>⟨_,_,e▸h.1⟩) λm=>(mcP m).elim (λe=>⟨_,_,e▸h.2.1⟩) λm=>(maP m).elim (A4.fpi h.2.2.1 x) (A4.fpi h.2.2.2 x)
theorem An.ni{H H':MH}{F b o}(f:An H H' F)(h:H b=some o)(hF:∀x∈F,∃c as,H x=some (.inst c as))(hn:∀c as,o≠.inst c as):H' b=some o :=
 f.kp b o h (.inl λm=>by refine HT (hF b m) λc as e=>?_;obtain rfl:=Ys (e.symm.trans h);exact hn _ _ rfl)
theorem CU{α:Type}{H:MH}{a o}{is:List Int}{body:V->MH->(Option α->MH->Prop)->Prop}{Q:List α->MH->Prop}(ho:H a=some o)(it:Rp o (is.map .int))(f:Int->Option α)(hb:∀i∈is,∀R:Option α->MH->Prop,R (f i) H->body (.int i) H R)(q:Q (is.filterMap f) H):Np H (.ref a) body Q:=by
 unfold Np;refine⟨o,_,ho,it,λi l H'=>H'=H/\l=(is.take i).filterMap f,⟨rfl,rfl⟩,?_,?_⟩
 ·rintro i l H' v hv ⟨rfl,rfl⟩;refine AR (Zx.mp (Ze▸hv)) λj hj z=>?_;obtain rfl:=z;refine⟨ho,hb j (aH hj) _ ⟨rfl,?_⟩⟩;refine BB (Zw.mp hj) λhlt e=>?_;rw[List.take_succ_eq_append_getElem hlt,List.filterMap_append,e];cases h:f j<;>simp[h]
 ·rintro l H' ⟨rfl,rfl⟩;rw[Y2,List.take_length];exact⟨ho,q⟩
theorem cv{H:MH}{a v}{K:V->Prop}(h:H a=some (.cell (some v)))(k:K v):∃v,H a=some (.cell (some v))/\K v:=⟨v,h,k⟩
theorem Vy{lo hi:Int}:BJ lo hi 1=(bN (hi-lo).toNat).map λ(i:Nat)=>lo+(i:Int):=by
 unfold BJ;rw[Int.add_sub_cancel,Int.ediv_one];exact congrArg (λf=>List.map f _) (funext λi=>by rw[iR])
theorem Gd{lo hi i:Int}:i∈BJ lo hi 1<->lo<=i/\i<hi:=by
 rw[Vy,fV];constructor
 ·rintro⟨a,ha,rfl⟩;exact⟨eS (cS a),Int.add_lt_of_lt_sub_left (Int.lt_toNat.mp (bw.mp ha))⟩
 ·intro z;refine Am z λh1 h2=>?_;exact⟨(i-lo).toNat,bw.mpr (tnl (gH h2 lo) (Z2 (aQ h1 h2))),by rw[eJ (d5 h1),Int.add_comm,Int.sub_add_cancel]⟩
theorem QT{lo hi:Int}:Gw (BJ lo hi 1):=by
 rw[Vy];unfold Gw;rw[eu];exact cp.imp λh=>Int.add_lt_add_left (ag.mpr h) lo
theorem An.wr{H H':MH}{d:Nat}{o o':O}(f:An H H' [])(h:H d=none)(hd:H' d=some o')(hr:ro o'=false):An H (H'.put d o) [] :=
 f.drop (F:=[d]) (An.put (.head _) λo'' z=>by obtain rfl:=Ys (hd.symm.trans z);exact hr) λx hx=>by exact(msP hx).symm▸h
theorem IO{p:Int->Bool}:∀{is:List Int},(is.filterMap λi=>if p i=true then some (V.int i) else none)=(is.filter p).map .int
 | []=>rfl
 | i::r=>by
  rw[aA,dQ,IO];cases p i<;>rfl
theorem Ut{is:List Int}(h:is.length<=1000):Rp (.list (is.map .int)) (is.map .int):=.list (by rw[Y2];exact h)
theorem Uu{is:List Int}(h:is.length<=1000):Lz (.list (is.map .int)) is.length:=by
 have z:=Lz.list (vs:=is.map V.int) (by rw[Y2];exact h)
 rwa [Y2] at z
theorem PV{is:List Int}{i:Int}(h:is.length<=1000):I5 i (.list (is.map .int)) (decide (i∈is)):=by
 have z:=I5.list (i:=i) (vs:=is.map V.int) (by rw[Y2];exact h) (CT is)
 rwa [show is.contains i=decide (i∈is) from by rw[List.contains_eq_mem]] at z
structure Dc(L:List Int):Prop where
 asc:Gw L
 bd:∀i∈L,0<=i/\i<20
theorem Dc.len{L:List Int}(h:Dc L):L.length<=20:=by
 have hl:∀(l:List Int) (lo:Int),Gw l->(∀i∈l,lo<=i/\i<20)->lo<=20->(l.length:Int)<=20-lo:=by
  intro l
  induction l with
  | nil=>exact λlo U U h=>d5 h
  | cons x r ih =>
   intro lo h b _;refine Am (Z5.mp h) λh1 h2=>?_;have bx:=b x (.head _);have:=ih (x+1) h2 (λi hi=>⟨h1 i hi,(b i (.tail _ hi)).2⟩) (‹_/\(_:Int)<_›.2);rw[aI];push_cast;exact ozL ‹_› ‹_›
 have:=hl _ 0 h.asc h.bd (by decide)
 exact aT.mp ‹_›
theorem Dc.l3{L:List Int}(h:Dc L):L.length<=1000:=Yn h.len (by decide)
theorem Dc.filter{L:List Int}(h:Dc L)(p:Int->Bool):Dc (L.filter p):=⟨h.asc.filter _,λi hi=>h.bd i (mfP hi).1⟩
theorem Dc.rng{lo hi:Int}(h:0<=lo)(k:hi<=20):Dc (BJ lo hi 1):=⟨QT,λi hi=>⟨Y3 h (Gd.mp hi).1,Z4 (Gd.mp hi).2 k⟩⟩
section
variable{e:Nat}{H:MH}{Q:V->MH->Prop}
section
variable{n d:Nat}
theorem OX{number:Int}(q:∀l L H',Dc L->An H H' []->H l=none->H' l=some (.list (L.map .int))->Q (.ref l) H'):call (e+1) DB [.int number] [] H Q:=by
 show ∀c,H c=none->Ap (call e) [(Mt,c)] IJ [(Bz,.int number)] (H.put c (.cell none)) (AS Q)
 intro c hc;refine⟨.inr (by decide),by decide,_,AH _ _ _,?_⟩
 have f1:=An.new0 (o:=.cell none) hc;have f2:An H ((H.put c (.cell none)).put c (.cell (some (.int ((number*26339+349525).fmod 1048576))))) []:=f1.wr hc (AH _ _ _) rfl;have c2:=AH (H.put c (.cell none)) c (.cell (some (.int ((number*26339+349525).fmod 1048576))))
 generalize (H.put c (.cell none)).put c (.cell (some (.int ((number*26339+349525).fmod 1048576))))=H2 at f2 c2 ⊢
 intro r hr;have n3:=An.new0 (o:=.range 0 20 1) hr;have f3:=f2.trans n3;have c3:=n3.l c2;refine CU (AH _ _ _) (.range (by unfold Je;decide)) (λi=>if(decide ((((number*26339+349525).fmod 1048576).fdiv (2 ^ i.toNat)).fmod 2=1))=true then some (V.int i) else none) (λi hi R k=>?_) ?_
 ·refine cv c3 ⟨(Gd.mp hi).1,by decide,?_⟩
  refine AI (λz=>?_) λz=>?_
  ·rw[if_pos (by simpa using z)] at k;exact k
  ·rw[if_neg (by simpa using z)] at k;exact k
 ·refine IO.symm▸?_;have dc:=(Dc.rng (lo:=0) (hi:=20) (by decide) (by decide)).filter λi=>decide ((((number*26339+349525).fmod 1048576).fdiv (2 ^ i.toNat)).fmod 2=1)
  refine⟨by rw[Y2];exact dc.l3,λl hl=>?_⟩
  exact q l _ _ dc (f3.trans (An.new0 hl)) (f3.dm _ hl) (AH _ _ _)
theorem RM{la wa:Nat}{ds:List (Int×Int)}(h1:H la=some (.list (ds.map λp=>.int p.1)))(h2:H wa=some (.list (ds.map λp=>.int p.2)))(ok:Dz 0 ds)(q:∀m,H m=none->AG (H.put m (.inst .Leaf (Ea la wa 0))) (.leaf m la wa 0 ds)->Q (.ref m) (H.put m (.inst .Leaf (Ea la wa 0)))) :
 Eb (call (e+1)) .Leaf [.ref la] [(En,.ref wa)] H Q:=by
 refine DR rfl λm hm=>?_;exact(OT h1 h2 ok hm (q m hm):Ap (call e) [] HE [(AA,.ref m),(BO,.ref la),(En,.ref wa),(Ip,.none),(Iq,.none),(Ir,.none),(GL,.int (0:Nat)),(D5,.none),(Ms,.none),(GM,.none)] (H.put m (.inst .Leaf [])) (AS λv H'=>v=.none/\Q (.ref m) H'))
noncomputable def kcl(kd:Int):Option Cl:=AN kd.toNat [(0,Cl.Leaf),(4,.Union),(5,.Inter),(6,.AndNot),(7,.AndMaybe),(8,.Require),(10,.Inverse),(11,.DMax)]
def Bu(kind:Int)(T:Tr):Prop:=∀c,kcl kind=some c->T.cl=c
def shP(c:Cl)(T:Tr):Prop:=match c with
 | .Leaf=>∃a la wa i ds,T=.leaf a la wa i ds
 | .Union=>∃a A B,T=.bin .uni a A B
 | .Inter=>∃a A B,T=.bin .inter a A B
 | .AndNot=>∃a A B,T=.bin .anot a A B
 | .AndMaybe=>∃a A B,T=.bin .maybe a A B
 | .DMax=>∃a A B,T=.bin .dm a A B
 | .Require=>∃a i A B,T=.req a i A B
 | .Inverse=>∃a m l w j A,T=.una (.inv m l w j) a A
 | _=>True
theorem shp_ok(T:Tr):shP T.cl T:=by
 cases T with
 | null=>trivial
 | leaf=>exact⟨_,_,_,_,_,rfl⟩
 | bin k=>cases k<;>exact⟨_,_,_,rfl⟩
 | una k=>cases k<;>first|trivial|exact⟨_,_,_,_,_,_,rfl⟩
 | req=>exact⟨_,_,_,_,rfl⟩
theorem Bu.at{kd z:Int}{T:Tr}{c:Cl}(h:Bu kd T)(e:kd=z)(e':kcl z=some c):shP c T:=h c (e▸e')▸shp_ok T
theorem Bu.of{kd:Int}{T:Tr}{c:Cl}(h:kcl kd=some c)(e:T.cl=c):Bu kd T:=λc' e'=>e.trans (Ys (h.symm.trans e'))
theorem Bu.cl{kd:Int}{T T':Tr}(h:Bu kd T)(e:T'.cl=T.cl):Bu kd T':=λc hc=>e.trans (h c hc)
structure Pr(H:MH)(m:Nat)(T:Tr)(L:List Int)(kind:Int):Prop where
 at_:∃p,H m=some (.tup [.ref T.addr,.ref p,.int kind])/\H p=some (.list (L.map .int))
 g:AG H T
 k:Bu kind T
 d:∀d,T.den d≠none<->d∈L
 dc:Dc L
 al:∀d,al T d->d∈L
end
section
variable{n d:Nat}
theorem LF{f:Int->Int}{i:Int}:∀{L:List Int},Jl i (L.map λx=>(x,f x))≠none<->i∈L
 | []=>⟨λh=>absurd rfl h,λh=>(nomatch h)⟩
 | x::r=>by
  show(if x=i then some (f x) else Jl i (r.map _))≠none<->i∈x::r
  by_cases h:x=i
  ·rw[if_pos h];exact⟨λU=>h▸.head _,λU=>gj _⟩
  ·rw[if_neg h,LF,cM];exact⟨.inr,λz=>z.resolve_left λe=>h e.symm⟩
theorem QU{f:Int->V}:∀{L:List Int},(L.filterMap λi=>some (f i))=L.map f
 | []=>rfl
 | x::r=>by rw[aA,QU];rfl
theorem Sp{number:Int}(q:∀m T L H',An H H' []->Pr H' m T L 0->SL 1 (sc T)->sz T=1->(∀x∈fp T,H x=none)->Q (.ref m) H'):call (e+2) CB [.int number] [] H Q:=by
 refine(OX λl L H1 dc f1 hl h1=>?_:Ap (call (e+1)) [] IK [(Bz,.int number)] H (AS Q));refine CU h1 (Ut dc.l3) (λi=>some (V.int (1+i.fmod 3))) (λi hi R k=>⟨by decide,k⟩) ?_
 refine QU.symm▸⟨by rw[Y2];exact dc.l3,λwa hwa=>?_⟩
 have n2:=An.new0 (o:=.list (L.map λi=>V.int (1+i.fmod 3))) hwa;have f2:=f1.trans n2;have h2:=n2.l h1;have w2:=AH H1 wa (.list (L.map λi=>V.int (1+i.fmod 3)))
 generalize H1.put wa (.list (L.map λi=>V.int (1+i.fmod 3)))=H2 at n2 f2 h2 w2 ⊢
 refine RM (ds:=L.map λi=>(i,1+i.fmod 3)) (by exact cq.symm▸h2) (by exact cq.symm▸w2) ⟨?_,?_,Zp _,by rw[Y2];exact dc.l3⟩ λa ha g=>?_
 ·rw[eu];exact dc.asc
 ·intro p hp;refine AR (mmP hp) λi hi z=>?_;obtain rfl:=z;have b:=dc.bd i hi;have:=fW i (show(0:Int)<3 by decide)
  exact⟨b.1,by exact bP ‹_/\(_:Int)<_›.2 (by decide),by exact Zm (by decide) ‹_›⟩
 ·have n3:=An.new0 (o:=.inst .Leaf (Ea l wa 0)) ha;have f3:=f2.trans n3;refine⟨ZQ rfl,λm hm=>?_⟩;have n4:=An.new0 (o:=.tup [.ref a,.ref l,.int 0]) hm;refine q m (.leaf a l wa 0 (L.map λi=>(i,1+i.fmod 3))) L _ (f3.trans n4) ⟨⟨l,AH _ _ _,n4.l (n3.l h2)⟩,g.nil n4,?_,λd=>LF,dc,λd h=>LF.mp h⟩ .leaf rfl λx hx=>?_
  ·exact .of (c:=.Leaf) rfl rfl
  ·exact(msP hx).symm▸f2.dm _ ha
end
section
variable{n d:Nat}{H6:MH}{A B T:Tr}
structure L2(c1 c2 la lb:Nat)(Da Db:List Int)(H:MH):Prop where
 k1:H c1=some (.cell (some (.ref la)))
 k2:H c2=some (.cell (some (.ref lb)))
 p1:H la=some (.list (Da.map .int))
 p2:H lb=some (.list (Db.map .int))
theorem L2.ni{c1 c2 la lb Da Db H H' F}(l:L2 c1 c2 la lb Da Db H)(f:An H H' F)(hF:∀x∈F,∃c as,H x=some (.inst c as)):L2 c1 c2 la lb Da Db H' :=
 ⟨f.ni l.k1 hF λU U z=>(nomatch z),f.ni l.k2 hF λU U z=>(nomatch z),f.kp _ _ l.p1 (.inr rfl),f.kp _ _ l.p2 (.inr rfl)⟩
theorem L2.l{c1 c2 la lb Da Db H H'}(l:L2 c1 c2 la lb Da Db H)(f:An H H' []):L2 c1 c2 la lb Da Db H':=l.ni f λU h=>nomatch h
def Out2(H:MH)(A B:Tr)(l:Nat)(Q:V->MH->Prop):Prop:=∀m T' L kind H',An H H' (fp A++fp B)->Pr H' m T' L kind->sz T'<=sz A+sz B+2->SL l (sc T')->(∀x∈fp T',x∈fp A++fp B\/H x=none)->Q (.ref m) H'
theorem Ei{l:Nat}{L:List Int}{kind:Int}(hl:H6 l=some (.list (L.map .int)))(dc:Dc L)(g:AG H6 T)(k:Bu kind T)(hd:∀d,T.den d≠none<->d∈L)(ha:∀d,al T d->T.den d≠none)(q:∀m H',An H6 H' []->Pr H' m T L kind->Q (.ref m) H') :
 [V.ref T.addr,.ref l,.int kind].length<=1000/\alloc H6 (.tup [.ref T.addr,.ref l,.int kind]) Q:=by
 refine⟨ZQ rfl,λm hm=>?_⟩;have n:=An.new0 (o:=.tup [.ref T.addr,.ref l,.int kind]) hm;exact q m _ n ⟨⟨l,AH _ _ _,n.l hl⟩,g.nil n,k,hd,dc,λd h=>(hd d).mp (ha d h)⟩
theorem ko4{a:Nat}:Bu 4 (.bin .uni a A B):=.of (c:=.Union) rfl rfl
theorem ko5{a:Nat}:Bu 5 (.bin .inter a A B):=.of (c:=.Inter) rfl rfl
theorem ko6{a:Nat}:Bu 6 (.bin .anot a A B):=.of (c:=.AndNot) rfl rfl
theorem ko7{a:Nat}:Bu 7 (.bin .maybe a A B):=.of (c:=.AndMaybe) rfl rfl
theorem ko8{a i:Nat}:Bu 8 (.req a i A B):=.of (c:=.Require) rfl rfl
theorem ko11{a:Nat}:Bu 11 (.bin .dm a A B):=.of (c:=.DMax) rfl rfl
theorem AY{x y:Nat}{v:V}(h:Y4 y x=false):∀{ρ:As},AN x (put y v ρ)=AN x ρ
 | []=>by show cond (Y4 y x) _ _=_;exact h▸rfl
 | p::r=>by
  show AN x (cond (Y4 p.1 y) _ _)=cond (Y4 p.1 x) _ _
  cases e:Y4 p.1 y with
  | true =>
   have e':p.1=y:=Y6 e
   show cond (Y4 p.1 x) _ _=_
   exact e'▸h▸rfl
  | false =>
   show cond (Y4 p.1 x) _ _=_
   rw[AY h]
theorem Gx{x:Nat}{ρ:As}{v:V}{K:V->Prop}(h:AN x ρ=some v)(k:K v):op (AN x ρ) K:=by rw[h];exact k
theorem Sq{is:List Int}(h:is≠[])(hl:is.length<=1000):Kn (-1) (.int (is.getLast h)) (.list (is.map .int)):=by
 have hp:=eK.mpr h;refine .list (by rw[Y2];exact hl) ?_
 unfold nth;rw[if_neg (by decide),Y2,if_pos (show -(is.length:Int)<=-1 from Int.neg_le_neg (aT.mpr hp)),show((is.length:Int)+-1).toNat=is.length-1 by(refine BB (Nat.exists_eq_succ_of_ne_zero (bQ hp)) λm hm=>?_;rw[hm];show((m:Int)+1+-1).toNat=m;rw[Int.add_neg_cancel_right];exact Zj m),Ze,<- List.getLast?_eq_getElem?,List.getLast?_eq_some_getLast h];rfl
theorem idx_at{is:List Int}{i:Nat}{x:Int}(h:is[i]?=some x)(hl:is.length<=1000):Kn (i:Int) (.int x) (.list (is.map .int)):=by
 refine .list (by rw[Y2];exact hl) ?_
 unfold nth;rw[if_pos (cS i),Zj,Ze,h];rfl
theorem Jr{sa:Nat}{ys:List Int}{ex:Bool}{bo:Int}{us:As}(ih:Ih n d)(he:d<=e)(hA:sz A<=n)(g:AG H A)(hs:H sa=some (.set ys))(hl:ys.length<=1000)(hb:0<=bo/\bo<=1000)(hu:(us=[(Ad,.int bo)]/\ex=false)\/(us=[(Dq,.bool true),(Ad,.int bo)]/\ex=true))
 (q:∀m A' H',RG (.filt sa ys ex bo) H A m (.filt sa ys ex bo) A' H'->Q (.ref m) H'):Eb (call (e+2)) .Filter [.ref A.addr,.ref sa] us H Q:=by
 have key:∀m,H m=none->Ap (call (e+1)) [] Ft [(AA,.ref m),(AE,.ref A.addr),(BO,.ref sa),(Dq,.bool ex),(Ad,.int bo)] (H.put m (.inst .Filter [])) (AS λv H'=>v=.none/\Q (.ref m) H'):=λm h=>Jq ih he hA g hs hl hb h (q m);rcases hu with⟨rfl,rfl⟩|⟨rfl,rfl⟩<;>exact DR rfl key
theorem Ss{lim wt:Int}(ih:Ih n d)(he:d<=e)(hA:sz A<=n)(g:AG H A)(hb:0<=wt/\lim<=50)
 (q:∀m t t' j' A' H',RG (.inv t lim wt 0) H A m (.inv t' lim wt j') A' H'->Q (.ref m) H'):Eb (call (e+2)) .Inverse [.ref A.addr,.int lim] [(DA,.int wt)] H Q:=by
 have key:∀m,H m=none->Ap (call (e+1)) [] Cm [(AA,.ref m),(AE,.ref A.addr),(Aq,.int lim),(Af,.none),(DA,.int wt),(AW,.int 0)] (H.put m (.inst .Inverse [])) (AS λv H'=>v=.none/\Q (.ref m) H'):=λm h=>LC ih he hA g ⟨hb.1,ZP _,hb.2⟩ (.inl rfl) h (q m);exact DR rfl key
theorem Gw.hd{x:Int}{r:List Int}(h:Gw (x::r)){y:Int}(hy:y∈x::r):x<=y:=by
 refine mc hy ?_ λhy=>?_
 ·exact ZP _
 ·exact ZZ ((Z5.mp h).1 y hy)
theorem Gw.last:∀{L:List Int} (_:Gw L) (ne:L≠[]) {y:Int},y∈L->y<=L.getLast ne
 | [x],_,_,y,hy=>by exact(msP hy).symm▸ZP _
 | x::z::r,h,_,y,hy=>by
  have h':=Z5.mp h;refine(List.getLast_cons (List.cons_ne_nil z r)).symm▸?_;rcases mcP hy with rfl|hy
  ·exact ZZ (h'.1 _ (List.getLast_mem _))
  ·exact Gw.last h'.2 _ hy
theorem Uv{kind:Int}{la lb wa wb:Nat}{Da Db:List Int}(ih:Ih n d)(he:d<=e)(hA:sz A<=n)(hB:sz B+1<=n)(gA:AG H A)(gB:AG H B)(dj:∀x∈fp A,x∉fp B)(dA:∀d,A.den d≠none<->d∈Da)(dB:∀d,B.den d≠none<->d∈Db)(ca:Dc Da)(cb:Dc Db)(hla:H la=some (.list (Da.map .int)))(hlb:H lb=some (.list (Db.map .int)))(sA:SL wa (sc A))(sB:SL wb (sc B))(lA:∀d,al A d->d∈Da)(lB:∀d,al B d->d∈Db)
 (q:Out2 H A B (wa+wb) Q):call (e+6) B6 [.int kind,.ref A.addr,.ref la,.ref B.addr,.ref lb] [] H Q:=by
 show ∀c1,H c1=none->∀c2,(H.put c1 (.cell (some (.ref la)))) c2=none ->
  Ap (call (e+5)) [(At,c2),(Ay,c1)] JE [(Ac,.int kind),(Be,.ref A.addr),(Ax,.ref B.addr)] ((H.put c1 (.cell (some (.ref la)))).put c2 (.cell (some (.ref lb)))) (AS Q)
 intro c1 h1 c2 h2;have n1:=An.new0 (o:=.cell (some (.ref la))) h1;have n2:=An.new0 (o:=.cell (some (.ref lb))) h2;have f2:=n1.trans n2;have L:L2 c1 c2 la lb Da Db ((H.put c1 (.cell (some (.ref la)))).put c2 (.cell (some (.ref lb)))):=⟨n2.l (AH _ _ _),AH _ _ _,f2.l hla,f2.l hlb⟩
 generalize (H.put c1 (.cell (some (.ref la)))).put c2 (.cell (some (.ref lb)))=H2 at f2 L ⊢
 clear n1 n2 h1 h2;refine cv L.k1 (CU (α:=V) L.p1 (Ut ca.l3) (λi=>if decide (i∈Db)=true then some (V.int i) else none) (λi hi R k=>?_) ?_)
 ·refine cv L.k2 ⟨_,_,L.p2,PV cb.l3,AI (λz=>?_) λz=>?_⟩
  ·rw[if_pos z] at k;exact k
  ·replace k:=z▸k;exact k
 refine IO.symm▸?_;have cs:=ca.filter λi=>decide (i∈Db);have ms:∀i,i∈Da.filter (λi=>decide (i∈Db))<->i∈Da/\i∈Db:=λi=>by rw[Zi,decide_eq_true_iff]
 generalize Da.filter (λi=>decide (i∈Db))=Ds at cs ms ⊢
 refine⟨by rw[Y2];exact cs.l3,λls hls=>?_⟩
 have n3:=An.new0 (o:=.list (Ds.map .int)) hls;have f3:=f2.trans n3;have s3:=AH H2 ls (.list (Ds.map .int));replace L:=L.l n3
 generalize H2.put ls (.list (Ds.map .int))=H3 at f3 s3 L ⊢
 have gA3:=gA.nil f3;have gB3:=gB.nil f3;have inst:∀x∈fp A++fp B,∃c as,H3 x=some (.inst c as):=λx hx=>(maP hx).elim (gA3.rep.fpi x) (gB3.rep.fpi x);have f3':An H H3 (fp A++fp B):=f3.mono λx h=>nomatch h;have hB':sz B<=n:=aW hB;have made:∀{H4 k m A' B' H6},An H3 H4 []->Mk k H4 A B m A' B' H6->∀{m' L' kd H'},An H6 H' []->Pr H' m' (.bin k m A' B') L' kd->Q (.ref m') H':=λ{H4 k m A' B' H6} f4 mk {m' L' kd H'} f p =>
  q m' _ L' kd H' ((((f3.trans f4).mono (G:=fp A++fp B) λx h=>nomatch h).trans mk.fr).trans (f.mono λx h=>nomatch h)) p (by show sz A'+sz B'+1<=_;exact mk.eA.sz▸mk.eB.sz▸Zu _) (.bin (mk.eA.sc▸sA) (mk.eB.sc▸sB)) λx hx=>by
   rcases mcP hx with rfl|hx
   ·exact .inr (f3.dm _ (f4.dm _ mk.nn))
   ·rw[mk.eA.fp,mk.eB.fp] at hx;exact .inl hx
 refine AI (λz=>?_) λU=>CJ (FP ?_)
 ·have z:kind=5:=be z;subst z;refine KZ ih (e:=e+2) (Ym he) hA hB' gA3 gB3 dj λm A' B' H6 mk U=>?_;exact Ei (T:=.bin .inter m A' B') (mk.fr.kp _ _ s3 (.inr rfl)) cs mk.good ko5 (λd=>by rw[ms,<- dA,<- dB,<- Gu,show(Tr.bin .inter m A' B').den=_ from mk.den];rfl) (λd h=>by rw[show(Tr.bin .inter m A' B').den=dI A.den B.den from mk.den,Gu,dA,dB];exact⟨lA d (mk.eA.al d h.1),lB d (mk.eB.al d h.2)⟩) λm' H' f p=>made .refl mk f p
 refine AI (λz=>?_) λU=>CJ (FP ?_)
 ·have z:kind=6:=be z;subst z;have fin:∀{B':Tr} {H4:MH} {ins:List Int} {ρ:As} {R:As->MH->Prop},AN Be ρ=some (.ref A.addr)->AN Ax ρ=some (.ref B'.addr)->AN Ac ρ=some (.int 6)->An H3 H4 (fp B)->AG H4 B'->sz B'<=sz B+1->SL wb (sc B')->(∀x∈fp B',x∈fp B\/H3 x=none)->(∀d,B'.den d≠none<->d∈ins) ->
   (∀i∈ins,i∈Db/\(∀x,Hd A.den x->x<=i)/\∃y∈Da,i<=y)->(∀i∈Da,i∈Db->i∈ins) ->
   Ap (call (e+5)) [(At,c2),(Ay,c1)] [.ret (.tup [.new .AndNot [.var Be,.var Ax] [],.lcomp (.var A0) A0 (.cvar Ay) [.e (.cmp .NotIn (.var A0) (.cvar At))],.var Ac])] ρ H4 (IT R (AS Q)):=λ{B' H4 ins ρ R} hL hR hK f4 gB' hz hsc hfp dB' pin pda=>by
   refine Gx hL (Gx hR ?_);have gA4:AG H4 A:=⟨gA3.rep.frame f4 dj,gA3.ok,gA3.nd⟩;have L4:=L.ni f4 λx hx=>gB3.rep.fpi x hx;refine NF ih (e:=e+2) (Ym he) hA (Yn hz hB) gA4 gB' (λx hx hx'=>?_) (λx hx d hd=>(pin d ((dB' d).mp hd)).2.1 x hx) (λU d hd=>?_) λm A2 B2 H6 mk=>?_
   ·rcases hfp x hx' with h|h
    ·exact dj x hx h
    ·refine HT (gA3.rep.fpi x hx) λc as z=>?_;exact nS h z
   ·refine AR ((pin d ((dB' d).mp hd)).2.2) λy hy le=>?_;exact⟨y,le,(dA y).mpr hy⟩
   have inst4:∀x∈fp A++fp B',∃c as,H4 x=some (.inst c as):=λx hx=>(maP hx).elim (gA4.rep.fpi x) (gB'.rep.fpi x);have L6:=L4.ni mk.fr inst4;refine cv L6.k1 (CU (α:=V) L6.p1 (Ut ca.l3) (λi=>if decide (i∉Db)=true then some (V.int i) else none) (λi hi R k=>?_) ?_)
   ·refine cv L6.k2 ⟨_,_,L6.p2,PV cb.l3,?_⟩;by_cases z:i∈Db
    ·refine(decide_eq_true z).symm▸?_;rw[if_neg (by exact(decide_eq_false (not_not_intro z)).symm▸Zg)] at k;exact k
    ·refine(decide_eq_false z).symm▸?_;replace k:=(if_pos (decide_eq_true z))▸k;exact k
   refine(IO (p:=λi=>decide (i∉Db))).symm▸?_;have cn:=ca.filter λi=>decide (i∉Db);have mn:∀i,i∈Da.filter (λi=>decide (i∉Db))<->i∈Da/\i∉Db:=λi=>by rw[Zi,decide_eq_true_iff]
   generalize Da.filter (λi=>decide (i∉Db))=Dn at cn mn ⊢
   refine⟨by rw[Y2];exact cn.l3,λln hln=>?_⟩
   refine Gx hK ?_;have n7:=An.new0 (o:=.list (Dn.map .int)) hln;refine Ei (T:=.bin .anot m A2 B2) (AH _ _ _) cn (mk.good.nil n7) ko6 (λd=>?_) (λd h=>h) λm' H' f p=>?_
   ·rw[mn,show(Tr.bin .anot m A2 B2).den=dN A.den B'.den from mk.den,KB,dA]
    refine and_congr_right λhd=>?_;have e:=(dB' d).trans ⟨λh=>(pin d h).1,pda d hd⟩;exact⟨λh z=>e.mpr z h,λh=>ZM λz=>h (e.mp z)⟩
   ·have sub:∀x∈fp A++fp B',x∈fp A++fp B\/H3 x=none:=λx hx=>(maP hx).elim (λh=>.inl (Yw _ h)) λh=>(hfp x h).imp (Yt _) id;have f6:An H3 H6 (fp A++fp B):=(f4.mono λx h=>Yt _ h).more mk.fr sub;refine q m' _ _ _ H' ((f3'.trans f6).trans ((n7.trans f).mono λx h=>nomatch h)) p (by show sz A2+sz B2+1<=_;exact mk.eA.sz.symm▸mk.eB.sz.symm▸ZU (ZC hz _)) (.bin (mk.eA.sc▸sA) (mk.eB.sc▸hsc)) λx hx=>?_
    rcases mcP hx with rfl|hx
    ·exact .inr (f3.dm _ (f4.dm _ mk.nn))
    ·rw[mk.eA.fp,mk.eB.fp] at hx;exact(sub x hx).imp id (f3.dm _)
  have wit:∀{R:As->MH->Prop} (p:Int->Bool),(∀i∈Db,p i=true->(∀x,Hd A.den x->x<=i)/\∃y∈Da,i<=y)->(∀i∈Da,p i=true) ->
   (((Db.filter p).map V.int).length<=1000/\alloc H3 (.list ((Db.filter p).map .int)) λv H=>Ap (call (e+5)) [(At,c2),(Ay,c1)] [.cond (.e (.cmp .Lt (.len (.var Fz)) (.len (.cvar At)))) [.asg Ax (.new .Filter [.var Ax,.setof (.var Fz)] [(Ad,.int 1)])] [],.ret (.tup [.new .AndNot [.var Be,.var Ax] [],.lcomp (.var A0) A0 (.cvar Ay) [.e (.cmp .NotIn (.var A0) (.cvar At))],.var Ac])]
    [(Ac,.int 6),(Be,.ref A.addr),(Ax,.ref B.addr),(Iw,.ref ls),(Fz,v)] H (IT R (AS Q))):=λ{R} p hp hq=>by
   have ci:=cb.filter p;have mi:∀i,i∈Db.filter p<->i∈Db/\p i=true:=λi=>Zi;have li:(Db.filter p).length<=Db.length:=List.length_filter_le _ _;have al:(Db.filter p).length=Db.length->∀i∈Db,p i=true:=λh=>List.length_filter_eq_length_iff.mp h
   generalize Db.filter p=ins at ci mi li al ⊢
   refine⟨by rw[Y2];exact ci.l3,λl hl=>?_⟩
   have n4:=An.new0 (o:=.list (ins.map .int)) hl;have l4:=AH H3 l (.list (ins.map .int));replace L:=L.l n4;have gB4:=gB3.nil n4
   generalize H3.put l (.list (ins.map .int))=H4 at n4 l4 L gB4 ⊢
   have f4:An H3 H4 (fp B):=n4.mono λx h=>nomatch h;refine Bx l4 ⟨_,Uu ci.l3,cv L.k2 (Bx L.p2 ⟨_,Uu cb.l3,AI (λz=>?_) λz=>CJ (FP ?_)⟩)⟩
   ·refine Bx l4 ⟨_,_,rfl,CT _,ci.l3,λst hst=>?_⟩;have n5:=An.new0 (o:=.set ins) hst;have s5:=AH H4 st (.set ins);have gB5:=gB4.nil n5
    generalize H4.put st (.set ins)=H5 at n5 s5 gB5 ⊢
    refine Jr ih (e:=e+3) (Ym he) hB' gB5 s5 ci.l3 ⟨by decide,by decide⟩ (.inl ⟨rfl,rfl⟩) λm B' H6 mk=>?_
    refine FP (CJ (FP ?_));refine fin (B':=.una (.filt st ins false 1) m B') (ins:=ins) rfl rfl rfl ((f4.trans (n5.mono λx h=>nomatch h)).trans mk.fr) mk.good (by show sz B'+1<=_;exact mk.eA.sz▸Y1 _) (mk.eA.sc▸sB) (λx hx=>?_) (λd=>?_) (λi hi=>?_) λi hi hi'=>(mi i).mpr ⟨hi',hq i hi⟩
    ·rcases mcP hx with rfl|hx
     ·exact .inr (n4.dm _ (n5.dm _ mk.nn))
     ·exact .inl (mk.eA.fp▸hx)
    ·rw[show(Tr.una (.filt st ins false 1) m B').den=dF ins false 1 B.den from mk.den,HV,dB]
     have:keep ins false d=true<->d∈ins:=by unfold keep;simp
     rw[this,mi];exact⟨λh=>h.2,λh=>⟨h.1,h⟩⟩
    ·have h:=(mi i).mp hi;exact⟨h.1,hp i h.1 h.2⟩
   ·have e1:ins.length=Db.length:=aY li (aT.mp (aq.mp (of_decide_eq_false z)));have al:=al e1;refine fin (B':=B) (ins:=ins) rfl rfl rfl f4 gB4 (Zu _) sB (λx h=>.inl h) (λd=>?_) (λi hi=>?_) λi hi hi'=>(mi i).mpr ⟨hi',hq i hi⟩
    ·rw[dB,mi];exact⟨λh=>⟨h,al d h⟩,λh=>h.1⟩
    ·have h:=(mi i).mp hi;exact⟨h.1,hp i h.1 h.2⟩
  by_cases hk:Da=[]
  ·subst hk;refine cv L.k2 (CU (α:=V) L.p2 (Ut cb.l3) (λi=>if(λU=>false) i=true then some (V.int i) else none) (λi hi R k=>?_) ?_)
   ·refine cv L.k1 (Bx L.p1 ⟨_,Uu (by decide),?_⟩)
    exact k
   ·exact(IO (p:=λU=>false)).symm▸wit (λU=>false) (λU U z=>absurd z (by decide)) λU h=>nomatch h
  ·have hpos:=eK.mpr hk;obtain⟨k0,r,hkr⟩:∃k r,Da=k::r:=by
    cases h:Da with
    | nil=>exact absurd h hk
    | cons k r=>exact⟨k,r,rfl⟩
   have hy:=List.getLast_mem hk;have i0:Kn ((0:Nat):Int) (.int k0) (.list (Da.map .int)):=idx_at (by exact hkr▸rfl) ca.l3
   have i1:=Sq hk ca.l3;have al:=λ{y} h=>ca.asc.last hk (y:=y) h
   generalize Da.getLast hk=y at hy i1 al
   have ak:∀i∈Da,k0<=i:=λi hi=>by rw[hkr] at hi;exact(hkr▸ca.asc:Gw (k0::r)).hd hi
   refine cv L.k2 (CU (α:=V) L.p2 (Ut cb.l3) (λi=>if(λi=>decide (k0<=i)&&decide (i<=y)) i=true then some (V.int i) else none) (λi hi R k=>?_) ?_)
   ·refine cv L.k1 (Bx L.p1 ⟨_,Uu ca.l3,?_⟩);refine AI (λU=>?_) λz=>absurd (ag.mpr hpos) (of_decide_eq_false z);refine cv L.k1 (Bx L.p1 ⟨_,i0,?_⟩);replace k:R (if(decide (k0<=i)&&decide (i<=y))=true then some (V.int i) else none) H3:=k
    refine AI (λz=>?_) λz=>?_
    ·rw[z] at k;refine cv L.k1 (Bx L.p1 ⟨_,i1,AI (λz=>?_) λz=>?_⟩)
     ·replace k:=z▸k;exact k
     ·replace k:=z▸k;exact k
    ·replace k:=z▸k;exact k
   ·refine(IO (p:=λi=>decide (k0<=i)&&decide (i<=y))).symm▸wit _ (λi U z=>?_) λi hi=>by rw[decide_eq_true (ak i hi),decide_eq_true (al hi)];rfl
    rw[fP,decide_eq_true_iff,decide_eq_true_iff] at z;exact⟨λx hx=>Y3 (hx.2 k0 ((dA k0).mpr (by exact hkr.symm▸.head _))) z.1,y,hy,z.2⟩
 refine AI (λz=>?_) λU=>CJ (FP ?_)
 ·have z:kind=7:=be z;subst z;refine PO ih (e:=e+3) (Ym he) hA hB' gA3 gB3 dj λm B' H6 mk U=>?_;have L6:=L.ni mk.fr inst;refine cv L6.k1 ?_;exact Ei (T:=.bin .maybe m A B') L6.p1 ca mk.good ko7 dA (λd h=>h) λm' H' f p=>made .refl mk f p
 refine AI (λz=>?_) λU=>CJ (FP ?_)
 ·have z:kind=8:=be z;subst z;refine NJ ih (e:=e+1) (Ym he) hA hB' gA3 gB3 dj λm j A' B' H6 mk=>?_;refine Ei (T:=.req m j A' B') (mk.fr.kp _ _ s3 (.inr rfl)) cs mk.good ko8 (λd=>by rw[ms,<- dA,<- dB,<- Gv,show(Tr.req m j A' B').den=_ from mk.den]) (λd h=>by rw[show(Tr.req m j A' B').den=dR A.den B.den from mk.den,Gv,dA,dB];exact⟨lA d (mk.eA.al d h.1),lB d (mk.eB.al d h.2)⟩) λm' H' f p=>?_
  refine q m' _ _ _ H' ((f3'.trans mk.fr).trans (f.mono λx h=>nomatch h)) p (by show sz A'+sz B'+2<=_;exact mk.eA.sz▸mk.eB.sz▸Y1 _) (.req (mk.eA.sc▸sA) (mk.eB.sc▸sB)) λx hx=>?_
  rcases mcP hx with rfl|hx
  ·exact .inr (f3.dm _ mk.nm)
  ·rcases mcP hx with rfl|hx
   ·exact .inr (f3.dm _ mk.ni)
   ·rw[mk.eA.fp,mk.eB.fp] at hx;exact .inl hx
 intro rg hrg;have n4:=An.new0 (o:=.range 0 20 1) hrg;have r4:=AH H3 rg (.range 0 20 1);have L4:=L.l n4
 generalize H3.put rg (.range 0 20 1)=H4 at n4 r4 L4 ⊢
 refine CU (α:=V) (is:=BJ 0 20 1) r4 (.range (by unfold Je;decide)) (λi=>if(decide (i∈Da)||decide (i∈Db))=true then some (V.int i) else none) (λi hi R hR=>?_) ?_
 ·refine cv L4.k1 ⟨_,_,L4.p1,PV ca.l3,?_⟩;by_cases z:i∈Da
  ·rw[decide_eq_true z] at hR ⊢;exact hR
  ·rw[decide_eq_false z] at hR ⊢;refine cv L4.k2 ⟨_,_,L4.p2,PV cb.l3,?_⟩;by_cases z:i∈Db
   ·rw[decide_eq_true z] at hR ⊢;exact hR
   ·rw[decide_eq_false z] at hR ⊢;exact hR
 refine(IO (p:=λi=>decide (i∈Da)||decide (i∈Db))).symm▸?_;have cB:=(Dc.rng (lo:=0) (hi:=20) (by decide) (by decide)).filter λi=>decide (i∈Da)||decide (i∈Db)
 have mB:∀i,i∈(BJ 0 20 1).filter (λi=>decide (i∈Da)||decide (i∈Db))<->i∈Da\/i∈Db:=λi=>by
  rw[Zi,Gd,eD,decide_eq_true_iff,decide_eq_true_iff];exact⟨λz=>z.2,λz=>⟨z.elim (ca.bd i) (cb.bd i),z⟩⟩
 generalize (BJ 0 20 1).filter (λi=>decide (i∈Da)||decide (i∈Db))=both at cB mB ⊢
 refine⟨by rw[Y2];exact cB.l3,λlb' hlb'=>?_⟩
 have n5:=n4.trans (An.new0 (o:=.list (both.map .int)) hlb');have l5:=AH H4 lb' (.list (both.map .int))
 generalize H4.put lb' (.list (both.map .int))=H5 at n5 l5 ⊢
 have gA5:=gA3.nil n5;have gB5:=gB3.nil n5;have dU':∀d,dU A.den B.den d≠none<->d∈both:=λd=>by rw[mB,<- dA,<- dB,IN]
 refine AI (λz=>?_) λU=>CJ (FP ?_)
 ·have z:kind=11:=be z;subst z;refine PM (e:=e+3) gA5 gB5 dj (.inl rfl) λm H6 mk=>?_;exact Ei (T:=.bin .dm m A B) (mk.fr.kp _ _ l5 (.inr rfl)) cB mk.good ko11 dU' (λd h=>h) λm' H' f p=>made n5 mk f p
 ·refine NE (e:=e+4) gA5 gB5 dj λm H6 mk=>?_;exact Ei (T:=.bin .uni m A B) (mk.fr.kp _ _ l5 (.inr rfl)) cB mk.good ko4 dU' (λd h=>h) λm' H' f p=>made n5 mk f p
end
theorem cellw{WP H:MH}{c:Nat}{o:Option V}{w:V}(h0:WP c=none)(f:An WP H [])(h:H c=some (.cell o)):An WP (H.put c (.cell (some w))) []/\(H.put c (.cell (some w))) c=some (.cell (some w))/\∀{b x},H b=some x->(x≠.cell o\/b≠c)->(H.put c (.cell (some w))) b=some x :=
 ⟨f.wr h0 h rfl,AH _ _ _,λ{b x} hb hn=>(Ab _ _ λz=>hn.elim (λn=>by replace hb:=h▸z▸hb;obtain rfl:=Ys hb;exact n rfl) λn=>n z).trans hb⟩
section
variable{n d:Nat}{A B T:Tr}
theorem ko9:Bu 9 T:=λc e=>zN (show Yu=some c from e)
theorem ko10{a m l:Nat}{w j lim:Int}:Bu 10 (.una (.inv m lim w j) a A):=.of (c:=.Inverse) rfl rfl
def Out1(H:MH)(T:Tr)(w:Nat)(Q:V->MH->Prop):Prop:=∀m T' L kind H',An H H' (fp T)->Pr H' m T' L kind->sz T'<=sz T+1->SL w (sc T')->(∀x∈fp T',x∈fp T\/H x=none)->Q (.ref m) H'
theorem RG.pr{w:Nat}{k k':UK}{H5 H6:MH}{A':Tr}{m:Nat}(mk:RG k H5 T m k' A' H6)(f5:An H H5 [])(sT:SL w (Mine.sc T))(q:Out1 H T w Q){m' L' kd H'}(f:An H6 H' [])(p:Pr H' m' (.una k' m A') L' kd):Q (.ref m') H':=by
 refine q m' _ L' kd H' (((f5.mono (G:=fp T) λx h=>nomatch h).trans mk.fr).trans (f.mono λx h=>nomatch h)) p (by show sz A'+1<=sz T+1;exact mk.eA.sz▸Y1 _) (mk.eA.sc▸sT) λx hx=>?_
 rcases mcP hx with rfl|hx
 ·exact .inr (f5.dm _ mk.nn)
 ·exact .inl (mk.eA.fp▸hx)
theorem Uw{kind more:Int}{p w:Nat}{L:List Int}(ih:Ih n d)(he:d<=e)(hT:sz T<=n)(hk:kind=9\/kind=10)(g:AG H T)(hd:∀d,T.den d≠none<->d∈L)(dc:Dc L)(hp:H p=some (.list (L.map .int)))(sT:SL w (sc T))(lT:∀d,al T d->d∈L)(q:Out1 H T w Q) :
 call (e+3) CQ [.int kind,.int more,.ref T.addr,.ref p] [] H Q:=by
 show ∀c1,H c1=none->∀c2,(H.put c1 (.cell (some (.ref p)))) c2=none ->
  Ap (call (e+2)) [(IR,c2),(BG,c1)] JF [(Ac,.int kind),(DJ,.int more),(BQ,.ref T.addr)] ((H.put c1 (.cell (some (.ref p)))).put c2 (.cell none)) (AS Q)
 intro c1 h1 c2 h2;have n2:=An.new0 (o:=.cell none) h2;have f2:=(An.new0 (o:=.cell (some (.ref p))) h1).trans n2;have hc2:=(An.new0 (o:=.cell (some (.ref p))) h1).dm _ h2;have k1:=n2.l (AH H c1 (.cell (some (.ref p))));have k2:=AH (H.put c1 (.cell (some (.ref p)))) c2 (.cell none)
 generalize (H.put c1 (.cell (some (.ref p)))).put c2 (.cell none)=H2 at f2 k1 k2 ⊢
 clear n2 h1 h2;have p2:=f2.l hp;refine AI (λz=>?_) λU=>CJ (FP ?_)
 ·have z:kind=10:=be z;subst z;refine⟨by decide,?_⟩
  have hl:0<20-more.fmod 20/\20-more.fmod 20<=20:=⟨by have:=Int.fmod_lt_of_pos more (show(0:Int)<20 by decide);exact Z2 ‹_›,by have:=fW more (show(0:Int)<20 by decide);exact cN _ ‹_›⟩
  refine Ss ih he hT (g.nil f2) ⟨by decide,by exact Y3 ‹_/\(_:Int)<=20›.2 (by decide)⟩ λm t t' j' A' H7 mk=>?_
  have inst:=(g.nil f2).rep.fpi;have k7:=mk.fr.ni k1 inst λU U z=>nomatch z;have p7:=mk.fr.kp _ _ p2 (.inr rfl);intro rg hrg;have n8:=An.new0 (o:=.range 0 (20-more.fmod 20) 1) hrg;have r8:=AH H7 rg (.range 0 (20-more.fmod 20) 1);replace k7:=n8.l k7;replace p7:=n8.l p7;have g8:=mk.good.nil n8
  generalize H7.put rg (.range 0 (20-more.fmod 20) 1)=H8 at n8 r8 k7 p7 g8 ⊢
  refine CU (α:=V) (is:=BJ 0 (20-more.fmod 20) 1) r8 (.range (by unfold Je;exact ozX ‹_›)) (λi=>if decide (i∉L)=true then some (V.int i) else none) (λi hi R k=>?_) ?_
  ·refine cv k7 ⟨_,_,p7,PV dc.l3,?_⟩;by_cases z:i∈L
   ·refine(decide_eq_true z).symm▸?_;rw[if_neg (by exact(decide_eq_false (not_not_intro z)).symm▸Zg)] at k;exact k
   ·refine(decide_eq_false z).symm▸?_;replace k:=(if_pos (decide_eq_true z))▸k;exact k
  refine(IO (p:=λi=>decide (i∉L))).symm▸?_;have cn:=(Dc.rng (lo:=0) (hi:=(20-more.fmod 20)) (by decide) hl.2).filter λi=>decide (i∉L)
  have mn:∀i,i∈(BJ 0 (20-more.fmod 20) 1).filter (λi=>decide (i∉L))<->(0<=i/\i<(20-more.fmod 20))/\i∉L:=λi=>by rw[Zi,decide_eq_true_iff,Gd]
  generalize (BJ 0 (20-more.fmod 20) 1).filter (λi=>decide (i∉L))=Dn at cn mn ⊢
  refine⟨by rw[Y2];exact cn.l3,λln hln=>?_⟩
  have n9:=An.new0 (o:=.list (Dn.map .int)) hln;refine Ei (T:=.una (.inv t' (20-more.fmod 20) 1 j') m A') (AH _ _ _) cn (g8.nil n9) (ko10 (l:=0)) (λd=>?_) (λd h=>h) λm' H' f pr=>mk.pr f2 sT q ((n8.trans n9).trans f) pr;rw[mn,show(Tr.una (.inv t' (20-more.fmod 20) 1 j') m A').den=dV (20-more.fmod 20) 1 0 T.den from mk.den,K2,and_assoc]
  refine and_congr_right λU=>and_congr_right λU=>?_;exact⟨λh z=>(hd d).mpr z h,λh=>ZM λz=>h ((hd d).mp z)⟩
 ·have hk:kind=9:=hk.resolve_right λz=>by subst z;contradiction
  subst hk;refine⟨by decide,AI (λU=>?_) λU=>CJ (FP ?_)⟩
  ·refine NH (e:=e) (g.nil f2) (by decide) λm H7 mk=>?_
   refine cv (mk.fr.ni k1 ((g.nil f2).rep.fpi) λU U z=>nomatch z) ?_;refine Ei (T:=.una (.con 1) m T) (mk.fr.kp _ _ p2 (.inr rfl)) dc mk.good ko9 (λd=>?_) (λd h=>by rw[show(Tr.una (.con 1) m T).den=dC 1 T.den from mk.den,HW,hd];exact lT d h) λm' H' f pr=>mk.pr f2 sT q f pr
   rw[show(Tr.una (.con 1) m T).den=dC 1 T.den from mk.den,HW,hd]
  ·refine OX λl K H3 ck n3 hl l3=>⟨_,n3.l k2,?_⟩;have f3:=f2.trans n3;refine CV (cellw (w:=.ref l) hc2 f3 (n3.l k2)) λf4 k4 st=>?_;replace k1:=st (n3.l k1) (.inl λz=>nomatch z);replace p2:=st (n3.l p2) (.inl λz=>nomatch z);replace l3:=st l3 (.inl λz=>nomatch z)
   generalize H3.put c2 (.cell (some (.ref l)))=H4 at f4 k4 k1 p2 l3 ⊢
   clear st;have fin:∀{ex:Bool} {m:Nat} {A':Tr} {st:Nat} {H5 H6:MH},An H4 H5 []->RG (.filt st K ex 1) H5 T m (.filt st K ex 1) A' H6->H6 c1=some (.cell (some (.ref p)))/\H6 p=some (.list (L.map .int))/\H6 c2=some (.cell (some (.ref l)))/\H6 l=some (.list (K.map .int)) /\
    (((L.filter λi=>keep K ex i).map V.int).length<=1000/\alloc H6 (.list ((L.filter λi=>keep K ex i).map .int)) λv H=>([V.ref m,v,.int 9]).length<=1000/\alloc H (.tup [.ref m,v,.int 9]) Q):=λ{ex m A' st H5 H6} n5 mk=>by
    have inst:=(g.nil (f4.trans n5)).rep.fpi;refine⟨mk.fr.ni (n5.l k1) inst λU U z=>(nomatch z),mk.fr.kp _ _ (n5.l p2) (.inr rfl),mk.fr.ni (n5.l k4) inst λU U z=>(nomatch z),mk.fr.kp _ _ (n5.l l3) (.inr rfl),?_⟩;have cn:=dc.filter λi=>keep K ex i;have mn:∀i,i∈L.filter (λi=>keep K ex i)<->i∈L/\keep K ex i=true:=λi=>Zi
    generalize L.filter (λi=>keep K ex i)=Dn at cn mn ⊢
    refine⟨by rw[Y2];exact cn.l3,λln hln=>?_⟩
    have n9:=An.new0 (o:=.list (Dn.map .int)) hln;refine Ei (T:=.una (.filt st K ex 1) m A') (AH _ _ _) cn (mk.good.nil n9) ko9 (λd=>?_) (λd h=>by rw[show(Tr.una (.filt st K ex 1) m A').den=dF K ex 1 T.den from mk.den,HV,hd];exact⟨lT d (mk.eA.al d h.1),h.2⟩) λm' H' f pr=>mk.pr (f4.trans n5) sT q (n9.trans f) pr
    rw[mn,show(Tr.una (.filt st K ex 1) m A').den=dF K ex 1 T.den from mk.den,HV,hd]
   refine⟨by decide,AI (λU=>?_) λU=>CJ (FP ?_)⟩
   ·refine cv k4 (Bx l3 ⟨_,_,rfl,CT _,ck.l3,λst hst=>?_⟩);have n5:=An.new0 (o:=.set K) hst;refine Jr ih he hT (g.nil (f4.trans n5)) (AH _ _ _) ck.l3 ⟨by decide,by decide⟩ (.inr ⟨rfl,rfl⟩) λm A' H6 mk=>?_
    refine Nf (fin n5 mk) λr1 r2 r3 r4 r5=>?_;refine cv r1 (CU (α:=V) r2 (Ut dc.l3) (λi=>if keep K true i=true then some (V.int i) else none) (λi hi R k=>?_) (by exact(IO (p:=λi=>keep K true i)).symm▸r5))
    refine cv r3 ⟨_,_,r4,PV ck.l3,?_⟩;by_cases z:i∈K
    ·refine(decide_eq_true z).symm▸?_;rw[if_neg (by unfold keep;simpa using z)] at k;exact k
    ·refine(decide_eq_false z).symm▸?_;rw[if_pos (by unfold keep;simpa using z)] at k;exact k
   ·refine cv k4 (Bx l3 ⟨_,_,rfl,CT _,ck.l3,λst hst=>?_⟩);have n5:=An.new0 (o:=.set K) hst;refine Jr ih he hT (g.nil (f4.trans n5)) (AH _ _ _) ck.l3 ⟨by decide,by decide⟩ (.inl ⟨rfl,rfl⟩) λm A' H6 mk=>?_
    refine Nf (fin n5 mk) λr1 r2 r3 r4 r5=>?_;refine cv r1 (CU (α:=V) r2 (Ut dc.l3) (λi=>if keep K false i=true then some (V.int i) else none) (λi hi R k=>?_) (by exact(IO (p:=λi=>keep K false i)).symm▸r5))
    refine cv r3 ⟨_,_,r4,PV ck.l3,?_⟩;by_cases z:i∈K
    ·refine(decide_eq_true z).symm▸?_;rw[if_pos (by unfold keep;simpa using z)] at k;exact k
    ·refine(decide_eq_false z).symm▸?_;rw[if_neg (by unfold keep;simpa using z)] at k;exact k
end
structure LG where
 m:Nat
 T:Tr
 L:List Int
 k:Int
 w:Nat
def PW(H:MH):List LG->Prop
 | []=>True
 | p::r=>(Pr H p.m p.T p.L p.k/\SL p.w (sc p.T))/\(∀q∈r,∀x∈fp p.T,x∉fp q.T)/\PW H r
noncomputable def D3(ps:List LG):List V:=(ps.map λp=>V.ref p.m).reverse
noncomputable def OY:List LG->Nat
 | []=>0
 | p::r=>sz p.T+2+OY r
noncomputable def lw:List LG->Nat
 | []=>0
 | p::r=>p.w+lw r
theorem EJ{ps:List LG}:(D3 ps).length=ps.length:=by unfold D3;rw[List.length_reverse,Y2]
theorem Ge:∀{ps:List LG},ps.length<=OY ps
 | []=>Y1 _
 | p::r=>by show r.length+1<=sz p.T+2+OY r;rw[cf];exact bG (Yn (Zu 1) (ZK _ _)) Ge
theorem PW.frame{H H':MH}{F}(f:An H H' F)(hF:∀x∈F,(∃c as,H x=some (.inst c as))\/∃vs,H x=some (.stk vs)):∀{ps:List LG},PW H ps->(∀p∈ps,∀x∈fp p.T,x∉F)->PW H' ps
 | [],_,_=>trivial
 | p::r,⟨h1,h2,h3⟩,hd=>by
  refine AR h1.1.at_ λq a1 a2=>?_;refine⟨⟨⟨⟨q,f.kp _ _ a1 (.inr rfl),f.kp _ _ a2 (.inr rfl)⟩,⟨h1.1.g.rep.frame f (hd p (.head _)),h1.1.g.ok,h1.1.g.nd⟩,h1.1.k,h1.1.d,h1.1.dc,h1.1.al⟩,h1.2⟩,h2,PW.frame f hF h3 λp hp=>hd p (.tail _ hp)⟩
theorem PW.rep{H:MH}{q:LG}:∀{qs:List LG},PW H qs->q∈qs->A4 H q.T
 | _::_,h,hm=>(mcP hm).elim (λe=>e▸h.1.1.g.rep) (PW.rep h.2.2)
structure Sk(WP H:MH)(s:Nat)(ps:List LG):Prop where
 fr:An WP H []
 s0:WP s=none
 at_:H s=some (.stk (D3 ps))
 st:PW H ps
 new:∀p∈ps,∀x∈fp p.T,WP x=none
section
variable{n d:Nat}{WP:MH}{s:Nat}{p:LG}{ps:List LG}
theorem Sk.put(k:Sk WP H s ps){qs:List LG}(hs:PW H qs)(hn:∀p∈qs,∀x∈fp p.T,WP x=none):Sk WP (H.put s (.stk (D3 qs))) s qs:=by
 have w:An H (H.put s (.stk (D3 qs))) [s]:=An.put (.head _) λo' z=>by obtain rfl:=Ys (k.at_.symm.trans z);rfl
 refine⟨k.fr.drop w λx hx=>msP hx▸k.s0,k.s0,AH _ _ _,hs.frame w (λx hx=>.inr ⟨_,msP hx▸k.at_⟩) λp hp x hx hm=>?_,hn⟩;refine HT ((hs.rep hp).fpi x hx) λc as z=>?_;exact nomatch (k.at_▸(msP hm)▸z)
theorem Sk.push{m:Nat}{T:Tr}{L:List Int}{kd:Int}{w:Nat}{H':MH}{F:List Nat}(k:Sk WP H s ps)(f:An H H' F)(hF:∀x∈F,(∃c as,H x=some (.inst c as))/\WP x=none)(dj:∀p∈ps,∀x∈fp p.T,x∉F)(pr:Pr H' m T L kd)(hw:SL w (sc T))(hfp:∀x∈fp T,x∈F\/H x=none) :
 H' s=some (.stk (D3 ps))/\Sk WP (H'.put s (.stk (D3 ps++[.ref m]))) s (⟨m,T,L,kd,w⟩::ps):=by
 have st:=k.st.frame f (λx hx=>.inl (hF x hx).1) dj;have k':Sk WP H' s ps:=⟨k.fr.drop f λx hx=>(hF x hx).2,k.s0,f.ni k.at_ (λx hx=>(hF x hx).1) λU U z=>(nomatch z),st,k.new⟩;refine⟨k'.at_,?_⟩;have e:D3 ps++[.ref m]=D3 (⟨m,T,L,kd,w⟩::ps):=by unfold D3;exact Zz▸ev▸rfl
 refine e.symm▸k'.put ⟨⟨pr,hw⟩,λq hq x hx hx'=>?_,st⟩ λq hq x hx=>?_
 ·rcases hfp x hx with h|h
  ·exact dj q hq x hx' h
  ·refine HT ((k.st.rep hq).fpi x hx') λc as z=>?_;exact nS h z
 ·rcases mcP hq with rfl|hq
  ·exact(hfp x hx).elim (λh=>(hF x h).2) (k.fr.dm x)
  ·exact k.new q hq x hx
theorem Sk.pop(k:Sk WP H s (p::ps)):D3 (p::ps)=D3 ps++[.ref p.m]/\Sk WP (H.put s (.stk (D3 ps))) s ps/\Pr (H.put s (.stk (D3 ps))) p.m p.T p.L p.k:=by
 have e:D3 (p::ps)=D3 ps++[.ref p.m]:=by unfold D3;rw[Zz,ev]
 refine⟨e,k.put k.st.2.2 λq hq=>k.new q (.tail _ hq),?_⟩;have w:An H (H.put s (.stk (D3 ps))) [s]:=An.put (.head _) λo' z=>by obtain rfl:=Ys (k.at_.symm.trans z);rfl
 have:=(show PW H [p] from⟨k.st.1,λU h=>(nomatch h),trivial⟩).frame w (λx hx=>.inr ⟨_,msP hx▸k.at_⟩) λq hq x hx hm=>by
  refine HT (k.st.1.1.g.rep.fpi x ((msP hq)▸hx)) λc as z=>?_;exact nomatch (k.at_▸(msP hm)▸z)
 exact this.1.1
end
section
theorem popS{C κ r}{WP H:MH}{s:Nat}{p:LG}{ps:List LG}{ρ:As}{u v t:Nat}{K:Fl->As->MH->Prop}(hS:AN AT ρ=some (.ref s))(k:Sk WP H s (p::ps))(hl:ps.length<=1000)
 (q:∀H' a,Sk WP H' s ps->H' a=some (.list (p.L.map .int))->(∀qs,PW H qs->PW H' qs)->(∀b vs,H b=some (.list vs)->H' b=some (.list vs))->Ap C κ r (put t (.int p.k) (put v (.ref a) (put u (.ref p.T.addr) ρ))) H' K) :
 Ap C κ (.unp [(u,false),(v,false),(t,false)] (.pop (.var AT))::r) ρ H K:=by
 refine CV k.pop λe1 k' pr=>?_;refine Gx hS ⟨D3 ps,.ref p.m,by exact e1▸k.at_,by rw[EJ];exact hl,?_⟩
 refine AR pr.at_ λa h1 h2=>?_;have w:An H (H.put s (.stk (D3 ps))) [s]:=An.put (.head _) λo' z=>by obtain rfl:=Ys (k.at_.symm.trans z);rfl
 refine Bx h1 ⟨_,rfl,q _ a k' h2 (λqs st=>st.frame w (λx hx=>.inr ⟨_,msP hx▸k.at_⟩) λr hr x hx hm=>?_) λb es hb=>?_⟩
 ·refine HT ((st.rep hr).fpi x hx) λc as z=>?_;exact nomatch (k.at_▸(msP hm)▸z)
 ·rw[Ab _ _ λz=>by exact nomatch (k.at_▸z▸hb)];exact hb
theorem PX{H H1 H2:MH}{s:Nat}{ps:List LG}{F:List Nat}{m:Nat}{T:Tr}{L:List Int}{kd:Int}{w:Nat}(k:Sk H H1 s ps)(f:An H1 H2 F)(hF:∀x∈F,(∃c as,H1 x=some (.inst c as))/\H x=none)(dj:∀p∈ps,∀x∈fp p.T,x∉F)(pr:Pr H2 m T L kd)(hw:SL w (sc T))(hfp:∀x∈fp T,x∈F\/H1 x=none)(hl:ps.length<=1000){K:MH->Prop}
 (h:∀H3,Sk H H3 s (⟨m,T,L,kd,w⟩::ps)->K H3):∃vs,H2 s=some (.stk vs)/\vs.length<=1000/\K (H2.put s (.stk (vs++[.ref m]))):=by
 refine Am (k.push f hF dj pr hw hfp) λh1 h2=>?_;exact⟨_,h1,by rw[EJ];exact hl,h _ h2⟩
theorem Vz{s:Nat}{ps:List LG}{H1:MH}{x:E}{v:Int}{r:List S}{κ ρ}{K:Fl->As->MH->Prop}(hS:AN AT ρ=some (.ref s))(k:Sk H H1 s ps)(hl:ps.length<=1000)(hx:∀{Q:V->MH->Prop},Q (.int v) H1->wE (call (e+6)) κ x ρ H1 Q)
 (h:∀p H2,sz p.T=1->p.w=1->Sk H H2 s (p::ps)->Ap (call (e+6)) κ r ρ H2 K):Ap (call (e+6)) κ (.expr (.append (.var AT) (.fn CB [x] []))::r) ρ H1 K:=by
 refine Gx hS ⟨_,k.at_,hx ?_⟩;exact Sp (e:=e+4) λm T L H2 f pr hw hsz hfp=>PX k f (λU h=>nomatch h) (λU U U U h=>nomatch h) pr hw (λx hx=>.inr (hfp x hx)) hl λH3 k'=>FP (h ⟨m,T,L,0,1⟩ _ hsz rfl k')
theorem oneS(ih:Ih 24 192)(he:192<=e){s:Nat}{p:LG}{ps:List LG}{H1:MH}{kind more:Int}{r:List S}{κ ρ}{K:Fl->As->MH->Prop}(hk:kind=9\/kind=10)(hS:AN AT ρ=some (.ref s))(hK:AN Ac ρ=some (.int kind))(hM:AN DJ ρ=some (.int more))(k:Sk H H1 s (p::ps))(hp:OY (p::ps)<=24)
 (h:∀p' ρ' H2,sz p'.T<=sz p.T+1->p'.w=p.w->(∀y,Y4 BQ y=false->Y4 BG y=false->Y4 B9 y=false->AN y ρ'=AN y ρ)->Sk H H2 s (p'::ps)->Ap (call (e+6)) κ r ρ' H2 K) :
 Ap (call (e+6)) κ (.unp [(BQ,false),(BG,false),(B9,false)] (.pop (.var AT))::.expr (.append (.var AT) (.fn CQ [.var Ac,.var DJ,.var BQ,.var BG] []))::r) ρ H1 K:=by
 have hl:ps.length<=1000:=Yn Ge (Yn (Yn (ZK _ _) hp) (by decide))
 refine popS hS k hl λH2 a k2 ha st U=>?_;have st2:PW H2 [p]:=st _ ⟨k.st.1,λU h=>(nomatch h),trivial⟩;have dj:=k.st.2.1;have nw:=k.new p (.head _);have u:∀y,Y4 BQ y=false->Y4 BG y=false->Y4 B9 y=false->AN y (put B9 (.int p.k) (put BG (.ref a) (put BQ (.ref p.T.addr) ρ)))=AN y ρ:=λy h1 h2 h3=>(AY h3).trans ((AY h2).trans (AY h1));refine Gx ((u _ rfl rfl rfl).trans hS) ⟨_,k2.at_,?_⟩;refine Gx ((u _ rfl rfl rfl).trans hK) ?_;refine Gx ((u _ rfl rfl rfl).trans hM) ?_;refine Gx ((AY rfl).trans ((AY rfl).trans BE)) ?_;refine Gx ((AY rfl).trans BE) ?_;have pp:=st2.1;refine Uw (e:=e+3) ih (Ym he) (Yn (Yn (Yz _ _) (Yz _ _)) hp) hk pp.1.g pp.1.d pp.1.dc ha pp.2 pp.1.al λm T L kd H3 f pr hsz hw hfp=>?_;exact PX k2 f (λx hx=>⟨pp.1.g.rep.fpi x hx,nw x hx⟩) (λq hq x hx hm=>dj q hq x hm hx) pr hw hfp hl λH4 k4=>FP (h ⟨m,T,L,kd,p.w⟩ _ _ hsz rfl u k4)
theorem twoS(ih:Ih 24 192)(he:192<=e){s:Nat}{p q:LG}{ps:List LG}{H1:MH}{ek:E}{kind:Int}{r:List S}{κ ρ}{K:Fl->As->MH->Prop}(hS:AN AT ρ=some (.ref s))(k:Sk H H1 s (p::q::ps))(hp:OY (p::q::ps)<=24)
 (hK:∀{ρ' H Q},AN Ac ρ'=AN Ac ρ->Q (.int kind) H->wE (call (e+6)) κ ek ρ' H Q)
 (h:∀p' ρ' H2,sz p'.T<=sz p.T+sz q.T+2->p'.w=q.w+p.w->(∀y,Y4 Ax y=false->Y4 At y=false->Y4 B9 y=false->Y4 Be y=false->Y4 Ay y=false->AN y ρ'=AN y ρ)->Sk H H2 s (p'::ps)->Ap (call (e+6)) κ r ρ' H2 K) :
 Ap (call (e+6)) κ (.unp [(Ax,false),(At,false),(B9,false)] (.pop (.var AT))::.unp [(Be,false),(Ay,false),(B9,false)] (.pop (.var AT))::.expr (.append (.var AT) (.fn B6 [ek,.var Be,.var Ay,.var Ax,.var At] []))::r) ρ H1 K:=by
 have hp':sz p.T+2+(sz q.T+2+OY ps)<=24:=hp;have hp2:sz q.T+2+OY ps<=24:=Yn (ZK _ _) hp;have hl:ps.length<=1000:=Yn Ge (Yn (Yn (ZK _ _) hp2) (by decide))
 refine popS hS k (Yn Ge (show sz q.T+2+OY ps<=1000 from Yn hp2 (by decide))) λH2 b k2 hb st U=>?_
 refine popS ((AY rfl).trans ((AY rfl).trans ((AY rfl).trans hS))) k2 hl λH3 a k3 ha st' kb=>?_;have st3:PW H3 [q,p]:=st' _ (st _ ⟨k.st.2.2.1,λz hz x hx hx'=>by rw[msP hz] at hx';exact k.st.2.1 q (.head _) x hx' hx,k.st.1,λU h=>(nomatch h),trivial⟩)
 replace hb:=kb _ _ hb;have djp:=k.st.2.1;have djq:=k.st.2.2.2.1;have nwp:=k.new p (.head _);have nwq:=k.new q (.tail _ (.head _));have pq:=st3.1;have pp:=st3.2.2.1;have u:∀y,Y4 Ax y=false->Y4 At y=false->Y4 B9 y=false->Y4 Be y=false->Y4 Ay y=false->AN y (put B9 (.int q.k) (put Ay (.ref a) (put Be (.ref q.T.addr) (put B9 (.int p.k) (put At (.ref b) (put Ax (.ref p.T.addr) ρ))))))=AN y ρ:=λy h1 h2 h3 h4 h5=>(AY h3).trans ((AY h5).trans ((AY h4).trans ((AY h3).trans ((AY h2).trans (AY h1)))));refine Gx ((u _ rfl rfl rfl rfl rfl).trans hS) ⟨_,k3.at_,?_⟩;refine hK (u _ rfl rfl rfl rfl rfl) ?_;refine Gx ((AY rfl).trans ((AY rfl).trans BE)) ?_;refine Gx ((AY rfl).trans BE) ?_;refine Gx ((AY rfl).trans ((AY rfl).trans ((AY rfl).trans ((AY rfl).trans ((AY rfl).trans BE))))) ?_;refine Gx ((AY rfl).trans ((AY rfl).trans ((AY rfl).trans ((AY rfl).trans BE)))) ?_;refine Uv (e:=e) ih he (Yn (Yn (Yz _ _) (Yz _ _)) hp2) (Yn (Yn (Zu (sz p.T+1)) (Yz _ _)) hp) pq.1.g pp.1.g (st3.2.1 p (.head _)) pq.1.d pp.1.d pq.1.dc pp.1.dc ha hb pq.2 pp.2 pq.1.al pp.1.al λm T L kd H4 f pr hsz hw hfp=>?_;exact PX k3 f (λx hx=>(maP hx).elim (λhx=>⟨pq.1.g.rep.fpi x hx,nwq x hx⟩) λhx=>⟨pp.1.g.rep.fpi x hx,nwp x hx⟩) (λz hz x hx hm=>(maP hm).elim (λhm=>djq z hz x hm hx) λhm=>djp z (.tail _ hz) x hm hx) pr hw hfp hl λH5 k5=>FP (h ⟨m,T,L,kd,q.w+p.w⟩ _ _ (show sz T<=sz p.T+sz q.T+2 by rw[cf (sz p.T)];exact hsz) rfl u k5)
end
section
def Su:S:=.cond (.e (.cmp .Lt (.var Cq) (.int 3))) [.asg Cq (.bin .Add (.var Cq) (.int 1)),.expr (.append (.var AT) (.fn CB [.var Bz] []))] []
def PY:S:=.cond (.and [.e (.cmp .Gt (.var Ac) (.int 3)),.e (.cmp .NotEq (.var Ac) (.int 9)),.e (.cmp .NotEq (.var Ac) (.int 10)),.e (.cmp .Gt (.len (.var AT)) (.int 1))])
 [.unp [(Ax,false),(At,false),(B9,false)] (.pop (.var AT)),.unp [(Be,false),(Ay,false),(B9,false)] (.pop (.var AT)),.expr (.append (.var AT) (.fn B6 [.var Ac,.var Be,.var Ay,.var Ax,.var At] []))]
 [Su]
def tBody:S:=.cond (.and [.or [.e (.cmp .Eq (.var Ac) (.int 9)),.e (.cmp .Eq (.var Ac) (.int 10))],.e (.cmp .Gt (.len (.var AT)) (.int 0))])
 [.unp [(BQ,false),(BG,false),(B9,false)] (.pop (.var AT)),.expr (.append (.var AT) (.fn CQ [.var Ac,.var DJ,.var BQ,.var BG] []))] [PY]
theorem Sv{H':MH}{s i:Nat}{ps:List LG}{number kind more l:Int}{ρ:As}(ih:Ih 24 192)(he:192<=e)(S:AN AT ρ=some (.ref s))(L:AN Cq ρ=some (.int l))(N:AN Bz ρ=some (.int number))(K:AN Ac ρ=some (.int kind))(M:AN DJ ρ=some (.int more))(k:Sk H H' s ps)(hi:i<6)(hp:OY ps<=3*i)(hw:(lw ps:Int)<=l/\l<=3)
 {G:Fl->As->MH->Prop}(h:∀{ρ' H'' ps' l'},AN AT ρ'=some (.ref s)->AN Cq ρ'=some (.int l')->Sk H H'' s ps'->OY ps'<=3*(i+1)->(lw ps':Int)<=l'/\l'<=3->G .next ρ' H''):Ap (call (e+6)) [] [tBody] ρ H' G:=by
 have h3i:3*i<=24:=Yn (aa 3 (ZY hi)) (by decide)
 have hl:ps.length<=1000:=Yn Ge (Yn hp (Yn h3i (by decide)))
 have hl1:(D3 ps).length<=1000:=by rw[EJ];exact hl
 have other:∀{G:Fl->As->MH->Prop},(∀{ρ' H'' ps' l'},AN AT ρ'=some (.ref s)->AN Cq ρ'=some (.int l')->Sk H H'' s ps'->OY ps'<=3*(i+1)->(lw ps':Int)<=l'/\l'<=3->G .next ρ' H'')->Ap (call (e+6)) [] [Su] ρ H' G:=λ{G} h=>by
  refine Gx L (AI (λzl=>?_) λU=>CJ (FP (CJ (h S L k (Yn hp m3) hw))));refine Gx L ?_;refine Vz ((AY rfl).trans S) k hl (λq=>Gx ((AY rfl).trans N) q) λp' H2 hsz hw' k'=>CJ (FP (CJ (h ((AY rfl).trans S) BE k' (ph0 hsz hp) (by show((p'.w+lw ps:Nat):Int)<=_/\_;rw[hw',cf];exact⟨gM hw.1 1,Int.add_one_le_of_lt (of_decide_eq_true zl)⟩))))
 have three:∀{G:Fl->As->MH->Prop},(∀{ρ' H'' ps' l'},AN AT ρ'=some (.ref s)->AN Cq ρ'=some (.int l')->Sk H H'' s ps'->OY ps'<=3*(i+1)->(lw ps':Int)<=l'/\l'<=3->G .next ρ' H'')->Ap (call (e+6)) [] [PY] ρ H' G:=λ{G} h=>by
  have no:=other (G:=IT (λρ H=>Ap (call (e+6)) [] [] ρ H G) G) λa b c d w=>FP (CJ (h a b c d w));refine Gx K (AI (λU=>?_) λU=>KQ no);refine Gx K (AI (λU=>?_) λU=>KQ no);refine Gx K (AI (λU=>?_) λU=>KQ no);refine Gx S (Bx k.at_ ⟨_,.stk hl1,?_⟩);refine AI (λz=>?_) λU=>KQ no
  match ps,k,hp,hw,z with
  | [],_,_,_,z=>exact zT z
  | [_],_,_,_,z=>exact zT z
  | p::q::ps,k,hp,hw,_ =>
   exact twoS ih he S k (Yn hp h3i) (λhz q=>Gx (hz.trans K) q) λp' ρ' H2 hsz hw' u k'=>CJ (FP (CJ (h ((u _ rfl rfl rfl rfl rfl).trans S) ((u _ rfl rfl rfl rfl rfl).trans L) k' (Yn (ph2 hsz hp) m3) (by show((p'.w+lw ps:Nat):Int)<=l/\l<=3;rw[hw',cf q.w,ai];exact hw))))
 have no:=three (G:=IT (λρ H=>Ap (call (e+6)) [] [] ρ H G) G) λa b c d w=>FP (CJ (h a b c d w));have yes:kind=9\/kind=10->HC (decide (((D3 ps).length:Int) > 0)) (Ap (call (e+6)) [] [.unp [(BQ,false),(BG,false),(B9,false)] (.pop (.var AT)),.expr (.append (.var AT) (.fn CQ [.var Ac,.var DJ,.var BQ,.var BG] []))] ρ H' (IT (λρ H=>Ap (call (e+6)) [] [] ρ H G) G)) (Ap (call (e+6)) [] [PY] ρ H' (IT (λρ H=>Ap (call (e+6)) [] [] ρ H G) G)):=by
  refine λhkd=>AI (λz=>?_) λU=>no
  match ps,k,hp,hw,z with
  | [],_,_,_,z=>exact zT z
  | p::ps,k,hp,hw,_ =>
   exact oneS ih he hkd S K M k (Yn hp h3i) λp' ρ' H2 hsz hw' u k'=>CJ (FP (CJ (h ((u _ rfl rfl rfl).trans S) ((u _ rfl rfl rfl).trans L) k' (ph1 hsz hp) (by show((p'.w+lw ps:Nat):Int)<=l/\l<=3;exact hw'.symm▸hw))))
 have len:∀{R:Bool->MH->Prop},R (decide (((D3 ps).length:Int) > 0)) H'->wT (call (e+6)) [] (.e (.cmp .Gt (.len (.var AT)) (.int 0))) ρ H' R:=λq=>Gx S (Bx k.at_ ⟨_,.stk hl1,q⟩);refine Gx K (AI (λz=>?_) λU=>?_)
 ·replace yes:=yes (.inl (by simpa using z))
  refine len ?_;cases z:decide (((D3 ps).length:Int) > 0)<;>rw[z] at yes
  ·exact yes
  ·exact yes
 ·refine Gx K (AI (λz=>?_) λU=>?_)
  ·replace yes:=yes (.inr (by simpa using z))
   refine len ?_;cases z:decide (((D3 ps).length:Int) > 0)<;>rw[z] at yes
   ·exact yes
   ·exact yes
  ·exact KQ (A:=True) no
end
section
def tWhile:S:=.while (.e (.cmp .Gt (.len (.var AT)) (.int 1))) [.unp [(Ax,false),(At,false),(B9,false)] (.pop (.var AT)),.unp [(Be,false),(Ay,false),(B9,false)] (.pop (.var AT)),.expr (.append (.var AT) (.fn B6 [.int 4,.var Be,.var Ay,.var Ax,.var At] []))]
def tEnd:S:=.ret (.idx (.var AT) (.int 0))
theorem Md{H':MH}{s:Nat}{ps:List LG}{ρ:As}(ih:Ih 24 192)(he:192<=e)(S:AN AT ρ=some (.ref s))(k:Sk H H' s ps)(hp:OY ps<=24)(h0:0<ps.length)(hw:lw ps<=3)
 (q:∀m T L kd H',An H H' []->Pr H' m T L kd->sz T<=24->sc T<=2->(∀x∈fp T,H x=none)->Q (.ref m) H'):Ap (call (e+6)) [] [tWhile,tEnd] ρ H' (AS Q):=by
 refine⟨λn ρ H'=>∃ps,AN AT ρ=some (.ref s)/\Sk H H' s ps/\OY ps<=24/\0<ps.length/\lw ps<=3/\ps.length=n,ps.length,⟨ps,S,k,hp,h0,hw,rfl⟩,?_⟩;rintro n ρ H' ⟨ps,S,k,hp,h0,hw,rfl⟩;have hl:ps.length<=1000:=Yn Ge (Yn hp (by decide))
 have hl1:(D3 ps).length<=1000:=by exact EJ.symm▸hl
 refine Gx S (Bx k.at_ ⟨_,.stk hl1,?_⟩);rw[EJ];refine AI (λz=>?_) λz=>?_
 ·match ps,k,hp,hw,z with
  | [],_,_,_,z=>exact zT z
  | [_],_,_,_,z=>exact zT z
  | p::r::ps,k,hp,hw,_ =>
   refine twoS ih he S k hp (kind:=4) (λU q=>q) λp' ρ' H2 hsz hw' u k'=>CJ ⟨ps.length+1,aG _,p'::ps,(u _ rfl rfl rfl rfl rfl).trans S,k',?_,dS _,?_,rfl⟩
   ·have hp':sz p.T+2+(sz r.T+2+OY ps)<=24:=hp;exact ph2 hsz hp'
   ·have hw1:p.w+(r.w+lw ps)<=3:=hw
    show p'.w+lw ps<=3;rw[hw',cf r.w,ai];exact hw1
 ·match ps,k,hp,h0,hw,z with
  | [p],k,hp,_,hw,_ =>
   refine FP (Gx S (Bx k.at_ ⟨.ref p.m,.stk (by exact EJ.symm▸ZQ rfl) rfl,?_⟩))
   have hp':sz p.T+2+0<=24:=hp;have hw':p.w+0<=3:=hw;exact q p.m p.T p.L p.k H' k.fr k.st.1.1 (Yn (Yz _ 2) hp') (have h3:p.w<=3:=hw';ay (ZB (k.st.1.2.2 h3) h3)) (k.new p (.head _))
  | p::r::ps,_,_,_,_,z=>exact absurd (of_decide_eq_false z) (λw=>w (ag.mpr (Nat.succ_lt_succ (bO _))))
theorem Sw{na:Nat}{ns:List Int}(he:192<=e)(hna:H na=some (.list (ns.map .int)))(hl:ns.length<=6)(q:∀m T L kd H',An H H' []->Pr H' m T L kd->sz T<=24->sc T<=2->(∀x∈fp T,H x=none)->Q (.ref m) H'):call (e+7) D7 [.ref na] [] H Q:=by
 have ih:Ih 24 192:=JM 24
 show Ap (call (e+6)) [] IL [(Jc,.ref na)] H (AS Q)
 intro s hs;have f1:=An.new0 (o:=.stk []) hs;have k1:Sk H (H.put s (.stk [])) s []:=⟨f1,hs,AH _ _ _,trivial,λU h=>nomatch h⟩;refine⟨_,_,f1.l hna,Ut (Yn hl (by decide)),rfl,λi ρ H'=>∃ps l,AN AT ρ=some (.ref s)/\AN Cq ρ=some (.int l)/\Sk H H' s ps/\OY ps<=3*i/\(lw ps:Int)<=l/\l<=3,⟨[],0,rfl,rfl,k1,Y1 _,ZP _,by decide⟩,?_,?_⟩
 ·intro i ρ H' v hv t;refine Vn t λps l hS hL k hp hw=>?_;replace hv:=Ze.symm.trans hv;refine AR (Zx.mp hv) λnumber hn u=>?_;obtain rfl:=u;have hi:i<6:=ZB (Zw.mp hn).1 hl;refine⟨k.fr.l hna,?_⟩;refine Gx BE ⟨by decide,?_⟩
  refine Gx ((AY rfl).trans BE) ⟨by decide,by decide,?_⟩
  have S2:=(AY (x:=AT) (y:=DJ) (v:=.int (number.fdiv 12)) rfl).trans ((AY (y:=Ac) (v:=.int (number.fmod 12)) rfl).trans ((AY (y:=Bz) (v:=.int number) rfl).trans hS));refine Sv ih he S2 ((AY (x:=Cq) (y:=DJ) (v:=.int (number.fdiv 12)) rfl).trans ((AY (y:=Ac) (v:=.int (number.fmod 12)) rfl).trans ((AY (y:=Bz) (v:=.int number) rfl).trans hL))) ((AY rfl).trans ((AY rfl).trans BE)) ((AY rfl).trans BE) BE k hi hp hw λ{ρ' H'' ps' l'} a b c d w=>⟨ps',l',a,b,c,d,w⟩
 ·rintro ρ H' ⟨ps,l,hS,-,k,hp,hw⟩;rw[Y2] at hp;have hp:OY ps<=24:=Yn hp (Yn (aa 3 hl) (by decide))
  have hl:ps.length<=1000:=Yn Ge (Yn hp (by decide))
  have hl1:(D3 ps).length<=1000:=by exact EJ.symm▸hl
  refine⟨k.fr.l hna,FP ?_⟩;refine Gx hS (Bx k.at_ ⟨_,.stk hl1,?_⟩);rw[EJ];refine AI (λz=>?_) λz=>CJ (FP ?_)
  ·match ps,k,z with
   | [],k,_ =>
    refine Vz hS k (by decide) (λq=>q) (v:=0) λp' H2 hsz hw' k'=>CJ (FP (Md ih he hS k' (by show sz p'.T+2+0<=24;refine hsz.symm▸?_;decide) (dS _) (by show p'.w+0<=3;refine hw'.symm▸?_;decide) q))
   | p::ps,_,z=>exact absurd (eq_of_beq z) (Int.ofNat_ne_zero.mpr (Nat.succ_ne_zero _))
  ·refine Md ih he hS k hp ?_ (aT.mp (Y3 hw.1 hw.2)) q
   match ps,z with
   | [],z=>exact zF z
   | p::ps,_=>exact dS _
end
end
end Mine
end
section
namespace Mine
open PySem PySem.W PySem.Calls PyProof.Rows
inductive VR:V->Yr->Prop
 | none:VR .none .none
 | bool (b:Bool):VR (.bool b) (.bool b)
 | int (i:Int) (t:Tok):VR (.int i) (.int i t)
 | ref (a:Nat):VR (.ref a) (.ref a)
inductive A2 {α β:Type} (R:α->β->Prop):List α->List β->Prop
 | nil:A2 R [] []
 | cons {a b l m}:R a b->A2 R l m->A2 R (a::l) (b::m)
theorem A2.length{α β:Type}{R:α->β->Prop}{l:List α}{m:List β}(h:A2 R l m):l.length=m.length:=by
 induction h with
 | nil=>rfl
 | cons _ _ ih=>exact congrArg (·+1) ih
theorem A2.append{α β:Type}{R:α->β->Prop}{l l':List α}{m m':List β}(h:A2 R l m)(h':A2 R l' m'):A2 R (l++l') (m++m'):=by
 induction h with
 | nil=>exact h'
 | cons x _ ih=>exact .cons x ih
theorem JN:∀{l:List (List Nat)},l.Nodup->∀{x y:Nat} {s:List Nat},l[x]?=some s->l[y]?=some s->x=y
 | [],_,x,_,s,hx,_=>by exact zN hx
 | z::l,h,x,y,s,hx,hy=>by
  refine Am (ncP h) λh1 h2=>?_
  match x,y with
  | 0,0=>rfl
  | 0,y+1=>obtain rfl:=Ys hx;exact absurd (aH (show l[y]?=some _ from hy)) h1
  | x+1,0=>obtain rfl:=Ys hy;exact absurd (aH (show l[x]?=some _ from hx)) h1
  | x+1,y+1=>exact congrArg (·+1) (JN h2 hx hy)
theorem RO:Ry.Nodup:=by decide +kernel
theorem RP:Ry.all (λl=>l.all λn=>Nat.blt n 2000000)=true:=by decide +kernel
theorem OZ{x y:Nat}(h:Ry[x]?=some [y+2000000]):False:=by
 have h1:=laP RP _ (aH h);have h2:=laP h1 _ (.head _);exact Ng (ZK 2000000 y) (ZQ h2)
theorem LH{x y:Nat}(h:nm x=nm y):x=y:=by
 have e:(Ry[x]?).getD [x+2000000]=(Ry[y]?).getD [y+2000000]:=by
  have:=congrArg Array.toList (Str.mk.inj h)
  simpa using this
 cases hx:Ry[x]? with
 | some s =>
  refine oCs (Ry[y]?) (λhy=>?_) λt hy=>?_
  ·replace e:=hy▸hx▸e;replace hx:=(show s=[y+2000000] from e)▸hx;exact(OZ hx).elim
  ·replace e:=hy▸hx▸e;cases(show s=t from e);exact JN RO hx hy
 | none =>
  refine oCs (Ry[y]?) (λhy=>?_) λt hy=>?_
  ·replace e:=hy▸hx▸e;have:=(List.cons.inj (show[x+2000000]=[y+2000000] from e)).1;exact Nat.add_right_cancel ‹_›
  ·replace e:=hy▸hx▸e;replace hy:=(show[x+2000000]=t from e)▸hy;exact(OZ hy).elim
theorem Sx{x y:Nat}(h:Y4 x y=false):(nm x==nm y)=false:=beq_eq_false_iff_ne.mpr λe=>by rw[LH e,cD] at h;exact zF h
def ER(p:Nat×V)(e:gf):Prop:=(∃t,e.key=.str (nm p.1) t)/\VR p.2 e.val
theorem Me(s n:Zf)(t:Tok):(Value.str s t).isStr n=(s==n):=rfl
theorem ER.none{as:As}{es:List gf}(h:A2 ER as es):es.any (·.refKey)=false:=by
 induction h with
 | nil=>rfl
 | @cons p e l m hp _ ih =>
  refine Am hp λz U=>?_;refine BB z λt k=>?_;rw[gt,ih,bY];unfold DictEntry.refKey;rw[k]
noncomputable def Rr(R:V->Yr->Prop):Option V->Option Yr->Prop
 | some v,some y=>R v y
 | Yu,Yu=>True
 | _,_=>False
theorem ER.get{as:As}{es:List gf}{x:Nat}(h:A2 ER as es):∃r,getL (nm x) es=some r/\Rr VR (AN x as) r:=by
 have hn:=ER.none h;unfold getL;refine hn.symm▸?_;clear hn
 induction h with
 | nil=>exact⟨_,rfl,trivial⟩
 | @cons p e l m hp _ ih =>
  obtain⟨⟨t,hk⟩,hv⟩:=hp
  show ∃r,_/\Rr VR (cond (Y4 p.1 x) (some p.2) (AN x l)) r
  rw[List.find?_cons,hk,Me];cases q:Y4 p.1 x with
  | true=>rw[Y6 q,beq_self_eq_true];exact⟨_,rfl,hv⟩
  | false=>rw[Sx q];exact ih
theorem ER.put{as:As}{es:List gf}{x:Nat}{v:V}{y:Yr}{hs:Int}{t:Tok}(h:A2 ER as es)(hv:VR v y):A2 ER (Mine.put x v as) (putL (nm x) hs (.str (nm x) t) y es):=by
 induction h with
 | nil=>exact .cons ⟨⟨t,rfl⟩,hv⟩ .nil
 | @cons p e l m hp h ih =>
  refine Am hp λz hv'=>?_;refine BB z λt' hk=>?_
  show A2 ER (cond (Y4 p.1 x) _ _) _
  rw[putL,hk,Me];cases q:Y4 p.1 x with
  | true=>rw[Y6 q,beq_self_eq_true];exact .cons ⟨⟨t',rfl⟩,hv⟩ h
  | false=>rw[Sx q];exact .cons ⟨⟨t',hk⟩,hv'⟩ ih
noncomputable abbrev Oa(xs:List Yr)(n:Nat):Obj:={cls:=.type "list",data:=.seq xs.toArray n}
noncomputable abbrev tuObj(xs:List Yr):Obj:={cls:=.type "tuple",data:=.seq xs.toArray}
noncomputable abbrev Bw:=List (Zh×dK)
section
variable(prog:Y8)(w:Y0)(WM:aV)(D:Nat->Nat)(Yj:Bw)
def OB:O->dK->Prop
 | .list vs,ob|.stk vs,ob=>∃xs n,ob=Oa xs n/\A2 VR vs xs
 | .tup vs,ob=>∃xs,ob=tuObj xs/\A2 VR vs xs
 | .set xs,ob=>∃n,ob.SetObjOf (intKind prog w) (λk=>xs.contains k) n/\n<=xs.length
 | .range lo hi st,ob=>∃(Wp Wy W1:Tok),ob={cls:=.type "range",data:=.fields #[.int lo Wp,.int hi Wy,.int st W1]}
 | .cell (some v),ob=>∃y,ob.data=.cell (some y)/\VR v y
 | .cell Yu,ob=>ob.data=.cell Yu
 | .txt,ob=>∃ps,ob={cls:=.none,data:=.fields ps}/\TriplesOk ps.toList
 | _,_=>False
def OI(a:Nat)(o:O):Prop:=∃c as es n,o=.inst c as/\(a,instObj (C5 c) (D a))∈Yj/\(D a,dictOf es n)∈Yj/\A2 ER as es
def OO(a:Nat)(o:O):Prop:=∃vs xs n,o=.ro vs/\WM.get? a=some (Oa xs n)/\A2 VR vs xs
def OP(a:Nat)(o:O):Prop:=∃ob,(a,ob)∈Yj/\OB prog w o ob
def OR(a:Nat)(o:O):Prop:=OI D Yj a o\/OO WM a o\/OP prog w Yj a o
structure GK(X:Bw)(H:MH):Prop where
 nd:(Yj.map (·.1)).Nodup
 ob:∀a o,H a=some o->OR prog w WM D Yj a o
 dj:∀a c as,H a=some (.inst c as)->H (D a)=Yu/\∀a' c' as',H a'=some (.inst c' as')->D a'=D a->a'=a
 xs:∀p∈X,p∈Yj/\H p.1=Yu/\∀a c as,H a=some (.inst c as)->D a≠p.1
end
section
variable{prog:Y8}{w:Y0}{WM:aV}{D D':Nat->Nat}{Yj Yl:Bw}{X:Bw}{H:MH}{a:Nat}{o:O}
theorem key{p:Zh×dK}{l:Bw}(h:p∈l):p.1∈l.map (·.1):=aN (f:=(·.1)) h
theorem OR.inst{c as}(h:OR prog w WM D Yj a (.inst c as)):∃es n,(a,instObj (C5 c) (D a))∈Yj/\(D a,dictOf es n)∈Yj/\A2 ER as es:=by
 rcases h with⟨_,_,es,n,e,h⟩|⟨_,_,_,e,_⟩|⟨_,_,h⟩
 ·cases e;exact⟨es,n,h⟩
 ·cases e
 ·exact h.elim
theorem OR.ro{vs}(h:OR prog w WM D Yj a (.ro vs)):∃xs n,WM.get? a=some (Oa xs n)/\A2 VR vs xs:=by
 rcases h with⟨_,_,_,_,e,_⟩|⟨_,xs,n,e,h⟩|⟨_,_,h⟩
 ·cases e
 ·cases e;exact⟨xs,n,h⟩
 ·exact h.elim
noncomputable def plain:O->Bool
 | .inst _ _|.ro _=>false
 | _=>true
theorem OR.pl(h:OR prog w WM D Yj a o)(p:plain o=true):OP prog w Yj a o:=by
 rcases h with⟨_,_,_,_,rfl,_⟩|⟨_,_,_,rfl,_⟩|h
 ·exact zT p
 ·exact zT p
 ·exact h
theorem OB.plain{ob}(h:OB prog w o ob):plain o=true:=by cases o<;>first|rfl|cases h
theorem OR.mono(h:OR prog w WM D Yj a o)(hD:∀c as,o=.inst c as->D' a=D a/\∀p∈Yj,p.1=D a->p∈Yl)(hm:∀p∈Yj,p.1=a->p∈Yl):OR prog w WM D' Yl a o:=by
 rcases h with⟨c,as,es,n,rfl,h1,h2,h3⟩|h|⟨ob,h1,h2⟩
 ·refine Am (hD _ _ rfl) λe k=>?_;refine .inl ⟨c,as,es,n,rfl,?_,?_,h3⟩<;>refine e.symm▸?_
  ·exact hm _ h1 rfl
  ·exact k _ h2 rfl
 ·exact .inr (.inl h)
 ·exact .inr (.inr ⟨ob,hm _ h1 rfl,h2⟩)
theorem GK.none(L:GK prog w WM D Yj X H)(h1:a∉Yj.map (·.1))(h2:WM.get? a=Yu):H a=Option.none:=by
 cases h:H a with
 | none=>rfl
 | some o =>
  rcases L.ob a o h with⟨_,_,_,_,_,h,_⟩|⟨_,_,_,_,h,_⟩|⟨_,h,_⟩
  ·exact absurd (key h) h1
  ·exact nS h2 h
  ·exact absurd (key h) h1
theorem GK.dkey(L:GK prog w WM D Yj X H){c as}(h:H a=some (.inst c as)):D a∈Yj.map (·.1):=by
 refine Dy ((L.ob _ _ h).inst) λes n U h2 U=>?_;exact key h2
theorem Gf{b:Nat}{o':O}(h:H.put a o b=some o'):b=a/\o'=o\/b≠a/\H b=some o':=by
 by_cases q:b=a
 ·subst q;rw[AH] at h;obtain rfl:=Ys h;exact .inl ⟨rfl,rfl⟩
 ·rw[Ab _ _ q] at h;exact .inr ⟨q,h⟩
theorem GK.wr(L:GK prog w WM D Yj X H)(nd:(Yl.map (·.1)).Nodup)(hm:∀p∈Yj,p.1≠a->p∈Yl)(h:OP prog w Yl a o)(hd:∀b c as,H b=some (.inst c as)->D b≠a)(hx:∀p∈X,p.1≠a):GK prog w WM D Yl X (H.put a o):=by
 have pl:plain o=true:=AR h λU U h=>h.plain;refine⟨nd,λb o' e=>?_,λb c as e=>?_,λp hp=>?_⟩
 ·rcases Gf e with⟨rfl,rfl⟩|⟨q,e⟩
  ·exact .inr (.inr h)
  ·exact(L.ob b o' e).mono (λc as z=>⟨rfl,λp hp k=>hm p hp (k▸hd b c as (z▸e))⟩) λp hp k=>hm p hp (k▸q)
 ·rcases Gf e with⟨rfl,rfl⟩|⟨q,e⟩
  ·exact zT pl
  ·refine Am (L.dj b c as e) λd1 d2=>?_;refine⟨by exact(Ab _ _ (hd b c as e)).symm▸d1,λa' c' as' e' ed=>?_⟩
   rcases Gf e' with⟨rfl,rfl⟩|⟨q',e'⟩
   ·exact zT pl
   ·exact d2 a' c' as' e' ed
 ·refine CV (L.xs p hp) λp1 p2 p3=>?_;refine⟨hm p p1 (hx p hp),by exact(Ab _ _ (hx p hp)).symm▸p2,λb c as e=>?_⟩
  rcases Gf e with⟨rfl,rfl⟩|⟨q,e⟩
  ·exact zT pl
  ·exact p3 b c as e
theorem GK.alloc(L:GK prog w WM D Yj X H){x:Nat}{ob:dK}(h1:x∉Yj.map (·.1))(h:OB prog w o ob):GK prog w WM D ((x,ob)::Yj) X (H.put x o) :=
 L.wr (ncR ⟨h1,L.nd⟩) (λp hp U=>.tail _ hp) ⟨ob,.head _,h⟩ (λb c as e z=>h1 (z▸L.dkey e)) λp hp z=>h1 (z▸key (L.xs p hp).1)
noncomputable def QV(d:Nat)(o:dK)(l:Bw):Bw:=l.map λp=>if p.1=d then(d,o) else p
theorem LJ(d:Nat)(o:dK)(l:Bw):(QV d o l).map (·.1)=l.map (·.1):=by
 unfold QV;rw[cq];refine gk λp U=>?_
 show(if p.1=d then(d,o) else p).1=p.1
 split
 ·rename_i h;exact h.symm
 ·rfl
theorem GA{d:Nat}{o:dK}{l:Bw}{p:Zh×dK}(hp:p∈l)(hd:p.1≠d):p∈QV d o l:=fV.mpr ⟨p,hp,if_neg hd⟩
theorem LK{d:Nat}{o o':dK}{l:Bw}(hp:(d,o')∈l):(d,o)∈QV d o l:=fV.mpr ⟨_,hp,if_pos rfl⟩
theorem NL{d:Nat}{o o':dK}:∀{l:Bw},(l.map (·.1)).Nodup->(d,o)∈l->PySem.W.Upd d o o' l (QV d o' l)
 | p::l,nd,hp=>by
  refine Am (ncP nd) λn1 n2=>?_;by_cases q:p.1=d
  ·have e:p=(d,o):=(mcP hp).elim Eq.symm λh=>absurd (show p.1∈_ from q▸key h) n1
   subst e;have hr:∀r∈l,r.1≠d:=λr hr e=>n1 (show d∈_ from e▸key hr)
   have:QV d o' ((d,o)::l)=(d,o')::l:=by
    show(if d=d then(d,o') else(d,o))::_=_
    refine(if_pos rfl).symm▸?_
    congr 1
    exact(gk (g:=id) (λp hp=>if_neg (hr p hp))).trans (List.map_id _)
   exact this.symm▸.head hr
  ·have:QV d o' (p::l)=p::QV d o' l:=congrArg (·::QV d o' l) (if_neg q)
   exact this.symm▸.tail q (NL n2 ((mcP hp).resolve_left λe=>q (e▸rfl)))
theorem GK.change(L:GK prog w WM D Yj X H){o':O}{ob ob':dK}(h:H a=some o)(hm:(a,ob')∈Yj)(h':OB prog w o' ob):GK prog w WM D (QV a ob Yj) X (H.put a o') :=
 L.wr (by rw[LJ];exact L.nd) (λp hp hd=>GA hp hd) ⟨ob,LK hm,h'⟩ (λb c as e q=>by have:=(L.dj b c as e).1;exact zS (h▸q▸this)) λp hp e=>by
  have:=(L.xs p hp).2.1;exact zS (h▸e▸this)
theorem GK.wrI(L:GK prog w WM D Yj X H){c:Cl}{as:As}(nd:(Yl.map (·.1)).Nodup)(hb:∀b,b≠a->D' b=D b)(hm:∀p∈Yj,p.1≠a->p.1≠D' a->p∈Yl)(h:OI D' Yl a (.inst c as))(hn:H (D' a)=Yu)(hne:D' a≠a)
 (hd:∀b c as,b≠a->H b=some (.inst c as)->D b≠a/\D b≠D' a)(hx:∀p∈X,p.1≠a/\p.1≠D' a):GK prog w WM D' Yl X (H.put a (.inst c as)):=by
 refine⟨nd,λb o' e=>?_,λb c as e=>?_,λp hp=>?_⟩
 ·rcases Gf e with⟨rfl,rfl⟩|⟨q,e⟩
  ·exact .inl h
  ·exact(L.ob b o' e).mono (λc as z=>⟨hb b q,λp hp k=>Am (hd b c as q (z▸e)) λk1 k2=>hm p hp (k▸k1) (k▸k2)⟩) λp hp k=>hm p hp (k▸q) λz=>by exact zS (e▸k▸z▸hn)
 ·rcases Gf e with⟨rfl,z⟩|⟨q,e⟩
  ·cases z
   refine⟨by exact(Ab _ _ hne).symm▸hn,λa' c' as' e' ed=>?_⟩
   rcases Gf e' with⟨z,_⟩|⟨q',e'⟩
   ·exact z
   ·exact absurd ((hb a' q').symm.trans ed) (hd a' c' as' q' e').2
  ·refine Am (L.dj b c as e) λd1 d2=>?_;refine(hb b q).symm▸⟨by rw[Ab _ _ (hd b c as q e).1];exact d1,λa' c' as' e' ed=>?_⟩
   rcases Gf e' with⟨z,_⟩|⟨q',e'⟩
   ·rw[z] at ed;exact absurd ed.symm (hd b c as q e).2
   ·exact d2 a' c' as' e' ((hb a' q').symm.trans ed)
 ·refine CV (L.xs p hp) λp1 p2 p3=>?_;refine Am (hx p hp) λx1 x2=>?_;refine⟨hm p p1 x1 x2,by exact(Ab _ _ x1).symm▸p2,λb c as e=>?_⟩
  rcases Gf e with⟨rfl,z⟩|⟨q,e⟩
  ·exact λz=>x2 z.symm
  ·exact(hb b q).symm▸p3 b c as e
theorem GK.allocInst(L:GK prog w WM D Yj X H){x dx:Nat}{c:Cl}(h1:x∉Yj.map (·.1))(h3:dx∉Yj.map (·.1))(h4:WM.get? dx=Yu)(hne:dx≠x) :
 ∃D',GK prog w WM D' ((x,instObj (C5 c) dx)::(dx,dictOf [] 0)::Yj) X (H.put x (.inst c [])):=by
 have e:(if x=x then dx else D x)=dx:=if_pos rfl
 refine⟨λb=>if b=x then dx else D b,L.wrI ?_ (λb q=>if_neg q) (λp hp U U=>.tail _ (.tail _ hp)) ?_ ?_ ?_ ?_ ?_⟩
 ·exact ncR ⟨λq=>(mcP q).elim (λq=>hne q.symm) h1,ncR ⟨h3,L.nd⟩⟩
 ·exact⟨c,[],[],0,rfl,by show(x,instObj (C5 c) (if x=x then dx else D x))∈_;exact e.symm▸.head _,by show((if x=x then dx else D x),_)∈_;rw[e];exact .tail _ (.head _),.nil⟩
 ·show H (if x=x then dx else D x)=_;exact e.symm▸L.none h3 h4
 ·show(if x=x then dx else D x)≠x;rw[e];exact hne
 ·show ∀b c as,b≠x->H b=some (.inst c as)->D b≠x/\D b≠(if x=x then dx else D x);exact e.symm▸(λb c as U z=>⟨λq=>h1 (q▸L.dkey z),λq=>h3 (q▸L.dkey z)⟩)
 ·show ∀p∈X,p.1≠x/\p.1≠(if x=x then dx else D x);exact e.symm▸(λp hp=>⟨λq=>h1 (q▸key (L.xs p hp).1),λq=>h3 (q▸key (L.xs p hp).1)⟩)
theorem GK.setAttr(L:GK prog w WM D Yj X H){c:Cl}{as as':As}{es':List gf}{n':Nat}(h:H a=some (.inst c as))(h':A2 ER as' es') :
 GK prog w WM D (QV (D a) (dictOf es' n') Yj) X (H.put a (.inst c as')):=by
 refine Am (L.dj a c as h) λd1 d2=>?_;refine Dy ((L.ob _ _ h).inst) λes n m1 m2 U=>?_;have hne:a≠D a:=λe=>by rw[<- e,h] at d1;exact zS d1
 refine L.wrI (by rw[LJ];exact L.nd) (λU U=>rfl) (λp hp U k=>GA hp k) ⟨c,as',es',n',rfl,GA m1 hne,LK m2,h'⟩ d1 (aL hne) (λb c' as'' q e=>⟨λz=>?_,λz=>q (d2 b c' as'' e z)⟩) λp hp=>?_
 ·have:=(L.dj b c' as'' e).1;rw[z,h] at this;exact zS this
 ·refine CV (L.xs p hp) λU p2 p3=>?_;refine⟨λe=>?_,aL (p3 a c as h)⟩;rw[e,h] at p2;exact zS p2
theorem GK.addX(L:GK prog w WM D Yj X H){x:Nat}{ob:dK}(h1:x∉Yj.map (·.1))(h2:WM.get? x=Yu):GK prog w WM D ((x,ob)::Yj) ((x,ob)::X) H:=by
 refine⟨ncR ⟨h1,L.nd⟩,λa o e=>(L.ob a o e).mono (λU U U=>⟨rfl,λp hp U=>.tail _ hp⟩) λp hp U=>.tail _ hp,L.dj,λp hp=>?_⟩;rcases mcP hp with rfl|hp
 ·exact⟨.head _,L.none h1 h2,λa c as e z=>h1 (show x∈_ from(show D a=x from z)▸L.dkey e)⟩
 ·refine CV (L.xs p hp) λp1 p2 p3=>?_;exact⟨.tail _ p1,p2,p3⟩
theorem GK.dropX{X':Bw}(L:GK prog w WM D Yj X H)(hX:∀p∈X',p∈X):GK prog w WM D Yj X' H:=⟨L.nd,L.ob,L.dj,λp hp=>L.xs p (hX p hp)⟩
end
section
set_option genInjectivity false
structure Cx where
 WM:aV
 L:Zh
 X:Bw
 gs:Array aP
 dr:Drawn
 os:Y7
noncomputable abbrev Cx.x(c:Cx)(X:Bw):Cx:={c with X:=X}
noncomputable abbrev Cx.lx(c:Cx)(L:Zh)(X:Bw):Cx:={c with L:=L,X:=X}
noncomputable abbrev Cx.g(c:Cx)(gs:Array aP):Cx:={c with gs:=gs}
section
variable(prog:Y8)(w:Y0)
inductive LedE (WM:aV) (L:Zh) (X:Bw) (H:MH) (h:aV):Prop
 | mk (D:Nat->Nat) (Yj:Bw) (N:gN WM L h Yj) (L':GK prog w WM D Yj X H):LedE WM L X H h
structure AU(c:Cx)(m:Zf->Option Yr)(H:MH)(s:Yq):Prop where
 fr:Fr c.WM c.L s.heap m
 led:LedE prog w c.WM c.L c.X H s.heap
 gs:∀(k:Nat) (st:aP),c.gs[k]?=some st->s.gens[k]?=some st
 dr:Zs s.gens
 os:s.os=c.os
def Bh(ρ:As)(m:Zf->Option Yr):Prop:=∀x v,AN x ρ=some v->∃y,m (nm x)=some y/\VR v y
structure EO(env:eE)(L:Zh)(κ:Kp)(sc:ZR):Prop where
 isc:env.scope=sc
 ikd:sc.kind=eT
 ilo:env.locals=L
 igl:env.globals=mainGlobals
 ibi:env.builtins=builtinsNs
 ice:∀x a,AN x κ=some a->env.cells.lookup (nm x)=some a
 icl:∀p∈sc.names,p.2=aj->∃a,env.cells.lookup p.1=some a
inductive PE (c:Cx) (m:Zf->Option Yr) (Q:V->MH->Prop) (y:Yr) (s:Yq):Prop
 | mk (v:V) (H:MH) (r:VR v y) (R:AU prog w c m H s) (q:Q v H):PE c m Q y s
inductive PB (c:Cx) (m:Zf->Option Yr) (Q:Bool->MH->Prop) (b:Bool) (s:Yq):Prop
 | mk (H:MH) (R:AU prog w c m H s) (q:Q b H):PB c m Q b s
inductive PEs (c:Cx) (m:Zf->Option Yr) (Q:List V->MH->Prop) (ys:List Yr) (s:Yq):Prop
 | mk (vs:List V) (H:MH) (r:A2 VR vs ys) (R:AU prog w c m H s) (q:Q vs H):PEs c m Q ys s
end
noncomputable def PZ(x:Zf):Bool:=!(x==("__debug__":Zf))&&!(x==("__classdict__":Zf))
theorem nms_ok:Ry.all (λl=>PZ ⟨l.toArray⟩)=true:=by decide +kernel
theorem V0(x:Nat):PZ (nm x)=true:=by
 refine oCs (Ry[x]?) (λh=>?_) λs h=>?_
 ·
  have:∀s:Zf,s.cps.size≠1->(nm x==s)=false:=λs hs=>beq_eq_false_iff_ne.mpr λe=>hs (by refine e▸?_;unfold nm;exact h▸rfl)
  unfold PZ;rw[this _ (by decide +kernel),this _ (by decide +kernel)];rfl
 ·unfold nm;exact h.symm▸laP nms_ok _ (aH h)
theorem GB(x:Nat):(nm x==("__debug__":Zf))=false:=by
 have:=(Zv.mp (V0 x)).1;rwa [Zq] at this
theorem V1(x:Nat):(nm x==("__classdict__":Zf))=false:=by
 have:=(Zv.mp (V0 x)).2;rwa [Zq] at this
theorem Bj{v:V}{y:Yr}{K:Int->Prop}(h:Mw v K)(r:VR v y):∃i t,v=.int i/\y=.int i t/\K i:=by
 cases r with
 | int i t=>exact⟨i,t,rfl,rfl,h⟩
 | _=>exact h.elim
theorem CK{v:V}{y:Yr}{K:Nat->Prop}(h:HD v K)(r:VR v y):∃a,v=.ref a/\y=.ref a/\K a:=by
 cases r with
 | ref a=>exact⟨a,rfl,rfl,h⟩
 | _=>exact h.elim
section
variable{prog:Y8}{w:Y0}{A:Za}{env:eE}{c:Cx}{m:Zf->Option Yr}{H:MH}{s:Yq}{κ:Kp}{sc:ZR}{ρ:As}{Er:Yr->Yq->Prop}{Q:V->MH->Prop}
theorem AU.tok(R:AU prog w c m H s)(t:Nat):AU prog w c m H {s with toks:=t}:=⟨R.fr,R.led,R.gs,R.dr,R.os⟩
theorem AU.heap(R:AU prog w c m H s){m':Zf->Option Yr}{H':MH}{h':aV}{t:Nat}(F:Fr c.WM c.L h' m'){D:Nat->Nat}{Yj:Bw}(N:gN c.WM c.L h' Yj)(L:GK prog w c.WM D Yj c.X H') :
 AU prog w c m' H' {s with heap:=h',toks:=t}:=⟨F,⟨D,Yj,N,L⟩,R.gs,R.dr,R.os⟩
theorem PE.b{b:Bool}(R:AU prog w c m H s)(q:Q (.bool b) H):PE prog w c m Q (.bool b) s:=⟨_,_,.bool b,R,q⟩
theorem PE.n(R:AU prog w c m H s)(q:Q .none H):PE prog w c m Q .none s:=⟨_,_,.none,R,q⟩
theorem PE.i{i:Int}{t:Tok}{k:Nat}(R:AU prog w c m H s)(q:Q (.int i) H):PE prog w c m Q (.int i t) {s with toks:=k}:=⟨_,_,.int i t,R.tok k,q⟩
theorem s_var{x p v}(O:EO env c.L κ sc)(hk:sc.names.lookup (nm x)=some .local)(l:Bh ρ m)(R:AU prog w c m H s)(g:AN x ρ=some v)(q:Q v H) :
 wpAny (model prog w) A (eval (.Name (nm x) p) env) (PE prog w c m Q) Er s:=by
 refine AR (l x v g) λy e r=>?_;refine eU (bz (by rw[O.isc];exact O.ikd) (by unfold a7;rw[O.isc];exact hk) (by rw[O.ilo];exact R.fr.ns) e ⟨v,H,r,R,q⟩) (GB x)
theorem AU.pl(R:AU prog w c m H s){a:Nat}{o:O}(h:H a=some o)(p:plain o=true):∃D Yj ob,gN c.WM c.L s.heap Yj/\GK prog w c.WM D Yj c.X H/\(a,ob)∈Yj/\OB prog w o ob:=by
 refine AJ λGG hG=>?_;obtain⟨D,Yj,N,L⟩:=R.led;refine AR ((L.ob _ _ h).pl p) λob h1 h2=>?_;refine hG ?_;exact⟨D,Yj,ob,N,L,h1,h2⟩
def Ob(prog:Y8)(w:Y0)(H:MH)(h:aV):Prop:=∀a o,H a=some o->plain o=true->∃ob,h.get? a=some ob/\OB prog w o ob/\(a==sysModules)=false
theorem AU.obs(R:AU prog w c m H s)(hm:(c.WM.get? sysModules).isSome=true):Ob prog w H s.heap:=λa o h p=>by
 refine O3 (R.pl h p) λD Yj ob N L h1 h2=>?_;exact⟨ob,N.get h1,h2,beq_eq_false_iff_ne.mpr λe=>by replace hm:=(N.fresh h1)▸e▸hm;exact zT hm⟩
theorem Ob.cell(R:Ob prog w H s.heap){a:Nat}{v:V}(h:H a=some (.cell (some v))):∃y,s.heap.IsCell a (some y)/\VR v y:=by
 refine Es (R a _ h rfl) λo h1 z U=>?_;refine AR z λy hd r=>?_;exact⟨y,⟨o,h1,hd⟩,r⟩
theorem Ob.lst(R:Ob prog w H s.heap){a:Nat}{vs:List V}(h:H a=some (.list vs)\/H a=some (.stk vs)):∃xs,s.heap.IsList a xs.toArray/\A2 VR vs xs:=by
 rcases h with h|h<;>obtain⟨o,h1,⟨xs,n,rfl,r⟩,U⟩:=R a _ h rfl<;>exact⟨xs,⟨_,h1,rfl,n,rfl⟩,r⟩
theorem Ob.tup(R:Ob prog w H s.heap){a:Nat}{vs:List V}(h:H a=some (.tup vs)):∃xs,s.heap.IsTuple a xs.toArray/\A2 VR vs xs:=by
 refine Es (R a _ h rfl) λo h1 z U=>?_;refine AR z λxs y r=>?_;obtain rfl:=y;exact⟨xs,⟨_,h1,rfl,_,rfl⟩,r⟩
theorem AU.cell(R:AU prog w c m H s){a:Nat}{v:V}(h:H a=some (.cell (some v))):∃y,s.heap.IsCell a (some y)/\VR v y:=by
 refine O3 (R.pl h rfl) λD Yj o N L h1 z=>?_;refine AR z λy hd r=>?_;exact⟨y,⟨o,N.get h1,hd⟩,r⟩
theorem AU.lo(R:AU prog w c m H s):∃oL,s.heap.get? c.L=some oL:=NB R.fr.ns λo U U h U=>⟨o,h⟩
theorem AU.lst(R:AU prog w c m H s){a:Nat}{vs:List V}(h:H a=some (.list vs)\/H a=some (.stk vs)):∃xs,s.heap.IsList a xs.toArray/\A2 VR vs xs:=by
 rcases h with h|h<;>obtain⟨D,Yj,o,N,L,h1,xs,n,rfl,r⟩:=R.pl h rfl<;>exact⟨xs,⟨_,N.get h1,rfl,n,rfl⟩,r⟩
theorem AU.tup(R:AU prog w c m H s){a:Nat}{vs:List V}(h:H a=some (.tup vs)):∃xs,s.heap.IsTuple a xs.toArray/\A2 VR vs xs:=by
 refine O3 (R.pl h rfl) λD Yj o N L h1 z=>?_;refine AR z λxs y r=>?_;obtain rfl:=y;exact⟨xs,⟨_,N.get h1,rfl,_,rfl⟩,r⟩
theorem Sy{x p v a}(O:EO env c.L κ sc)(hk:sc.names.lookup (nm x)=some .cell\/sc.names.lookup (nm x)=some .free)(R:AU prog w c m H s)(g:AN x κ=some a)(hc:H a=some (.cell (some v)))(q:Q v H) :
 wpAny (model prog w) A (eval (.Name (nm x) p) env) (PE prog w c m Q) Er s:=by
 refine AR (R.cell hc) λy hcell r=>?_;refine iG (hk) (λhk=>?_) λhk=>?_
 ·exact eU (wpAny_loadName_cell (by rw[O.isc];exact O.ikd) (by unfold a7;rw[O.isc];exact hk) (O.ice _ _ g) hcell ⟨v,H,r,R,q⟩) (GB x)
 ·exact eU (eL (by rw[O.isc];exact O.ikd) (by unfold a7;rw[O.isc];exact hk) (O.ice _ _ g) hcell ⟨v,H,r,R,q⟩ (V1 x)) (GB x)
theorem A2.empty{vs:List V}{xs:List Yr}(h:A2 VR vs xs):xs.toArray.isEmpty=vs.isEmpty:=by cases h<;>rfl
theorem JO{v:V}{y:Yr}{Q:Bool->MH->Prop}(R:AU prog w c m H s)(r:VR v y)(t:Fq H v λb=>Q b H):wpAny (model prog w) A (truthy y) (PB prog w c m Q) Er s:=by
 cases r with
 | none=>exact truthy_none ⟨H,R,t⟩
 | bool b=>exact cu ⟨H,R,t⟩
 | int i t'=>exact P.truthy_int ⟨H,R,t⟩
 | ref a =>
  obtain⟨vs,h|h,hl,q⟩:=t
  ·refine AR (R.lst (.inl h)) λxs h1 h2=>?_;have:=h2.length;exact wpAny_truthy_list h1 (by rw[ZI,<- this];exact ozB rfl ‹_›) ⟨H,R.tok _,by exact h2.empty.symm▸q⟩
  ·refine AR (R.tup h) λxs h1 h2=>?_;have:=h2.length;exact truthy_tuple h1 (by rw[ZI,<- this];exact ozB rfl ‹_›) ⟨H,R.tok _,by exact h2.empty.symm▸q⟩
theorem Fb{vs:List V}{ys:List Yr}(h:A2 VR vs ys){is:List Int}(e:F1 vs=some is):de ys is:=by
 induction h generalizing is with
 | nil=>obtain rfl:=Ys e;exact .nil
 | @cons a b l m r _ ih =>
  cases r with
  | int i t =>
   refine AR (Zx.mp (show(F1 l).map (i::·)=some is from e)) λjs e' z=>?_;obtain rfl:=z
   exact .cons i t (ih e')
  | _=>exact zN e
theorem NM(i:Int):∀is:List Int,is.contains i=is.any (·==i)
 | []=>rfl
 | j::r=>by rw[hV,gt,NM i r,Bool.beq_comm]
theorem HY{M:Model}{x y:Yr}{R:Bool->Yq->Prop}(h:wpAny M A (compareOp .In x y) (λv s=>∃b,v=fX b/\R b s) Er s):wpAny M A (contains y x) R Er s:=by
 have h':wpAny M A (contains y x>>=λb=>pure (fX b)) (λv s=>∃b,v=fX b/\R b s) Er s:=h;intro Γ p hΓ;have:=h' Γ p hΓ;rw[Sem.wp_bind'] at this;refine Sem.wp_mono M Γ _ (λb p s h=>?_) (λU U U h=>h) _ _ this;rw[Sem.wp_pure'] at h;refine AR h λb' e r=>?_;obtain rfl:=Value.bool.inj e;exact r
theorem Ux{i:Int}{a:Nat}{tk:Tok}{o:O}{b:Bool}{P:Yr->Yq->Prop}(R:Ob prog w H s.heap)(ho:H a=some o)(hi:I5 i o b)(fin:∀k,P (.bool b) {s with toks:=k}):wpAny (model prog w) A (compareOp .In (.int i tk) (.ref a)) P Er s:=by
 cases hi with
 | list hl ei =>
  refine AR (R.lst (.inl ho)) λxs h1 h2=>?_;rw[NM] at fin;exact in_list_ints h1 (Fb h2 ei) (fin s.toks)
 | tup hl ei =>
  refine AR (R.tup ho) λxs h1 h2=>?_;rw[NM] at fin;exact in_tuple_ints h1 (Fb h2 ei) (fin s.toks)
 | @set xs hl =>
  refine Es (R a _ ho rfl) λob h1 z U=>?_;refine AR z λn h2 h3=>?_;exact wpAny_inSet_of (intKind_is _ _ _ _) rfl (h2.setOf h1 (by unfold scanBound;exact ozS ‹_› ‹_›)) (fin _)
theorem s_isn{a b:Nat}(R:AU prog w c m H s)(h:Km H a b λt=>Q (.bool t) H):wpAny (model prog w) A (compareOp .IsNot (.ref a) (.ref b)) (PE prog w c m Q) Er s:=by
 unfold Km at h;refine CV h λy x q=>?_;refine HT y λW6 YU ha=>?_;refine HT x λYV YW hb=>?_;by_cases e:a=b
 ·subst e;exact wpAny_isNot_ref_self (PE.b R (by rwa [bne_self_eq_false] at q))
 ·replace q:=(show(a !=b)=true from bne_iff_ne.mpr e)▸q
  obtain⟨D,Yj,N,L⟩:=R.led;refine Dy ((L.ob _ _ ha).inst) λU U h1 U U=>?_;refine Dy ((L.ob _ _ hb).inst) λU U h2 U U=>?_;exact wpAny_isNot_ref_other e (N.get h1) (N.get h2) (λz=>nomatch z) (PE.b R q)
theorem V2{op:fm}{v u:V}{y z:Yr}(hm:(c.WM.get? sysModules).isSome=true)(hu:8*A.depth+A.units<=7900)(R:AU prog w c m H s)(r:VR v y)(r':VR u z)(h:Hs H op v u λt=>Q (.bool t) H) :
 wpAny (model prog w) A (compareOp op y z) (PE prog w c m Q) Er s:=by
 have i2:∀{K:Int->Int->Prop},Ly v u K->∃i t j t',y=.int i t/\z=.int j t'/\K i j:=λh=>by
  refine Dy (Bj h r) λi t U x h=>?_;obtain rfl:=x;refine Dy (Bj h r') λj t' U x h=>?_;obtain rfl:=x;exact⟨i,t,j,t',rfl,rfl,h⟩
 cases op with
 | Eq=>refine x43 (i2 h) λi t j t' x p h=>?_;obtain rfl:=x;obtain rfl:=p;exact P.eq_int (PE.b R h)
 | Lt=>refine x43 (i2 h) λi t j t' x p h=>?_;obtain rfl:=x;obtain rfl:=p;exact P.lt_int (PE.b R h)
 | LtE=>refine x43 (i2 h) λi t j t' x p h=>?_;obtain rfl:=x;obtain rfl:=p;exact P.le_int (PE.b R h)
 | Gt=>refine x43 (i2 h) λi t j t' x p h=>?_;obtain rfl:=x;obtain rfl:=p;exact P.gt_int (PE.b R h)
 | GtE=>refine x43 (i2 h) λi t j t' x p h=>?_;obtain rfl:=x;obtain rfl:=p;exact P.ge_int (PE.b R h)
 | NotEq =>
  cases r with
  | bool b =>
   cases r' with
   | bool b'=>exact PySem.SeqAt.RcNeAt.bool_bool (A:=A) (s:=s) b b' prog w Er (PE prog w c m Q) (PE.b R h)
   | _=>exact h.elim
  | int i t=>cases r' with
   | int j t'=>exact P.ne_int (PE.b R h)
   | _=>exact h.elim
  | ref a =>
   cases r' with
   | ref b =>
    refine AJ λGG hG=>?_;refine x47 h λvs us is js h1 h2 h3 h4 h5 h6 q=>?_;refine AR (R.lst (.inl h1)) λxs k1 k2=>?_;refine AR (R.lst (.inl h2)) λys k3 k4=>?_;refine hG ?_;refine PySem.W.ke_ne_ints k1 k3 (Fb k2 h3) (Fb k4 h4) (by show A.units+64<9900;exact ozF ‹_›) (PE.b R ?_)
    have:(is !=js)=!decide (is=js):=by by_cases e:is=js<;>simp[e]
    exact this▸q
   | _=>exact h.elim
  | _=>exact h.elim
 | IsNot =>
  cases r' with
  | none =>
   cases r with
   | none=>exact wpAny_isNot_self rfl (PE.b R h)
   | int i t=>exact wpAny_isNot_other rfl (λh=>nomatch h) (PE.b R h)
   | _=>exact h.elim
  | ref b =>
   refine Es (CK h r) λa U x h=>?_;obtain rfl:=x;exact s_isn R h
  | _=>refine Es (CK h r) λa U x h=>?_;obtain rfl:=x;exact h.elim
 | In =>
  refine Dy (Bj h r) λi t U x h=>?_;obtain rfl:=x;refine Es (CK h r') λa U x p=>?_;obtain rfl:=x;refine Dy p λo b ho hi q=>?_;exact Ux (R.obs hm) ho hi λk=>PE.b (R.tok k) q
 | NotIn =>
  refine Dy (Bj h r) λi t U x h=>?_;obtain rfl:=x;refine Es (CK h r') λa U x p=>?_;obtain rfl:=x;refine Dy p λo b ho hi q=>?_;exact(Yo (HY (Ux (R.obs hm) ho hi λk=>⟨_,rfl,Yv (PE.b (R.tok k) q)⟩)):wpAny _ _ (do return fX (!(<- contains (.ref a) (.int i t)))) _ _ s)
 | _=>exact h.elim
theorem QW{a:Int}(h:a.natAbs<=1000000):gm a<=64:=by
 unfold gm;split
 ·exact Zp _
 ·rename_i hz;have h0:a.natAbs≠0:=λe=>hz (by rw[Int.natAbs_eq_zero.mp e];rfl)
  have:a.natAbs.log2<20:=(Nat.log2_lt h0).mpr (Zr h (by decide))
  exact Yn (m:=20) ‹_› (by decide)
theorem Sz{op:bW}{v u:V}{y z:Yr}{G:V->Prop}{P':Yr->Yq->Prop}(r:VR v y)(r':VR u z)(h:No op v u G)(fin:∀i t k,G (.int i)->P' (.int i t) {s with toks:=k}) :
 wpAny (model prog w) A (binaryOp op y z) P' Er s:=by
 refine Dy (Bj h r) λi t U x h=>?_;obtain rfl:=x;refine Dy (Bj h r') λj t' U x h=>?_;obtain rfl:=x;cases op with
 | Add=>exact P.add_int (fin _ _ _ h)
 | Sub=>exact P.sub_int (fin _ _ _ h)
 | Mult=>exact P.mul_int (fin _ _ _ h.2) (h.1.elim (λk=>.of_left (QW k)) λk=>.of_right (QW k))
 | Mod=>exact mod_int' h.1 (fin _ _ _ h.2)
 | RShift=>exact rshift_int h.1 (fin _ _ _ h.2)
 | FloorDiv=>exact floordiv_int h.1 (fin _ _ _ h.2.2) (.inl (PyProof.noPylong_small h.2.1))
 | _=>exact h.elim
theorem s_bin{op:bW}{v u:V}{y z:Yr}(R:AU prog w c m H s)(r:VR v y)(r':VR u z)(h:No op v u λx=>Q x H) :
 wpAny (model prog w) A (binaryOp op y z) (PE prog w c m Q) Er s:=Sz r r' h λU U k q=>PE.i (k:=k) R q
theorem TA{op:bW}{v u:V}{y z:Yr}(ho:op=.Add)(R:AU prog w c m H s)(r:VR v y)(r':VR u z)(h:No op v u λx=>Q x H) :
 wpAny (model prog w) A (inplaceOp op y z) (PE prog w c m Q) Er s:=by
 subst ho;refine Dy (Bj h r) λi t U q h=>?_;obtain rfl:=q;refine Dy (Bj h r') λj t' U q h=>?_;obtain rfl:=q;exact P.iadd_int (PE.i R h)
end
end
section
variable{prog:Y8}{w:Y0}{A:Za}{env:eE}{c:Cx}{m:Zf->Option Yr}{κ:Kp}{sc:ZR}{K:aC}
structure KF(K:aC)(isAttr:Nat->Bool):Prop where
 meth:∀c m f,Bt c m=some f->findIn K (.ref (C5 c)) (nm m)=some (some (.ref f))/\isFn K (.ref f)=true/\keepIn K (.ref f)=true
 pget:∀c x,plainGet K (C5 c) x=true
 hdic:∀c,hasDictIn K (C5 c)=true
 attr:∀c n,isAttr n=true->∃a,findIn K (.ref (C5 c)) (nm n)=some a/\noGet K a=true/\takerIn K (C5 c) (nm n)=some Yu/\copiedNames.contains (nm n)=false/\∀v,GW c n=some v->v=.none/\a=some .none
 noneGet:specialIn K .none "__get__"=some Yu
 seta:∀c,findIn K (.ref (C5 c)) "__setattr__"=some (some (.builtin "object.__setattr__"))
 over:∀c,plainOver K (C5 c)=true
section
variable{H:MH}{s:Yq}{ρ:As}{Er:Yr->Yq->Prop}{isAttr:Nat->Bool}
theorem RQ{v:V}{y:Yr}(r:VR v y):handedIn y=true:=by cases r<;>rfl
theorem AU.inst(R:AU prog w c m H s){a:Nat}{cl:Cl}{as:As}(e:H a=some (.inst cl as)) :
 ∃D Yj es n,gN c.WM c.L s.heap Yj/\GK prog w c.WM D Yj c.X H/\InstAt s.heap a (instObj (C5 cl) (D a)) (C5 cl) (some (dictOf es n))/\(D a,dictOf es n)∈Yj/\A2 ER as es:=by
 refine AJ λGG hG=>?_;obtain⟨D,Yj,N,L⟩:=R.led;refine Dy ((L.ob _ _ e).inst) λes n h1 h2 h3=>?_;refine hG ?_;exact⟨D,Yj,es,n,N,L,InstAt.of_news N h1 h2,h2,h3⟩
theorem TB{n:Nat}{v:V}{y:Yr}{ex:Bool}{Q:V->MH->Prop}(F:KF K isAttr)(X₀:K.In c.WM)(hn:isAttr n=true)(R:AU prog w c m H s)(r:VR v y)(h:MW H v n λu=>Q u H) :
 wpAny (model prog w) A (getAttr y (nm n) ex) (PE prog w c m Q) Er s:=by
 refine AJ λGG hG=>?_;refine Es (CK h r) λa U z t=>?_;obtain rfl:=z;refine Gs t λcl as ho h=>?_;refine x45 (R.inst ho) λD Yj es k N L I hd h3=>?_;refine x15 (F.attr cl n hn) λat' f1 f2 f5 f3 f4=>?_;refine AR (ER.get (x:=n) h3) λg hg r=>?_;refine hG ?_;refine oCs (AN n as) (λhv=>?_) λv hv=>?_
 ·
  rw[hv] at h r;cases g with
  | some y=>exact r.elim
  | none =>
   cases hc:GW cl n with
   | none=>rw[hc] at h;exact h.elim
   | some u =>
    refine Am (f4 _ hc) λz t=>?_;obtain rfl:=z;obtain rfl:=t;rw[hc] at h;exact get_cls R.fr X₀ I (F.pget cl _) (F.hdic cl) f1 F.noneGet rfl f3 hg ⟨_,_,.none,R.tok _,h⟩
 ·
  rw[hv] at h r;cases g with
  | none=>exact r.elim
  | some y=>exact get_own R.fr X₀ I (F.pget cl _) (F.hdic cl) f1 f2 hg (RQ r) ⟨_,_,r,R.tok _,h⟩
theorem TC{n:Nat}{v u:V}{y z:Yr}{Q:MH->Prop}{P:Unit->Yq->Prop}(F:KF K isAttr)(X₀:K.In c.WM)(hn:isAttr n=true)(R:AU prog w c m H s)(r:VR v y)(r':VR u z)(h:Qw H v n u Q)
 (q:∀H' s',AU prog w c m H' s'->Q H'->P () s'):wpAny (model prog w) A (setAttr y (nm n) z) P Er s:=by
 refine AJ λGG hG=>?_;refine Es (CK h r) λa U p o=>?_;obtain rfl:=p;refine Dy o λcl as ho hle hq=>?_;refine x45 (R.inst ho) λD Yj es k N L I hd h3=>?_;refine x14 (F.attr cl n hn) λU U U f3 U=>?_;refine AR (ER.get (x:=n) h3) λg hg U=>?_;refine hG ?_;have P':=ER.put (x:=n) (hs:=PyData.keyHash w.params (nm n)) (t:=s.toks+1) h3 r';refine set_dict R.fr X₀ N I rfl (F.seta cl) (F.over cl) f3 (F.hdic cl) (by exact hg▸rfl) rfl (NL L.nd hd) (by have:=P'.length;exact ozI ‹_› ‹_›) λh' F' N'=>q _ _ (R.heap F' N' (L.setAttr ho P')) hq
theorem Pa{n:Nat}{v:V}{y:Yr}{pl:Sem Bool}{P:Yr×List Yr->Yq->Prop}{G:Nat->Prop}(F:KF K isAttr)(X₀:K.In c.WM)(R:AU prog w c m H s)(r:VR v y)(h:Ba H v n G)(q:∀f,keepIn K (.ref f)=true->G f->P (.ref f,[y]) s) :
 wpAny (model prog w) A (getMethod y (nm n) pl) P Er s:=by
 refine Es (CK h r) λa U z u=>?_;obtain rfl:=z;refine Dy u λcl as ho hv h=>?_;refine x45 (R.inst ho) λD Yj es k N L I hd h3=>?_;refine AR (ER.get (x:=n) h3) λg hg r=>?_;replace r:=hv▸r;cases g with
 | some y=>exact r.elim
 | none =>
  refine oCs (Bt cl n) (λe=>?_) λf e=>?_
  ·rw[e] at h;exact h.elim
  ·
   rw[e] at h;refine CV (F.meth cl n f e) λm1 m2 m3=>?_;exact method_inst R.fr X₀ I (F.pget cl _) m1 m2 hg (q f m3 h)
end
section
set_option genInjectivity false
structure Vw where
 t:Nat
 a:ZJ
 b:ZJ
 c:ZJ
 xs:List ZJ
 kw:List bR
 z:Zf
 p:ef
 k:Const
 o:bW
 cs:List fm
 gs:List dg
 sc:ZR
 os:List (Option ZJ)
noncomputable def uT:UnaryOp->Nat
 | .Not=>5
 | .USub=>6
 | _=>0
noncomputable def bT:BoolOp->Nat
 | .And=>7
 | .Or=>8
noncomputable def vw(x:ZJ)(t:Nat)(p:ef)(a b c:ZJ)(xs:List ZJ):Vw:=⟨t,a,b,c,xs,[],⟨#[]⟩,p,.none,.Add,[],[],⟨.module,[],false,false,[]⟩,[]⟩
def AL(x:ZJ):Vw:=match x with
 | .Name z p=>{vw x 1 p x x x [] with z:=z}
 | .Attribute a z p=>{vw x 2 p a x x [] with z:=z}
 | .Call a xs kw p=>{vw x 3 p a x x xs with kw:=kw}
 | .Constant k _ p=>{vw x 4 p x x x [] with k:=k}
 | .UnaryOp u a p=>vw x (uT u) p a x x []
 | .BoolOp u xs p=>vw x (bT u) p x x x xs
 | .IfExp a b c p=>vw x 9 p a b c []
 | .Compare a cs xs p=>{vw x 10 p a x x xs with cs:=cs}
 | .BinOp a o b p=>{vw x 11 p a b x [] with o:=o}
 | .Tuple xs _ p=>vw x 12 p x x x xs
 | .List xs p=>vw x 13 p x x x xs
 | .Subscript a b p=>vw x 14 p a b x []
 | .Dict ks xs p=>{vw x 15 p x x x xs with os:=ks}
 | .ListComp a gs sc p=>{vw x 16 p a x x [] with gs:=gs,sc:=sc}
 | .DictComp a b gs sc p=>{vw x 17 p a b x [] with gs:=gs,sc:=sc}
 | .Slice l u st p=>{vw x 18 p x x x [] with os:=[l,u,st]}
 | _=>vw x 0 ⟨0,0,0,0⟩ x x x []
noncomputable def V3(x:ZJ):List Prop:=[True,∃z p,x=.Name z p,∃a z p,x=.Attribute a z p,∃a xs kw p,x=.Call a xs kw p,∃k n p,x=.Constant k n p,∃a p,x=.UnaryOp .Not a p,∃a p,x=.UnaryOp .USub a p,∃xs p,x=.BoolOp .And xs p,∃xs p,x=.BoolOp .Or xs p,
 ∃a b c p,x=.IfExp a b c p,∃a cs xs p,x=.Compare a cs xs p,∃a o b p,x=.BinOp a o b p,∃xs n p,x=.Tuple xs n p,∃xs p,x=.List xs p,∃a b p,x=.Subscript a b p,∃ks xs p,x=.Dict ks xs p,∃a gs sc p,x=.ListComp a gs sc p,∃a b gs sc p,x=.DictComp a b gs sc p,∃l u st p,x=.Slice l u st p]
def TD:Nat->List Prop->Prop
 | _,[]=>True
 | 0,a::_=>a
 | n+1,_::r=>TD n r
theorem Uy(x:ZJ):TD (AL x).t (V3 x):=by
 cases x with
 | Name=>exact⟨_,_,rfl⟩
 | Attribute=>exact⟨_,_,_,rfl⟩
 | Call=>exact⟨_,_,_,_,rfl⟩
 | Constant=>exact⟨_,_,_,rfl⟩
 | UnaryOp u a p=>cases u<;>first|trivial|exact⟨_,_,rfl⟩
 | BoolOp u a p=>cases u<;>exact⟨_,_,rfl⟩
 | IfExp=>exact⟨_,_,_,_,rfl⟩
 | Compare=>exact⟨_,_,_,_,rfl⟩
 | BinOp=>exact⟨_,_,_,_,rfl⟩
 | Tuple=>exact⟨_,_,_,rfl⟩
 | List=>exact⟨_,_,rfl⟩
 | Subscript=>exact⟨_,_,_,rfl⟩
 | Dict=>exact⟨_,_,_,rfl⟩
 | ListComp=>exact⟨_,_,_,_,rfl⟩
 | DictComp=>exact⟨_,_,_,_,_,rfl⟩
 | Slice=>exact⟨_,_,_,_,rfl⟩
 | _=>trivial
theorem AO{x:ZJ}{t:Nat}(h:Y4 (AL x).t t=true):TD t (V3 x):=Y6 h▸Uy x
end
section
set_option genInjectivity false
abbrev vt(x:ZJ)(n:Nat):Bool:=Y4 (AL x).t n
noncomputable def Mf(sc:ZR)(z:Zf):Bool:=sc.names.lookup z==some .globalImplicit
def Pb(sc:ZR)(x:ZJ)(y:Nat)(kd:bH):Bool:=vt x 1&&((AL x).z==nm y)&&(sc.names.lookup (nm y)==some kd)
def Id(sc:ZR)(x:ZJ)(z:Zf):Bool:=vt x 1&&((AL x).z==z)&&Mf sc z
def CX(x:ZJ):Bool:=vt x 1||vt x 2||vt x 3&&!(AL x).xs.isEmpty
def isE(x:ZJ):Bool:=!(vt x 5||vt x 7||vt x 8||vt x 9)
def Js(x:ZJ):Bool:=!(vt x 0||vt x 18)
noncomputable def FR{α:Type}(l:List α)(f:α->Bool):Bool:=match l with
 | [a]=>f a
 | _=>false
noncomputable def KS{α:Type}(l:List α)(f:α->α->Bool):Bool:=match l with
 | [a,b]=>f a b
 | _=>false
noncomputable def Ej{α:Type}(l:Option α)(f:α->Bool):Bool:=match l with
 | some a=>f a
 | none=>false
noncomputable def uptB(l:List (Option ZJ))(f:ZJ->Bool):Bool:=match l with
 | [none,some a,none]=>f a
 | _=>false
theorem an{a b:Bool}(h:(a&&b)=true):a=true/\b=true:=Zv.mp h
theorem NN{a b c:Bool}(h:(a&&b&&c)=true):a=true/\b=true/\c=true:=by
 refine Am (an h) λh h3=>?_;exact⟨(an h).1,(an h).2,h3⟩
theorem MP{a b c d:Bool}(h:(a&&b&&c&&d)=true):a=true/\b=true/\c=true/\d=true:=by
 refine Am (an h) λh hl=>?_;refine CV (NN h) λh1 h2 h3=>?_;exact⟨h1,h2,h3,hl⟩
theorem Rs{a b c d e:Bool}(h:(a&&b&&c&&d&&e)=true):a=true/\b=true/\c=true/\d=true/\e=true:=by
 refine Am (an h) λh hl=>?_;refine IM (MP h) λh1 h2 h3 h4=>?_;exact⟨h1,h2,h3,h4,hl⟩
theorem an6{a b c d e f:Bool}(h:(a&&b&&c&&d&&e&&f)=true):a=true/\b=true/\c=true/\d=true/\e=true/\f=true:=by
 refine Am (an h) λh hl=>?_;refine Nf (Rs h) λh1 h2 h3 h4 h5=>?_;exact⟨h1,h2,h3,h4,h5,hl⟩
theorem an7{a b c d e f g:Bool}(h:(a&&b&&c&&d&&e&&f&&g)=true):a=true/\b=true/\c=true/\d=true/\e=true/\f=true/\g=true:=by
 refine Am (an h) λh hl=>?_;refine x06 (an6 h) λh1 h2 h3 h4 h5 h6=>?_;exact⟨h1,h2,h3,h4,h5,h6,hl⟩
theorem an8{a b c d e f g x:Bool}(h:(a&&b&&c&&d&&e&&f&&g&&x)=true):a=true/\b=true/\c=true/\d=true/\e=true/\f=true/\g=true/\x=true:=by
 refine Am (an h) λh hl=>?_;refine x07 (an7 h) λh1 h2 h3 h4 h5 h6 h7=>?_;exact⟨h1,h2,h3,h4,h5,h6,h7,hl⟩
theorem an9{a b c d e f g x i:Bool}(h:(a&&b&&c&&d&&e&&f&&g&&x&&i)=true):a=true/\b=true/\c=true/\d=true/\e=true/\f=true/\g=true/\x=true/\i=true:=by
 refine Am (an h) λh hl=>?_;refine Vm (an8 h) λh1 h2 h3 h4 h5 h6 h7 h8=>?_;exact⟨h1,h2,h3,h4,h5,h6,h7,h8,hl⟩
theorem an10{a b c d e f g x i j:Bool}(h:(a&&b&&c&&d&&e&&f&&g&&x&&i&&j)=true):a=true/\b=true/\c=true/\d=true/\e=true/\f=true/\g=true/\x=true/\i=true/\j=true:=by
 refine Am (an h) λh hl=>?_;refine x09 (an9 h) λh1 h2 h3 h4 h5 h6 h7 h8 h9=>?_;exact⟨h1,h2,h3,h4,h5,h6,h7,h8,h9,hl⟩
theorem CE{α:Type}{l:List α}{f:α->Bool}(h:FR l f=true):∃a,l=[a]/\f a=true:=by
 match l,h with
 | [a],h=>exact⟨a,rfl,h⟩
theorem Hm{α:Type}{l:List α}{f:α->α->Bool}(h:KS l f=true):∃a b,l=[a,b]/\f a b=true:=by
 match l,h with
 | [a,b],h=>exact⟨a,b,rfl,h⟩
theorem D9{α:Type}{l:Option α}{f:α->Bool}(h:Ej l f=true):∃a,l=some a/\f a=true:=by
 match l,h with
 | some a,h=>exact⟨a,rfl,h⟩
theorem Uz{l:List (Option ZJ)}{f:ZJ->Bool}(h:uptB l f=true):∃a,l=[none,some a,none]/\f a=true:=by
 match l,h with
 | [none,some a,none],h=>exact⟨a,rfl,h⟩
theorem Pc{sc:ZR}{x:Zf}(h:Mf sc x=true):sc.names.lookup x=some .globalImplicit:=eq_of_beq h
theorem D4{sc x y kd}(h:Pb sc x y kd=true):(∃p,x=.Name (nm y) p)/\sc.names.lookup (nm y)=some kd:=by
 refine CV (NN h) λh1 h2 h3=>?_;clear h;refine HT (AO h1) λz p w=>?_;obtain rfl:=w;exact⟨⟨p,by exact(eq_of_beq h2)▸rfl⟩,eq_of_beq h3⟩
theorem Hn{sc x z}(h:Id sc x z=true):(∃p,x=.Name z p)/\Mf sc z=true:=by
 refine CV (NN h) λh1 h2 h3=>?_;clear h;refine HT (AO h1) λz' p y=>?_;obtain rfl:=y;exact⟨⟨p,by exact(eq_of_beq h2)▸rfl⟩,h3⟩
structure Ck where
 isAttr:Nat->Bool
 clN:Cl->Zf
 fnN:Nat->Zf
 isGl:Nat->Bool
 Yj:Cl->Bool
 via:Cl->Nat->Nat->Bool
 strict:Bool
noncomputable def isC(e:E):Bool:=E.casesOn (motive_1:=λU=>Bool) e false false (λU=>false) (λU=>false) (λU=>false) (λU=>false) (λU=>false) (λU U=>false) (λU U U U=>false) (λU U U=>false) (λU U U=>false) (λU U U U=>false) (λU U U=>false) (λU=>false) (λU=>false) (λU U=>false) (λU U=>false) (λU=>false) (λU=>false) (λU=>false) (λU=>false) (λU=>false) (λU U U=>false) (λU U U=>true) (λU U U U U=>false) (λU=>false) (λU U U=>false) (λU U=>false) (λU U=>false) (λU=>false) (λU=>false) false (λU=>false) (λU U=>false) (λU U U U=>false)
noncomputable def isL(e:E):Bool:=E.casesOn (motive_1:=λU=>Bool) e false false (λU=>false) (λU=>false) (λU=>false) (λU=>false) (λU=>false) (λU U=>false) (λU U U U=>false) (λU U U=>false) (λU U U=>false) (λU U U U=>false) (λU U U=>false) (λU=>false) (λU=>false) (λU U=>false) (λU U=>false) (λU=>false) (λU=>false) (λU=>false) (λU=>false) (λU=>false) (λU U U=>false) (λU U U=>false) (λU U U U U=>false) (λU=>false) (λU U U=>false) (λU U=>false) (λU U=>false) (λU=>false) (λU=>false) false (λU=>false) (λU U=>false) (λU U U U=>true)
theorem nP{P:Prop}(h:false=true):P:=zT h
theorem isC_of(e:E):isC e=true->∃op a b,e=.cmp op a b :=
 E.casesOn (motive_1:=λe=>isC e=true->∃op a b,e=.cmp op a b) e nP nP (λU=>nP) (λU=>nP) (λU=>nP) (λU=>nP) (λU=>nP) (λU U=>nP) (λU U U U=>nP) (λU U U=>nP) (λU U U=>nP) (λU U U U=>nP) (λU U U=>nP) (λU=>nP) (λU=>nP) (λU U=>nP) (λU U=>nP) (λU=>nP) (λU=>nP) (λU=>nP) (λU=>nP) (λU=>nP) (λU U U=>nP) (λop a b U=>⟨op,a,b,rfl⟩) (λU U U U U=>nP) (λU=>nP) (λU U U=>nP) (λU U=>nP) (λU U=>nP) (λU=>nP) (λU=>nP) nP (λU=>nP) (λU U=>nP) (λU U U U=>nP)
theorem isL_of(e:E):isL e=true->∃e' z it cs,e=.lcomp e' z it cs :=
 E.casesOn (motive_1:=λe=>isL e=true->∃e' z it cs,e=.lcomp e' z it cs) e nP nP (λU=>nP) (λU=>nP) (λU=>nP) (λU=>nP) (λU=>nP) (λU U=>nP) (λU U U U=>nP) (λU U U=>nP) (λU U U=>nP) (λU U U U=>nP) (λU U U=>nP) (λU=>nP) (λU=>nP) (λU U=>nP) (λU U=>nP) (λU=>nP) (λU=>nP) (λU=>nP) (λU=>nP) (λU=>nP) (λU U U=>nP) (λU U U=>nP) (λU U U U U=>nP) (λU=>nP) (λU U U=>nP) (λU U=>nP) (λU U=>nP) (λU=>nP) (λU=>nP) nP (λU=>nP) (λU U=>nP) (λe z it cs U=>⟨e,z,it,cs,rfl⟩)
def Cv(x:ZJ):Bool:=!(vt x 16||vt x 17||vt x 0)
def Im(sc:ZR):E->ZJ->Bool:=λe x=>match e with
 | .int i=>vt x 4&&((AL x).k==.int i)
 | .var y=>Pb sc x y .local
 | .cvar y=>Pb sc x y .free
 | .cmp o a b=>(o==.Eq||o==.Gt||o==.In||o==.NotIn)&&vt x 10&&FR (AL x).cs (λo'=>o==o')&&Im sc a (AL x).a&&FR (AL x).xs λz=>Im sc b z&&!behindInMarks o z
 | .bin o a b=>vt x 11&&(o==(AL x).o)&&Im sc a (AL x).a&&Im sc b (AL x).b
 | .idx e i=>vt x 14&&Im sc e (AL x).a&&Js (AL x).b&&Im sc i (AL x).b
 | .neg n=>vt x 6&&vt (AL x).a 4&&((AL (AL x).a).k==.int n)
 | .len e=>vt x 3&&Id sc (AL x).a "len"&&(AL x).kw.isEmpty&&FR (AL x).xs λy=>Js y&&Im sc e y
 | _=>false
def okC2(sc:ZR)(e:E)(x:ZJ):Bool:=match e with
 | .cmp2 o a o' b c=>(o==.LtE&&o'==.LtE)&&vt x 10&&KS (AL x).cs (λp q=>p==.LtE&&q==.LtE)&&Im sc a (AL x).a&&KS (AL x).xs λy z=>Im sc b y&&(Im sc c z&&!behindInMarks .LtE z)
 | _=>false
def U0(sc:ZR)(e:E)(x:ZJ):Bool:=(vt x 10&&Im sc e x)||okC2 sc e x
def TE(sc:ZR)(ts:List T)(xs:List ZJ):Bool:=KS ts λt u=>match t,u with
 | .e a,.e b=>KS xs λy z=>U0 sc a y&&U0 sc b z
 | _,_=>false
def okPT(sc:ZR)(t:T)(x:ZJ):Bool:=match t with
 | .e e=>U0 sc e x
 | .or ts=>vt x 8&&TE sc ts (AL x).xs
 | .and ts=>vt x 7&&TE sc ts (AL x).xs
 | _=>false
def LL(sc:ZR)(ts:List T)(xs:List ZJ):Bool:=match ts,xs with
 | [],[]=>true
 | [t],[x]=>okPT sc t x
 | _,_=>false
def scP(out s:ZR)(y:Nat):Bool:=(s.kind==.function)&&(s.names.all λp=>!(p.2==.cell))&&(s.names.all λp=>!(p.2==.free)||out.names.lookup p.1==some .cell)&&(s.names.all λp=>!(p.2==.local)||s.names.lookup p.1==some .local)&&(s.names.lookup (nm y)==some .local)
mutual
def CM(k:Ck):ZR->E->ZJ->Bool:=λsc e x=>match e with
 | .bad=>true
 | .none=>vt x 4&&((AL x).k==.none)
 | .bool b=>vt x 4&&((AL x).k==.bool b)
 | .int i=>vt x 4&&((AL x).k==.int i)
 | .neg n=>vt x 6&&vt (AL x).a 4&&((AL (AL x).a).k==.int n)
 | .var y=>Pb sc x y .local
 | .cvar y=>Pb sc x y .cell||Pb sc x y .free
 | .attr e n=>vt x 2&&((AL x).z==nm n)&&k.isAttr n&&CX (AL x).a&&CM k sc e (AL x).a
 | .meth e n as ks=>vt x 3&&vt (AL x).a 2&&((AL (AL x).a).z==nm n)&&CX (AL (AL x).a).a&&((AL (AL x).a).p.endLine==(AL x).p.line)&&decide ((AL x).xs.length+(AL x).kw.length<20) &&
  CM k sc e (AL (AL x).a).a&&Cw k sc as (AL x).xs&&Jt k sc ks (AL x).kw
 | .fn f as ks=>vt x 3&&Id sc (AL x).a (k.fnN f)&&k.isGl f&&Cw k sc as (AL x).xs&&Jt k sc ks (AL x).kw
 | .new c as ks=>vt x 3&&Id sc (AL x).a (k.clN c)&&k.Yj c&&Cw k sc as (AL x).xs&&Jt k sc ks (AL x).kw
 | .via c m f as=>vt x 3&&vt (AL x).a 2&&Id sc (AL (AL x).a).a (k.clN c)&&((AL (AL x).a).z==nm m)&&k.Yj c&&k.via c m f&&((AL (AL x).a).p.endLine==(AL x).p.line)&&decide ((AL x).xs.length<20)&&Cw k sc as (AL x).xs&&(AL x).kw.isEmpty
 | .sup _ _ _=>false
 | .len e=>vt x 3&&Id sc (AL x).a "len"&&(AL x).kw.isEmpty&&FR (AL x).xs λy=>Js y&&CM k sc e y
 | .max1 e=>vt x 3&&(k.strict&&Id sc (AL x).a "max")&&(AL x).kw.isEmpty&&FR (AL x).xs λy=>Js y&&CM k sc e y
 | .max2 a b=>vt x 3&&(k.strict&&Id sc (AL x).a "max")&&(AL x).kw.isEmpty&&KS (AL x).xs λy z=>(Js y&&CM k sc a y)&&(Js z&&CM k sc b z)
 | .min2 a b=>vt x 3&&(k.strict&&Id sc (AL x).a "min")&&(AL x).kw.isEmpty&&KS (AL x).xs λy z=>(Js y&&CM k sc a y)&&(Js z&&CM k sc b z)
 | .range as=>vt x 3&&Id sc (AL x).a "range"&&(AL x).kw.isEmpty&&Cw k sc as (AL x).xs
 | .setof e=>vt x 3&&(k.strict&&Id sc (AL x).a "set")&&(AL x).kw.isEmpty&&FR (AL x).xs λy=>Js y&&CM k sc e y
 | .not e=>vt x 5&&CM k sc e (AL x).a
 | .and es=>vt x 7&&Cw k sc es (AL x).xs
 | .or es=>vt x 8&&Cw k sc es (AL x).xs
 | .ite c a b=>vt x 9&&Oc k sc c (AL x).a&&CM k sc a (AL x).b&&CM k sc b (AL x).c
 | .cmp o a b=>vt x 10&&FR (AL x).cs (λo'=>o==o')&&CM k sc a (AL x).a&&FR (AL x).xs λz=>CM k sc b z&&!behindInMarks o z
 | .cmp2 _ _ _ _ _=>false
 | .lall e=>vt x 3&&(k.strict&&Id sc (AL x).a "list")&&(AL x).kw.isEmpty&&FR (AL x).xs λy=>Js y&&(vt y 3&&vt (AL y).a 2&&((AL (AL y).a).z==nm AQ)&&CX (AL (AL y).a).a&&((AL (AL y).a).p.endLine==(AL y).p.line)&&(AL y).xs.isEmpty&&(AL y).kw.isEmpty&&CM k sc e (AL (AL y).a).a)
 | .bin o a b=>vt x 11&&(o==(AL x).o)&&CM k sc a (AL x).a&&CM k sc b (AL x).b
 | .idx e i=>vt x 14&&CM k sc e (AL x).a&&Js (AL x).b&&CM k sc i (AL x).b
 | .upto e i=>vt x 14&&vt (AL x).a 1&&CM k sc e (AL x).a&&vt (AL x).b 18&&uptB (AL (AL x).b).os λu=>CM k sc i u
 | .tup es=>vt x 12&&Cw k sc es (AL x).xs
 | .lst es=>vt x 13&&Cw k sc es (AL x).xs
 | .stk=>vt x 13&&(AL x).xs.isEmpty
 | .pop e=>vt x 3&&vt (AL x).a 2&&((AL (AL x).a).z=="pop")&&CX (AL (AL x).a).a&&((AL (AL x).a).p.endLine==(AL x).p.line)&&CM k sc e (AL (AL x).a).a&&(AL x).xs.isEmpty&&(AL x).kw.isEmpty
 | .append e v=>vt x 3&&vt (AL x).a 2&&((AL (AL x).a).z=="append")&&CX (AL (AL x).a).a&&((AL (AL x).a).p.endLine==(AL x).p.line)&&CM k sc e (AL (AL x).a).a&&(AL x).kw.isEmpty&&FR (AL x).xs λy=>Js y&&CM k sc v y
 | .lcomp e y it cs=>(k.strict&&vt x 16)&&FR (AL x).gs λg=>(g.is_async==0)&&vt g.target 1&&((AL g.target).z==nm y)&&Cv g.iter&&CM k sc it g.iter&&scP sc (AL x).sc y&&LL (AL x).sc cs g.ifs&&Im (AL x).sc e (AL x).a
def Oc(k:Ck):ZR->T->ZJ->Bool:=λsc e x=>match e with
 | .e e=>isE x&&(isC e||!vt x 10)&&CM k sc e x
 | .not e=>vt x 5&&Oc k sc e (AL x).a
 | .and es=>vt x 7&&Pd k sc es (AL x).xs
 | .or es=>vt x 8&&Pd k sc es (AL x).xs
def Pd(k:Ck):ZR->List T->List ZJ->Bool:=λsc e xs=>match e,xs with
 | [],[]=>true
 | e::es,x::xs=>Oc k sc e x&&Pd k sc es xs
 | _,_=>false
def Cw(k:Ck):ZR->List E->List ZJ->Bool:=λsc e xs=>match e,xs with
 | [],[]=>true
 | e::es,x::xs=>(Js x&&CM k sc e x)&&Cw k sc es xs
 | _,_=>false
def Jt(k:Ck):ZR->List (Nat×E)->List bR->Bool:=λsc e xs=>match e,xs with
 | [],[]=>true
 | p::es,x::xs=>Ej x.arg (λz=>z==nm p.1)&&okKp k sc p x.value&&Jt k sc es xs
 | _,_=>false
def okKp(k:Ck):ZR->(Nat×E)->ZJ->Bool:=λsc p x=>match p with
 | (_,e)=>CM k sc e x
end
end
def KR(p:Nat×V)(q:Zf×Yr):Prop:=q.1=nm p.1/\VR p.2 q.2
noncomputable def bis:List (Zf×Yr):=[("len",.builtin "len"),("max",.builtin "max"),("min",.builtin "min"),("range",.type "range"),("sorted",.builtin "sorted"),("set",.type "set"),("list",.type "list"),("super",.type "super")]
structure Base(k:Ck)(K:aC)(WM:aV):Prop where
 kin:K.In WM
 lim:WM.NoLimit
 mods:(WM.get? sysModules).isSome=true
 nall:keepIn K (.ref E2)=false
 glo:∃mg mb,WM.Ns mainGlobals mg/\WM.Ns builtinsNs mb/\(∀cl,k.Yj cl=true->mg (k.clN cl)=some (.ref (C5 cl)))/\(∀f,k.isGl f=true->mg (k.fnN f)=some (.ref f))/\∀p∈bis,mg p.1=none/\mb p.1=some p.2
 bui:∃mg bm o,WM.Ns mainGlobals mg/\mg "__builtins__"=some (.ref bm)/\bm≠builtinsNs/\WM.get? bm=some o/\o.cls=.type "module"/\o.dict=some builtinsNs/\o.data=.plain
 clD:∀cl,k.Yj cl=true->(k.clN cl==("__debug__":Zf))=false/\keepIn K (.ref (C5 cl))=true
 fnD:∀f,k.isGl f=true->(k.fnN f==("__debug__":Zf))=false/\keepIn K (.ref f)=true
 via:∀cl n f,k.via cl n f=true->typeIn K (.ref (C5 cl))=some (.type "type")/\readsIn K (C5 cl) (.type "type")=true/\findCls K (.ref (C5 cl)) (.type "type") (nm n)=some (.val (.ref f)) /\
  specialIn K (.ref (C5 cl)) "__getattribute__"=some (some (.builtin "type.__getattribute__"))/\keepIn K (.ref f)=true
 mak:∀cl,k.Yj cl=true->makesIn K (C5 cl)=true/\(Bt cl AV=none->findIn K (.ref (C5 cl)) "__init__"=some (some (.builtin "object.__init__")))
theorem Base.na{k:Ck}{K:aC}{WM:aV}{f:Nat}(B:Base k K WM)(h:keepIn K (.ref f)=true):f≠E2:=λe=>by exact zT (B.nall▸e▸h)
theorem U1{c:Cl}{f:Nat}(h:Bt c AV=some f):f≠Aw:=λe=>by
 subst e;have:∀c:Cl,(Bt c AV==some Aw)=false:=λc=>by cases c<;>rfl
 have h2:=this c;rw[h] at h2;exact absurd h2 (by decide)
theorem U2:nm AV=("__init__":Zf):=by decide +kernel
structure Ev(prog:Y8)(w:Y0)(K:aC)(k:Ck)(C:CI)(A:Za)(c:Cx)(env:eE)(κ:Kp)(sc:ZR):Prop where
 F:KF K k.isAttr
 B:Base k K c.WM
 O:EO env c.L κ sc
 hh:k.strict=true->A.handled=none
 un:8*A.depth+A.units<=7900
 calls:∀A':Za,(k.strict=true->A'.handled=none)->8*A'.depth+A'.units<=8*A.depth+A.units+12->∀(c':Cx) m H s f vs ys us zs Q R,c'.WM=c.WM->f≠E2->(A'=A/\c'.L=c.L)\/f≠Aw->AU prog w c' m H s->A2 VR vs ys->A2 KR us zs->C f vs us H Q ->
  (∀v s',PE prog w c' m Q v s'->R (.ok (.ret v)) s')->codeAny (model prog w) A' (.call (.ref f) ⟨ys,zs⟩) R s
 alls:k.strict=true->∀(Er:Yr->Yq->Prop) (c':Cx) m H s v y Q,c'.WM=c.WM->AU prog w c' m H s->VR v y->C E2 [v] [] H Q ->
  Ba H v AQ λf=>codeAny (model prog w) A (.call (.ref f) ⟨[y],[]⟩) (wants (λz s'=>wpAny (model prog w) A (Z6 (.type "list") [z]) (PE prog w c' m Q) Er s') Er) s
section
variable{H:MH}{s:Yq}{ρ:As}{Er:Yr->Yq->Prop}{k:Ck}{C:CI}
theorem Ev.glob(Z:Ev prog w K k C A c env κ sc)(R:AU prog w c m H s){x:Zf}{p:ef}{v:Yr}{P:Yr->Yq->Prop}(hg:Mf sc x=true)(hd:(x==("__debug__":Zf))=false)
 (hv:∃mg mb,c.WM.Ns mainGlobals mg/\c.WM.Ns builtinsNs mb/\(mg x=some v\/mg x=none/\mb x=some v))(q:P v s):wpAny (model prog w) A (eval (.Name x p) env) P Er s:=by
 refine Dy hv λmg mb h1 h2 h3=>?_;have k1:=h1.keeps R.fr.keep;have k2:=h2.keeps R.fr.keep;have O:=Z.O;refine d6 (by rw[O.isc];exact O.ikd) (by unfold a7;rw[O.isc];exact Pc hg) ?_ hd
 rcases h3 with h3|⟨h3,h4⟩
 ·exact loadGlobal_global (by rw[O.igl];exact k1) h3 q
 ·exact eV (by rw[O.igl];exact k1) h3 (by rw[O.ibi];exact k2) h4 q
theorem Ev.glC(Z:Ev prog w K k C A c env κ sc)(R:AU prog w c m H s){cl:Cl}{p:ef}{P:Yr->Yq->Prop}(hg:Mf sc (k.clN cl)=true)(hn:k.Yj cl=true)(q:P (.ref (C5 cl)) s) :
 wpAny (model prog w) A (eval (.Name (k.clN cl) p) env) P Er s:=by
 refine AJ λGG hG=>?_;refine Vn Z.B.glo λmg mb h1 h2 h3 h4 h5=>?_;refine hG ?_;clear hG GG;exact Z.glob R hg (Z.B.clD cl hn).1 ⟨mg,mb,h1,h2,.inl (h3 cl hn)⟩ q
theorem Ev.glF(Z:Ev prog w K k C A c env κ sc)(R:AU prog w c m H s){f:Nat}{p:ef}{P:Yr->Yq->Prop}(hg:Mf sc (k.fnN f)=true)(hn:k.isGl f=true)(q:P (.ref f) s) :
 wpAny (model prog w) A (eval (.Name (k.fnN f) p) env) P Er s:=by
 refine AJ λGG hG=>?_;refine Vn Z.B.glo λmg mb h1 h2 h3 h4 h5=>?_;refine hG ?_;clear hG GG;exact Z.glob R hg (Z.B.fnD f hn).1 ⟨mg,mb,h1,h2,.inl (h4 f hn)⟩ q
theorem Ev.glB(Z:Ev prog w K k C A c env κ sc)(R:AU prog w c m H s){b:Zf×Yr}{p:ef}{P:Yr->Yq->Prop}(hb:b∈bis)(hg:Mf sc b.1=true)(q:P b.2 s) :
 wpAny (model prog w) A (eval (.Name b.1 p) env) P Er s:=by
 refine AJ λGG hG=>?_;refine Vn Z.B.glo λmg mb h1 h2 h3 h4 h5=>?_;refine hG ?_;clear hG GG;have:bis.all (λb=>!(b.1==("__debug__":Zf)))=true:=by decide +kernel
 exact Z.glob R hg (by have:=laP this b hb;rwa [Zq] at this) ⟨mg,mb,h1,h2,.inr (h5 b hb)⟩ q
theorem Ev.call(Z:Ev prog w K k C A c env κ sc)(R:AU prog w c m H s){f vs ys us zs}{Q:V->MH->Prop}(hk:keepIn K (.ref f)=true)(r:A2 VR vs ys)(r':A2 KR us zs)(h:C f vs us H Q) :
 wpAny (model prog w) A (Z6 (.ref f) ys zs) (PE prog w c m Q) Er s :=
 dT (Z.calls A Z.hh (Yz _ 12) c m H s f vs ys us zs Q _ rfl (Z.B.na hk) (.inl ⟨rfl,rfl⟩) R r r' h λU U z=>z)
theorem Co{WM h:aV}{L:Zh}{Yj:Bw}{x:Nat}(N:gN WM L h Yj)(hx:∀p∈Yj,p.1<x):x∉Yj.map (·.1):=λq=>by
 refine AR (mmP q) λp hp z=>?_;obtain rfl:=z;exact ZE _ (hx p hp)
theorem lt_size{WM h:aV}{L:Zh}{Yj:Bw}(N:gN WM L h Yj):∀p∈Yj,p.1<h.objs.size:=λp hp=>Yy (N p hp).1
theorem Ev.make(Z:Ev prog w K k C A c env κ sc)(R:AU prog w c m H s){cl:Cl}{vs ys us zs}{Q:V->MH->Prop}(hn:k.Yj cl=true)(r:A2 VR vs ys)(r':A2 KR us zs)(h:Eb C cl vs us H Q) :
 wpAny (model prog w) A (Z6 (.ref (C5 cl)) ys zs) (PE prog w c m Q) Er s:=by
 unfold Eb at h;obtain⟨D,Yj,N,L⟩:=R.led;obtain⟨hm,hi⟩:=Z.B.mak cl hn;have key:∀{x dx:Nat} {h':aV},gN c.WM c.L h' ((x,instObj (C5 cl) dx)::(dx,dictOf [] 0)::Yj)->(∀p∈Yj,p.1<dx)->dx<x ->
  H x=Yu/\∃D',GK prog w c.WM D' ((x,instObj (C5 cl) dx)::(dx,dictOf [] 0)::Yj) c.X (H.put x (.inst cl [])):=by
  intro x dx h' N' lt lt';have n1:x∉Yj.map (·.1):=Co N λp hp=>az (lt p hp) lt'
  exact⟨L.none n1 ((N' (x,_) (.head _)).2.2),L.allocInst n1 (Co N lt) (N' (dx,_) (.tail _ (.head _))).2.2 (ZF lt')⟩
 refine oCs (Bt cl AV) (λe=>?_) λf e=>?_
 ·
  replace h:=e▸h;have:H s.heap.objs.size=Option.none:=by
   refine L.none (Co N (lt_size N)) ?_;cases q:c.WM.get? s.heap.objs.size with
   | none=>rfl
   | some o=>exact absurd (Yy (R.fr.keep _ _ q)) (ZE _)
  refine AJ λGG hG=>?_;refine CV (h _ this) λy u U=>?_;obtain rfl:=y;obtain rfl:=u;cases r;cases r'
  refine hG ?_;refine call_cls0 R.fr Z.B.kin N hm (hi e) λx dx h' F' N' lt lt'=>?_;obtain⟨k1,D',L'⟩:=key N' lt lt';exact⟨_,_,.ref x,R.heap F' N' L',(h x k1).2.2⟩
 ·
  replace h:=e▸h;refine CV (Z.F.meth _ _ _ e) λm1 m2 U=>?_;refine call_cls R.fr Z.B.kin N hm (U2▸m1) m2 λx dx h' F' N' lt lt'=>?_;refine Am (key N' lt lt') λk1 y=>?_;refine BB y λD' L'=>?_;refine Z.calls (A.under _) Z.hh du c m _ _ f _ _ _ _ _ _ rfl (Z.B.na (Z.F.meth _ _ _ e).2.2) (.inr (U1 e)) (R.heap (t:=s.toks) F' N' L') (.cons (.ref x) r) r' (h x k1) λv s' z=>?_;refine AJ λGG hG=>?_;obtain⟨v',H',rv,R',rfl,q⟩:=z;refine hG ?_;clear hG GG;cases rv
  exact⟨rfl,_,_,.ref x,R',q⟩
end
section
variable{k:Ck}{C:CI}
theorem QX{o:ZJ}{z:Zf}{t:Sem Yr}(h:CX o=true):attributeBase o z env t=t:=by
 cases o with
 | Call f args kws p =>
  cases args with
  | nil=>exact zT h
  | cons a r=>cases f<;>rfl
 | UnaryOp u=>exact nomatch u<;>exact zT h
 | BoolOp u=>exact nomatch u<;>exact zT h
 | _=>first|rfl|cases h
theorem EA:∀{es:List E} {xs:List ZJ},Cw k sc es xs=true->starEach xs env=xs.map λx=>(false,eval x env)
 | [],[],_=>rfl
 | [],_::_,h=>nomatch (show false=true from h)
 | _::_,[],h=>nomatch (show false=true from h)
 | e::es,x::xs,h=>by
  obtain⟨h1,h2⟩:=an (show((Js x&&CM k sc e x)&&Cw k sc es xs)=true from h)
  have ih:=EA h2;have:starEach (x::xs) env=(false,eval x env)::starEach xs env:=by
   cases x with
   | Starred y p=>cases(an h1).1
   | _=>rfl
  rw[this,ih];rfl
theorem Ek{pos:ef}(xs:List ZJ):backTo pos (xs.map λx=>(false,eval x env))=xs.map λx=>(false,eval x env):=by
 unfold backTo;exact cq
theorem Kd:∀{ks:List (Nat×E)} {kws:List bR} {pos:ef},Jt k sc ks kws=true->(backToKw pos (keywordEach kws env)).all (·.1.isSome)=true/\(backToKw pos (keywordEach kws env)).any (·.1.isNone)=false/\(backToKw pos (keywordEach kws env)).length=kws.length
 | [],[],_,_=>⟨rfl,rfl,rfl⟩
 | [],_::_,_,h=>zT (show false=true from h)
 | _::_,[],_,h=>nomatch (show false=true from h)
 | p::ks,⟨some z,x,pp⟩::kws,pos,h=>by
  obtain⟨i1,i2,i3⟩:=Kd (pos:=pos) (an (show((z==nm p.1&&okKp k sc p x)&&Jt k sc ks kws)=true from h)).2
  refine⟨?_,?_,?_⟩
  ·show(true&&_)=true;rw[gu];exact i1
  ·show(false||_)=false;rw[Bool.false_or];exact i2
  ·exact congrArg (·+1) i3
 | _::_,⟨Yu,_,_⟩::_,_,h=>zT (show false=true from h)
inductive PKs (prog:Y8) (w:Y0) (c:Cx) (m:Zf->Option Yr) (kws:List bR) (Q:As->MH->Prop) (ys:List Yr) (s:Yq):Prop
 | mk (us:_) (H:_) (p0:A2 KR us ((kws.filterMap (·.arg)).zip ys)) (p1:AU prog w c m H s) (p2:Q us H):PKs prog w c m kws Q ys s
theorem LM(pos:ef):∀kws:List bR,(backToKw pos (keywordEach kws env)).filterMap (·.1)=kws.filterMap (·.arg)
 | []=>rfl
 | ⟨Yu,_,_⟩::r=>LM pos r
 | ⟨some z,_,_⟩::r=>congrArg (z::·) (LM pos r)
theorem JP{f:Yr}{ks:List (Nat×E)}{es:List E}{xs:List ZJ}{kws:List bR}{pos:ef}{s:Yq}{Er}{P:Args->Yq->Prop}{Q:List V->As->MH->Prop}(h1:Cw k sc es xs=true)(h2:Jt k sc ks kws=true)
 (h:wpAny (model prog w) A (spliced (xs.map λx=>(false,eval x env))) (PEs prog w c m (λvs H=>∀s',AU prog w c m H s'->wpAny (model prog w) A (evalAll ((backToKw pos (keywordEach kws env)).map (·.2))) (PKs prog w c m kws (λus H=>Q vs us H)) Er s')) Er s)
 (q:∀vs us ys zs H s',A2 VR vs ys->A2 KR us zs->AU prog w c m H s'->Q vs us H->P ⟨ys,zs⟩ s') :
 wpAny (model prog w) A (evalArgs f true (backTo pos (starEach xs env)) (backToKw pos (keywordEach kws env))) P Er s:=by
 refine CV (Kd (env:=env) (pos:=pos) h2) λk1 k2 k3=>?_;rw[EA h1,Ek];have fin:wpAny (model prog w) A (spliced (xs.map λx=>(false,eval x env))) (λys WO=>wpAny (model prog w) A (evalAll ((backToKw pos (keywordEach kws env)).map (·.2))) (λzs WQ=>P ⟨ys,((backToKw pos (keywordEach kws env)).filterMap (·.1)).zip zs⟩ WQ) Er WO) Er s:=by
  refine Z9 h (λys WO ⟨vs,H,r,R,z⟩=>Z9 (z _ R) (λzs WQ ⟨us,H',r',R',z'⟩=>?_) λU U e=>e) λU U e=>e;exact q vs us _ _ H' WQ r (by rw[LM];exact r') R' z'
 cases xs with
 | nil =>
  refine evalArgs_kw_nil k1 ?_;have fin':wpAny (model prog w) A (pure []:Sem (List Yr)) (λys WO=>wpAny (model prog w) A (evalAll ((backToKw pos (keywordEach kws env)).map (·.2))) (λzs WQ=>P ⟨ys,((backToKw pos (keywordEach kws env)).filterMap (·.1)).zip zs⟩ WQ) Er WO) Er s:=fin
  intro Γ p hΓ;have:=fin' Γ p hΓ;rw[Sem.wp_pure'] at this;exact this Γ p hΓ
 | cons x r=>exact evalArgs_kw k1 fin
theorem NO{f:Yr}{first:List Yr}{ks:List (Nat×E)}{es:List E}{xs:List ZJ}{kws:List bR}{pos:ef}{s:Yq}{Er}{P:Yr->Yq->Prop}{Q:List V->As->MH->Prop}(Z:Ev prog w K k C A c env κ sc)(hk:keepIn K f=true)(h1:Cw k sc es xs=true)(h2:Jt k sc ks kws=true)
 (h:wpAny (model prog w) A (spliced (xs.map λx=>(false,eval x env))) (PEs prog w c m (λvs H=>∀s',AU prog w c m H s'->wpAny (model prog w) A (evalAll ((backToKw pos (keywordEach kws env)).map (·.2))) (PKs prog w c m kws (λus H=>Q vs us H)) Er s')) Er s)
 (q:∀vs us ys zs H s',A2 VR vs ys->A2 KR us zs->AU prog w c m H s'->Q vs us H->wpAny (model prog w) A (Z6 f (first++ys) zs) P Er s') :
 wpAny (model prog w) A (callWith pos f first (backTo pos (starEach xs env)) (backToKw pos (keywordEach kws env))) P Er s:=by
 refine CV (Kd (env:=env) (pos:=pos) h2) λk1 k2 k3=>?_;refine ew (P:=K.In) ?_ (keeps_K hk) (JP h1 h2 h λvs us ys zs H s' r r' R' z=>⟨Z.B.kin.keeps R'.fr.keep,q vs us ys zs H s' r r' R' z⟩);rw[EA h1,Ek,k2,bY];clear h
 induction xs with
 | nil=>rfl
 | cons x r ih=>simp
theorem QY{o:ZJ}{name:Zf}{apos pos:ef}{ov:Yr}{ks:List (Nat×E)}{es:List E}{xs:List ZJ}{kws:List bR}(h1:Cw k sc es xs=true)(h2:Jt k sc ks kws=true)(hl:(apos.endLine==pos.line)=true)(hn:xs.length+kws.length<20) :
 methodCall o name apos pos env ov (xs.length+kws.length) (backTo pos (starEach xs env)) (backToKw pos (keywordEach kws env))=(do
  let (f,first) <- holding [ov] (getMethod ov name (do return (<- importBound o env).getD true))
  callWith pos f first (backTo pos (starEach xs env)) (backToKw pos (keywordEach kws env))):=by
 refine CV (Kd (env:=env) (pos:=pos) h2) λk1 k2 k3=>?_;have hf:methodCallForm (xs.length+kws.length) (backTo pos (starEach xs env)) (backToKw pos (keywordEach kws env))=true:=by
  unfold methodCallForm;rw[k1,EA h1,Ek];have:(xs.map λx=>(false,eval x env)).all (λx=>!x.1)=true:=by simp
  rw[this,gu,gu,decide_eq_true_eq];split
  ·exact az ‹xs.length+kws.length<20› (by decide)
  ·exact ZB (Nat.succ_lt_succ ‹xs.length+kws.length<20›) (by decide)
 unfold methodCall;rw[hf];unfold calleeOf methodCallPos;rw[hl];rfl
end
end
section
variable(prog:Y8)(w:Y0)(K:aC)(k:Ck)(C:CI)
def SE(e:E):Prop:=∀A env c m κ sc ρ,Ev prog w K k C A c env κ sc->Bh ρ m->∀x H s Q Er,CM k sc e x=true->AU prog w c m H s->wE C κ e ρ H Q->wpAny (model prog w) A (eval x env) (PE prog w c m Q) Er s
def ST(t:T):Prop:=∀A env c m κ sc ρ,Ev prog w K k C A c env κ sc->Bh ρ m->∀x H s Q Er,Oc k sc t x=true->AU prog w c m H s->wT C κ t ρ H Q->wpAny (model prog w) A (isTrue x env (eval x env)) (PB prog w c m Q) Er s
end
section
variable{prog:Y8}{w:Y0}{A:Za}{env:eE}{c:Cx}{m:Zf->Option Yr}{κ:Kp}{sc:ZR}{K:aC}{k:Ck}{C:CI}{ρ:As}{e a b:E}{t:T}{x:ZJ}{H:MH}{s:Yq}{Q:V->MH->Prop}{Er:Yr->Yq->Prop}
theorem SE.go(i:SE prog w K k C e)(Z:Ev prog w K k C A c env κ sc)(l:Bh ρ m)(o:CM k sc e x=true)(R:AU prog w c m H s)(h:wE C κ e ρ H Q):wpAny (model prog w) A (eval x env) (PE prog w c m Q) Er s:=i _ _ _ _ _ _ _ Z l _ _ _ _ _ o R h
theorem th{B:Type}{p:Sem B}{P P':B->Yq->Prop}(i:wpAny (model prog w) A p P Er s)(q:∀b s',P b s'->P' b s'):wpAny (model prog w) A p P' Er s:=Z9 i q λU U e=>e
theorem Fc{p:Sem Yr}{P:Yr->Yq->Prop}(i:wpAny (model prog w) A p (PE prog w c m Q) Er s)(q:∀v y H' s',VR v y->AU prog w c m H' s'->Q v H'->P y s'):wpAny (model prog w) A p P Er s :=
 Z9 i (λU U ⟨_,_,r,R,h⟩=>q _ _ _ _ r R h) λU U e=>e
theorem Pe{p:Sem Bool}{Q:Bool->MH->Prop}{P:Bool->Yq->Prop}(i:wpAny (model prog w) A p (PB prog w c m Q) Er s)(q:∀b H' s',AU prog w c m H' s'->Q b H'->P b s'):wpAny (model prog w) A p P Er s :=
 Z9 i (λU U ⟨_,R,h⟩=>q _ _ _ R h) λU U e=>e
theorem Pf{p:Sem (List Yr)}{Q:List V->MH->Prop}{P:List Yr->Yq->Prop}(i:wpAny (model prog w) A p (PEs prog w c m Q) Er s)(q:∀vs ys H' s',A2 VR vs ys->AU prog w c m H' s'->Q vs H'->P ys s'):wpAny (model prog w) A p P Er s :=
 Z9 i (λU U ⟨_,_,r,R,h⟩=>q _ _ _ _ r R h) λU U e=>e
theorem e_none:SE prog w K k C .none:=λA env c m κ sc ρ Z l x H s Q Er o R h=>by
 refine AJ λGG hG=>?_;refine Am (an o) λo1 o2=>?_;refine FY (AO o1) λk' n p z=>?_;obtain rfl:=z;cases eq_of_beq o2
 refine hG ?_;clear hG GG;exact λU U U=>PE.n R h
theorem e_bool{b:Bool}:SE prog w K k C (.bool b):=λA env c m κ sc ρ Z l x H s Q Er o R h=>by
 refine AJ λGG hG=>?_;refine Am (an o) λo1 o2=>?_;refine FY (AO o1) λk' n p z=>?_;obtain rfl:=z;cases(eq_of_beq o2:k'=_)
 refine hG ?_;clear hG GG;exact λU U U=>PE.b R h
theorem e_int{i:Int}:SE prog w K k C (.int i):=λA env c m κ sc ρ Z l x H s Q Er o R h=>by
 refine AJ λGG hG=>?_;refine Am (an o) λo1 o2=>?_;refine FY (AO o1) λk' n p z=>?_;obtain rfl:=z;cases(eq_of_beq o2:k'=_)
 refine hG ?_;clear hG GG;exact cT (PE.i R h)
theorem e_neg{n:Nat}:SE prog w K k C (.neg n):=λA env c m κ sc ρ Z l x H s Q Er o R h=>by
 refine AJ λGG hG=>?_;refine CV (NN o) λo1 o3 o2=>?_;clear o;refine HT (AO o1) λy p z=>?_;obtain rfl:=z;refine FY (AO (x:=y) o3) λk' n' p' z=>?_;obtain rfl:=z;cases(eq_of_beq o2:k'=_)
 refine hG ?_;clear hG GG;exact UnaryOp_ (cT (gO ⟨_,_,.int _ _,(R.tok _).tok _,h⟩))
theorem O4{α:Type}{o:Option α}{K:α->Prop}(h:op o K):∃a,o=some a/\K a:=by
 cases o with
 | none=>exact h.elim
 | some a=>exact⟨a,rfl,h⟩
theorem e_var{y:Nat}:SE prog w K k C (.var y):=λA env c m κ sc ρ Z l x H s Q Er o R h=>by
 obtain⟨⟨p,rfl⟩,o'⟩:=D4 o;refine AR (O4 h) λv g q=>?_;exact s_var Z.O o' l R g q
theorem e_cvar{y:Nat}:SE prog w K k C (.cvar y):=λA env c m κ sc ρ Z l x H s Q Er o R h=>by
 refine AR (O4 h) λa g z=>?_;refine AR z λv hc q=>?_;rcases UU o with o|o<;>obtain⟨⟨p,rfl⟩,o'⟩:=D4 o
 ·exact Sy Z.O (.inl o') R g hc q
 ·exact Sy Z.O (.inr o') R g hc q
theorem e_attr{n:Nat}(i:SE prog w K k C e):SE prog w K k C (.attr e n):=λA env c m κ sc ρ Z l x H s Q Er o R h=>by
 refine AJ λGG hG=>?_;refine Nf (Rs o) λo1 o2 o3 o4 o5=>?_;clear o;refine FY (AO o1) λov z p u=>?_;obtain rfl:=u;cases(eq_of_beq o2:z=_)
 refine hG ?_;clear hG GG;refine Attribute_any_ (Fc (i.go Z l o5 R h) λv y H s r R' q=>TB Z.F Z.B.kin o3 R' r q) ?_
 show(do
  let o' <- attributeBase ov (nm n) env (eval ov env)
  standAt p.atName
  let r <- holding [o'] (getAttr o' (nm n) true)
  letTemporaryGo ov o' r
  pure r)=_
 exact(QX (o:=ov) o4)▸rfl
theorem e_not(i:SE prog w K k C e):SE prog w K k C (.not e):=λA env c m κ sc ρ Z l x H s Q Er o R h=>by
 refine Am (an o) λo1 o2=>?_;refine HT (AO o1) λy p z=>?_;obtain rfl:=z;exact UnaryOp_ (Fc (i.go Z l o2 R h) λv y H s r R' q=>not_of (Pe (JO R' r q) λb H s WR Wc=>PE.b WR Wc))
theorem e_ite(it:ST prog w K k C t)(ia:SE prog w K k C a)(ib:SE prog w K k C b):SE prog w K k C (.ite t a b):=λA env c m κ sc ρ Z l x H s Q Er o R h=>by
 refine AJ λGG hG=>?_;refine IM (MP o) λo1 o2 o3 o4=>?_;clear o;refine HU (AO o1) λy z u p r=>?_;obtain rfl:=r;refine hG ?_;clear hG GG;refine wpAny_IfExp (Pe (it _ _ _ _ _ _ _ Z l _ _ _ _ _ o2 R h) λv H s R' q=>?_);cases v
 ·exact ib.go Z l o4 R' q
 ·exact ia.go Z l o3 R' q
theorem e_cmp{op:fm}(ia:SE prog w K k C a)(ib:SE prog w K k C b):SE prog w K k C (.cmp op a b):=λA env c m κ sc ρ Z l x H s Q Er o R h=>by
 refine AJ λGG hG=>?_;refine IM (MP o) λo1 o2 o3 o4=>?_;clear o;refine HU (AO o1) λy cs xs p u=>?_;obtain rfl:=u;refine AR (CE (l:=cs) o2) λop' u e=>?_;obtain rfl:=u;cases eq_of_beq e
 refine AR (CE (l:=xs) o4) λz u o4=>?_;obtain rfl:=u;refine Am (an o4) λo4 o5=>?_;refine hG ?_;clear hG GG;exact wpAny_Compare1 (Fc (ia.go Z l o3 R h) λv y H s r R' h'=>Fc (ib.go Z l o4 R' h') λv' y' H' s' r' WR q=>V2 Z.B.mods Z.un WR r r' q) (by rwa [Zq] at o5)
theorem e_bin{op:bW}(ia:SE prog w K k C a)(ib:SE prog w K k C b):SE prog w K k C (.bin op a b):=λA env c m κ sc ρ Z l x H s Q Er o R h=>by
 refine AJ λGG hG=>?_;refine IM (MP o) λo1 o2 o3 o4=>?_;clear o;refine HU (AO o1) λy op' z p u=>?_;obtain rfl:=u;cases(eq_of_beq o2:op=op')
 refine hG ?_;clear hG GG;exact wpAny_BinOp (Fc (ia.go Z l o3 R h) λv y H s r R' h'=>Fc (ib.go Z l o4 R' h') λv' y' H' s' r' WR q=>s_bin WR r r' q)
end
section
variable{prog:Y8}{w:Y0}{A:Za}{env:eE}{c:Cx}{m:Zf->Option Yr}{κ:Kp}{sc:ZR}{K:aC}{k:Ck}{C:CI}{ρ:As}{e a b:E}{t:T}{H:MH}{s:Yq}{Er:Yr->Yq->Prop}
section
theorem sEs(Z:Ev prog w K k C A c env κ sc)(l:Bh ρ m):∀{es:List E},(∀e∈es,SE prog w K k C e)->∀{xs:List ZJ} {H:MH} {s:Yq} {Q:List V->MH->Prop},Cw k sc es xs=true->AU prog w c m H s->PC C κ es ρ H Q->wpAny (model prog w) A (spliced (xs.map λx=>(false,eval x env))) (PEs prog w c m Q) Er s
 | [],_,[],H,s,Q,o,R,h=>spliced_nil ⟨[],H,.nil,R,h⟩
 | e::es,ih,x::xs,H,s,Q,o,R,h=>by
  refine Am (an (show((Js x&&CM k sc e x)&&Cw k sc es xs)=true from o)) λo1 o2=>?_
  exact spliced_cons (Fc ((ih e (.head _)).go Z l (an o1).2 R h) λv y H s r R' q=>Pf (sEs Z l (λe h=>ih e (.tail _ h)) o2 R' q) λvs ys WW WQ WZ WR Wc=>⟨v::vs,WW,.cons r WZ,WR,Wc⟩)
 | [],_,_::_,_,_,_,o,_,_=>zT (show false=true from o)
 | _::_,_,[],_,_,_,o,_,_=>nomatch (show false=true from o)
theorem sKs(Z:Ev prog w K k C A c env κ sc)(l:Bh ρ m){pos:ef}:∀{ks:List (Nat×E)},(∀p∈ks,SE prog w K k C p.2)->∀{kws:List bR} {H:MH} {s:Yq} {Q:As->MH->Prop},Jt k sc ks kws=true->AU prog w c m H s->wKs C κ ks ρ H Q->wpAny (model prog w) A (evalAll ((backToKw pos (keywordEach kws env)).map (·.2))) (PKs prog w c m kws Q) Er s
 | [],_,[],H,s,Q,o,R,h=>cw ⟨[],H,.nil,R,h⟩
 | (n,e)::ks,ih,⟨some z,x,pp⟩::kws,H,s,Q,o,R,h=>by
  refine CV (NN (show((z==nm n&&CM k sc e x)&&Jt k sc ks kws)=true from o)) λo3 o4 o2=>?_
  refine wpAny_evalAll_cons (x:=do let v <- eval x env;standAt pos;pure v) (Yo (Fc ((ih (n,e) (.head _)).go Z l o4 R h) λv y H s r R' q=>Yo (am (Yv ?_))))
  exact th (sKs Z l (λp h=>ih p (.tail _ h)) o2 R' q) λys WQ ⟨vs,WW,WZ,WR,Wc⟩=>⟨(n,v)::vs,WW,.cons ⟨eq_of_beq o3,r⟩ WZ,WR,Wc⟩
 | [],_,_::_,_,_,_,o,_,_=>zT (show false=true from o)
 | _::_,_,[],_,_,_,o,_,_=>nomatch (show false=true from o)
 | _::_,_,⟨Yu,_,_⟩::_,_,_,_,o,_,_=>zT (show false=true from o)
theorem sTs(Z:Ev prog w K k C A c env κ sc)(l:Bh ρ m){pos:ef}{t:Sem Yr}:∀{es:List T},(∀e∈es,ST prog w K k C e)->∀{xs:List ZJ} {H:MH} {s:Yq} {Q:Bool->MH->Prop},Pd k sc es xs=true->AU prog w c m H s->UI C κ es ρ H Q->wpAny (model prog w) A (isTrue (.BoolOp .And xs pos) env t) (PB prog w c m Q) Er s
 | [],_,[],H,s,Q,o,R,h=>isTrue_and_nil ⟨H,R,h⟩
 | e::es,ih,x::xs,H,s,Q,o,R,h=>by
  refine Am (an (show(Oc k sc e x&&Pd k sc es xs)=true from o)) λo1 o2=>?_
  refine isTrue_and (Pe (ih e (.head _) _ _ _ _ _ _ _ Z l _ _ _ _ _ o1 R h) λb H s R' q=>?_);cases b
  ·exact⟨H,R',q⟩
  ·exact sTs Z l (λe h=>ih e (.tail _ h)) o2 R' q
 | [],_,_::_,_,_,_,o,_,_=>zT (show false=true from o)
 | _::_,_,[],_,_,_,o,_,_=>nomatch (show false=true from o)
theorem sTo(Z:Ev prog w K k C A c env κ sc)(l:Bh ρ m){pos:ef}{t:Sem Yr}:∀{es:List T},(∀e∈es,ST prog w K k C e)->∀{xs:List ZJ} {H:MH} {s:Yq} {Q:Bool->MH->Prop},Pd k sc es xs=true->AU prog w c m H s->wTo C κ es ρ H Q->wpAny (model prog w) A (isTrue (.BoolOp .Or xs pos) env t) (PB prog w c m Q) Er s
 | [],_,[],H,s,Q,o,R,h=>isTrue_or_nil ⟨H,R,h⟩
 | e::es,ih,x::xs,H,s,Q,o,R,h=>by
  refine Am (an (show(Oc k sc e x&&Pd k sc es xs)=true from o)) λo1 o2=>?_
  refine isTrue_or (Pe (ih e (.head _) _ _ _ _ _ _ _ Z l _ _ _ _ _ o1 R h) λb H s R' q=>?_);cases b
  ·exact sTo Z l (λe h=>ih e (.tail _ h)) o2 R' q
  ·exact⟨H,R',q⟩
 | [],_,_::_,_,_,_,o,_,_=>zT (show false=true from o)
 | _::_,_,[],_,_,_,o,_,_=>nomatch (show false=true from o)
theorem sAnd(Z:Ev prog w K k C A c env κ sc)(l:Bh ρ m){pos:ef}:∀{es:List E},(∀e∈es,SE prog w K k C e)->∀{xs:List ZJ} {H:MH} {s:Yq} {Q:V->MH->Prop},Cw k sc es xs=true->AU prog w c m H s->UT C κ es ρ H Q->wpAny (model prog w) A (eval (.BoolOp .And xs pos) env) (PE prog w c m Q) Er s
 | [],_,_,_,_,_,_,_,h=>h.elim
 | e::es,ih,x::xs,H,s,Q,o,R,h=>by
  refine Am (an (show((Js x&&CM k sc e x)&&Cw k sc es xs)=true from o)) λo1 o2=>?_
  match es,xs,ih,o2,h with
  | [],[],ih,_,h=>exact BoolOp_one ((ih e (.head _)).go Z l (an o1).2 R h)
  | e'::es,x'::xs,ih,o2,h =>
   refine BoolOp_and (Fc ((ih e (.head _)).go Z l (an o1).2 R h) λv y H s r R' q=>?_);refine Pe (JO (Q:=λb H=>HC b (UT C κ (e'::es) ρ H Q) (Q v H)) R' r q) λb WW WQ WR Wc=>?_;cases b
   ·exact⟨v,_,r,WR,Wc⟩
   ·exact sAnd Z l (λe h=>ih e (.tail _ h)) o2 WR Wc
 | _::_,_,[],_,_,_,o,_,_=>zT (show false=true from o)
theorem sOr(Z:Ev prog w K k C A c env κ sc)(l:Bh ρ m){pos:ef}:∀{es:List E},(∀e∈es,SE prog w K k C e)->∀{xs:List ZJ} {H:MH} {s:Yq} {Q:V->MH->Prop},Cw k sc es xs=true->AU prog w c m H s->wOr C κ es ρ H Q->wpAny (model prog w) A (eval (.BoolOp .Or xs pos) env) (PE prog w c m Q) Er s
 | [],_,_,_,_,_,_,_,h=>h.elim
 | e::es,ih,x::xs,H,s,Q,o,R,h=>by
  refine Am (an (show((Js x&&CM k sc e x)&&Cw k sc es xs)=true from o)) λo1 o2=>?_
  match es,xs,ih,o2,h with
  | [],[],ih,_,h=>exact BoolOp_one ((ih e (.head _)).go Z l (an o1).2 R h)
  | e'::es,x'::xs,ih,o2,h =>
   refine BoolOp_or (Fc ((ih e (.head _)).go Z l (an o1).2 R h) λv y H s r R' q=>?_);refine Pe (JO (Q:=λb H=>HC b (Q v H) (wOr C κ (e'::es) ρ H Q)) R' r q) λb WW WQ WR Wc=>?_;cases b
   ·exact sOr Z l (λe h=>ih e (.tail _ h)) o2 WR Wc
   ·exact⟨v,_,r,WR,Wc⟩
 | _::_,_,[],_,_,_,o,_,_=>zT (show false=true from o)
theorem e_and{es:List E}(ih:∀e∈es,SE prog w K k C e):SE prog w K k C (.and es):=λA env c m κ sc ρ Z l x H s Q Er o R h=>by
 refine Am (an o) λo1 o2=>?_;refine HT (AO o1) λxs p z=>?_;obtain rfl:=z;exact sAnd Z l ih o2 R h
theorem e_or{es:List E}(ih:∀e∈es,SE prog w K k C e):SE prog w K k C (.or es):=λA env c m κ sc ρ Z l x H s Q Er o R h=>by
 refine Am (an o) λo1 o2=>?_;refine HT (AO o1) λxs p z=>?_;obtain rfl:=z;exact sOr Z l ih o2 R h
theorem t_and{es:List T}(ih:∀e∈es,ST prog w K k C e):ST prog w K k C (.and es):=λA env c m κ sc ρ Z l x H s Q Er o R h=>by
 refine Am (an o) λo1 o2=>?_;refine HT (AO o1) λxs p z=>?_;obtain rfl:=z;exact sTs Z l ih o2 R h
theorem t_or{es:List T}(ih:∀e∈es,ST prog w K k C e):ST prog w K k C (.or es):=λA env c m κ sc ρ Z l x H s Q Er o R h=>by
 refine Am (an o) λo1 o2=>?_;refine HT (AO o1) λxs p z=>?_;obtain rfl:=z;exact sTo Z l ih o2 R h
theorem t_not{t:T}(i:ST prog w K k C t):ST prog w K k C (.not t):=λA env c m κ sc ρ Z l x H s Q Er o R h=>by
 refine Am (an o) λo1 o2=>?_;refine HT (AO o1) λy p z=>?_;obtain rfl:=z;exact isTrue_not (Pe (i _ _ _ _ _ _ _ Z l _ _ _ _ _ o2 R h) λb H s R' q=>⟨H,R',q⟩)
end
section
variable{Q:V->MH->Prop}
theorem Gg{ov:ZJ}{z:Zf}{ap p:ef}{es:List E}{ks:List (Nat×E)}{xs:List ZJ}{kws:List bR}(o1:CX ov=true)(o2:(ap.endLine==p.line)=true)(o3:xs.length+kws.length<20)(o5:Cw k sc es xs=true)(o6:Jt k sc ks kws=true) :
 eval (.Call (.Attribute ov z ap) xs kws p) env=(do
  let ov' <- eval ov env
  standAt ap.atName
  let (f,first) <- holding [ov'] (getMethod ov' z (do return (<- importBound ov env).getD true))
  callWith p f first (backTo p (starEach xs env)) (backToKw p (keywordEach kws env))):=by
 show(do
  let ov' <- attributeBase ov z env (eval ov env)
  standAt ap.atName
  methodCall ov z ap p env ov' (xs.length+kws.length) (backTo p (starEach xs env)) (backToKw p (keywordEach kws env)))=_
 rw[QX o1];simp only[QY o5 o6 o2 o3]
theorem Mg{f:Yr}{first:List Yr}{p:ef}{es:List E}{ks:List (Nat×E)}{xs:List ZJ}{kws:List bR}{P:Yr->Yq->Prop}{G:List V->As->MH->Prop}(Z:Ev prog w K k C A c env κ sc)(l:Bh ρ m)(ihs:∀e∈es,SE prog w K k C e)(ihk:∀p∈ks,SE prog w K k C p.2)(hk:keepIn K f=true)(o5:Cw k sc es xs=true)(o6:Jt k sc ks kws=true)
 (R:AU prog w c m H s)(h:PC C κ es ρ H λvs H=>wKs C κ ks ρ H λus H=>G vs us H)(q:∀vs us ys zs H s',A2 VR vs ys->A2 KR us zs->AU prog w c m H s'->G vs us H->wpAny (model prog w) A (Z6 f (first++ys) zs) P Er s') :
 wpAny (model prog w) A (callWith p f first (backTo p (starEach xs env)) (backToKw p (keywordEach kws env))) P Er s :=
 NO Z hk o5 o6 (Pf (sEs Z l ihs o5 R h) λvs ys WW WQ WZ WR Wg=>⟨vs,WW,WZ,WR,λWU Wa=>sKs Z l ihk o6 Wa Wg⟩) q
theorem e_meth{n:Nat}{es:List E}{ks:List (Nat×E)}(i:SE prog w K k C e)(ihs:∀e∈es,SE prog w K k C e)(ihk:∀p∈ks,SE prog w K k C p.2):SE prog w K k C (.meth e n es ks):=λA env c m κ sc ρ Z l x H s Q Er o R h=>by
 refine AJ λGG hG=>?_;refine x09 (an9 o) λo1 o2 o3 o4 o5 o6 o7 o8 o9=>?_;clear o;refine HU (AO o1) λf xs kws p u=>?_;obtain rfl:=u;refine FY (AO (x:=f) o2) λov z ap u=>?_;obtain rfl:=u;cases(eq_of_beq o3:z=_)
 refine hG ?_;clear hG GG;refine bZ (Fc (i.go Z l o7 R h) λv y H s r R' q=>?_) (Gg (ov:=ov) o4 o5 (of_decide_eq_true o6) o8 o9);refine Pa Z.F Z.B.kin R' r q λf hf z=>?_;exact Mg (G:=λvs us H=>C f (v::vs) us H _) Z l ihs ihk hf o8 o9 R' z λvs us ys zs WW WQ WZ Wb WR Wg=>Z.call WR hf (.cons r WZ) Wb Wg
theorem e_fn{f:Nat}{es:List E}{ks:List (Nat×E)}(ihs:∀e∈es,SE prog w K k C e)(ihk:∀p∈ks,SE prog w K k C p.2):SE prog w K k C (.fn f es ks):=λA env c m κ sc ρ Z l x H s Q Er o R h=>by
 refine AJ λGG hG=>?_;refine Nf (Rs o) λo1 o2 o3 o8 o9=>?_;clear o;refine HU (AO o1) λy xs kws p z=>?_;obtain rfl:=z;obtain⟨⟨p',e⟩,o4⟩:=Hn (x:=y) o2;refine hG ?_;clear hG GG;subst e;refine aD (Z.glF R o4 o3 ?_);exact Mg (G:=λvs us H=>C f vs us H _) Z l ihs ihk (Z.B.fnD f o3).2 o8 o9 R h λvs us ys zs WW WQ WZ Wb WR Wg=>Z.call WR (Z.B.fnD f o3).2 WZ Wb Wg
theorem e_new{cl:Cl}{es:List E}{ks:List (Nat×E)}(ihs:∀e∈es,SE prog w K k C e)(ihk:∀p∈ks,SE prog w K k C p.2):SE prog w K k C (.new cl es ks):=λA env c m κ sc ρ Z l x H s Q Er o R h=>by
 refine AJ λGG hG=>?_;refine Nf (Rs o) λo1 o2 o3 o8 o9=>?_;clear o;refine HU (AO o1) λy xs kws p z=>?_;obtain rfl:=z;obtain⟨⟨p',e⟩,o4⟩:=Hn (x:=y) o2;refine hG ?_;clear hG GG;subst e;refine aD (Z.glC R o4 o3 ?_);exact Mg (G:=λvs us H=>Eb C cl vs us H _) Z l ihs ihk (Z.B.clD cl o3).2 o8 o9 R h λvs us ys zs WW WQ WZ Wb WR Wg=>Z.make WR o3 WZ Wb Wg
theorem Ah{α:Type}{l:List α}(h:l.isEmpty=true):l=[]:=List.isEmpty_iff.mp h
theorem e_via{cl:Cl}{n f:Nat}{es:List E}(ihs:∀e∈es,SE prog w K k C e):SE prog w K k C (.via cl n f es):=λA env c m κ sc ρ Z l x H s Q Er o R h=>by
 refine AJ λGG hG=>?_;obtain⟨o1,o2,o3,o4,o5,o6,o7,o8,o9,o10⟩:=an10 o;clear o;refine HU (AO o1) λy xs kws p v=>?_;obtain rfl:=v;refine FY (AO (x:=y) o2) λov z ap v=>?_;obtain rfl:=v;cases(eq_of_beq o4:z=_)
 refine Am (Hn (x:=ov) o3) λv o11=>?_;refine BB v λp' e=>?_;refine hG ?_;clear hG GG;subst e;cases(Ah o10:kws=[])
 refine Nf (Z.B.via cl n f o6) λt1 t2 t3 t4 t5=>?_;refine bZ (Z.glC R o11 o5 (method_of_cls R.fr Z.B.kin t4 (cls_val R.fr Z.B.kin t1 t2 t3 rfl ?_))) (Gg (k:=k) (ks:=[]) (ov:=.Name (k.clN cl) p') rfl o7 (of_decide_eq_true o8) o9 rfl);exact Mg (ks:=[]) (kws:=[]) (G:=λvs us H=>C f vs us H _) Z l ihs (λU h=>nomatch h) t5 o9 rfl (R.tok _) h λvs us ys zs WW WQ WZ Wb WR Wg=>Z.call WR t5 WZ Wb Wg
end
section
variable{Q:V->MH->Prop}
theorem FK{D:Nat->Nat}{Yj:Bw}{x:Nat}{ob:dK}{o:O}{h':aV}{t:Nat}(R:AU prog w c m H s)(L:GK prog w c.WM D Yj c.X H)(F':Fr c.WM c.L h' m)(N':gN c.WM c.L h' ((x,ob)::Yj))
 (n1:x∉Yj.map (·.1))(ho:OB prog w o ob)(q:alloc H o Q):PE prog w c m Q (.ref x) {s with heap:=h',toks:=t} :=
 ⟨_,_,.ref x,R.heap F' N' (L.alloc n1 ho),q _ (L.none n1 (N' (x,_) (.head _)).2.2)⟩
theorem LN{D:Nat->Nat}{Yj:Bw}{a:Nat}{o o':O}{ob ob':dK}{h':aV}{t:Nat}(R:AU prog w c m H s)(N:gN c.WM c.L s.heap Yj)(L:GK prog w c.WM D Yj c.X H)(ha:H a=some o)(hm:(a,ob)∈Yj)
 (hs:cG a s.heap h')(ho:h'.get? a=some ob')(h:OB prog w o' ob'):AU prog w c m (H.put a o') {s with heap:=h',toks:=t}:=by
 have U:=NL (o':=ob') L.nd hm;refine AJ λGG hG=>?_;refine Q3 U.split λpre post e1 e2 u1 u2=>?_;refine hG ?_;clear hG GG;have hh:=N _ hm;have N':gN c.WM c.L h' (QV a ob' Yj):=by
  rw[e2];rw[e1] at N;exact news_set N u1 u2 hs ho
 exact R.heap (R.fr.change hs hh.2.1 hh.2.2) N' (L.change ha hm h)
theorem TF{o:O}{vs:List V}{ys:List Yr}(R:AU prog w c m H s)(r:A2 VR vs ys)(ho:∀ob,(∃xs n,ob=Oa xs n/\A2 VR vs xs)->OB prog w o ob)(hle:vs.length<=1000)(q:alloc H o Q):wpAny (model prog w) A (newList ys) (PE prog w c m Q) Er s:=by
 obtain⟨D,Yj,N,L⟩:=R.led;have hlen:=r.length;exact newList_N R.fr N (λh' F' N'=>FK (t:=s.toks) R L F' N' (Co N (lt_size N)) (ho _ ⟨ys,_,rfl,r⟩) q) (by refine ao.symm▸?_;exact ozA ‹_› ‹_›)
theorem s_tup{vs:List V}{ys:List Yr}(R:AU prog w c m H s)(r:A2 VR vs ys)(hle:vs.length<=1000)(q:alloc H (.tup vs) Q):wpAny (model prog w) A (newTuple ys) (PE prog w c m Q) Er s:=by
 obtain⟨D,Yj,N,L⟩:=R.led;have hlen:=r.length;exact newTuple_N R.fr N (λh' F' N'=>FK (o:=.tup vs) (t:=s.toks) R L F' N' (Co N (lt_size N)) ⟨ys,rfl,r⟩ q) (by refine ao.symm▸?_;exact ozA ‹_› ‹_›)
theorem e_tup{es:List E}(ih:∀e∈es,SE prog w K k C e):SE prog w K k C (.tup es):=λA env c m κ sc ρ Z l x H s Q Er o R h=>by
 refine Am (an o) λo1 o2=>?_;refine FY (AO o1) λxs n p z=>?_;obtain rfl:=z;refine Tuple_ ?_;rw[EA (xs:=xs) o2,Ek];exact Pf (sEs Z l ih o2 R h) λvs ys H s r R' q=>s_tup R' r q.1 q.2
theorem e_lst{es:List E}(ih:∀e∈es,SE prog w K k C e):SE prog w K k C (.lst es):=λA env c m κ sc ρ Z l x H s Q Er o R h=>by
 refine Am (an o) λo1 o2=>?_;refine HT (AO o1) λxs p y=>?_;obtain rfl:=y;refine List_ ?_;rw[EA (xs:=xs) o2,Ek];exact Pf (sEs Z l ih o2 R h) λvs ys H s r R' q=>TF (o:=.list vs) R' r (λU z=>z) q.1 q.2
theorem e_stk:SE prog w K k C .stk:=λA env c m κ sc ρ Z l x H s Q Er o R h=>by
 refine AJ λGG hG=>?_;refine Am (an o) λo1 o2=>?_;refine HT (AO o1) λxs p y=>?_;obtain rfl:=y;cases(Ah o2:xs=[])
 refine hG ?_;clear hG GG;exact List_ (spliced_nil (TF (o:=.stk []) (vs:=[]) R .nil (λU z=>z) (by decide) h))
theorem Pg{z:Zf}{f:Yr}{es:List E}{y:ZJ}{xs:List ZJ}{p:ef}{P:Yr->Yq->Prop}{G:List V->MH->Prop}(Z:Ev prog w K k C A c env κ sc)(l:Bh ρ m)(ihs:∀e∈es,SE prog w K k C e)(hb:(z,f)∈bis)(hk:keeperOf f=pure .machine)(o2:Id sc y z=true)(o5:Cw k sc es xs=true)
 (R:AU prog w c m H s)(h:PC C κ es ρ H G)(q:∀vs ys H s',A2 VR vs ys->AU prog w c m H s'->G vs H->wpAny (model prog w) A (Z6 f ys) P Er s'):wpAny (model prog w) A (eval (.Call y xs [] p) env) P Er s:=by
 obtain⟨⟨p',e⟩,o4⟩:=Hn o2;subst e;refine aD (Z.glB R hb o4 ?_);refine ew (P:=λU=>True) (keywords:=backToKw p (keywordEach [] env)) ?_ (λh U=>⟨.machine,.inr (.inl rfl),gv hk⟩) (JP (ks:=[]) (kws:=[]) (Q:=λvs us H=>us=[]/\G vs H) o5 rfl (Pf (sEs Z l ihs o5 R h) λvs ys H WO r R z=>⟨vs,H,r,R,λs' R'=>cw ⟨[],_,.nil,R',rfl,z⟩⟩) λvs us ys zs H s' r r' R' z=>⟨trivial,?_⟩)
 ·rw[EA o5,Ek];clear h o5
  induction xs with
  | nil=>rfl
  | cons x r ih=>simpa using ih
 ·refine AJ λGG hG=>?_;obtain⟨rfl,z⟩:=z;cases r'
  refine hG ?_;exact q vs ys H s' r R' z
end
section
variable{Q:V->MH->Prop}
theorem TG{e:E}{sc:ZR}{xs:List ZJ}(h:(FR xs λy=>Js y&&CM k sc e y)=true):Cw k sc [e] xs=true:=by
 refine AR (CE h) λy z h=>?_;obtain rfl:=z;exact Zv.mpr ⟨h,rfl⟩
theorem two_of{a b:E}{sc:ZR}{xs:List ZJ}(h:(KS xs λy z=>(Js y&&CM k sc a y)&&(Js z&&CM k sc b z))=true):Cw k sc [a,b] xs=true:=by
 refine Gs (Hm h) λy z x h=>?_;obtain rfl:=x;exact Zv.mpr ⟨(an h).1,Zv.mpr ⟨(an h).2,rfl⟩⟩
def g1(G:V->MH->Prop)(vs:List V)(H:MH):Prop:=match vs with
 | [v]=>G v H
 | _=>False
def g2(G:V->V->MH->Prop)(vs:List V)(H:MH):Prop:=match vs with
 | [v,u]=>G v u H
 | _=>False
theorem A2.tl{α β:Type}{R:α->β->Prop}{v:α}{vs:List α}{ys:List β}(r:A2 R (v::vs) ys):∃y zs,ys=y::zs/\R v y/\A2 R vs zs:=by
 cases r with|cons h1 h2=>exact⟨_,_,rfl,h1,h2⟩
theorem A2.nl{α β:Type}{R:α->β->Prop}{ys:List β}(r:A2 R [] ys):ys=[]:=by cases r;rfl
theorem g1_of{vs:List V}{G:V->MH->Prop}(h:g1 G vs H):∃v,vs=[v]/\G v H:=by
 match vs,h with
 | [v],h=>exact⟨_,rfl,h⟩
theorem g2_of{vs:List V}{G:V->V->MH->Prop}(h:g2 G vs H):∃v u,vs=[v,u]/\G v u H:=by
 match vs,h with
 | [v,u],h=>exact⟨_,_,rfl,h⟩
theorem A2.one{vs:List V}{ys:List Yr}{G:V->MH->Prop}(r:A2 VR vs ys)(h:g1 G vs H):∃v y,ys=[y]/\VR v y/\G v H:=by
 refine AJ λGG hG=>?_;refine AR (g1_of h) λv z h=>?_;obtain rfl:=z;obtain⟨y,U,rfl,h1,r⟩:=r.tl;refine hG ?_;clear hG GG;cases r.nl
 exact⟨_,_,rfl,h1,h⟩
theorem A2.two{vs:List V}{ys:List Yr}{G:V->V->MH->Prop}(r:A2 VR vs ys)(h:g2 G vs H):∃v u y z,ys=[y,z]/\VR v y/\VR u z/\G v u H:=by
 refine AJ λGG hG=>?_;refine Gs (g2_of h) λv u x h=>?_;obtain rfl:=x;obtain⟨y,U,rfl,h1,r⟩:=r.tl;obtain⟨z,U,rfl,h2,r⟩:=r.tl;refine hG ?_;clear hG GG;cases r.nl
 exact⟨_,_,_,_,rfl,h1,h2,h⟩
theorem bi1{z:Zf}{f:Yr}{y:ZJ}{xs:List ZJ}{kws:List bR}{p:ef}{P:Yr->Yq->Prop}{G:V->MH->Prop}(Z:Ev prog w K k C A c env κ sc)(l:Bh ρ m)(i:SE prog w K k C e)(hb:(z,f)∈bis)(hk:keeperOf f=pure .machine)(o2:Id sc y z=true)(o3:kws.isEmpty=true)(o5:(FR xs λy=>Js y&&CM k sc e y)=true)
 (R:AU prog w c m H s)(h:wE C κ e ρ H G)(q:∀v y H s',VR v y->AU prog w c m H s'->G v H->wpAny (model prog w) A (Z6 f [y]) P Er s'):wpAny (model prog w) A (eval (.Call y xs kws p) env) P Er s:=by
 cases Ah o3
 refine Pg (es:=[e]) (G:=g1 G) Z l (λe he=>msP he▸i) hb hk o2 (TG o5) R h λvs ys H s' r R' z=>?_;obtain⟨v,y,rfl,r,z⟩:=r.one z;exact q v y H s' r R' z
theorem bi2{z:Zf}{f:Yr}{y:ZJ}{xs:List ZJ}{kws:List bR}{p:ef}{P:Yr->Yq->Prop}{G:V->V->MH->Prop}(Z:Ev prog w K k C A c env κ sc)(l:Bh ρ m)(ia:SE prog w K k C a)(ib:SE prog w K k C b)(hb:(z,f)∈bis)(hk:keeperOf f=pure .machine)(o2:Id sc y z=true)(o3:kws.isEmpty=true)(o5:(KS xs λy z=>(Js y&&CM k sc a y)&&(Js z&&CM k sc b z))=true)
 (R:AU prog w c m H s)(h:wE C κ a ρ H λv H=>wE C κ b ρ H λu H=>G v u H)(q:∀v u y z H s',VR v y->VR u z->AU prog w c m H s'->G v u H->wpAny (model prog w) A (Z6 f [y,z]) P Er s'):wpAny (model prog w) A (eval (.Call y xs kws p) env) P Er s:=by
 cases Ah o3
 refine Pg (es:=[a,b]) (G:=g2 G) Z l (λe he=>(mcP he).elim (λz=>z▸ia) λhe=>msP he▸ib) hb hk o2 (two_of o5) R h λvs ys H s' r R' z=>?_;refine AJ λGG hG=>?_;obtain⟨v,u,y,z,rfl,r,r',zz⟩:=r.two z;refine hG ?_;clear hG GG;exact q v u y z H s' r r' R' zz
theorem e_max2(ia:SE prog w K k C a)(ib:SE prog w K k C b):SE prog w K k C (.max2 a b):=λA env c m κ sc ρ Z l x H s Q Er o R h=>by
 refine AJ λGG hG=>?_;refine IM (MP o) λo1 o2 o3 o4=>?_;refine Am (an o2) λost o2=>?_;clear o;refine HU (AO o1) λy xs kws p n=>?_;obtain rfl:=n;refine hG ?_;clear hG GG;refine bi2 (y:=y) (xs:=xs) (kws:=kws) Z l ia ib (.tail _ (.head _)) rfl o2 o3 o4 R h λv u y z H s r r' R' q=>?_;refine AJ λGG hG=>?_;obtain⟨i,t,rfl,rfl,q⟩:=Bj q r;refine Dy (Bj q r') λj t' n g q=>?_;obtain rfl:=n;obtain rfl:=g;obtain⟨D,Yj,N,L⟩:=R'.led;refine hG ?_;clear hG GG;refine max_two_N (Z.hh ost) R'.fr N λh' tk F' N'=>⟨.int (max i j),H,?_,R'.heap F' N' L,q⟩;exact(mxI (i:=i) (j:=j)).symm▸.int _ _
theorem e_min2(ia:SE prog w K k C a)(ib:SE prog w K k C b):SE prog w K k C (.min2 a b):=λA env c m κ sc ρ Z l x H s Q Er o R h=>by
 refine AJ λGG hG=>?_;refine IM (MP o) λo1 o2 o3 o4=>?_;refine Am (an o2) λost o2=>?_;clear o;refine HU (AO o1) λy xs kws p n=>?_;obtain rfl:=n;refine hG ?_;clear hG GG;refine bi2 (y:=y) (xs:=xs) (kws:=kws) Z l ia ib (.tail _ (.tail _ (.head _))) rfl o2 o3 o4 R h λv u y z H s r r' R' q=>?_;refine AJ λGG hG=>?_;obtain⟨i,t,rfl,rfl,q⟩:=Bj q r;refine Dy (Bj q r') λj t' n g q=>?_;obtain rfl:=n;obtain rfl:=g;obtain⟨D,Yj,N,L⟩:=R'.led;refine hG ?_;clear hG GG;refine min_two_N (Z.hh ost) R'.fr N λh' tk F' N'=>⟨.int (min i j),H,?_,R'.heap F' N' L,q⟩;exact(mnI (i:=i) (j:=j)).symm▸.int _ _
theorem e_len(i:SE prog w K k C e):SE prog w K k C (.len e):=λA env c m κ sc ρ Z l x H s Q Er o R h=>by
 refine AJ λGG hG=>?_;refine IM (MP o) λo1 o2 o3 o4=>?_;clear o;refine HU (AO o1) λy xs kws p z=>?_;obtain rfl:=z;refine hG ?_;clear hG GG;refine bi1 (y:=y) (xs:=xs) (kws:=kws) Z l i (.head _) rfl o2 o3 o4 R h λv y H s r R' q=>?_;refine AJ λGG hG=>?_;refine Es (CK q r) λa U z u=>?_;obtain rfl:=z;refine AR u λob ho t=>?_;refine AR t λn hn q=>?_;refine hG ?_;clear hG GG;have lst:∀{vs:List V},H a=some (.list vs)\/H a=some (.stk vs)->vs.length<=1000->Q (.int vs.length) H->wpAny (model prog w) A (Z6 (.builtin "len") [.ref a]) (PE prog w c m Q) Er s:=λ{vs} ho hl q=>by
  refine AR (R'.lst ho) λxs h1 h2=>?_;have:=h2.length;refine call_len_list h1 (by refine ZI.symm▸?_;exact ozB ‹_› ‹_›) ⟨.int vs.length,H,?_,R'.tok _,q⟩
  exact this▸ZI▸.int _ _
 cases hn with
 | list hl=>exact lst (.inl ho) hl q
 | stk hl=>exact lst (.inr ho) hl q
theorem e_max1(i:SE prog w K k C e):SE prog w K k C (.max1 e):=λA env c m κ sc ρ Z l x H s Q Er o R h=>by
 refine AJ λGG hG=>?_;refine IM (MP o) λo1 o2 o3 o4=>?_;refine Am (an o2) λost o2=>?_;clear o;refine HU (AO o1) λy xs kws p z=>?_;obtain rfl:=z;refine hG ?_;clear hG GG;refine bi1 (y:=y) (xs:=xs) (kws:=kws) Z l i (.tail _ (.head _)) rfl o2 o3 o4 R h λv y H s r R' q=>?_;refine AJ λGG hG=>?_;refine Es (CK q r) λa U z u=>?_;obtain rfl:=z;refine Vn u λvs is ho hle hi hne q=>?_;refine AR (R'.lst (.inl ho)) λxs h1 h2=>?_;obtain⟨D,Yj,N,L⟩:=R'.led;refine hG ?_;clear hG GG;exact max_list_N (Z.hh ost) R'.fr N (vs:=xs) h1 (Fb h2 hi) (eK.mpr hne) λh' M t tk F' N' hM hm=>⟨.int M,H,.int _ _,R'.heap F' N' L,q M hM hm⟩
theorem U3{es:List E}(ih:∀e∈es,SE prog w K k C e):SE prog w K k C (.range es):=λA env c m κ sc ρ Z l x H s Q Er o R h=>by
 refine AJ λGG hG=>?_;refine IM (MP o) λo1 o2 o3 o4=>?_;clear o;refine HU (AO o1) λy xs kws p v=>?_;obtain rfl:=v;cases(Ah o3:kws=[])
 refine hG ?_;clear hG GG;refine Pg (y:=y) (xs:=xs) Z l ih (.tail _ (.tail _ (.tail _ (.head _)))) rfl o2 o4 R h λvs ys H s r R' z=>?_;have fin:∀{lo hi st:Int} {Wp Wy W1:Tok} {k:Nat},alloc H (.range lo hi st) Q ->
  PE prog w c m Q (.ref s.heap.objs.size) {s with heap:=s.heap.push {cls:=.type "range",data:=.fields #[.int lo Wp,.int hi Wy,.int st W1]},toks:=k}:=λq=>by
  obtain⟨D,Yj,N,L⟩:=R'.led;exact FK (o:=.range _ _ _) R' L (R'.fr.push _) (N.push R'.fr _) (Co N (lt_size N)) ⟨_,_,_,rfl⟩ q
 have inv:∃i,vs=[i]/\Mw i λhi=>alloc H (.range 0 hi 1) Q:=by
  match vs,z with
  | [_],z=>exact⟨_,rfl,z⟩
 clear z;refine AJ λGG hG=>?_;obtain⟨i,rfl,z⟩:=inv;obtain⟨U,U,rfl,r1,r⟩:=r.tl;cases r.nl
 refine Dy (Bj z r1) λi t v u q=>?_;obtain rfl:=v;obtain rfl:=u;refine hG ?_;exact call_range_1 (fin q)
end
section
variable{Q:V->MH->Prop}
theorem TH{x:ZJ}{t:Sem Yr}(h:isE x=true):vt x 10=true\/isTrue x env t=(do let v <- t;standAt x.pos;holding [v] (truthy v)):=by
 cases x with
 | Compare l ops rs pos=>exact .inl rfl
 | UnaryOp op y p=>cases op<;>first|exact nomatch (show false=true from h)|exact .inr rfl
 | BoolOp op=>cases op<;>exact zT (show false=true from h)
 | IfExp=>exact nomatch (show false=true from h)
 | _=>exact .inr rfl
theorem t_e(i:SE prog w K k C e)(ic:∀op a b,e=.cmp op a b->SE prog w K k C a/\SE prog w K k C b):ST prog w K k C (.e e):=λA env c m κ sc ρ Z l x H s Q Er o R h=>by
 refine CV (NN o) λo1 oc o2=>?_;rcases TH (env:=env) (t:=eval x env) o1 with hv|he
 ·rw[hv,Bool.not_true,bY] at oc;refine FY (isC_of e oc) λop a b u=>?_;obtain rfl:=u
  ·refine AJ λGG hG=>?_;refine Am (ic _ _ _ rfl) λia ib=>?_;refine Am (an o2) λo o4=>?_;refine Am (an o) λo o3=>?_;refine HU (AO hv) λy cs xs p u=>?_;obtain rfl:=u;refine AR (CE (l:=cs) (an o).2) λop' u e=>?_;obtain rfl:=u;refine hG ?_;clear hG GG;cases eq_of_beq e
   refine AR (CE (l:=xs) o4) λz u o4=>?_;obtain rfl:=u;obtain⟨o4,o5⟩:=an o4;refine wpAny_isTrue_Compare1 (Fc (ia.go Z l o3 R h) λv y H s r R' h'=>Fc (ib.go Z l o4 R' h') λv' y' H' s' r' WR q=>?_) (by rwa [Zq] at o5)
   exact Fc (V2 (Q:=λv H=>Fq H v λb=>Q b H) Z.B.mods Z.un WR r r' q) λYX XV Wn WU Wb Wa Wh=>JO Wa Wb Wh
 ·exact isTrue_plain (Fc (i.go Z l o2 R h) λv y H s r R' q=>JO R' r q) he
theorem A2.nth{vs:List V}{xs:List Yr}{r:V}(h:A2 VR vs xs):∀{i:Nat},vs[i]?=some r->∃y,xs[i]?=some y/\VR r y:=by
 induction h with
 | nil=>intro i e;exact zN e
 | cons x _ ih =>
  intro i e;cases i with
  | zero=>obtain rfl:=Ys e;exact⟨_,rfl,x⟩
  | succ i=>exact ih (i:=i) e
theorem Mh{value slice:ZJ}{o:O}{a:Nat}{j:Int}{t:Tok}{r:V}{P:Yr->Yq->Prop}(R:Ob prog w H s.heap)(ho:H a=some o)(hi:Kn j r o)(hs:Js slice=true)(fin:∀y k,VR r y->P y {s with toks:=k}) :
 wpAny (model prog w) A (subscriptTail value slice (.ref a) (.int j t)) P Er s:=by
 have hsub:∀o i,subscripted slice false o i=operate [o,i] (getItem o i):=by
  intro o i;cases slice<;>first|rfl|exact zT hs
 have lst:∀{vs:List V},H a=some (.list vs)\/H a=some (.stk vs)->vs.length<=1000->nth vs j=some r->wpAny (model prog w) A (subscriptTail value slice (.ref a) (.int j t)) P Er s:=λ{vs} ho hle hi=>by
  refine AR (R.lst ho) λxs hl h2=>?_;have hlen:=h2.length;unfold nth at hi;split at hi
  ·rename_i h0;refine AR (h2.nth hi) λy e ry=>?_;have hlt:j.toNat<vs.length:=(Zw.mp hi).1;exact fY (x:=y) hl.typeIs F.slot_list_getitem.lookup (wpAny_getItem_list hl h0 (ozN ‹_› ‹_› ‹_›) (by simpa using e) ⟨rfl,fin _ s.toks ry⟩) (hsub _ _)
  ·rename_i h0;refine Am (Option.ite_none_right_eq_some.mp hi) λh1' hi=>?_;refine AR (h2.nth hi) λy e ry=>?_;have e2:(j+(xs.toArray.size:Int)).toNat=((vs.length:Int)+j).toNat:=by rw[ZI,<- hlen,Int.add_comm]
   refine fY (x:=y) hl.typeIs F.slot_list_getitem.lookup (wpAny_getItem_list_neg hl (cR.mp ‹_›) (by rw[ZI];exact ozO ‹_› ‹_›) (ozP ‹_› ‹_›) (by rw[e2];simpa using e) ⟨rfl,fin _ s.toks ry⟩) (hsub _ _)
 cases hi with
 | list hle hi=>exact lst (.inl ho) hle hi
 | stk hle hi=>exact lst (.inr ho) hle hi
theorem e_idx(ia:SE prog w K k C a)(ib:SE prog w K k C b):SE prog w K k C (.idx a b):=λA env c m κ sc ρ Z l x H s Q Er o R h=>by
 refine AJ λGG hG=>?_;refine IM (MP o) λo1 o2 o3 o4=>?_;clear o;refine FY (AO o1) λy z p n=>?_;obtain rfl:=n;refine hG ?_;clear hG GG;refine Subscript_ (Fc (ia.go Z l o2 R h) λv y H s r R' h'=>Fc (ib.go Z l o4 R' h') λv' y' H' s' r' WR q=>?_);refine AJ λGG hG=>?_;obtain⟨a,U,rfl,ob,ho,q⟩:=CK q r;refine Dy (Bj q r') λj t n i g=>?_;obtain rfl:=n;obtain rfl:=i;refine AR g λu hi q=>?_;refine hG ?_;clear hG GG;exact Mh (WR.obs Z.B.mods) ho hi o3 λU k ry=>⟨_,_,ry,WR.tok k,q⟩
end
section
variable{Q:V->MH->Prop}
theorem A2.snoc{α β:Type}{R:α->β->Prop}{u:α}:∀{vs:List α} {xs:List β},A2 R (vs++[u]) xs->∃xs' y,xs=xs'++[y]/\A2 R vs xs'/\R u y
 | [],_,r=>by
  obtain⟨y,U,rfl,h1,r⟩:=r.tl;cases r.nl
  exact⟨[],_,rfl,.nil,h1⟩
 | _::_,_,r=>by
  refine AJ λGG hG=>?_;obtain⟨y,U,rfl,h1,r⟩:=r.tl;refine Dy (A2.snoc r) λxs' z e h3 h4=>?_;refine hG ?_;clear hG GG;exact⟨y::xs',z,by rw[e];rfl,.cons h1 h3,h4⟩
theorem e_pop(i:SE prog w K k C e):SE prog w K k C (.pop e):=λA env c m κ sc ρ Z l x H s Q Er o R h=>by
 refine AJ λGG hG=>?_;refine Vm (an8 o) λo1 o2 o3 o4 o5 o6 o7 o8=>?_;clear o;refine HU (AO o1) λy xs kws p j=>?_;obtain rfl:=j;refine FY (AO (x:=y) o2) λov z ap j=>?_;obtain rfl:=j;cases(eq_of_beq o3:z=_)
 cases(Ah o7:xs=[])
 cases(Ah o8:kws=[])
 refine hG ?_;clear hG GG;refine bZ (Fc (i.go Z l o6 R h) λv y H s r R' q=>?_) (Gg (k:=k) (sc:=sc) (es:=[]) (ks:=[]) (ov:=ov) o4 o5 (by decide) rfl rfl)
 refine AJ λGG hG=>?_;refine Es (CK q r) λa U j g=>?_;obtain rfl:=j;refine Dy g λvs u ha hle q=>?_;refine O3 (R'.pl ha rfl) λD Yj ob N L h1 j=>?_;refine Gs j λxs n g h2=>?_;obtain rfl:=g;refine hG ?_;clear hG GG;refine Copied.getMethod_pop_at (N.get h1) rfl rfl ?_;refine ew (P:=λU=>True) rfl (λh U=>⟨.machine,.inr (.inl rfl),gv rfl⟩) (evalArgs_nil3 ⟨trivial,?_⟩);refine Dy (A2.snoc h2) λxs' y j h3 h4=>?_;obtain rfl:=j;have hl3:=h3.length;refine Copied.pop_at (N.get h1) (y:=y) (by simp) (λh' hs ho'=>?_) (by rw[ao,ZI,bS];show xs'.length+1<=_;exact ozQ ‹_› ‹_›)
 exact⟨u,_,h4,LN (o':=.stk vs) (t:=s.toks) R' N L ha h1 hs ho' ⟨xs',n+1,by simp,h3⟩,q⟩
theorem TI(i:SE prog w K k C e)(ib:SE prog w K k C b):SE prog w K k C (.append e b):=λA env c m κ sc ρ Z l x H s Q Er o R h=>by
 refine AJ λGG hG=>?_;refine Vm (an8 o) λo1 o2 o3 o4 o5 o6 o7 o8=>?_;clear o;refine HU (AO o1) λy xs kws p j=>?_;obtain rfl:=j;refine FY (AO (x:=y) o2) λov z ap j=>?_;obtain rfl:=j;cases(eq_of_beq o3:z=_)
 cases(Ah o7:kws=[])
 refine hG ?_;clear hG GG;have o9:Cw k sc [b] xs=true:=TG o8;have o10:xs.length<20:=by refine AR (CE (l:=xs) o8) λy e U=>?_;exact e.symm▸ZQ rfl
 refine bZ (Fc (i.go Z l o6 R h) λv y H s r R' q=>?_) (Gg (k:=k) (sc:=sc) (es:=[b]) (ks:=[]) (ov:=ov) o4 o5 o10 o9 rfl);refine AJ λGG hG=>?_;refine Es (CK q r) λa U j g=>?_;obtain rfl:=j;refine AR g λws hw h'=>?_;refine O3 (R'.pl hw rfl) λD Yj ob N L h1 j=>?_;refine Gs j λYY n g h2=>?_;obtain rfl:=g;refine hG ?_;clear hG GG;refine Calls.getMethod_list_append (N.get h1) rfl rfl ?_;refine ew (P:=λU=>True) (by refine AR (CE (l:=xs) o8) λy e U=>?_;rw[EA o9,Ek,e];rfl) (λh U=>⟨.machine,.inr (.inl rfl),gv rfl⟩) (JP (es:=[b]) (ks:=[]) (kws:=[]) (c:=c) (m:=m) (Q:=λvs us H=>us=[]/\g1 (λu H=>∃vs,H a=some (.stk vs)/\vs.length<=1000/\Q .none (H.put a (.stk (vs++[u])))) vs H) o9 rfl
  (Pf (Q:=g1 _) (sEs Z l (λe he=>msP he▸ib) o9 R' h') λvs ys H WO r R z=>⟨vs,H,r,R,λs' R'=>cw ⟨[],_,.nil,R',rfl,z⟩⟩) ?_)
 rintro vs us ys zs WW WQ WZ Wb WR ⟨rfl,z⟩;cases Wb
 refine AJ λGG hG=>?_;refine Dy (WZ.one z) λu Xu j ry g=>?_;obtain rfl:=j;refine Es g λvs hv hle q=>?_;refine O3 (WR.pl hv rfl) λXv XW W7 W8 W9 g1 j=>?_;refine Gs j λXw XL g g2=>?_;obtain rfl:=g;refine hG ?_;clear hG GG;have hl2:=g2.length;refine⟨trivial,append_at (W8.get g1) (λh' hs ho'=>?_) (by rw[ao,ZI];exact ozA ‹_› ‹_›)⟩
 exact⟨.none,_,.none,LN (o':=.stk (vs++[u])) (t:=WQ.toks) WR W8 W9 hv g1 hs ho' ⟨Xw++[Xu],XL+1,by simp,g2.append (.cons ry .nil)⟩,q⟩
end
end
end Mine
end
section
set_option genInjectivity false
namespace Mine
open PySem PySem.W PySem.Calls PyProof.Rows
structure Vs where
 t:Nat
 xs:List ZJ
 a:Option ZJ
 b:Option ZJ
 o:bW
 ss:List af
 rs:List af
noncomputable def Bb(x:af):Vs:=match x with
 | .Assign ts v _=>⟨1,ts,some v,none,.Add,[],[]⟩
 | .AugAssign t o v _=>⟨2,[t],some v,none,o,[],[]⟩
 | .If t b c _=>⟨3,[],some t,none,.Add,b,c⟩
 | .While t b c _=>⟨4,[],some t,none,.Add,b,c⟩
 | .For t i b c _=>⟨5,[t],some i,none,.Add,b,c⟩
 | .Return v _=>⟨6,[],v,none,.Add,[],[]⟩
 | .Raise _ _ _=>⟨7,[],none,none,.Add,[],[]⟩
 | .Assert t m _=>⟨8,[],some t,m,.Add,[],[]⟩
 | .Expr v _=>⟨9,[],some v,none,.Add,[],[]⟩
 | .Break _=>⟨10,[],none,none,.Add,[],[]⟩
 | .Continue _=>⟨11,[],none,none,.Add,[],[]⟩
 | .Pass _=>⟨12,[],none,none,.Add,[],[]⟩
 | _=>⟨0,[],none,none,.Add,[],[]⟩
noncomputable def TJ(x:af):List Prop:=[True,∃ts v p,x=.Assign ts v p,∃t o v p,x=.AugAssign t o v p,∃t b c p,x=.If t b c p,∃t b c p,x=.While t b c p,∃t i b c p,x=.For t i b c p,∃v p,x=.Return v p,∃a b p,x=.Raise a b p,∃t m p,x=.Assert t m p,∃v p,x=.Expr v p,∃p,x=.Break p,∃p,x=.Continue p,∃p,x=.Pass p]
theorem TK(x:af):TD (Bb x).t (TJ x):=by
 cases x with
 | Assign=>exact⟨_,_,_,rfl⟩
 | AugAssign=>exact⟨_,_,_,_,rfl⟩
 | If=>exact⟨_,_,_,_,rfl⟩
 | While=>exact⟨_,_,_,_,rfl⟩
 | For=>exact⟨_,_,_,_,_,rfl⟩
 | Return=>exact⟨_,_,rfl⟩
 | Raise=>exact⟨_,_,_,rfl⟩
 | Assert=>exact⟨_,_,_,rfl⟩
 | Expr=>exact⟨_,_,rfl⟩
 | Break=>exact⟨_,rfl⟩
 | Continue=>exact⟨_,rfl⟩
 | Pass=>exact⟨_,rfl⟩
 | _=>trivial
abbrev NP(x:af)(n:Nat):Bool:=Y4 (Bb x).t n
theorem BF{x:af}{t:Nat}(h:NP x t=true):TD t (TJ x):=Y6 h▸TK x
def Ke(sc:ZR):List (Nat×Bool)->List ZJ->Bool
 | [],[]=>true
 | p::xs,t::ts=>Pb sc t p.1 (bif p.2 then .cell else .local)&&Ke sc xs ts
 | _,_=>false
mutual
def U4(k:Ck)(sc:ZR):S->af->Bool:=λs y=>match s with
 | .asg x e=>NP y 1&&FR (Bb y).xs (λt=>Pb sc t x .local)&&Ej (Bb y).a λv=>(Cv v||vt v 16&&isL e)&&CM k sc e v
 | .casg x e=>NP y 1&&FR (Bb y).xs (λt=>Pb sc t x .cell)&&Ej (Bb y).a λv=>CM k sc e v
 | .asg2 x x' e=>NP y 1&&KS (Bb y).xs (λt u=>Pb sc t x .local&&Pb sc u x' .local)&&Ej (Bb y).a λv=>Cv v&&CM k sc e v
 | .unp xs e=>(k.strict&&NP y 1)&&FR (Bb y).xs (λt=>vt t 12&&Ke sc xs (AL t).xs)&&Ej (Bb y).a λv=>vt v 3&&CM k sc e v
 | .seta e n v=>NP y 1&&FR (Bb y).xs (λt=>vt t 2&&((AL t).z==nm n)&&k.isAttr n&&CM k sc e (AL t).a)&&Ej (Bb y).a λu=>CM k sc v u
 | .auga e n o v=>NP y 2&&FR (Bb y).xs (λt=>vt t 2&&((AL t).z==nm n)&&k.isAttr n&&CM k sc e (AL t).a)&&(o==(Bb y).o)&&(o==.Add)&&Ej (Bb y).a λu=>CM k sc v u
 | .aug x o v=>NP y 2&&FR (Bb y).xs (λt=>Pb sc t x .local)&&(o==(Bb y).o)&&(o==.Add)&&Ej (Bb y).a λu=>CM k sc v u
 | .cond t b c=>NP y 3&&Ej (Bb y).a (λu=>Oc k sc t u)&&Gh k sc b (Bb y).ss&&Gh k sc c (Bb y).rs
 | .while t b=>NP y 4&&Ej (Bb y).a (λu=>Oc k sc t u)&&Gh k sc b (Bb y).ss&&(Bb y).rs.isEmpty
 | .for x it b=>(k.strict&&NP y 5)&&FR (Bb y).xs (λt=>Pb sc t x .local)&&Ej (Bb y).a (λu=>Cv u&&CM k sc it u)&&Gh k sc b (Bb y).ss&&(Bb y).rs.isEmpty
 | .ret e=>NP y 6&&Ej (Bb y).a λv=>CM k sc e v
 | .ret0=>NP y 6&&(Bb y).a.isNone
 | .raise=>true
 | .assert t=>(k.strict&&NP y 8)&&Ej (Bb y).a (λu=>Oc k sc t u)&&(Bb y).b.isNone
 | .expr e=>NP y 9&&Ej (Bb y).a λv=>Cv v&&CM k sc e v
 | .brk=>NP y 10
 | .cont=>NP y 11
 | .pass=>NP y 12
def Gh(k:Ck)(sc:ZR):List S->List af->Bool:=λs ys=>match s,ys with
 | [],[]=>true
 | s::r,y::ys=>U4 k sc s y&&Gh k sc r ys
 | _,_=>false
end
end Mine
end
section
namespace Mine
open PySem PySem.W PySem.Calls PyProof.Rows
inductive FlR:Fl->Flow->Prop
 | next:FlR .next .next
 | brk:FlR .brk .brk
 | cont:FlR .cont .cont
 | ret {v y}:VR v y->FlR (.ret v) (.ret y)
inductive PS (prog:Y8) (w:Y0) (c:Cx) (Q:Fl->As->MH->Prop) (f:Flow) (s:Yq):Prop
 | mk (fl:Fl) (ρ:As) (m:Zf->Option Yr) (H:MH) (rf:FlR fl f) (l:Bh ρ m) (R:AU prog w c m H s) (q:Q fl ρ H):PS prog w c Q f s
section
variable(prog:Y8)(w:Y0)(K:aC)(k:Ck)(C:CI)
def SS(x:S):Prop:=∀A env c κ sc,Ev prog w K k C A c env κ sc->∀ρ m,Bh ρ m->∀y H s Q Er,U4 k sc x y=true->AU prog w c m H s->wS C κ x ρ H Q->wpAny (model prog w) A (exec y env) (PS prog w c Q) Er s
end
section
variable{prog:Y8}{w:Y0}{A:Za}{env:eE}{c:Cx}{m:Zf->Option Yr}{κ:Kp}{sc:ZR}{K:aC}{k:Ck}{C:CI}{ρ:As}{e a b:E}{t:T}{H:MH}{s:Yq}{Er:Yr->Yq->Prop}
theorem PS.nx{Q:Fl->As->MH->Prop}(l:Bh ρ m)(R:AU prog w c m H s)(q:Q .next ρ H):PS prog w c Q .next s:=⟨.next,ρ,m,H,.next,l,R,q⟩
theorem Bh.put{x:Nat}{v:V}{y:Yr}(l:Bh ρ m)(r:VR v y):Bh (put x v ρ) (λz=>if z=nm x then some y else m z):=by
 intro z u h;cases q:Y4 x z with
 | true=>cases Y6 q;rw[BE] at h;cases h;exact⟨y,if_pos rfl,r⟩
 | false =>
  rw[AY q] at h;obtain⟨y',e1,e2⟩:=l z u h;exact⟨y',(if_neg λe=>by rw[LH e,cD] at q;cases q).trans e1,e2⟩
theorem Fd{x:Nat}{v:V}{y:Yr}{P:Unit->Yq->Prop}(O:EO env c.L κ sc)(hk:sc.names.lookup (nm x)=some .local)(l:Bh ρ m)(R:AU prog w c m H s)(r:VR v y)
 (q:∀m' s',Bh (put x v ρ) m'->AU prog w c m' H s'->P () s'):wpAny (model prog w) A (storeName env (nm x) y) P Er s:=by
 obtain⟨D,Yj,N,L⟩:=R.led;refine wpAny_storeName_local (by unfold a7;rw[O.isc];exact hk) (by rw[O.ilo];exact R.fr.ns) (λh' hn hs=>?_) (by exact O.isc▸O.ikd▸rfl)
 rw[O.ilo] at hn hs;exact q _ _ (l.put r) (R.heap (R.fr.set hn hs) (N.set hs) L)
theorem Od{x:Nat}{v:V}{y:Yr}{a:Nat}{o:Option V}{P:Unit->Yq->Prop}(O:EO env c.L κ sc)(hk:sc.names.lookup (nm x)=some .cell)(R:AU prog w c m H s)(r:VR v y)
 (g:AN x κ=some a)(hc:H a=some (.cell o))(q:∀s',AU prog w c m (H.put a (.cell (some v))) s'->P () s'):wpAny (model prog w) A (storeName env (nm x) y) P Er s:=by
 refine AJ λGG hG=>?_;refine O3 (R.pl hc rfl) λD Yj ob N L h1 h2=>?_;refine hG ?_;clear hG GG;have hcell:∃XX,s.heap.IsCell a XX:=by
  cases o with
  | none=>exact⟨_,ob,N.get h1,h2⟩
  | some v=>refine AR h2 λy h2 U=>?_;exact⟨_,ob,N.get h1,h2⟩
 refine BB hcell λXX hcell=>?_;refine wpAny_storeName_cell (by rw[O.isc];exact O.ikd) (by unfold a7;rw[O.isc];exact hk) (O.ice _ _ g) hcell λh' hv hs=>?_
 refine AR hv λob' g1 g2=>?_;exact q _ (LN (t:=s.toks) R N L hc h1 hs g1 ⟨y,g2,r⟩)
theorem Oe{v:ZJ}{t:Option ZJ}{n:Nat}(h:Cv v=true):swapsWith v t n env=pure false:=by
 cases v<;>first|rfl|exact zT (show false=true from h)
theorem Ph{v o:ZJ}{z:Zf}{p:ef}{n:Nat}:swapsWith v (some (.Attribute o z p)) n env=pure false:=by
 cases v<;>rfl
theorem GC(O:EO env c.L κ sc):interactive env=false:=by
 unfold interactive;exact O.isc▸O.ikd▸rfl
theorem Pi{v:ZJ}{x:Zf}{p:ef}{n:Nat}(h:env.kindOf x=some .cell):swapsWith v (some (.Name x p)) n env=pure false:=by
 have e:(env.kindOf x==some NameKind.local)=false:=by rw[h];rfl
 cases v<;>first|rfl|(unfold swapsWith;dsimp only;rw[e,gP,Bool.false_and,Bool.false_and])
theorem s_casg{x:Nat}(i:SE prog w K k C e):SS prog w K k C (.casg x e):=λA env c κ sc Z ρ m l y H s Q Er o R h=>by
 refine AJ λGG hG=>?_;refine CV (NN o) λo1 o2 o3=>?_;clear o;refine FY (BF o1) λts v p z=>?_;obtain rfl:=z;refine AR (CE (l:=ts) o2) λt z o2=>?_;obtain rfl:=z;obtain⟨⟨p',rfl⟩,o5⟩:=D4 o2;refine hG ?_;clear hG GG;refine ey (Fc (i.go Z l o3 R h) λv y H s r R' q=>?_) (Pi (by have O:=Z.O;unfold a7;exact O.isc.symm▸o5))
 refine AR (O4 q) λa g z=>?_;refine AR z λob hc q=>?_;exact Od Z.O o5 R' r g hc λWQ WR=>.nx l WR q
theorem RS{x:Nat}{p:ef}{vx:ZJ}{Q:Fl->As->MH->Prop}{t:ZJ}(i:SE prog w K k C e)(Z:Ev prog w K k C A c env κ sc)(l:Bh ρ m)(o2:Pb sc t x .local=true)(o3:CM k sc e vx=true)(hs:∀n p',swapsWith vx (some (.Name (nm x) p')) n env=pure false)
 (R:AU prog w c m H s)(h:wS C κ (.asg x e) ρ H Q):wpAny (model prog w) A (exec (.Assign [t] vx p) env) (PS prog w c Q) Er s:=by
 refine Am (D4 o2) λz o5=>?_;refine BB z λp' u=>?_;obtain rfl:=u;exact ey (Fc (i.go Z l o3 R h) λv y H s r R' q=>Fd Z.O o5 l R' r λm' WQ l' WR=>.nx l' WR q) (hs _ _)
theorem s_ret(i:SE prog w K k C e):SS prog w K k C (.ret e):=λA env c κ sc Z ρ m l y H s Q Er o R h=>by
 refine AJ λGG hG=>?_;refine Am (an o) λo1 o2=>?_;refine HT (BF o1) λv p z=>?_;obtain rfl:=z;refine AR (D9 (l:=v) o2) λv z o2=>?_;obtain rfl:=z;refine hG ?_;clear hG GG;exact Z3 (Fc (i.go Z l o2 R h) λv y H s r R' q=>⟨.ret v,ρ,m,H,.ret r,l,R',q⟩)
theorem s_ret0:SS prog w K k C .ret0:=λA env c κ sc Z ρ m l y H s Q Er o R h=>by
 refine AJ λGG hG=>?_;refine Am (an o) λo1 o2=>?_;refine HT (BF o1) λv p z=>?_;obtain rfl:=z;cases(cJ.mp o2:v=none)
 refine hG ?_;clear hG GG;exact wpAny_Return_none ⟨.ret .none,ρ,m,H,.ret .none,l,R,h⟩
theorem s_brk:SS prog w K k C .brk:=λA env c κ sc Z ρ m l y H s Q Er o R h=>by
 refine BB (BF o) λp z=>?_;obtain rfl:=z;exact wpAny_Break ⟨.brk,ρ,m,H,.brk,l,R,h⟩
theorem s_cont:SS prog w K k C .cont:=λA env c κ sc Z ρ m l y H s Q Er o R h=>by
 refine BB (BF o) λp z=>?_;obtain rfl:=z;exact wpAny_Continue ⟨.cont,ρ,m,H,.cont,l,R,h⟩
theorem s_pass:SS prog w K k C .pass:=λA env c κ sc Z ρ m l y H s Q Er o R h=>by
 refine BB (BF o) λp z=>?_;obtain rfl:=z;exact wpAny_Pass (.nx l R h)
theorem TL(i:ST prog w K k C t):SS prog w K k C (.assert t):=λA env c κ sc Z ρ m l y H s Q Er o R h=>by
 refine AJ λGG hG=>?_;refine CV (NN o) λo1 o2 o3=>?_;refine Am (an o1) λost o1=>?_;clear o;refine FY (BF o1) λu b p z=>?_;obtain rfl:=z;cases(cJ.mp o3:b=none)
 refine hG ?_;clear hG GG;exact wpAny_Assert_new (Z.hh ost) (Pe (i _ _ _ _ _ _ _ Z l _ _ _ _ _ o2 R h) λv H s R' q=>by obtain⟨rfl,q⟩:=q;exact .nx l R' q)
theorem s_expr(i:SE prog w K k C e):SS prog w K k C (.expr e):=λA env c κ sc Z ρ m l y H s Q Er o R h=>by
 refine AJ λGG hG=>?_;refine Am (an o) λo1 o2=>?_;refine HT (BF o1) λv p z=>?_;obtain rfl:=z;refine Am (an (show(Cv v&&CM k sc e v)=true from o2)) λo3 o4=>?_
 refine hG ?_;clear hG GG;exact wpAny_Expr_any (Fc (i.go Z l o4 R h) λv y H s r R' q=>.nx l R' q) (GC Z.O) (Oe o3)
end
section
variable{prog:Y8}{w:Y0}{A:Za}{env:eE}{c:Cx}{m:Zf->Option Yr}{κ:Kp}{sc:ZR}{K:aC}{k:Ck}{C:CI}{ρ:As}{e a b:E}{t:T}{H:MH}{s:Yq}{Er:Yr->Yq->Prop}
section
theorem LO(x:Zf)(p:ef)(v:Yr):assign (.Name x p) env v=(do standAt p;bindName env x v):=rfl
theorem Dj{x:Zf}{p:ef}{v:Yr}{P:Unit->Yq->Prop}(h:wpAny (model prog w) A (storeName env x v) P Er s):wpAny (model prog w) A (assign (.Name x p) env v) P Er s:=by
 rw[LO];exact Yo (am (wpAny_bindName h))
theorem TM(Z:Ev prog w K k C A c env κ sc):∀{es:List S},(∀e∈es,SS prog w K k C e)->∀{xs:List af} {ρ:As} {m:Zf->Option Yr} {H:MH} {s:Yq} {Q:Fl->As->MH->Prop},Bh ρ m->Gh k sc es xs=true->AU prog w c m H s->Ap C κ es ρ H Q->wpAny (model prog w) A (execs xs env) (PS prog w c Q) Er s
 | [],_,[],ρ,m,H,s,Q,l,o,R,h=>fo (.nx l R h)
 | e::es,ih,x::xs,ρ,m,H,s,Q,l,o,R,h=>by
  refine Am (an (show(U4 k sc e x&&Gh k sc es xs)=true from o)) λo1 o2=>?_
  refine ZL (th (ih e (.head _) _ _ _ _ _ Z _ _ l _ _ _ _ _ o1 R h) λf WO ⟨fl,XA,XB,XC,rf,Ws,WV,q⟩=>?_);cases rf with
  | next=>exact TM Z (λe h=>ih e (.tail _ h)) Ws o2 WV q
  | cont=>exact⟨_,XA,XB,XC,.cont,Ws,WV,q⟩
  | brk=>exact⟨_,XA,XB,XC,.brk,Ws,WV,q⟩
  | ret r=>exact⟨_,XA,XB,XC,.ret r,Ws,WV,q⟩
 | [],_,_::_,_,_,_,_,_,_,o,_,_=>zT (show false=true from o)
 | _::_,_,[],_,_,_,_,_,_,o,_,_=>nomatch (show false=true from o)
theorem s_cond{b d:List S}(it:ST prog w K k C t)(ib:∀e∈b,SS prog w K k C e)(id:∀e∈d,SS prog w K k C e):SS prog w K k C (.cond t b d):=λA env c κ sc Z ρ m l y H s Q Er o R h=>by
 refine AJ λGG hG=>?_;refine IM (MP o) λo1 o2 o3 o4=>?_;clear o;refine HU (BF o1) λu b' d' p z=>?_;obtain rfl:=z;refine hG ?_;clear hG GG;refine wpAny_If (Pe (it _ _ _ _ _ _ _ Z l _ _ _ _ _ o2 R h) λv H s R' q=>?_);cases v
 ·exact TM Z id l o4 R' q
 ·exact TM Z ib l o3 R' q
theorem s_asg2{x x':Nat}(i:SE prog w K k C e):SS prog w K k C (.asg2 x x' e):=λA env c κ sc Z ρ m l y H s Q Er o R h=>by
 refine AJ λGG hG=>?_;refine CV (NN o) λo1 o2 o3=>?_;clear o;refine FY (BF o1) λts v p z=>?_;obtain rfl:=z;refine Gs (Hm (l:=ts) o2) λt u z o2=>?_;obtain rfl:=z;refine Am (an o2) λo4 o5=>?_;obtain⟨⟨p',rfl⟩,o6⟩:=D4 o4;obtain⟨⟨p'',rfl⟩,o7⟩:=D4 o5;refine Am (an (show(Cv v&&CM k sc e v)=true from o3)) λo8 o9=>?_
 refine hG ?_;clear hG GG;refine wpAny_Assign_two (Fc (i.go Z l o9 R h) λv y H s r R' q=>Dj (Fd Z.O o6 l R' r λm' WQ l' WR=>Dj (Fd Z.O o7 l' WR r λm'' WU l'' Wa=>.nx l'' Wa q))) rfl ?_;cases v<;>first|rfl|exact nomatch (show false=true from o8)
theorem U5{n:Nat}(i:SE prog w K k C e)(iv:SE prog w K k C b):SS prog w K k C (.seta e n b):=λA env c κ sc Z ρ m l y H s Q Er o R h=>by
 refine AJ λGG hG=>?_;refine CV (NN o) λo1 o2 o3=>?_;clear o;refine FY (BF o1) λts v p x=>?_;obtain rfl:=x;refine AR (CE (l:=ts) o2) λt x o2=>?_;obtain rfl:=x;refine IM (MP o2) λo6 o7 o5 o4=>?_;clear o2;refine FY (AO o6) λov z p' x=>?_;obtain rfl:=x;cases(eq_of_beq o7:z=_)
 refine hG ?_;clear hG GG;exact plainObj_wpAny_Assign_Attribute (Fc (iv.go Z l o3 R h) λu y H s r R' h'=>Fc (i.go Z l o4 R' h') λu' y' H' s' r' WR Wf=>TC Z.F Z.B.kin o5 WR r' r Wf λWn WU Wa q=>.nx l Wa q) Ph
theorem s_auga{n:Nat}{op:bW}(i:SE prog w K k C e)(iv:SE prog w K k C b):SS prog w K k C (.auga e n op b):=λA env c κ sc Z ρ m l y H s Q Er o R h=>by
 refine AJ λGG hG=>?_;refine Nf (Rs o) λo1 o2 o9 o8 o3=>?_;clear o;refine HU (BF o1) λt op' v p x=>?_;obtain rfl:=x;refine IM (MP (show(vt t 2&&((AL t).z==nm n)&&k.isAttr n&&CM k _ e (AL t).a)=true from o2)) λo6 o7 o5 o4=>?_
 refine FY (AO o6) λov z p' x=>?_;obtain rfl:=x;cases(eq_of_beq o7:z=_)
 cases(eq_of_beq o9:op=op')
 refine hG ?_;clear hG GG;have o8:=eq_of_beq o8;refine wpAny_AugAssign_AttributeAny (Fc (i.go Z l o4 R h) λu y H s r R' h'=>?_);refine Fc (TB (Q:=λu' H'=>wE C _ b ρ H' _) Z.F Z.B.kin o5 R' r h') λu' y' H' s' r' WR Wf=>?_;refine Fc (iv.go Z l o3 WR Wf) λXx XV Wn WU Wb Wa Wq=>?_;exact Fc (TA (Q:=λr H=>Qw H u n r _) o8 Wa r' Wb Wq) λXy Xz X0 Wu XM Wl W2=>TC Z.F Z.B.kin o5 Wl r XM W2 λXY XZ W3 q=>.nx l W3 q
theorem s_aug{x:Nat}{op:bW}(iv:SE prog w K k C b):SS prog w K k C (.aug x op b):=λA env c κ sc Z ρ m l y H s Q Er o R h=>by
 refine AJ λGG hG=>?_;refine Nf (Rs o) λo1 o2 o9 o8 o3=>?_;clear o;refine HU (BF o1) λt op' v p z=>?_;obtain rfl:=z;obtain⟨⟨p',rfl⟩,o5⟩:=D4 (x:=t) o2;cases(eq_of_beq o9:op=op')
 refine hG ?_;clear hG GG;have o8:=eq_of_beq o8;refine AR (O4 h) λu g h=>?_;refine AR (l _ _ g) λy gy ry=>?_;refine wpAny_AugAssign_Name (bz (by rw[Z.O.isc];exact Z.O.ikd) (by unfold a7;rw[Z.O.isc];exact o5) (by rw[Z.O.ilo];exact R.fr.ns) gy ?_)
 refine Fc (iv.go Z l o3 R h) λXx XV Wn WU Wb Wa Wq=>?_;exact Fc (TA (Q:=λr H=>Q .next (put x r ρ) H) o8 Wa ry Wb Wq) λXy Xz X0 Wu XM Wl W2=>Fd Z.O o5 l Wl XM λm' WQ l' WR=>.nx l' WR W2
theorem U6{b:List S}(it:ST prog w K k C t)(ib:∀e∈b,SS prog w K k C e):SS prog w K k C (.while t b):=λA env c κ sc Z ρ m l y H s Q Er o R h=>by
 refine AJ λGG hG=>?_;refine IM (MP o) λo1 o2 o3 o4=>?_;clear o;refine HU (BF o1) λu b' d' p z=>?_;obtain rfl:=z;cases(Ah o4:d'=[])
 refine Gs h λI n h0 hI=>?_;refine hG ?_;clear hG GG;refine wpAny_While (codeAny_whileLoop (λn s=>∃ρ m H,Bh ρ m/\AU prog w c m H s/\I n ρ H) (λn WO x=>x33 x λXA XB XC Ws WV Wi=>?_) n ⟨ρ,m,H,l,R,h0⟩);refine Pe (it _ _ _ _ _ _ _ Z Ws _ _ _ _ _ o2 WV (hI _ _ _ Wi)) λv WW WQ WR q=>?_;cases v
 ·exact fo (.nx Ws WR q)
 ·refine th (TM Z ib Ws o3 WR q) λf WU ⟨fl,Wv,Wm,Wn,rf,Ww,Wa,Wh⟩=>?_;cases rf with
  | next=>refine AR Wh λn' hn Wh=>?_;exact⟨n',hn,Wv,Wm,Wn,Ww,Wa,Wh⟩
  | cont=>refine AR Wh λn' hn Wh=>?_;exact⟨n',hn,Wv,Wm,Wn,Ww,Wa,Wh⟩
  | brk=>exact .nx Ww Wa Wh
  | ret r=>exact⟨_,Wv,Wm,Wn,.ret r,Ww,Wa,Wh⟩
end
section
theorem AU.keeps{h':aV}{t:Nat}(R:AU prog w c m H s)(hk:∀b o,s.heap.get? b=some o->h'.get? b=some o):AU prog w c m H {s with heap:=h',toks:=t}:=by
 obtain⟨D,Yj,N,L⟩:=R.led;exact R.heap (R.fr.keeps hk) (λp hp=>⟨hk _ _ (N p hp).1,(N p hp).2⟩) L
theorem LP:∀{xs:List (Nat×Bool)} {ts:List ZJ},Ke sc xs ts=true->(assignEach ts env).length=xs.length/\(assignEach ts env).findIdx? (·.1)=none
 | [],[],_=>⟨rfl,rfl⟩
 | [],_::_,h=>nomatch (show false=true from h)
 | _::_,[],h=>nomatch (show false=true from h)
 | p::r,t::ts,h=>by
  obtain⟨h1,h2⟩:=an h;obtain⟨⟨pp,rfl⟩,U⟩:=D4 h1;obtain⟨i1,i2⟩:=LP h2;refine⟨congrArg (·+1) i1,?_⟩
  show List.findIdx? (·.1) ((false,_)::assignEach ts env)=none
  rw[List.findIdx?_cons,i2];rfl
theorem LQ{Q:As->MH->Prop}:∀{xs:List (Nat×Bool)} {vs:List V} {ρ:As} {H:MH},Qu κ xs vs ρ H Q->xs.length=vs.length
 | [],[],_,_,_=>rfl
 | [],_::_,_,_,h=>h.elim
 | _::_,[],_,_,h=>h.elim
 | (x,false)::r,v::vs,_,_,h=>congrArg (·+1) (LQ (show Qu κ r vs _ _ Q from h))
 | (x,true)::r,v::vs,_,_,h=>by
  refine AR (O4 (show op (AN x κ) _ from h)) λU U z=>?_;refine AR z λU U h=>?_
  exact congrArg (·+1) (LQ h)
theorem RT(O:EO env c.L κ sc){P:Unit->Yq->Prop}{Q:As->MH->Prop}(hP:∀ρ m H s,Bh ρ m->AU prog w c m H s->Q ρ H->P () s)(xs:List (Nat×Bool)):∀{ts:List ZJ} {vs:List V} {ys:List Yr} {ρ:As} {m:Zf->Option Yr} {H:MH} {s:Yq},
 Ke sc xs ts=true->A2 VR vs ys->Bh ρ m->AU prog w c m H s->Qu κ xs vs ρ H Q->wpAny (model prog w) A (assignInOrder ((assignEach ts env).map (·.2)) ys) P Er s:=by
 induction xs with
 | nil =>
  intro ts vs ys ρ m H s ho hA l R h;cases ts with
  | cons=>exact zT ho
  | nil =>
   cases vs with
   | cons=>exact h.elim
   | nil=>cases hA.nl;exact assignInOrder_nil (hP _ _ _ _ l R h)
 | cons p r ih =>
  intro ts vs ys ρ m H s ho hA l R h;cases ts with
  | nil=>exact zT ho
  | cons t ts =>
   cases vs with
   | nil=>exact h.elim
   | cons v vs =>
    refine Dy hA.tl λy ys z rv rr=>?_;obtain rfl:=z;obtain⟨x,b⟩:=p;refine Am (an ho) λh1 h2=>?_;clear ho hA;obtain⟨⟨pp,rfl⟩,h4⟩:=D4 h1;refine assignInOrder_cons (t:=assign (.Name (nm x) pp) env) (ts:=(assignEach ts env).map (·.2)) (Dj ?_)
    cases b with
    | false=>exact Fd O h4 l R rv λm' WQ l' WR=>ih h2 rr l' WR h
    | true =>
     refine AR (O4 (show op (AN x κ) _ from h)) λa g z=>?_;refine AR z λo hc h=>?_
     exact Od O h4 R rv g hc λWQ WR=>ih h2 rr l WR h
theorem s_unp{xs:List (Nat×Bool)}(i:SE prog w K k C e):SS prog w K k C (.unp xs e):=λA env c κ sc Z ρ m l y H s Q Er o R h=>by
 refine AJ λGG hG=>?_;refine CV (NN o) λo1 o2 o3=>?_;refine Am (an o1) λost o1=>?_;clear o;refine FY (BF o1) λts v p z=>?_;obtain rfl:=z;refine AR (CE (l:=ts) o2) λt z o2=>?_;obtain rfl:=z;refine Am (an o2) λo4 o5=>?_;refine FY (AO o4) λts kk p' z=>?_;obtain rfl:=z;refine Am (an (show(vt v 3&&CM k sc e v)=true from o3)) λo6 o7=>?_
 refine Am (LP (env:=env) (ts:=ts) o5) λn1 n2=>?_;refine hG ?_;clear hG GG;refine Assign_Tuple (Fc (i.go Z l o7 R h) λv y H s r R' q=>?_) ?_ ?_
 ·refine AJ λGG hG=>?_;refine Es (CK q r) λa U z x=>?_;obtain rfl:=z;refine AR x λob hv u=>?_;refine AR u λvs n q=>?_;obtain rfl:=n;refine AR (R'.tup hv) λys h1 h2=>?_;refine hG ?_;clear hG GG;refine assign_Tuple_tuple (items:=ys.toArray) (Z.hh ost) h1 (by exact n1▸(LQ q)▸h2.length▸ZI▸rfl) n2 λh' hx=>?_
  exact RT Z.O (λρ m H s l R q=>.nx l R q) _ o5 h2 l (R'.keeps (t:=s.toks) λb ob e=>hx b ob (ZF (Yy e)) e) q
 all_goals
  refine HU (AO o6) λf as ks p z=>?_;obtain rfl:=z;rfl
end
end
section
variable{prog:Y8}{w:Y0}{A:Za}{c:Cx}{m:Zf->Option Yr}{H:MH}{s:Yq}{Er:Yr->Yq->Prop}{X₀ X':Bw}{I a i:Nat}{ob ob':dK}{o:O}{vs:List V}
section
theorem AU.dropX'(R:AU prog w c m H s)(h:∀p∈X',p∈c.X):AU prog w (c.x (X')) m H s:=by
 obtain⟨D,Yj,N,L⟩:=R.led;exact⟨R.fr,⟨D,Yj,N,L.dropX h⟩,R.gs,R.dr,R.os⟩
theorem AU.addX'{D:Nat->Nat}{Yj:Bw}(R:AU prog w c m H s)(L:GK prog w c.WM D Yj c.X H){q:Nat}{h':aV}{t:Nat}(F':Fr c.WM c.L h' m)(N':gN c.WM c.L h' ((q,ob)::Yj))
 (lt:q∉Yj.map (·.1)):AU prog w (c.x ((q,ob)::c.X)) m H {s with heap:=h',toks:=t} :=
 ⟨F',⟨D,_,N',L.addX lt (N' (q,_) (.head _)).2.2⟩,R.gs,R.dr,R.os⟩
theorem AU.moveX{h':aV}{t:Nat}(R:AU prog w (c.x ((I,ob)::X₀)) m H s)(hX:∀p∈X₀,p.1≠I)(hs:cG I s.heap h')(ho:h'.get? I=some ob') :
 AU prog w (c.x ((I,ob')::X₀)) m H {s with heap:=h',toks:=t}:=by
 refine AJ λGG hG=>?_;obtain⟨D,Yj,N,L⟩:=R.led;refine CV (L.xs _ (.head _)) λx1 x2 x3=>?_;refine hG ?_;clear hG GG;have U:=NL (o':=ob') L.nd x1;refine AJ λGG hG=>?_;refine Q3 U.split λpre post e1 e2 u1 u2=>?_;refine hG ?_;clear hG GG;have hh:=N _ x1;have N':gN c.WM c.L h' (QV I ob' Yj):=by
  rw[e2];exact news_set (e1▸N) u1 u2 hs ho
 have kp:∀p∈Yj,p.1≠I->p∈QV I ob' Yj:=λp hp q=>GA hp q;refine⟨R.fr.change hs hh.2.1 hh.2.2,⟨D,_,N',by rw[LJ];exact L.nd,λb o e=>(L.ob b o e).mono (λc as z=>⟨rfl,λp hp q=>kp p hp (q▸x3 b c as (z▸e))⟩) λp hp q=>kp p hp λz=>?_,L.dj,λp hp=>?_⟩,R.gs,R.dr,R.os⟩
 ·exact zN (x2▸z▸q▸e)
 ·rcases mcP hp with rfl|hp
  ·exact⟨LK x1,x2,x3⟩
  ·refine CV (L.xs p (.tail _ hp)) λy1 y2 y3=>?_;exact⟨GA y1 (hX p hp),y2,y3⟩
theorem AU.loseX{h':aV}{t:Nat}(R:AU prog w (c.x ((I,ob)::X₀)) m H s)(hX:∀p∈X₀,p.1≠I)(he:∀b o,b≠I->s.heap.get? b=some o->h'.get? b=some o) :
 AU prog w (c.x (X₀)) m H {s with heap:=h',toks:=t}:=by
 refine AJ λGG hG=>?_;obtain⟨D,Yj,N,L⟩:=R.led;refine CV (L.xs _ (.head _)) λx1 x2 x3=>?_;refine hG ?_;clear hG GG;have hh:=N _ x1;refine AJ λGG hG=>?_;refine O3 R.fr.ns λoL es ep hL hd hsk hf=>?_;refine hG ?_;clear hG GG;have kp:∀p∈Yj,p.1≠I->p∈Yj.filter λp=>p.1≠I:=λp hp q=>Zi.mpr ⟨hp,decide_eq_true q⟩;refine⟨⟨⟨oL,es,ep,he _ _ (aL hh.2.1) hL,hd,hsk,hf⟩,λb o e=>he b o (λq=>by exact zN (hh.2.2▸q▸e)) (R.fr.keep b o e),R.fr.above⟩,⟨D,Yj.filter λp=>p.1≠I,?_,L.nd.sublist (bI _ Z1),λb o e=>(L.ob b o e).mono (λc as z=>⟨rfl,λp hp q=>kp p hp (q▸x3 b c as (z▸e))⟩) λp hp q=>kp p hp λz=>?_,L.dj,λp hp=>?_⟩,R.gs,R.dr,R.os⟩
 ·intro p hp;refine Am (mfP hp) λhp1 hp2=>?_;exact⟨he _ _ (of_decide_eq_true hp2) (N p hp1).1,(N p hp1).2⟩
 ·exact zN (x2▸z▸q▸e)
 ·refine CV (L.xs p (.tail _ hp)) λy1 y2 y3=>?_;exact⟨kp p y1 (hX p hp),y2,y3⟩
end
section
variable{env:eE}
def TN(a:Nat)(i:Nat):O->dK->Prop
 | .list _,ob=>ob.cls=.type "list_iterator"/\ob.data=.fields #[.ref a,.int (i:Nat) 0]
 | .range lo hi st,ob=>ob={cls:=.type "range_iterator",dict:=none,data:=.fields #[rawInt (lo+(i:Nat)*st),rawInt (((BJ lo hi st).length:Int)-(i:Nat)),rawInt st],slots:=#[]}
 | _,_=>False
theorem AU.xget(R:AU prog w (c.x ((I,ob)::X₀)) m H s):s.heap.get? I=some ob:=by
 obtain⟨D,Yj,N,L⟩:=R.led;exact N.get (L.xs _ (.head _)).1
theorem U7{v:V}{P:Option Yr->Yq->Prop}(R:AU prog w (c.x ((I,ob)::X₀)) m H s)(hX:∀p∈X₀,p.1≠I)(ho:H a=some o)(hi:Rp o vs)(it:TN a i o ob)(hv:vs[i]?=some v)
 (q:∀y ob' s',VR v y->TN a (i+1) o ob'->AU prog w (c.x ((I,ob')::X₀)) m H s'->P (some y) s'):wpAny (model prog w) A (pyNext (.ref I)) P Er s:=by
 have hI:=R.xget;cases hi with
 | list hl =>
  refine AR (R.lst (.inl ho)) λxs h1 h2=>?_;refine AR (h2.nth hv) λy hy ry=>?_;refine fZ (l:=a) (i:=i) (items:=xs.toArray) ⟨ob,hI,it.1,it.2⟩ h1 (by simpa using hy) λh' hit hs=>?_
  refine Es hit λob' g1 g2 g3=>?_;exact q y ob' _ ry ⟨g2,g3⟩ (R.moveX (t:=s.toks) hX hs g1)
 | @range lo hi' st bb =>
  refine AR (Zx.mp (Ze.symm.trans hv)) λj hj z=>?_;obtain rfl:=z;have hlt:i<(BJ lo hi' st).length:=(Zw.mp hj).1;have hval:j=lo+(i:Int)*st:=by
   have:=(Zw.mp hj).2;unfold BJ at this;rw[List.getElem_map,List.getElem_range] at this;rw[<- this,Int.mul_comm]
  have it':ob=_:=it;subst it';refine wpAny_pyNext_range_item hI (Z2 (ag.mpr ‹_›)) λh' hit hs=>?_;refine q _ _ _ (hval▸.int _ _) ?_ (R.moveX (t:=s.toks+1) hX hs hit)
  show _=_
  have e1:lo+((i+1:Nat):Int)*st=lo+(i:Int)*st+st:=by push_cast;rw[Int.add_mul,iR,Int.add_assoc]
  have e2:(((BJ lo hi' st).length:Int)-((i+1:Nat):Int))=((BJ lo hi' st).length:Int)-(i:Int)-1:=by push_cast;exact(Int.sub_sub _ _ _).symm
  exact e1▸e2▸rfl
theorem U8{P:Option Yr->Yq->Prop}(hh:A.handled=none)(R:AU prog w (c.x ((I,ob)::X₀)) m H s)(hX:∀p∈X₀,p.1≠I)(ho:H a=some o)(hi:Rp o vs)(it:TN a vs.length o ob)
 (q:∀s',AU prog w (c.x (X₀)) m H s'->P none s'):wpAny (model prog w) A (pyNext (.ref I)) P Er s:=by
 have hI:=R.xget;cases hi with
 | list hl =>
  obtain⟨xs,h1,h2⟩:=R.lst (.inl ho);exact wpAny_pyNext_list_end hh (l:=a) (items:=xs.toArray) ⟨ob,hI,it.1,it.2⟩ h1 (by simp[h2.length]) λh' he=>q _ (R.loseX (t:=s.toks) hX λb o hb e=>he b o hb e)
 | @range lo hi' st bb =>
  have it':ob=_:=it;subst it';exact wpAny_pyNext_range_end hh hI (by rw[Y2,Int.sub_self];exact ZP _) λh' he=>q _ (R.loseX (t:=s.toks) hX λb o hb e=>he b o hb e)
end
section
variable{env:eE}{K:aC}{k:Ck}{C:CI}{e:E}
theorem Gi{lo hi st:Int}(h:0<st):((BJ lo hi st).length:Int)=cV lo hi st:=by
 unfold BJ cV;rw[if_pos h,Y2,cz];split
 ·rename_i hlt;have:(hi-lo+st-1) / st=(hi-lo-1) / st+1:=by
   rw[show hi-lo+st-1=(hi-lo-1)+st from Int.add_right_comm _ _ _,Int.add_ediv_of_dvd_right (Int.dvd_refl st),Int.ediv_self (Int.ne_of_gt ‹_›)]
  rw[this,eJ];have:=Int.ediv_nonneg (a:=hi-lo-1) (b:=st) (d7 (Z2 ‹_›)) (ZZ ‹_›);exact Zm ‹_› (by decide)
 ·rename_i hge;have:(hi-lo+st-1) / st<=0:=by
   have h1:(hi-lo+st-1) / st<1:=Int.ediv_lt_of_lt_mul h (Int.lt_of_le_sub_one (Int.sub_le_sub_right (Y3 (gM (Int.sub_nonpos_of_le (aq.mp hge)) st) (Int.le_of_eq ((Int.zero_add st).trans (iR st).symm))) 1));exact Int.lt_add_one_iff.mp ‹_›
  rw[Int.toNat_of_nonpos this];rfl
theorem Of{lo hi st:Int}(h:Je lo hi st):(BJ lo hi st).length<=1000:=by
 refine AJ λGG hG=>?_;refine x06 h λh1 h2 h3 h4 h5 h6=>?_;refine hG ?_;clear hG GG;have:((BJ lo hi st).length:Int)<=1000:=by
  refine(Gi h1).symm▸?_;unfold cV;refine(if_pos h1).symm▸?_;split
  ·have g2:(hi-lo-1) / st<=hi-lo-1:=Int.ediv_le_self _ (d7 (Z2 ‹_›));exact Y3 (eR g2) h5
  ·decide
 exact aT.mp ‹_›
theorem Og{lo hi st:Int}(h:Je lo hi st):gp lo hi st=true:=by
 have hs:=Of h;have e:=Gi (lo:=lo) (hi:=hi) h.1;refine AJ λGG hG=>?_;refine x06 h λh1 h2 h3 h4 h5 h6=>?_;refine hG ?_;clear hG GG;unfold gp;refine e▸?_
 generalize (BJ lo hi st).length=n at hs
 clear e;refine(if_pos h1).symm▸?_;simp only[Builtin.Range.rangeFitsLong,fP,eD,decide_eq_true_eq,beq_iff_eq];have hh:=Y3 (Int.le_add_of_sub_right_le h5) (Int.add_le_add_left h3 1000);exact⟨⟨⟨⟨smI h2 (Y3 h3 (by decide)),smI h4 (Y3 hh (by decide))⟩,smI (Y3 (by decide) (ZZ h1)) (Y3 h6 (by decide))⟩,smI (Y3 (by decide) (cS n)) (Y3 (aT.mpr hs) (by decide))⟩,.inr (smI (Y3 h4 (eS (d7 h1))) (Y3 (Int.add_le_add hh (Y3 (cN st (by decide)) h6)) (by decide)))⟩
theorem TO{P:Yr->Yq->Prop}(R:AU prog w c m H s)(ho:H a=some o)(hi:Rp o vs)(hd:isD o=false)
 (q:∀I ob s',(∀p∈c.X,p.1≠I)->TN a 0 o ob->AU prog w (c.x ((I,ob)::c.X)) m H s'->P (.ref I) s'):wpAny (model prog w) A (pyIter (.ref a)) P Er s:=by
 obtain⟨D,Yj,N,L⟩:=R.led;have fresh:=Co N (lt_size N);have hX:∀p∈c.X,p.1≠s.heap.objs.size:=λp hp e=>fresh (e▸key (L.xs p hp).1);cases hi with
 | list hl =>
  refine AR (R.lst (.inl ho)) λxs h1 h2=>?_;exact dD h1 (q _ _ _ hX ⟨rfl,rfl⟩ (AU.addX' (t:=s.toks) R L (R.fr.push _) (N.push R.fr _) fresh))
 | @range lo hi' st bb =>
  refine AJ λGG hG=>?_;refine O3 (R.pl ho rfl) λU U ob N' U h1 z=>?_;refine FY z λWp Wy W1 y=>?_;obtain rfl:=y;refine hG ?_;clear hG GG;refine wpAny_pyIter_range (N'.get h1) (Og bb) (q _ _ _ hX ?_ (AU.addX' (t:=s.toks) R L (R.fr.push _) (N.push R.fr _) fresh))
  show _=_
  refine(Gi bb.1).symm▸?_;simp
theorem Ju{x:ZJ}{v:Yr}(h:Cv x=true):foldedSetIterable x env v=pure v:=by
 cases x<;>first|rfl|exact zT (show false=true from h)
theorem TP{κ:Kp}{sc:ZR}(Z:Ev prog w K k C A c env κ sc)(X:Bw):Ev prog w K k C A (c.x (X)) env κ sc:=⟨Z.F,Z.B,Z.O,Z.hh,Z.un,Z.calls,Z.alls⟩
theorem s_for{x:Nat}{b:List S}(i:SE prog w K k C e)(ib:∀e∈b,SS prog w K k C e):SS prog w K k C (.for x e b):=λA env c κ sc Z ρ m l y H s Q Er o R h=>by
 refine AJ λGG hG=>?_;refine Nf (Rs o) λo1 o2 o3 o4 o5=>?_;refine Am (an o1) λost o1=>?_;clear o;refine x51 (BF o1) λt it' b' d' p z=>?_;obtain rfl:=z;refine Am (D4 (x:=t) o2) λz o6=>?_;refine BB z λp' u=>?_;obtain rfl:=u;refine Am (an (show(Cv it'&&CM k sc e it')=true from o3)) λo7 o8=>?_
 cases(Ah o5:d'=[])
 refine hG ?_;clear hG GG;refine wpAny_For (Fc (i.go Z l o8 R h) λv y H s r R' q=>?_) ?_
 ·refine AJ λGG hG=>?_;refine Es (CK q r) λa U z u=>?_;obtain rfl:=z;refine Q3 u λob vs ho hi hd j=>?_;refine Es j λI h0 hI hE=>?_;refine hG ?_;clear hG GG;refine TO R' ho hi hd λJ W4 WQ hX X2 WR=>?_;refine codeAny_forLoop (λn s=>∃i W7 ρ m H,n=vs.length-i/\i<=vs.length/\TN a i ob W7/\Bh ρ m/\AU prog w (c.x ((J,W7)::c.X)) m H s/\I i ρ H) (λn WU X3=>?_) vs.length ⟨0,W4,ρ,m,H,rfl,Zp _,X2,l,WR,h0⟩;refine x56 X3 λi W7 Wv Wm Wn hn hile Xa Ww Wa Wq=>?_;by_cases hlt:i<vs.length
  ·refine Am (hI i Wv Wn _ (ZH hlt) Wq) λha hb=>?_;refine U7 Wa hX ha hi Xa (ZH hlt) λy Xb Wu ry Xc Wl=>?_;refine Dj (Fd (TP Z _).O o6 Ww Wl ry λYZ XZ X4 W3=>?_);refine th (TM (TP Z _) ib X4 o4 W3 hb) λf Ya ⟨fl,XD,XE,XG,rf,XH,Wx,XI⟩=>?_;cases rf with
   | next=>exact⟨vs.length-(i+1),by exact ozD ‹_› ‹_›,i+1,Xb,XD,XE,XG,rfl,hlt,Xc,XH,Wx,XI⟩
   | cont=>exact⟨vs.length-(i+1),by exact ozD ‹_› ‹_›,i+1,Xb,XD,XE,XG,rfl,hlt,Xc,XH,Wx,XI⟩
   | brk=>exact⟨.next,XD,XE,XG,.next,XH,Wx.dropX' (X':=c.X) (λp hp=>.tail _ hp),XI⟩
   | ret rv=>exact⟨_,XD,XE,XG,.ret rv,XH,Wx.dropX' (X':=c.X) (λp hp=>.tail _ hp),XI⟩
  ·have e:i=vs.length:=by exact ozE ‹_› ‹_›
   subst e;obtain⟨ha,hq⟩:=hE Wv Wn Wq;refine U8 (Z.hh ost) Wa hX ha hi Xa λWu Wl=>?_;exact fo ⟨.next,Wv,Wm,Wn,.next,Ww,Wl,hq⟩
 ·exact λv=>Ju o7
end
end
section
variable{prog:Y8}{w:Y0}{A:Za}{env:eE}{c:Cx}{m:Zf->Option Yr}{κ:Kp}{sc:ZR}{K:aC}{k:Ck}{C:CI}{ρ:As}{e a b:E}{t:T}{H:MH}{s:Yq}{Er:Yr->Yq->Prop}{Q:V->MH->Prop}
section
theorem AU.ro(R:AU prog w c m H s){a:Nat}{vs:List V}(h:H a=some (.ro vs)):∃xs,s.heap.IsList a xs.toArray/\A2 VR vs xs:=by
 refine AJ λGG hG=>?_;obtain⟨D,Yj,N,L⟩:=R.led;refine Gs ((L.ob _ _ h).ro) λxs n h1 h2=>?_;refine hG ?_;clear hG GG;exact⟨xs,⟨_,R.fr.keep _ _ h1,rfl,n,rfl⟩,h2⟩
theorem A2.take{vs:List V}{xs:List Yr}(h:A2 VR vs xs):∀n,A2 VR (vs.take n) (xs.take n):=by
 induction h with
 | nil=>intro n;exact List.take_nil.symm▸List.take_nil.symm▸.nil
 | cons h _ ih =>
  intro n;cases n with
  | zero=>exact .nil
  | succ n=>exact .cons h (ih n)
theorem e_upto(ia:SE prog w K k C a)(ib:SE prog w K k C b):SE prog w K k C (.upto a b):=λA env c m κ sc ρ Z l x H s Q Er o R h=>by
 refine AJ λGG hG=>?_;refine Nf (Rs o) λo1 o6 o2 o3 o4=>?_;clear o;refine FY (AO o1) λy z p j=>?_;obtain rfl:=j;refine HT (AO (x:=y) o6) λyn yp j=>?_;obtain rfl:=j;refine HU (AO (x:=z) o3) λlo up st p' j=>?_;obtain rfl:=j;refine AR (Uz (l:=[lo,up,st]) o4) λu e o5=>?_;refine hG ?_;clear hG GG;cases e
 refine Subscript_ (Fc (ia.go Z l o2 R h) λv y H s r R' h'=>wpAny_Slice (Yv (Z9 (ib.go Z l o5 R' h') (λy' s' ⟨v',H',r',WR,q⟩=>Yv ?_) λU U e=>e)));refine AJ λGG hG=>?_;obtain⟨a,U,rfl,ob,ho,vs,n,rfl,rfl,hn,hl,q⟩:=CK q r;refine hG ?_;clear hG GG;refine AJ λGG hG=>?_;cases r'
 refine AR (WR.ro ho) λxs h1 h2=>?_;have hlen:=h2.length;obtain⟨D,Yj,N,L⟩:=WR.led;refine hG ?_;refine slice_list WR.fr N h1 .none (.int _ _) (λh' F' N'=>?_) rfl (λU=>rfl) (by rw[ZI,ao];exact ozA ‹_› ‹_›)
 have e:slicePick xs.toArray none (some (n:Int)) none=(xs.take n).toArray:=by rw[slicePick_upto']
 rw[e] at N';exact FK (o:=.list (vs.take n)) (t:=s'.toks) WR L F' N' (Co N λp hp=>ez (lt_size N p hp)) ⟨_,_,rfl,h2.take n⟩ q
end
theorem QZ{ys:List Yr}{is:List Int}(h:de ys is):A2 VR (is.map .int) ys:=by
 induction h with
 | nil=>exact .nil
 | cons n t _ ih=>exact .cons (.int n t) ih
theorem Mi(out:Array Yr)(n:Nat):Oa out.toList n=seqObj "list" out n:=by
 show seqObj "list" out.toList.toArray n=_
 exact Array.toArray_toList▸rfl
section
theorem any_at(k:Int):∀is:List Int,((bN is.length).map λi=>is.getD i 0).any (·==k)=is.contains k
 | is=>by
  rw[NM]
  congr 1
  refine dW (by simp) λi h1 h2=>?_
  simp[Z7,h2]
theorem U9(i:SE prog w K k C e):SE prog w K k C (.setof e):=λA env c m κ sc ρ Z l x H s Q Er o R h=>by
 refine AJ λGG hG=>?_;refine IM (MP o) λo1 o2 o3 o4=>?_;refine Am (an o2) λost o2=>?_;clear o;refine HU (AO o1) λy xs kws p z=>?_;obtain rfl:=z;refine hG ?_;clear hG GG;refine bi1 (y:=y) (xs:=xs) (kws:=kws) Z l i (.tail _ (.tail _ (.tail _ (.tail _ (.tail _ (.head _)))))) rfl o2 o3 o4 R h λv y H s r R' q=>?_;refine AJ λGG hG=>?_;obtain⟨a,U,rfl,ob,ho,vs,is,rfl,hi,hl,q⟩:=CK q r;refine AR (R'.lst (.inl ho)) λxs h1 h2=>?_;refine hG ?_;clear hG GG;have hI:=Fb h2 hi;have hl2:xs.length=is.length:=hI.length;refine call_set_list (Z.hh ost) h1 hI (by refine ZI.symm▸?_;unfold scanBound;exact ozR ‹_› ‹_›) λh' tk hS hk=>?_
 refine AJ λGG hG=>?_;refine AR hS.objOf λob g1 g2=>?_;obtain⟨D,Yj,N,L⟩:=R'.led;refine hG ?_;clear hG GG;have kp:∀b o,s.heap.get? b=some o->h'.get? b=some o:=λb o e=>hk b o (Yy e) e;have fr:=Co N (lt_size N);have above:s.heap.objs.size≠c.L:=λe=>by refine BB R'.lo λoL hL=>?_;exact absurd (Yy hL) (e▸ZE _)
 have f0:c.WM.get? s.heap.objs.size=none:=by
  cases q:c.WM.get? s.heap.objs.size with
  | none=>rfl
  | some o=>exact absurd (Yy (R'.fr.keep _ _ q)) (ZE _)
 refine FK (o:=.set is) (t:=tk) R' L (R'.fr.keeps kp) (x:=s.heap.objs.size) (ob:=ob) ?_ fr ⟨(firstMet (λi=>is.getD i 0) xs.toArray.size).length,?_,Yn (firstMet_length_le _ xs.toArray.size) (Zo (by exact ZI.symm▸hl2))⟩ q
 ·intro p hp;rcases mcP hp with rfl|hp
  ·exact⟨g1,above,f0⟩
  ·exact⟨kp _ _ (N p hp).1,(N p hp).2⟩
 ·have:(λk'=>(firstMet (λi=>is.getD i 0) xs.toArray.size).any (·==k'))=λk'=>is.contains k':=funext λk'=>by
   rw[firstMet_any,ZI,hl2,any_at]
  exact this▸g2
theorem TQ{F:Nat->Yr->Prop}{acc:Array Yr}{n:Nat}(h:iV F acc n):∀{is:List Int},is.length=n->(∀(i:Nat) (v:Yr) (j:Int),F i v->is[i]?=some j->∃t,v=gg j t)->A2 VR (is.map V.int) acc.toList:=by
 intro is hl hF;have key:∀(is:List Int) (vs:List Yr),is.length=vs.length->(∀(i:Nat) (v:Yr) (j:Int),vs[i]?=some v->is[i]?=some j->∃t,v=gg j t)->A2 VR (is.map V.int) vs:=by
  intro is
  induction is with
  | nil=>intro vs h _;cases vs with
   | nil=>exact .nil
   | cons=>cases h
  | cons j r ih=>intro vs h hF;cases vs with
   | nil=>cases h
   | cons v vs =>
    refine BB (hF 0 _ _ rfl rfl) λt z=>?_;obtain rfl:=z;exact .cons (.int j t) (ih vs (Nat.succ.inj h) λi v j e1 e2=>hF (i+1) v j e1 e2)
 refine key is _ (hl.trans (h.1.symm.trans (ZO (xs:=acc)).symm)) λi v j e1 e2=>?_;exact hF i v j (h.2 i v (by exact bg▸e1)) e2
theorem Qa{n:Nat}{ov:ZJ}{ap p:ef}{G:V->MH->Prop}{P:Yr->Yq->Prop}(i:SE prog w K k C e)(Z:Ev prog w K k C A c env κ sc)(l:Bh ρ m)(o4:CX ov=true)(o5:(ap.endLine==p.line)=true)(o7:CM k sc e ov=true)(R:AU prog w c m H s)(h:wE C κ e ρ H G)
 (q:∀v y H s',VR v y->AU prog w c m H s'->G v H->Ba H v n λf=>codeAny (model prog w) A (.call (.ref f) ⟨[y],[]⟩) (wants P Er) s'):wpAny (model prog w) A (eval (.Call (.Attribute ov (nm n) ap) [] [] p) env) P Er s:=by
 refine bZ (Fc (i.go Z l o7 R h) λv y H s r R' z=>?_) (Gg (k:=k) (sc:=sc) (es:=[]) (ks:=[]) o4 o5 (ZQ rfl) rfl rfl);refine Pa Z.F Z.B.kin R' r (q v y H s r R' z) λf hf z=>?_;exact callWith_K0 (Z.B.kin.keeps R'.fr.keep) hf (dT z)
theorem e_lall(i:SE prog w K k C e):SE prog w K k C (.lall e):=λA env c m κ sc ρ Z l x H s Q Er o R h=>by
 refine AJ λGG hG=>?_;refine IM (MP o) λo1 o2 o3 o4=>?_;clear o;refine Am (an o2) λost o2=>?_;refine HU (AO o1) λy xs kws p u=>?_;obtain rfl:=u;cases(Ah o3:kws=[])
 refine AR (CE (l:=xs) o4) λy' u o4=>?_;obtain rfl:=u;refine Am (an o4) λU o4=>?_;refine Vm (an8 o4) λo5 o6 o7 o8 o9 o10 o11 o12=>?_;refine HU (AO o5) λf xs kws p1 u=>?_;obtain rfl:=u;refine FY (AO (x:=f) o6) λov z ap u=>?_;obtain rfl:=u;cases(eq_of_beq o7:z=_)
 cases(Ah o10:xs=[])
 cases(Ah o11:kws=[])
 obtain⟨⟨p',e⟩,o13⟩:=Hn (x:=y) o2;cases e
 refine hG ?_;clear hG GG;refine aD (Z.glB R (.tail _ (.tail _ (.tail _ (.tail _ (.tail _ (.tail _ (.head _))))))) o13 ?_);exact gQ (Qa i Z l o8 o9 o12 R h λv y H s r R' q=>Z.alls ost Er c m H s v y Q rfl R' r q)
end
end
section
variable{C:CI}{κ:Kp}{ρ:As}{sc:ZR}{e:E}
inductive Pu (sc:ZR):E->ZJ->Prop
 | int (i n p):Pu sc (.int i) (.Constant (.int i) n p)
 | var {y} (p):sc.names.lookup (nm y)=some .local->Pu sc (.var y) (.Name (nm y) p)
 | cvar {y} (p):sc.names.lookup (nm y)=some .free->Pu sc (.cvar y) (.Name (nm y) p)
 | neg {n:Nat} (n' p' p):Pu sc (.neg n) (.UnaryOp .USub (.Constant (.int n) n' p') p)
 | len {e x} (p' p):Js x=true->sc.names.lookup ("len":Zf)=some .globalImplicit->Pu sc e x->Pu sc (.len e) (.Call (.Name ("len":Zf) p') [x] [] p)
 | cmp {o a b x z} (p):(o=.Eq\/o=.Gt\/o=.In\/o=.NotIn)->behindInMarks o z=false->Pu sc a x->Pu sc b z->Pu sc (.cmp o a b) (.Compare x [o] [z] p)
 | bin {o a b x z} (p):Pu sc a x->Pu sc b z->Pu sc (.bin o a b) (.BinOp x o z p)
 | idx {a b x z} (p):Js z=true->Pu sc a x->Pu sc b z->Pu sc (.idx a b) (.Subscript x z p)
theorem VA{sc:ZR}{op:fm}{a b:E}{x:ZJ}(ia:∀x,Im sc a x=true->Pu sc a x)(ib:∀x,Im sc b x=true->Pu sc b x)(o:Im sc (.cmp op a b) x=true):Pu sc (.cmp op a b) x:=by
 refine Nf (Rs o) λo1 o2 o3 o4 o5=>?_;clear o;refine AJ λGG hG=>?_;refine HU (AO o2) λy cs xs p w=>?_;obtain rfl:=w;refine AR (CE (l:=cs) o3) λop' w e=>?_;obtain rfl:=w;refine hG ?_;clear hG GG;cases eq_of_beq e
 refine AR (CE (l:=xs) o5) λz w o5=>?_;obtain rfl:=w;obtain⟨o5,o6⟩:=an o5;refine .cmp p ?_ (by rwa [Zq] at o6) (ia _ o4) (ib _ o5)
 rcases UU o1 with o1|o1
 ·rcases UU o1 with o1|o1
  ·exact(UU o1).imp (λh=>eq_of_beq h) λh=>.inl (eq_of_beq h)
  ·exact .inr (.inr (.inl (eq_of_beq o1)))
 ·exact .inr (.inr (.inr (eq_of_beq o1)))
theorem VB{sc:ZR}{n:Nat}{x:ZJ}(o:Im sc (.neg n) x=true):Pu sc (.neg n) x:=by
 refine CV (NN o) λo1 o3 o2=>?_;clear o;refine HT (AO o1) λy p z=>?_;obtain rfl:=z;refine FY (AO (x:=y) o3) λk' n' p' z=>?_;obtain rfl:=z;cases(eq_of_beq o2:k'=_)
 exact .neg ..
theorem VC{sc:ZR}{a:E}{x:ZJ}(ia:∀x,Im sc a x=true->Pu sc a x)(o:Im sc (.len a) x=true):Pu sc (.len a) x:=by
 refine IM (MP o) λo1 o2 o3 o4=>?_;clear o;refine HU (AO o1) λy xs kws p w=>?_;obtain rfl:=w;obtain⟨⟨p',e⟩,o5⟩:=Hn (x:=y) o2;cases e
 cases(Ah o3:kws=[])
 refine AR (CE (l:=xs) o4) λz w o4=>?_;obtain rfl:=w;exact .len p' p (an o4).1 (Pc o5) (ia _ (an o4).2)
theorem Ie(sc:ZR)(e:E):∀x,Im sc e x=true->Pu sc e x :=
 E.rec (motive_1:=λe=>∀x,Im sc e x=true->Pu sc e x) (motive_2:=λU=>True) (motive_3:=λU=>True) (motive_4:=λU=>True) (motive_5:=λU=>True) (motive_6:=λU=>True)
  (λU h=>nP h) (λU h=>nP h) (λU U h=>nP h)
  (λi x o=>by
   refine Am (an o) λo1 o2=>?_;refine FY (AO o1) λk' n p w=>?_;obtain rfl:=w;cases(eq_of_beq o2:k'=_)
   exact .int ..)
  (λU U o=>VB o) (λy x o=>by obtain⟨⟨p,rfl⟩,h⟩:=D4 o;exact .var p h) (λy x o=>by obtain⟨⟨p,rfl⟩,h⟩:=D4 o;exact .cvar p h)
  (λU U U U h=>nP h) (λU U U U U U U U h=>nP h) (λU U U U U U h=>nP h) (λU U U U U U h=>nP h) (λU U U U U U h=>nP h) (λU U U U U h=>nP h)
  (λU ia U o=>VC ia o) (λU U U h=>nP h) (λU U U U U h=>nP h) (λU U U U U h=>nP h) (λU U U h=>nP h) (λU U U h=>nP h)
  (λU U U h=>nP h) (λU U U h=>nP h) (λU U U h=>nP h) (λU U U U U U U h=>nP h)
  (λU U U ia ib U o=>VA ia ib o) (λU U U U U U U U U h=>nP h) (λU U U h=>nP h)
  (λop a b ia ib x o=>by
   refine AJ λGG hG=>?_;refine IM (MP o) λo1 o2 o3 o4=>?_;refine HU (AO o1) λy op' z p w=>?_;obtain rfl:=w;refine hG ?_;clear hG GG;cases(eq_of_beq o2:op=op')
   exact .bin p (ia _ o3) (ib _ o4))
  (λa b ia ib x o=>by
   refine AJ λGG hG=>?_;refine IM (MP o) λo1 o2 o3 o4=>?_;refine FY (AO o1) λy z p w=>?_;obtain rfl:=w;refine hG ?_;clear hG GG;exact .idx p o3 (ia _ o2) (ib _ o4))
  (λU U U U U h=>nP h) (λU U U h=>nP h) (λU U U h=>nP h) (λU h=>nP h) (λU U U h=>nP h) (λU U U U U h=>nP h)
  (λU U U U U U U U h=>nP h)
  (λU U=>trivial) (λU U=>trivial) (λU U=>trivial) (λU U=>trivial) trivial (λU U U U=>trivial) trivial (λU U U U=>trivial) trivial (λU U U U=>trivial) (λU U U=>trivial) e
theorem Dk{v:V}{K:Int->Prop}(h:Mw v K):∃i,v=.int i/\K i:=by
 cases v with
 | int i=>exact⟨i,rfl,h⟩
 | _=>exact h.elim
theorem Ho{v:V}{K:Nat->Prop}(h:HD v K):∃i,v=.ref i/\K i:=by
 cases v with
 | ref i=>exact⟨i,rfl,h⟩
 | _=>exact h.elim
theorem I5.det{i:Int}{o:O}{b b':Bool}(h:I5 i o b)(h':I5 i o b'):b=b':=by
 cases h with
 | list _ e=>cases h' with|list _ e'=>rw[e] at e';obtain rfl:=Ys e';rfl
 | tup _ e=>cases h' with|tup _ e'=>rw[e] at e';obtain rfl:=Ys e';rfl
 | set=>cases h';rfl
theorem Kn.det{i:Int}{o:O}{v v':V}(h:Kn i v o)(h':Kn i v' o):v=v':=by
 cases h with
 | list _ e=>cases h' with|list _ e'=>rw[e] at e';obtain rfl:=Ys e';rfl
 | stk _ e=>cases h' with|stk _ e'=>rw[e] at e';obtain rfl:=Ys e';rfl
theorem Lz.det{o:O}{n n':Nat}(h:Lz o n)(h':Lz o n'):n=n':=by cases h<;>cases h'<;>rfl
theorem Qb{H:MH}{o:fm}{v u:V}{K:Bool->Prop}(ho:o=.Eq\/o=.Gt\/o=.In\/o=.NotIn)(h:Hs H o v u K):∃t,∀K',Hs H o v u K'<->K' t:=by
 rcases ho with rfl|rfl|rfl|rfl
 ·refine AR (Dk h) λi z h=>?_;obtain rfl:=z;refine AR (Dk h) λj z h=>?_;obtain rfl:=z;exact⟨_,λK'=>cH⟩
 ·refine AR (Dk h) λi z h=>?_;obtain rfl:=z;refine AR (Dk h) λj z h=>?_;obtain rfl:=z;exact⟨_,λK'=>cH⟩
 ·refine AJ λGG hG=>?_;refine AR (Dk h) λi z h=>?_;obtain rfl:=z;refine AR (Ho h) λa z y=>?_;obtain rfl:=z;refine Dy y λo b ho hi U=>?_;refine hG ?_;clear hG GG;exact⟨b,λK'=>⟨λx=>Dy x λo' b' h1 h2 h3=>by replace h1:=ho.symm.trans h1;obtain rfl:=Ys h1;exact(hi.det h2).symm▸h3,λk=>⟨o,b,ho,hi,k⟩⟩⟩
 ·refine AJ λGG hG=>?_;refine AR (Dk h) λi z h=>?_;obtain rfl:=z;refine AR (Ho h) λa z y=>?_;obtain rfl:=z;refine Dy y λo b ho hi U=>?_;refine hG ?_;clear hG GG;exact⟨!b,λK'=>⟨λx=>Dy x λo' b' h1 h2 h3=>by replace h1:=ho.symm.trans h1;obtain rfl:=Ys h1;exact(hi.det h2).symm▸h3,λk=>⟨o,b,ho,hi,k⟩⟩⟩
theorem VD{o:bW}{v u:V}{K:V->Prop}(h:No o v u K):∃r,∀K',No o v u K'<->K' r:=by
 refine AR (Dk h) λi z h=>?_;obtain rfl:=z;refine AR (Dk h) λj z h=>?_;obtain rfl:=z;cases o with
 | Add=>exact⟨_,λK'=>cH⟩
 | Sub=>exact⟨_,λK'=>cH⟩
 | Mult=>exact⟨_,λK'=>⟨λh=>h.2,λk=>⟨h.1,k⟩⟩⟩
 | Mod=>exact⟨_,λK'=>⟨λh=>h.2,λk=>⟨h.1,k⟩⟩⟩
 | FloorDiv=>exact⟨_,λK'=>⟨λh=>h.2.2,λk=>⟨h.1,h.2.1,k⟩⟩⟩
 | RShift=>exact⟨_,λK'=>⟨λh=>h.2,λk=>⟨h.1,k⟩⟩⟩
 | _=>exact h.elim
section
variable{H:MH}{x:ZJ}
theorem Pu.det(p:Pu sc e x):∀{Q:V->MH->Prop},wE C κ e ρ H Q->∃v,∀Q',wE C κ e ρ H Q'<->Q' v H:=by
 induction p with
 | int=>exact λh=>⟨_,λQ'=>cH⟩
 | @var y _ _ =>
  intro Q h;refine AR (O4 h) λv g U=>?_;exact⟨v,λQ'=>by show op (AN y ρ) _<->_;exact g.symm▸cH⟩
 | @cvar y _ _ =>
  intro Q h;refine AR (O4 h) λa g w=>?_;refine AR w λv hc U=>?_;refine⟨v,λQ'=>?_⟩
  show op (AN y κ) _<->_
  rw[g];exact⟨λm=>AR m λv' h1 h2=>by replace h1:=hc.symm.trans h1;cases h1;exact h2,λk=>⟨v,hc,k⟩⟩
 | cmp _ ho _ _ _ iha ihb =>
  intro Q h;refine AJ λGG hG=>?_;refine BB (iha h) λv hv=>?_;refine BB (ihb ((hv _).mp h)) λu hu=>?_;refine BB (Qb ho ((hu _).mp ((hv _).mp h))) λt ht=>?_;refine hG ?_;exact⟨.bool t,λQ'=>(hv _).trans ((hu _).trans (ht _))⟩
 | bin _ _ _ iha ihb =>
  intro Q h;refine AJ λGG hG=>?_;refine BB (iha h) λv hv=>?_;refine BB (ihb ((hv _).mp h)) λu hu=>?_;refine BB (VD ((hu _).mp ((hv _).mp h))) λt ht=>?_;refine hG ?_;exact⟨t,λQ'=>(hv _).trans ((hu _).trans (ht _))⟩
 | idx _ _ _ _ iha ihb =>
  intro Q h;refine AJ λGG hG=>?_;refine BB (iha h) λv hv=>?_;refine BB (ihb ((hv _).mp h)) λu hu=>?_;obtain⟨a,rfl,o,ho,z⟩:=Ho ((hu _).mp ((hv _).mp h));refine AR (Dk z) λj w s=>?_;obtain rfl:=w;refine AR s λr hi U=>?_;refine hG ?_;clear hG GG;refine⟨r,λQ'=>(hv _).trans ((hu _).trans ?_)⟩;exact⟨λ⟨o',h1,r',h2,h3⟩=>by replace h1:=ho.symm.trans h1;obtain rfl:=Ys h1;exact(hi.det h2).symm▸h3,λk=>⟨o,ho,r,hi,k⟩⟩
 | neg=>exact λh=>⟨_,λQ'=>cH⟩
 | len _ _ _ _ _ ih =>
  intro Q h;refine AJ λGG hG=>?_;refine BB (ih h) λv hv=>?_;refine AR (Ho ((hv _).mp h)) λa w s=>?_;obtain rfl:=w;refine AR s λo ho q=>?_;refine AR q λn hn U=>?_;refine hG ?_;clear hG GG;exact⟨.int n,λQ'=>(hv _).trans ⟨λ⟨o',h1,n',h2,h3⟩=>by replace h1:=ho.symm.trans h1;obtain rfl:=Ys h1;exact(hn.det h2).symm▸h3,λk=>⟨o,ho,n,hn,k⟩⟩⟩
end
theorem NQ{s:Yq}(k:Nat):e9 s {s with toks:=k}:=⟨s.heap,k,rfl,λU U e=>e⟩
theorem VE{s:Yq}:e9 s s:=NQ s.toks
theorem Oh{s s' s'':Yq}(h:e9 s s')(h':e9 s' s''):e9 s s'':=by
 refine AJ λGG hG=>?_;refine Gs h λh1 t1 z k1=>?_;obtain rfl:=z;refine Gs h' λh2 t2 z k2=>?_;obtain rfl:=z;refine hG ?_;clear hG GG;exact⟨h2,t2,rfl,λb o e=>k2 b o (k1 b o e)⟩
structure EP(env:eE)(L:Zh)(κ:Kp)(sc:ZR):Prop where
 ikd:env.scope.kind=.function
 ilo:env.locals=L
 loc:∀y,sc.names.lookup (nm y)=some .local->env.kindOf (nm y)=some .local
 glo:sc.names.lookup ("len":Zf)=some .globalImplicit->env.kindOf ("len":Zf)=some .globalImplicit
 igl:env.globals=mainGlobals
 ibi:env.builtins=builtinsNs
 fre:∀y a,sc.names.lookup (nm y)=some .free->AN y κ=some a->(env.kindOf (nm y)=some .cell\/env.kindOf (nm y)=some .free)/\env.cells.lookup (nm y)=some a
section
variable{prog:Y8}{w:Y0}{A:Za}{env:eE}{L:Zh}{m:Zf->Option Yr}{a b:E}{t:T}{x:ZJ}{H:MH}{s s':Yq}{Er:Yr->Yq->Prop}{Q:V->MH->Prop}
noncomputable def LenG(h:aV):Prop:=∃mg mb,h.Ns mainGlobals mg/\h.Ns builtinsNs mb/\mg ("len":Zf)=none/\mb ("len":Zf)=some (.builtin "len")
structure Rd(prog:Y8)(w:Y0)(L:Zh)(m:Zf->Option Yr)(H:MH)(s:Yq):Prop where
 ns:s.heap.Ns L m
 ob:Ob prog w H s.heap
 len:LenG s.heap
theorem Rd.kp(R:Rd prog w L m H s)(k:e9 s s'):Rd prog w L m H s':=by
 refine Gs k λh' t z hk=>?_;obtain rfl:=z;exact⟨R.ns.at' λo e=>hk _ o e,λa o h p=>AR (R.ob a o h p) λob h1 h2=>⟨ob,hk _ _ h1,h2⟩,Dy R.len λmg mb h1 h2 h3=>⟨mg,mb,h1.keeps hk,h2.keeps hk,h3⟩⟩
inductive PK (s:Yq) (G:V->Prop) (y:Yr) (s':Yq):Prop
 | mk (v:_) (p0:VR v y) (p1:e9 s s') (p2:G v):PK s G y s'
theorem TR{op:fm}{v u:V}{y z:Yr}{G:Bool->Prop}{P':Yr->Yq->Prop}(ho:op=.Eq\/op=.Gt\/op=.In\/op=.NotIn)(R:Ob prog w H s.heap)(r:VR v y)(r':VR u z)(h:Hs H op v u G)
 (fin:∀b k,G b->P' (.bool b) {s with toks:=k}):wpAny (model prog w) A (compareOp op y z) P' Er s:=by
 rcases ho with rfl|rfl|rfl|rfl
 ·refine AJ λGG hG=>?_;refine Dy (Bj h r) λi t U x h=>?_;obtain rfl:=x;refine Dy (Bj h r') λj t' U x h=>?_;obtain rfl:=x;refine hG ?_;clear hG GG;exact P.eq_int (fin _ s.toks h)
 ·refine AJ λGG hG=>?_;refine Dy (Bj h r) λi t U x h=>?_;obtain rfl:=x;refine Dy (Bj h r') λj t' U x h=>?_;obtain rfl:=x;refine hG ?_;clear hG GG;exact P.gt_int (fin _ s.toks h)
 ·refine AJ λGG hG=>?_;obtain⟨i,t,U,rfl,h⟩:=Bj h r;refine Es (CK h r') λa U x p=>?_;obtain rfl:=x;refine Dy p λo b ho hi q=>?_;refine hG ?_;clear hG GG;exact Ux R ho hi λk=>fin _ k q
 ·refine AJ λGG hG=>?_;obtain⟨i,t,U,rfl,h⟩:=Bj h r;refine Es (CK h r') λa U x p=>?_;obtain rfl:=x;refine Dy p λo b ho hi q=>?_;refine hG ?_;clear hG GG;exact(Yo (HY (Ux R ho hi λk=>⟨_,rfl,Yv (fin _ k q)⟩)):wpAny _ _ (do return fX (!(<- contains (.ref a) (.int i t)))) _ _ s)
theorem Qc{p:Sem Yr}{G:V->Prop}{P:Yr->Yq->Prop}(i:wpAny (model prog w) A p (PK s G) Er s)(q:∀v y s',VR v y->e9 s s'->G v->P y s'):wpAny (model prog w) A p P Er s :=
 Z9 i (λU U ⟨_,r,k,h⟩=>q _ _ _ r k h) λU U e=>e
theorem sp(P:EP env L κ sc)(l:Bh ρ m)(p:Pu sc e x):∀{H:MH} {s:Yq} {G:V->MH->Prop} {Er:Yr->Yq->Prop},Rd prog w L m H s->wE C κ e ρ H G->wpAny (model prog w) A (eval x env) (PK s λv=>G v H) Er s:=by
 induction p with
 | int i n p=>exact λR h=>cT ⟨_,.int _ _,NQ _,h⟩
 | var p hk =>
  intro H s G Er R h;refine AR (O4 h) λv g q=>?_;refine AR (l _ v g) λy e r=>?_;exact eU (bz P.ikd (P.loc _ hk) (by exact P.ilo.symm▸R.ns) e ⟨v,r,VE,q⟩) (GB _)
 | cvar p hk =>
  intro H s G Er R h;refine AR (O4 h) λa g f=>?_;refine AR f λv hc q=>?_;refine AR (R.ob.cell hc) λy hcell r=>?_;obtain⟨k1|k1,k2⟩:=P.fre _ _ hk g
  ·exact eU (wpAny_loadName_cell P.ikd k1 k2 hcell ⟨v,r,VE,q⟩) (GB _)
  ·exact eU (eL P.ikd k1 k2 hcell ⟨v,r,VE,q⟩ (V1 _)) (GB _)
 | cmp p ho hb _ _ iha ihb =>
  intro H s G Er R h;refine wpAny_Compare1 (Qc (iha R h) λv y WO r k h=>Qc (ihb (R.kp k) h) λu z WQ r' k' h=>?_) hb;exact TR ho ((R.kp k).kp k').ob r r' h λb n q=>⟨.bool b,.bool b,Oh (Oh k k') (NQ n),q⟩
 | bin p _ _ iha ihb =>
  intro H s G Er R h;refine wpAny_BinOp (Qc (iha R h) λv y WO r k h=>Qc (ihb (R.kp k) h) λu z WQ r' k' h=>?_);exact Sz r r' h λi t n q=>⟨.int i,.int i t,Oh (Oh k k') (NQ n),q⟩
 | idx p hx _ _ iha ihb =>
  intro H s G Er R h;refine Subscript_ (Qc (iha R h) λv y WO r k h=>Qc (ihb (R.kp k) h) λu z WQ r' k' h=>?_);refine AJ λGG hG=>?_;refine Es (CK h r) λa U f d=>?_;obtain rfl:=f;refine AR d λo ho h=>?_;refine Dy (Bj h r') λj t U f d=>?_;obtain rfl:=f;refine AR d λr hi q=>?_;refine hG ?_;clear hG GG;exact Mh ((R.kp k).kp k').ob ho hi hx λy n ry=>⟨_,ry,Oh (Oh k k') (NQ n),q⟩
 | neg n' p' p=>exact λR h=>UnaryOp_ (cT (gO ⟨_,.int _ _,Oh (NQ _) (NQ _),h⟩))
 | @len _ y p' p hx hg _ ih =>
  intro H s G Er R h;refine AJ λGG hG=>?_;refine Q3 R.len λmg mb h1 h2 h3 h4=>?_;refine hG ?_;clear hG GG;have hk:Cw ⟨λU=>false,λU=>⟨#[]⟩,λU=>⟨#[]⟩,λU=>false,λU=>false,λU U U=>false,false⟩ sc [.bad] [y]=true:=by
   show((Js y&&true)&&true)=true
   rw[hx];rfl
  refine aD (d6 P.ikd (P.glo hg) (eV (by exact P.igl.symm▸h1) h3 (by exact P.ibi.symm▸h2) h4 ?_) (by decide +kernel))
  rw[EA hk,Ek];refine callWith_builtin rfl (evalArgs_plain (spliced_cons (Qc (ih R h) λv y WO r k h=>spliced_nil ?_)));refine AJ λGG hG=>?_;refine Es (CK h r) λa U f d=>?_;obtain rfl:=f;refine AR d λo ho c=>?_;refine AR c λn hn q=>?_;refine hG ?_;clear hG GG;have lst:∀{vs:List V},H a=some (.list vs)\/H a=some (.stk vs)->vs.length<=1000->G (.int vs.length) H->wpAny (model prog w) A (Z6 (.builtin "len") [.ref a]) (PK s λv=>G v H) Er WO:=λ{vs} ho hl q=>by
   refine AR ((R.kp k).ob.lst ho) λxs h1 h2=>?_;have:=h2.length;refine call_len_list h1 (by refine ZI.symm▸?_;exact ozB ‹_› ‹_›) ⟨.int vs.length,?_,Oh k (NQ _),q⟩
   exact this▸ZI▸.int _ _
  cases hn with
  | list hl=>exact lst (.inl ho) hl q
  | stk hl=>exact lst (.inr ho) hl q
end
inductive UL {α:Type} (B:V->Option α->Prop):List V->List α->Prop
 | nil:UL B [] []
 | cons {v o vs l}:B v o->UL B vs l->UL B (v::vs) (o.toList++l)
theorem V4{α:Type}{H:MH}{v:V}{body:V->MH->(Option α->MH->Prop)->Prop}{Q:List α->MH->Prop}(B:V->Option α->Prop)(hB:∀u R,body u H R->∃o,B u o/\R o H)(h:Np H v body Q) :
 ∃a ob vs l,v=.ref a/\H a=some ob/\Rp ob vs/\UL B vs l/\Q l H:=by
 unfold Np at h;refine AJ λGG hG=>?_;refine AR (Ho h) λa z y=>?_;obtain rfl:=z;refine Dy y λo vs ho it x=>?_;refine Es x λI h0 hs hE=>?_;refine hG ?_;clear hG GG;have key:∀rest i l,vs.drop i=rest->i<=vs.length->I i l H->∃l',UL B rest l'/\Q (l++l') H:=by
  intro rest
  induction rest with
  | nil =>
   intro i l hd hi hI;have:i=vs.length:=by have:=List.drop_eq_nil_iff.mp hd;exact aY ‹_› ‹_›
   subst this;exact⟨[],.nil,by rw[eG];exact(hE l H hI).2⟩
  | cons u rest ih =>
   intro i l hd hi hI;have hu:vs[i]?=some u:=by exact List.head?_drop▸hd▸rfl
   refine AR (hB u _ (hs i l H u hu hI).2) λb hb hI'=>?_;have hlt:=(Zw.mp hu).1;refine AR (ih (i+1) _ (by rw[<- List.tail_drop,hd];rfl) hlt hI') λl' r q=>?_
   exact⟨_,.cons hb r,by rwa [bk] at q⟩
 refine AR (key vs 0 [] rfl (Zp _) h0) λl r q=>?_;exact⟨a,o,vs,l,rfl,ho,it,r,q⟩
theorem UL.at{α:Type}{B:V->Option α->Prop}{vs:List V}{l:List α}(h:UL B vs l):∀{i:Nat} {v:V},vs[i]?=some v->∃o,B v o:=by
 induction h with
 | nil=>intro i v e;exact zN e
 | cons hb _ ih =>
  intro i v e;cases i with
  | zero=>obtain rfl:=Ys e;exact⟨_,hb⟩
  | succ i=>exact ih (i:=i) e
theorem UL.pair{α β:Type}{B:V->Option α->Prop}{RR:α->β->Prop}{F:Yr->β->Prop}{p:Yr->Bool}{vs:List V}{l:List α}(h:UL B vs l)(hp:∀v o y,VR v y->B v o->p y=o.isSome)(hF:∀v o y z,VR v y->B v o->F y z->∃u,o=some u/\RR u z) :
 ∀{ws:List Yr} {zs:List β},A2 VR vs ws->Paired F (ws.filter p) zs->A2 RR l zs:=by
 induction h with
 | nil =>
  intro ws zs r hz;cases r.nl
  cases hz
  exact .nil
 | @cons v o vs l hb _ ih =>
  intro ws zs r hz;obtain⟨y,ws,rfl,ry,r⟩:=r.tl;have hy:=hp _ _ _ ry hb;cases o with
  | none=>rw[dQ,hy] at hz;exact ih r hz
  | some u =>
   replace hz:=hy▸dQ▸hz;cases hz with
   | cons hf hz =>
    refine AJ λGG hG=>?_;refine AR (hF _ _ _ _ ry hb hf) λu' e ru=>?_;obtain rfl:=Ys e;refine hG ?_;exact .cons ru (ih r hz)
theorem VR.inj{v v':V}{y:Yr}(h:VR v y)(h':VR v' y):v=v':=by
 cases h<;>cases h'<;>rfl
def BL(C:CI)(κ:Kp)(H:MH)(x:Nat)(cs:List T)(e:E)(v:V)(o:Option V):Prop :=
 (∀Q,UI C κ cs [(x,v)] H Q<->Q o.isSome H)/\∀y,o=some y->∀Q,wE C κ e [(x,v)] H Q<->Q y H
section
variable{H:MH}{cs:List T}{ke:E}{z:Nat}{v:V}
theorem BL.fun{o o':Option V}(h:BL C κ H z cs e v o)(h':BL C κ H z cs e v o'):o=o':=by
 have h1:=(h.1 λb U=>b=o'.isSome).mp ((h'.1 _).mpr rfl);cases o with
 | none=>cases o' with
  | none=>rfl
  | some=>exact zT h1
 | some u=>cases o' with
  | none=>exact zF h1
  | some u'=>have:=((h.2 u rfl) λy U=>y=u').mp ((h'.2 u' rfl _).mpr rfl);exact congrArg some this
end
inductive PT (sc:ZR):T->ZJ->Prop
 | e {o a b x z p}:(o=.Eq\/o=.Gt\/o=.In\/o=.NotIn)->behindInMarks o z=false->Pu sc a x->Pu sc b z->PT sc (.e (.cmp o a b)) (.Compare x [o] [z] p)
 | e2 {a b c x y z p}:behindInMarks .LtE z=false->Pu sc a x->Pu sc b y->Pu sc c z->PT sc (.e (.cmp2 .LtE a .LtE b c)) (.Compare x [.LtE,.LtE] [y,z] p)
 | or {t u x y p}:PT sc t x->PT sc u y->PT sc (.or [t,u]) (.BoolOp .Or [x,y] p)
 | and {t u x y p}:PT sc t x->PT sc u y->PT sc (.and [t,u]) (.BoolOp .And [x,y] p)
theorem c2_of(sc:ZR)(x:ZJ)(e:E):okC2 sc e x=true->∃o a o' b c,e=.cmp2 o a o' b c :=
 E.casesOn (motive_1:=λe=>okC2 sc e x=true->∃o a o' b c,e=.cmp2 o a o' b c) e nP nP (λU=>nP) (λU=>nP) (λU=>nP) (λU=>nP) (λU=>nP) (λU U=>nP) (λU U U U=>nP) (λU U U=>nP) (λU U U=>nP) (λU U U U=>nP) (λU U U=>nP) (λU=>nP) (λU=>nP) (λU U=>nP) (λU U=>nP) (λU=>nP) (λU=>nP) (λU=>nP) (λU=>nP) (λU=>nP) (λU U U=>nP) (λU U U=>nP) (λo a o' b c U=>⟨o,a,o',b,c,rfl⟩) (λU=>nP) (λU U U=>nP) (λU U=>nP) (λU U=>nP) (λU=>nP) (λU=>nP) nP (λU=>nP) (λU U=>nP) (λU U U U=>nP)
theorem Pu.c10{sc:ZR}{e:E}{x:ZJ}(p:Pu sc e x):vt x 10=true->PT sc (.e e) x :=
 Pu.casesOn (motive:=λe x U=>vt x 10=true->PT sc (.e e) x) p (λU U U=>nP) (λU U=>nP) (λU U=>nP) (λU U U=>nP) (λU U U U U=>nP) (λU ho hb p1 p2 U=>.e ho hb p1 p2) (λU U U=>nP) (λU U U U=>nP)
theorem PT.e_of{sc:ZR}{e:E}{x:ZJ}(h:U0 sc e x=true):PT sc (.e e) x:=by
 refine iG (UU h) (λh=>?_) λh=>?_
 ·exact(Ie sc e x (an h).2).c10 (an h).1
 ·refine x51 (c2_of sc x e h) λo a o' b c w=>?_;obtain rfl:=w;refine AJ λGG hG=>?_;refine Nf (Rs (show((o==.LtE&&o'==.LtE)&&vt x 10&&KS (AL x).cs (λp q=>p==.LtE&&q==.LtE)&&Im sc a (AL x).a&&KS (AL x).xs λy z=>Im sc b y&&(Im sc c z&&!behindInMarks .LtE z))=true from h)) λo1 o2 o3 o4 o5=>?_
  refine HU (AO o2) λy cs xs p w=>?_;obtain rfl:=w;refine Gs (Hm (l:=cs) o3) λp1 p2 w e=>?_;obtain rfl:=w;refine hG ?_;clear hG GG;cases eq_of_beq (an e).1
  cases eq_of_beq (an e).2
  cases eq_of_beq (an o1).1
  cases eq_of_beq (an o1).2
  refine Gs (Hm (l:=xs) o5) λz z' w o5=>?_;obtain rfl:=w;obtain⟨o5,o6⟩:=an o5;obtain⟨o6,o7⟩:=an o6;exact .e2 (by rwa [Zq] at o7) (Ie _ _ _ o4) (Ie _ _ _ o5) (Ie _ _ _ o6)
theorem V5{sc:ZR}{ts:List T}{xs:List ZJ}(h:TE sc ts xs=true):∃t u x y,ts=[t,u]/\xs=[x,y]/\PT sc t x/\PT sc u y:=by
 refine Gs (Hm h) λt u w h2=>?_;obtain rfl:=w;cases t with
 | e a =>
  cases u with
  | e b =>
   refine Gs (Hm (l:=xs) h2) λy z e h3=>?_;obtain⟨h3,h4⟩:=an h3;exact⟨_,_,_,_,rfl,e,.e_of h3,.e_of h4⟩
  | _=>exact zT h2
 | _=>exact zT h2
theorem VF{sc:ZR}{t:T}{x:ZJ}(h:okPT sc t x=true):PT sc t x:=by
 cases t with
 | e e=>exact .e_of h
 | or ts =>
  refine Am (an (show(vt x 8&&TE sc ts (AL x).xs)=true from h)) λh1 h2=>?_
  obtain⟨xs,p,rfl⟩:=AO h1;obtain⟨t,u,y,z,rfl,e,h3,h4⟩:=V5 (xs:=xs) h2;subst e;exact .or h3 h4
 | and ts =>
  refine Am (an (show(vt x 7&&TE sc ts (AL x).xs)=true from h)) λh1 h2=>?_
  obtain⟨xs,p,rfl⟩:=AO h1;obtain⟨t,u,y,z,rfl,e,h3,h4⟩:=V5 (xs:=xs) h2;subst e;exact .and h3 h4
 | _=>exact zT h
theorem TS{H:MH}{v u:V}{K:Bool->Prop}(h:Hs H .LtE v u K):∃t,∀K',Hs H .LtE v u K'<->K' t:=by
 refine AR (Dk h) λi z h=>?_;obtain rfl:=z;refine AR (Dk h) λj z h=>?_;obtain rfl:=z;exact⟨_,λK'=>cH⟩
section
variable{H:MH}{cs:List T}{ke:E}{z:Nat}{v:V}{t:T}{x:ZJ}
theorem PT.det(p:PT sc t x):∀{Q:Bool->MH->Prop},wT C κ t ρ H Q->∃v,∀Q',wT C κ t ρ H Q'<->Q' v H:=by
 induction p with
 | @e o a b _ _ _ ho _ p1 p2 =>
  intro Q h;refine AJ λGG hG=>?_;obtain⟨v,hv⟩:=p1.det h;obtain⟨u,hu⟩:=p2.det ((hv _).mp h);obtain⟨t,ht⟩:=Qb ho ((hu _).mp ((hv _).mp h));refine hG ?_;exact⟨t,λQ'=>(hv _).trans ((hu _).trans (ht λt=>Q' t H))⟩
 | @e2 a b c _ _ _ _ _ p1 p2 p3 =>
  intro Q h;have h:wE C κ a ρ H λv H=>wE C κ b ρ H λu H=>Hs H .LtE v u λt=>HC t (wE C κ c ρ H λw H=>Hs H .LtE u w λt=>Q t H) (Q false H):=h;obtain⟨v,hv⟩:=p1.det h;obtain⟨u,hu⟩:=p2.det ((hv _).mp h);have h1:=(hu _).mp ((hv _).mp h);obtain⟨t,ht⟩:=TS h1;have h2:=(ht _).mp h1;cases t with
  | false=>exact⟨false,λQ'=>(hv _).trans ((hu _).trans (ht λt=>HC t (wE C κ c ρ H λw H=>Hs H .LtE u w λt=>Q' t H) (Q' false H)))⟩
  | true =>
   obtain⟨w',hw⟩:=p3.det h2;obtain⟨t',ht'⟩:=TS ((hw _).mp h2);exact⟨t',λQ'=>(hv _).trans ((hu _).trans ((ht λt=>HC t (wE C κ c ρ H λw H=>Hs H .LtE u w λt=>Q' t H) (Q' false H)).trans ((hw _).trans (ht' λt=>Q' t H))))⟩
 | @and t u _ _ _ _ _ iht ihu =>
  intro Q h;have h:wT C κ t ρ H λb H=>HC b (wT C κ u ρ H λb H=>HC b (Q true H) (Q false H)) (Q false H):=h;obtain⟨b,hb⟩:=iht h;have h2:=(hb _).mp h;cases b with
  | false=>exact⟨false,λQ'=>hb _⟩
  | true =>
   obtain⟨b',hb'⟩:=ihu h2;refine⟨b',λQ'=>(hb _).trans ((hb' _).trans ?_)⟩;cases b'<;>exact cH
 | @or t u _ _ _ _ _ iht ihu =>
  intro Q h;have h:wT C κ t ρ H λb H=>HC b (Q true H) (wT C κ u ρ H λb H=>HC b (Q true H) (Q false H)):=h;obtain⟨b,hb⟩:=iht h;have h2:=(hb _).mp h;cases b with
  | true=>exact⟨true,λQ'=>hb _⟩
  | false =>
   obtain⟨b',hb'⟩:=ihu h2;refine⟨b',λQ'=>(hb _).trans ((hb' _).trans ?_)⟩;cases b'<;>exact cH
theorem LR{xs:List ZJ}(o:LL sc cs xs=true):cs=[]/\xs=[]\/∃t x,cs=[t]/\xs=[x]/\PT sc t x:=by
 match cs,xs,o with
 | [],[],_=>exact .inl ⟨rfl,rfl⟩
 | [t],[x],o=>exact .inr ⟨t,x,rfl,rfl,VF o⟩
theorem TT{xs:List ZJ}(o:LL sc cs xs=true){Q:Bool->MH->Prop}(h:UI C κ cs ρ H Q):∃b,∀Q',UI C κ cs ρ H Q'<->Q' b H:=by
 rcases LR o with⟨rfl,rfl⟩|⟨t,x,rfl,rfl,p⟩
 ·exact⟨true,λQ'=>cH⟩
 ·have h:wT C κ t ρ H λb H=>HC b (Q true H) (Q false H):=h;refine BB (p.det h) λb hb=>?_;refine⟨b,λQ'=>(hb _).trans ?_⟩;cases b<;>exact cH
end
section
variable{prog:Y8}{w:Y0}{A:Za}{env:eE}{L:Zh}{m:Zf->Option Yr}{a b:E}{t:T}{x:ZJ}{s s':Yq}{cs:List T}
theorem spT(P:EP env L κ sc)(l:Bh ρ m)(p:PT sc t x):∀{H:MH} {s:Yq} {G:Bool->MH->Prop} {W:Sem Yr} {Er:Yr->Yq->Prop},Rd prog w L m H s->wT C κ t ρ H G->wpAny (model prog w) A (isTrue x env W) (λb s'=>e9 s s'/\G b H) Er s:=by
 induction p with
 | @e o a b x z p ho hb p1 p2 =>
  intro H s G W Er R h;have h:wE C κ a ρ H λv H=>wE C κ b ρ H λu H=>Hs H o v u λt=>G t H:=h;refine wpAny_isTrue_Compare1 (Qc (sp P l p1 R h) λv y WO r k h=>Qc (sp P l p2 (R.kp k) h) λu z WQ r' k' h=>?_) hb;exact TR ho ((R.kp k).kp k').ob r r' h λb n q=>cu ⟨Oh (Oh k k') (NQ n),q⟩
 | @e2 a b c x y z p hb p1 p2 p3 =>
  intro H s G W Er R h;have h:wE C κ a ρ H λv H=>wE C κ b ρ H λu H=>Hs H .LtE v u λt=>HC t (wE C κ c ρ H λw H=>Hs H .LtE u w λt=>G t H) (G false H):=h;refine isTrue_chain (Qc (sp P l p1 R h) λv y WO r k h=>test_link (Qc (sp P l p2 (R.kp k) h) λu z WQ r' k' h=>?_)) hb;refine AJ λGG hG=>?_;refine Dy (Bj h r) λi t g f h=>?_;obtain rfl:=g;obtain rfl:=f;refine Dy (Bj h r') λj t' g f h=>?_;obtain rfl:=g;obtain rfl:=f;refine hG ?_;clear hG GG;refine gq (cu ?_);cases q:decide (i<=j) with
  | false=>replace h:=q▸h;exact⟨Oh k k',h⟩
  | true =>
   replace h:=q▸h;refine test_last (Qc (sp P l p3 ((R.kp k).kp k') h) λw' z' WU Wb X5 h=>?_);refine AJ λGG hG=>?_;refine Dy (Bj h Wb) λj' t'' g f h=>?_;obtain rfl:=g;obtain rfl:=f;refine hG ?_;clear hG GG;exact gq (cu ⟨Oh (Oh k k') X5,h⟩)
 | @and t u x y p _ _ iht ihu =>
  intro H s G W Er R h;have h:wT C κ t ρ H λb H=>HC b (wT C κ u ρ H λb H=>HC b (G true H) (G false H)) (G false H):=h;refine isTrue_and (th (iht (W:=eval x env) R h) λb WO d=>Am d λk h=>?_);cases b with
  | false=>exact⟨k,h⟩
  | true =>
   refine isTrue_and (th (ihu (W:=eval y env) (R.kp k) h) λb WQ ⟨k',h⟩=>?_);cases b with
   | false=>exact⟨Oh k k',h⟩
   | true=>exact isTrue_and_nil ⟨Oh k k',h⟩
 | @or t u x y p _ _ iht ihu =>
  intro H s G W Er R h;have h:wT C κ t ρ H λb H=>HC b (G true H) (wT C κ u ρ H λb H=>HC b (G true H) (G false H)):=h;refine isTrue_or (th (iht (W:=eval x env) R h) λb WO d=>Am d λk h=>?_);cases b with
  | true=>exact⟨k,h⟩
  | false =>
   refine isTrue_or (th (ihu (W:=eval y env) (R.kp k) h) λb WQ ⟨k',h⟩=>?_);cases b with
   | true=>exact⟨Oh k k',h⟩
   | false=>exact isTrue_or_nil ⟨Oh k k',h⟩
theorem spTs{xs:List ZJ}{H:MH}{G:Bool->MH->Prop}{Er:Yr->Yq->Prop}(P:EP env L κ sc)(l:Bh ρ m)(o:LL sc cs xs=true)(R:Rd prog w L m H s)(h:UI C κ cs ρ H G) :
 wpAny (model prog w) A (forIn xs true λc r=>if r=true then do let ok <- isTrue c env (eval c env);pure (ax ok) else pure (ax r)) (λb s'=>e9 s s'/\G b H) Er s:=by
 rcases LR o with⟨rfl,rfl⟩|⟨t,x,rfl,rfl,p⟩
 ·rw[gS];exact Yv ⟨VE,h⟩
 ·have h:wT C κ t ρ H λb H=>HC b (G true H) (G false H):=h;rw[cQ];refine Yo ?_;refine(if_pos rfl).symm▸Yo (th (spT P l p R h) λb WO z=>Am z λk h=>Yv ?_);dsimp only;rw[gS];refine Yv ⟨k,?_⟩;cases b<;>exact h
end
end
section
variable{prog:Y8}{w:Y0}{A:Za}{env:eE}{c:Cx}{m:Zf->Option Yr}{κ:Kp}{sc scope:ZR}{K:aC}{k:Ck}{C:CI}{ρ:As}{e ke:E}{cs:List T}{z:Nat}{H:MH}{s:Yq}{Er:Yr->Yq->Prop}{Q:V->MH->Prop}{a:Nat}{ob:O}{vs:List V}
theorem CC{α:Type}{x:Zf}{k:α}:∀{l:List (Zf×α)},l.lookup x=some k->(x,k)∈l
 | [],h=>zN h
 | (n,j)::r,h=>by
  rw[ZV] at h;refine UJ (x==n) (λe=>?_) λe=>?_
  ·replace h:=e▸h;obtain rfl:=Ys h;exact(eq_of_beq e)▸.head _
  ·replace h:=e▸h;exact .tail _ (CC h)
theorem NR{env:eE}{f:Zf×bH->List (Zf×Zh)->Sem (ForInStep (List (Zf×Zh)))}(h1:∀n k cs,k≠.free->f (n,k) cs=pure (.yield cs))(h2:∀n a cs,env.cells.lookup n=some a->f (n,.free) cs=pure (.yield ((n,a)::cs))) :
 ∀(names:List (Zf×bH)) (cs:List (Zf×Zh)),(∀p∈names,p.2=.free->∃a,env.cells.lookup p.1=some a)->∃cl,forIn names cs f=pure cl/\∀x,(cs.lookup x=env.cells.lookup x\/∃p∈names,p.1=x/\p.2=.free)->cl.lookup x=env.cells.lookup x
 | [],cs,_=>⟨cs,rfl,λx h=>h.elim id λz=>AR z λU h U=>nomatch h⟩
 | (n,k)::r,cs,h=>by
  by_cases hk:k=.free
  ·subst hk;refine BB (h _ (.head _) rfl) λa ha=>?_;refine AR (NR h1 h2 r ((n,a)::cs) λp hp=>h p (.tail _ hp)) λcl e g=>?_;refine⟨cl,by rw[cQ,h2 _ _ _ ha,pure_bind];exact e,λx hx=>g x ?_⟩
   have hn:((n,a)::cs).lookup n=env.cells.lookup n:=by rw[ZV,beq_self_eq_true,ha]
   rcases hx with hx|⟨p,hp,rfl,hf⟩
   ·by_cases e:x=n
    ·subst e;exact .inl hn
    ·exact .inl (by rw[ZV,beq_eq_false_iff_ne.mpr e];exact hx)
   ·rcases mcP hp with rfl|hp
    ·exact .inl hn
    ·exact .inr ⟨p,hp,rfl,hf⟩
  ·refine AR (NR h1 h2 r cs λp hp=>h p (.tail _ hp)) λcl e g=>?_;refine⟨cl,by rw[cQ,h1 _ _ _ hk,pure_bind];exact e,λx hx=>g x ?_⟩
   rcases hx with hx|⟨p,hp,rfl,hf⟩
   ·exact .inl hx
   ·rcases mcP hp with rfl|hp
    ·exact absurd hf hk
    ·exact .inr ⟨p,hp,rfl,hf⟩
theorem clos{scope:ZR}{env:eE}(h:∀p∈scope.names,p.2=dh->∃a,env.cells.lookup p.1=some a):∃cl,closureFor scope env=pure cl/\∀p∈scope.names,p.2=.free->cl.lookup p.1=env.cells.lookup p.1:=by
 have:=@NR env (λx r=>match x with
  | (name,kind)=>if(kind==.free)=true then do let c <- cellOf env name;pure (ax ((name,c)::r)) else pure (ax r)) (λn k cs hk=>?_) (λn a cs ha=>?_) scope.names [] h
 ·refine AR this λcl e g=>?_;refine⟨cl,?_,λp hp hf=>g p.1 (.inr ⟨p,hp,rfl,hf⟩)⟩;exact(congrArg (·>>=λcs=>pure cs) e).trans (pure_bind _ _)
 ·have:(k==dh)=false:=by cases k<;>first|rfl|exact absurd rfl hk
  simp only[this,bU,if_false]
 ·show(do let c <- cellOf env n;pure (ax ((n,c)::cs)):Sem (ForInStep (List (Zf×Zh))))=_
  unfold cellOf;exact ha.symm▸pure_bind _ _
theorem LT{g:Zf×bH->Zf×bH}(h1:∀p,(g p).1=p.1)(h2:∀n,(g (n,.free)).2=.cell\/(g (n,.free)).2=.free):∀{l:List (Zf×bH)} {x:Zf},l.lookup x=some .free->(l.map g).lookup x=some .cell\/(l.map g).lookup x=some .free
 | [],_,h=>zN h
 | (n,k)::r,x,h=>by
  have e:g (n,k)=(n,(g (n,k)).2):=Prod.ext (h1 _) rfl;rw[Zz,e,ZV];rw[ZV] at h;cases hx:x==n with
  | true =>
   replace h:=hx▸h;cases(show some k=some .free from h)
   exact(h2 n).imp (λh=>congrArg some h) λh=>congrArg some h
  | false=>replace h:=hx▸h;exact LT h1 h2 h
theorem NS{env:eE}{names:List (Zf×bH)}{x:Zf}(h:names.lookup x=some .free) :
 (names.map λ(n,k)=>if(k==dh&&env.scope.kind==.function&&env.kindOf n==some .cell) then(n,aj) else(n,k)).lookup x=some .cell \/
 (names.map λ(n,k)=>if(k==dh&&env.scope.kind==.function&&env.kindOf n==some .cell) then(n,aj) else(n,k)).lookup x=some .free:=by
 refine LT (λp=>?_) (λn=>?_) h
 ·dsimp only;split<;>rfl
 ·dsimp only;split
  ·exact .inl rfl
  ·exact .inr rfl
theorem JQ{g:Zf×bH->Zf×bH}(h1:∀p,(g p).1=p.1)(h2:∀n,(g (n,.globalImplicit)).2=.globalImplicit):∀{l:List (Zf×bH)} {x:Zf},l.lookup x=some .globalImplicit->(l.map g).lookup x=some .globalImplicit
 | [],_,h=>zN h
 | (n,k)::r,x,h=>by
  have e:g (n,k)=(n,(g (n,k)).2):=Prod.ext (h1 _) rfl;rw[Zz,e,ZV];rw[ZV] at h;cases hx:x==n with
  | true =>
   replace h:=hx▸h;cases(show some k=some .globalImplicit from h)
   exact congrArg some (h2 n)
  | false=>replace h:=hx▸h;exact JQ h1 h2 h
theorem NT{env:eE}{names:List (Zf×bH)}{x:Zf}(h:names.lookup x=some .globalImplicit) :
 (names.map λ(n,k)=>if(k==dh&&env.scope.kind==.function&&env.kindOf n==some .cell) then(n,aj) else(n,k)).lookup x=some .globalImplicit:=by
 refine JQ (λp=>?_) (λn=>?_) h
 ·dsimp only;split<;>rfl
 ·rfl
theorem Base.len{k:Ck}{K:aC}{h:aV}(B:Base k K h):LenG h:=by
 refine Vn B.glo λmg mb h1 h2 U U h3=>?_;exact⟨mg,mb,h1,h2,h3 _ (.head _)⟩
structure ScP(out s:ZR)(y:Nat):Prop where
 kd:s.kind=.function
 nc:∀p∈s.names,p.2≠.cell
 fr:∀p∈s.names,p.2=.free->out.names.lookup p.1=some .cell
 lo:∀p∈s.names,p.2=.local->s.names.lookup p.1=some .local
 hx:s.names.lookup (nm y)=some .local
theorem Pj{out s:ZR}{y:Nat}(h:scP out s y=true):ScP out s y:=by
 refine Nf (Rs h) λh1 h2 h3 h4 h5=>?_;clear h;refine⟨eq_of_beq h1,λp hp e=>?_,λp hp e=>?_,λp hp e=>?_,eq_of_beq h5⟩
 ·have:=laP h2 p hp;replace this:=e▸this;exact zT this
 ·have:=laP h3 p hp;rw[e] at this;exact eq_of_beq this
 ·have:=laP h4 p hp;rw[e] at this;exact eq_of_beq this
section
theorem EO.clos(O:EO env c.L κ sc)(S:ScP sc scope z):∃cl,closureFor scope env=pure cl/\∀p∈scope.names,p.2=.free->cl.lookup p.1=env.cells.lookup p.1 :=
 Mine.clos λp hp hf=>O.icl (p.1,.cell) (CC (S.fr p hp hf)) rfl
theorem EO.ep{cl:List (Zf×Zh)}{L':Zh}(O:EO env c.L κ sc)(S:ScP sc scope z)(hcl:∀p∈scope.names,p.2=.free->cl.lookup p.1=env.cells.lookup p.1):EP (compEnvC scope cl L' env) L' κ scope where
 ikd:=S.kd
 ilo:=rfl
 loc:=λy h=>lookup_relabel_local h
 glo:=λh=>NT h
 igl:=O.igl
 ibi:=O.ibi
 fre:=λy a h g=>⟨NS h,(hcl (nm y,.free) (CC h) rfl).trans (O.ice _ _ g)⟩
theorem AU.rd{WU:Yq}{L':Zh}{Wm:Zf->Option Yr}(R:AU prog w c m H s)(hm:(c.WM.get? sysModules).isSome=true)(hg:LenG c.WM)(hn:WU.heap.Ns L' Wm)(hk:∀b o,s.heap.get? b=some o->WU.heap.get? b=some o):Rd prog w L' Wm H WU :=
 ⟨hn,λa o h p=>AR (R.obs hm a o h p) λob h1 h2=>⟨ob,hk _ _ h1,h2⟩,Dy hg λmg mb h1 h2 h3=>⟨mg,mb,h1.keeps λb o e=>hk _ _ (R.fr.keep b o e),h2.keeps λb o e=>hk _ _ (R.fr.keep b o e),h3⟩⟩
theorem AU.comp_fin{Wd WX:Zh}{h':aV}{tk:Nat}{o:O}{W4 obC:dK}(R:AU prog w c m H s)(hD:s.heap.get? Wd=none)(hC:s.heap.get? WX=none)(hDC:Wd≠WX)(gC:h'.get? WX=some obC)(gD:h'.get? Wd=some W4)(hob:OB prog w o W4)
 (hk:∀b o,s.heap.get? b=some o->h'.get? b=some o):AU prog w (c.x ((WX,obC)::c.X)) m (H.put Wd o) {s with heap:=h',toks:=tk}/\(∀p∈c.X,p.1≠WX)/\H Wd=Option.none:=by
 refine AJ λGG hG=>?_;obtain⟨D,Yj,N,L⟩:=R.led;have off:∀{x:Zh},s.heap.get? x=none->x∉Yj.map (·.1)/\x≠c.L/\c.WM.get? x=none:=λ{x} hx=>by
  refine⟨λq=>?_,λq=>?_,?_⟩
  ·refine AR (mmP q) λp hp z=>?_;obtain rfl:=z;exact sN ((N p hp).1) hx
  ·refine BB R.lo λoL hL'=>?_;exact zS (hL'▸q▸hx)
  ·cases q:c.WM.get? x with
   | none=>rfl
   | some o=>exact sN (R.fr.keep _ _ q) hx
 refine CV (off hD) λd1 d2 d3=>?_;refine CV (off hC) λc1 c2 c3=>?_;refine hG ?_;have N':gN c.WM c.L h' ((WX,obC)::(Wd,W4)::Yj):=by
  intro p hp;rcases mcP hp with rfl|hp
  ·exact⟨gC,c2,c3⟩
  ·rcases mcP hp with rfl|hp
   ·exact⟨gD,d2,d3⟩
   ·exact⟨hk _ _ (N p hp).1,(N p hp).2⟩
 have L1:=L.alloc d1 hob;exact⟨⟨R.fr.keeps hk,⟨D,_,N',(L1.addX (ob:=obC) (x:=WX) (λq=>by
  rcases mcP q with q|q
  ·exact hDC q.symm
  ·exact c1 q) c3)⟩,R.gs,R.dr,R.os⟩,λp hp q=>c1 (q▸key (L.xs p hp).1),L.none d1 d3⟩
theorem A2.nth'{vs:List V}{xs:List Yr}{y:Yr}(h:A2 VR vs xs):∀{i:Nat},xs[i]?=some y->∃v,vs[i]?=some v/\VR v y:=by
 induction h with
 | nil=>intro i e;exact zN e
 | cons x _ ih =>
  intro i e;cases i with
  | zero=>obtain rfl:=Ys e;exact⟨_,rfl,x⟩
  | succ i=>exact ih (i:=i) e
theorem Mj{I:Zh}{fp wr:List Zh}{n:Nat}{P P':Nat->Yr->Prop}{St:Nat->aV->Prop}(W:Walks prog w A I fp wr n P St)(h:∀i v,i<n->P i v->P' i v):Walks prog w A I fp wr n P' St where
 sub:=W.sub
 frame:=W.frame
 item:=λi s Q E hi st hQ=>W.item i s Q E hi st λv h' tk hp=>hQ v h' tk (h i v hi hp)
 done:=W.done
 self:=W.self
theorem RU{lo hi st:Int}{i:Nat}(h:i<(BJ lo hi st).length):(BJ lo hi st)[i]?=some (lo+i*st):=by
 unfold BJ at *;rw[Ze,List.getElem?_range (by rwa [Y2,cz] at h),Int.mul_comm];rfl
theorem TU{P:Yr->Yq->Prop}(hm:(c.WM.get? sysModules).isSome=true)(hh:A.handled=none)(R:AU prog w c m H s)(ho:H a=some ob)(it:Rp ob vs)
 (q:∀I fp St WQ,e9 s WQ->s.heap.get? I=none->Walks prog w A I fp [I] vs.length (λi y=>∃v,vs[i]?=some v/\VR v y) St->vs.length<=1001->St 0 WQ.heap->(∀b∈fp,b<WQ.heap.objs.size)->P (.ref I) WQ) :
 wpAny (model prog w) A (pyIter (.ref a)) P Er s:=by
 have fI:s.heap.get? s.heap.objs.size=none:=by
  cases q:s.heap.get? s.heap.objs.size with
  | none=>rfl
  | some o=>exact absurd (Yy q) (ZE _)
 have kp:∀{io:dK} b o,s.heap.get? b=some o->(s.heap.push io).get? b=some o:=λb o e=>Yx _ e;have sz:∀{io:dK},(s.heap.push io).objs.size=s.heap.objs.size+1:=λ{io}=>b0 ..;have fpL:∀{x:Zh} {io o:dK},s.heap.get? x=some o->∀b∈[s.heap.objs.size,x],b<(s.heap.push io).objs.size:=λ{x io o} hx b hb=>by
  rw[sz];rcases mcP hb with rfl|hb
  ·exact aG _
  ·exact(msP hb).symm▸ez (Yy hx)
 cases it with
 | list hl =>
  refine AJ λGG hG=>?_;refine O3 (R.pl ho rfl) λD Yj o N L h1 z=>?_;refine Gs z λxs n u h2=>?_;obtain rfl:=u;refine hG ?_;clear hG GG;have hx:s.heap.IsList a xs.toArray:=⟨_,N.get h1,rfl,n,rfl⟩;have hlen:=h2.length;have hlt:=Yy (N.get h1);have W:=Walks.list (prog:=prog) (w:=w) hh s.heap.objs.size a (ZF hlt) xs.toArray;refine dD hx (q _ _ _ _ ⟨_,s.toks,rfl,kp⟩ fI (Mj ((show xs.toArray.size=vs.length from by rw[ZI,hlen])▸W) λi v U hv=>h2.nth' (by simpa using hv)) (Yn (m:=1000) ‹_› (by decide)) ?_ (fpL (N.get h1)))
  exact⟨⟨_,Y9 _ rfl,rfl,rfl⟩,⟨_,kp _ _ (N.get h1),rfl,n,rfl⟩⟩
 | @range lo hi st bb =>
  refine AJ λGG hG=>?_;refine O3 (R.pl ho rfl) λD Yj o N L h1 z=>?_;refine FY z λWp Wy W1 u=>?_;obtain rfl:=u;refine hG ?_;clear hG GG;have hlen:=Gi (lo:=lo) (hi:=hi) bb.1;refine wpAny_pyIter_range (N.get h1) (Og bb) (q _ _ _ _ ⟨_,s.toks,rfl,kp⟩ fI (Mj (by rw[Y2];exact(Walks.range (prog:=prog) (w:=w) hh s.heap.objs.size lo st (BJ lo hi st).length)) ?_) ?_ ?_ ?_)
  ·rintro i v hi ⟨t,rfl⟩;rw[Y2] at hi;exact⟨.int (lo+i*st),by exact Ze▸(RU hi)▸rfl,.int _ _⟩
  ·rw[Y2];have:=Of bb;exact Yn (m:=1000) ‹_› (by decide)
  ·show(s.heap.push _).get? _=_
   rw[Y9 _ rfl,<- hlen];simp
  ·intro b hb;exact(msP hb).symm▸sz.symm▸aG _
end
def pB{α:Type}(B:V->Option α->Prop)(y:Yr):Bool:=@decide (∃v o,VR v y/\B v o/\o.isSome=true) (cW _)
theorem TV{α:Type}{B:V->Option α->Prop}(hf:∀v o o',B v o->B v o'->o=o'){v:V}{o:Option α}{y:Yr}(r:VR v y)(hb:B v o):pB B y=o.isSome:=by
 cases q:o.isSome with
 | true=>exact @decide_eq_true _ (cW _) ⟨v,o,r,hb,q⟩
 | false =>
  refine @decide_eq_false _ (cW _) λz=>Dy z λv' o' r' hb' q'=>?_;cases r.inj r'
  exact zT (q▸(hf _ _ _ hb hb')▸q')
inductive FB {α β:Type} (RR:α->β->Prop) (B:V->Option α->Prop) (y:Yr) (z:β):Prop
 | mk (v:_) (u:_) (p0:VR v y) (p1:B v (some u)) (p2:RR u z):FB RR B y z
theorem FB_of{α β:Type}{RR:α->β->Prop}{B:V->Option α->Prop}(hf:∀v o o',B v o->B v o'->o=o'){v:V}{o:Option α}{y:Yr}{z:β}(r:VR v y)(hb:B v o)(h:FB RR B y z):∃u,o=some u/\RR u z:=by
 obtain⟨v',u,r',hb',q⟩:=h;cases r.inj r'
 exact⟨u,hf _ _ _ hb hb',q⟩
theorem Bh.one{z:Nat}{v:V}{y:Yr}{m:Zf->Option Yr}(r:VR v y)(h:m (nm z)=some y):Bh [(z,v)] m:=by
 intro x u hx;have hx:cond (Y4 z x) (some v) Yu=some u:=hx;refine UJ (Y4 z x) (λq=>?_) λq=>?_
 ·rw[q] at hx;obtain rfl:=Ys hx;exact(Y6 q)▸⟨y,h,r⟩
 ·rw[q] at hx;exact zN hx
theorem vs_rel{vs:List V}:∀{ws:List Yr},ws.length=vs.length->(∀(j:Nat) (y:Yr),ws[j]?=some y->∃v,vs[j]?=some v/\VR v y)->A2 VR vs ws:=by
 induction vs with
 | nil =>
  intro ws h _;cases ws with
  | nil=>exact .nil
  | cons=>cases h
 | cons v vs ih =>
  intro ws h hv;cases ws with
  | nil=>cases h
  | cons y ws =>
   refine AR (hv 0 y rfl) λv' e r=>?_;obtain rfl:=Ys e;exact .cons r (ih (Nat.succ.inj h) λj y e=>hv (j+1) y e)
section
theorem BL.body{scope:ZR}{ifs:List ZJ}{x:ZJ}(o:LL scope cs ifs=true)(p:Im scope e x=true)(u:V)(R:Option V->MH->Prop)
 (h:UI C κ cs [(z,u)] H λt H=>HC t (wE C κ e [(z,u)] H λy H=>R (some y) H) (R Yu H)):∃o,BL C κ H z cs e u o/\R o H:=by
 refine BB (TT o h) λb hb=>?_;have h2:=(hb _).mp h;cases b with
 | false=>exact⟨Yu,⟨hb,λU e=>zN e⟩,h2⟩
 | true =>
  refine BB ((Ie _ _ _ p).det h2) λv hv=>?_;exact⟨some v,⟨hb,λU e=>by obtain rfl:=Ys e;exact hv⟩,(hv _).mp h2⟩
theorem Oi{iter elt:ZJ}{px pos:ef}{ifs:List ZJ}{cl:List (Zf×Zh)}{l:List V}{RR:Yr->Zh->bh->Yq->Prop}(Z:Ev prog w K k C A c env κ sc)(ost:k.strict=true)(R:AU prog w c m H s)(S:ScP sc scope z)(ho:LL scope cs ifs=true)(he:Im scope e elt=true)
 (hcl:∀p∈scope.names,p.2=.free->cl.lookup p.1=env.cells.lookup p.1)(hob:H a=some ob)(it:Rp ob vs)(run:UL (BL C κ H z cs e) vs l)
 (fin:∀Wd WX h' tk m' obC,AU prog w (c.x ((WX,obC)::c.X)) m (H.put Wd (.list l)) {s with heap:=h',toks:=tk}->(∀p∈c.X,p.1≠WX)->H Wd=Yu->h'.Ns WX m'->RR (.ref Wd) WX (.ok .next) {s with heap:=h',toks:=tk}) :
 wpAny (model prog w) A (pyIter (.ref a)) (λitv WQ=>wpAny (model prog w) A (newList []) (λacc WU=>wpAny (model prog w) A (newFunctionEnv scope env.globals cl [] env.qual none .none (some env)) (λcenv Wu =>
  codeAny (model prog w) A (.compStart (.ListComp elt [⟨.Name (nm z) px,iter,ifs,0⟩] scope pos) 0 itv acc {cenv with scope:=relabel scope env}) (RR acc cenv.locals) Wu) Er WU) Er WQ) Er s:=by
 have hf:∀v o o',BL C κ H z cs e v o->BL C κ H z cs e v o'->o=o':=λU U U h h'=>h.fun h';refine TU Z.B.mods (Z.hh ost) R hob it λI fp St WQ Wr hI W hvs hst hfp=>?_;obtain⟨Wf,Wy,rfl,Wr⟩:=Wr;have nI:∀{b o},s.heap.get? b=some o->b∉[I]:=λ{b o} e q=>by exact zN (hI▸(msP q)▸e)
 have rd:∀{WU:Yq} {L' Wm},WU.heap.Ns L' Wm->(∀b o,b∉[I]->Wf.get? b=some o->WU.heap.get? b=some o)->Rd prog w L' Wm H WU:=λhn hk=>R.rd Z.B.mods Z.B.len hn λb o e=>hk b o (nI e) (Wr b o e);refine comp_block_walkC W (by refine ao.symm▸?_;exact Yn (m:=1001) ‹_› (by decide)) (pB (BL C κ H z cs e)) (FB VR (BL C κ H z cs e)) S.nc S.kd S.hx hst hfp ⟨?_,?_⟩ ?_
 ·rintro WX i y WU Wm E' hC ⟨v,hv,r⟩ hn hm hk U;refine BB (run.at hv) λo hb=>?_;exact th (spTs (Z.O.ep S hcl) (Bh.one r hm) ho (rd hn hk) ((hb.1 λt U=>t=o.isSome).mpr rfl)) λb Wu j=>Am j λk e=>⟨e.trans (TV hf r hb).symm,k⟩
 ·rintro WX i y WU Wm E' hC ⟨v,hv,r⟩ hpy hn hm hk U;refine BB (run.at hv) λo hb=>?_;replace hpy:=(TV hf r hb).symm.trans hpy;cases o with
  | none=>exact zT hpy
  | some u=>exact Qc (sp (Z.O.ep S hcl) (Bh.one r hm) (Ie _ _ _ he) (rd hn hk) ((hb.2 u rfl λy U=>y=u).mpr rfl)) λv' y' Wu r' k e=>⟨⟨v,u,r,hb,e▸r'⟩,k⟩
 ·intro Wd WX h' tk m' ys ws hD hC hDC hn hl hpl hlen hP hF hk;have kk:∀b o,s.heap.get? b=some o->h'.get? b=some o:=λb o e=>hk b o (nI e) (Wr b o e);have off:∀{x},Wf.get? x=none->s.heap.get? x=none:=λ{x} hx=>by
   cases q:s.heap.get? x with
   | none=>rfl
   | some o=>exact sN (Wr _ _ q) hx
  have r:=run.pair (λv o y r hb=>TV hf r hb) (λv o y z r hb h=>FB_of hf r hb h) (vs_rel hlen hP) hF;refine AJ λGG hG=>?_;refine NB (id hn) λoC U U gC U=>?_;refine BB hpl λn gD=>?_;refine CV (R.comp_fin (tk:=tk) (o:=.list l) (off hD) (off hC) hDC gC gD ⟨ys.toList,n,(Mi ys n).symm,r⟩ kk) λf1 f2 f3=>?_;refine hG ?_;clear hG GG;exact fin Wd WX h' tk m' oC f1 f2 f3 hn
end
section
variable{it:E}
theorem AU.drop{h'':aV}{t:Nat}{WX:Zh}{obC:dK}(R:AU prog w (c.x ((WX,obC)::c.X)) m H s)(hX:∀p∈c.X,p.1≠WX)(hs:cG WX s.heap h''):AU prog w c m H {s with heap:=h'',toks:=t} :=
 AU.loseX (t:=t) R hX λb o hb e=>hs.extBut b o hb e
structure GP(k:Ck)(sc scope:ZR)(z:Nat)(cs:List T)(it:E)(gs:List dg)(px:ef)(iter:ZJ)(ifs:List ZJ):Prop where
 e:gs=[⟨.Name (nm z) px,iter,ifs,0⟩]
 nc:Cv iter=true
 oi:CM k sc it iter=true
 S:ScP sc scope z
 oc:LL scope cs ifs=true
theorem V6{gs:List dg}{f:dg->Bool}(h:(FR gs λg=>(g.is_async==0)&&vt g.target 1&&((AL g.target).z==nm z)&&Cv g.iter&&CM k sc it g.iter&&scP sc scope z&&LL scope cs g.ifs&&f g)=true):∃px iter ifs,GP k sc scope z cs it gs px iter ifs/\f ⟨.Name (nm z) px,iter,ifs,0⟩=true:=by
 refine AR (CE h) λy w h=>?_;obtain⟨tg,iter,ifs,as⟩:=y;obtain rfl:=w;refine Vm (an8 h) λh1 h2 h3 h4 h5 h6 h7 h8=>?_;clear h;cases(eq_of_beq h1:as=0)
 refine HT (AO (x:=tg) h2) λn p y=>?_;obtain rfl:=y;cases(eq_of_beq h3:n=_)
 exact⟨p,iter,ifs,⟨rfl,h4,h5,Pj h6,h7⟩,h8⟩
theorem Qd(i:SE prog w K k C it):SE prog w K k C (.lcomp e z it cs):=λA env c m κ sc ρ Z l x H s Q Er o R h=>by
 refine Am (an o) λo1 o2=>?_;refine Am (an o1) λost o1=>?_;refine HU (AO o1) λelt gs scope pos t=>?_;obtain rfl:=t;refine NB (V6 (f:=λg=>Im scope e elt) o2) λpx iter ifs G he=>?_;cases G.e
 refine AR (Z.O.clos G.S) λcl c1 c2=>?_;rw[eval_ListComp];refine fH (use:=none) rfl (λv=>Ju G.nc) c1 G.S.kd G.S.lo (Fc (i.go Z l G.oi R h) λv y H WO r WV hc=>?_);refine AJ λGG hG=>?_;refine x46 (V4 (BL C κ H z cs e) (λu R h=>BL.body G.oc he u R h) hc) λa ob vs ls t ho it run hle q=>?_;obtain rfl:=t;cases r
 refine hG ?_;exact Oi (RR:=λacc WX=>compPost (model prog w) A Er none (PE prog w c m Q) acc WX) Z ost WV G.S G.oc he c2 ho it run λWd WX h' tk m' obC f1 f2 f3 hn=>⟨m',hn,λh'' hs=>⟨_,_,.ref Wd,f1.drop f2 hs,q Wd f3⟩⟩
theorem TW{elt:ZJ}{gs:List dg}{pos p:ef}{x:Zf}{n:Nat}:∃b,swapsWith (.ListComp elt gs scope pos) (some (.Name x p)) n env=pure b:=⟨_,rfl⟩
theorem asg_lc{x:Nat}{p:ef}{vx t:ZJ}{Q:Fl->As->MH->Prop}(i:SE prog w K k C it)(Z:Ev prog w K k C A c env κ sc)(l:Bh ρ m)(o2:Pb sc t x .local=true)(o3:CM k sc (.lcomp e z it cs) vx=true)
 (R:AU prog w c m H s)(h:wS C κ (.asg x (.lcomp e z it cs)) ρ H Q):wpAny (model prog w) A (exec (.Assign [t] vx p) env) (PS prog w c Q) Er s:=by
 refine Am (an o3) λo1 o4=>?_;refine Am (an o1) λost o1=>?_;refine HU (AO o1) λelt gs scope pos j=>?_;obtain rfl:=j;obtain⟨⟨p',rfl⟩,o5⟩:=D4 o2;obtain⟨b,hb⟩:=TW (scope:=scope) (env:=env) (elt:=elt) (gs:=gs) (pos:=pos) (p:=p') (x:=nm x) (n:=p.line);cases b with
 | false=>exact ey (Fc (Qd i _ _ _ _ _ _ _ Z l _ _ _ _ _ o3 R h) λv y H s r R' q=>Fd Z.O o5 l R' r λm' WQ l' WR=>.nx l' WR q) hb
 | true =>
  refine NB (V6 (f:=λg=>Im scope e elt) o4) λpx iter ifs G he=>?_;cases G.e
  refine AR (Z.O.clos G.S) λcl c1 c2=>?_;refine(exec_Assign_Name_used _ _ _ _ hb).symm▸Yo (am (Yo ?_));refine Yo (th (fH (use:=some (assign (.Name (nm x) p') env)) (Q:=λU s'=>PS prog w c Q .next s') rfl (λv=>Ju G.nc) c1 G.S.kd G.S.lo (Fc (i.go Z l G.oi R h) λv y H WO r WV hc=>?_)) λU s' hq=>Yv (Yv hq));refine AJ λGG hG=>?_;refine x46 (V4 (BL C κ H z cs e) (λu R h=>BL.body G.oc he u R h) hc) λa ob vs ls j ho it run hle q=>?_;obtain rfl:=j;cases r
  refine hG ?_;refine Oi (RR:=λacc WX=>compPost (model prog w) A Er (some (assign (.Name (nm x) p') env)) (λU s'=>PS prog w c Q .next s') acc WX) Z ost WV G.S G.oc he c2 ho it run λWd WX h' tk m' obC f1 f2 f3 hn=>?_;refine(wpAny_assign_Name (Fd (TP Z _).O o5 l f1 (.ref Wd) λWj WQ XN WR=>?_):wpAny _ A (assign (.Name (nm x) p') env (.ref Wd)) _ _ _);refine⟨m',hn.at' λo e=>?_,λWq X6=>.nx XN (WR.drop (t:=WQ.toks) f2 X6) (q Wd f3)⟩;have e':h'.get? WX=some obC:=f1.xget;obtain rfl:=Ys (e'.symm.trans e);exact WR.xget
end
end
section
variable{prog:Y8}{w:Y0}{K:aC}{k:Ck}{C:CI}
theorem e_bad:SE prog w K k C .bad:=λU U U U U U U U U U U U U U U U h=>h.elim
theorem no_E{e:E}(h:∀k sc x,CM k sc e x=false):SE prog w K k C e:=λU U U U U U U U U U U U U U o U U=>by rw[h] at o;exact zT o
noncomputable def cP(prog:Y8)(w:Y0)(K:aC)(k:Ck)(C:CI)(e:E):Prop:=E.casesOn (motive_1:=λU=>Prop) e True True (λU=>True) (λU=>True) (λU=>True) (λU=>True) (λU=>True) (λU U=>True) (λU U U U=>True) (λU U U=>True) (λU U U=>True) (λU U U U=>True) (λU U U=>True) (λU=>True) (λU=>True) (λU U=>True) (λU U=>True) (λU=>True) (λU=>True) (λU=>True) (λU=>True) (λU=>True) (λU U U=>True) (λU a b=>SE prog w K k C a/\SE prog w K k C b) (λU U U U U=>True) (λU=>True) (λU U U=>True) (λU U=>True) (λU U=>True) (λU=>True) (λU=>True) True (λU=>True) (λU U=>True) (λU U U U=>True)
noncomputable def tP(prog:Y8)(w:Y0)(K:aC)(k:Ck)(C:CI)(e:E):Prop:=E.casesOn (motive_1:=λU=>Prop) e True True (λU=>True) (λU=>True) (λU=>True) (λU=>True) (λU=>True) (λU U=>True) (λU U U U=>True) (λU U U=>True) (λU U U=>True) (λU U U U=>True) (λU U U=>True) (λU=>True) (λU=>True) (λU U=>True) (λU U=>True) (λU=>True) (λU=>True) (λU=>True) (λU=>True) (λU=>True) (λt U U=>ST prog w K k C t) (λU U U=>True) (λU U U U U=>True) (λU=>True) (λU U U=>True) (λU U=>True) (λU U=>True) (λU=>True) (λU=>True) True (λU=>True) (λU U=>True) (λU U U U=>True)
structure M1(prog:Y8)(w:Y0)(K:aC)(k:Ck)(C:CI)(e:E):Prop where
 i:SE prog w K k C e
 c:cP prog w K k C e
 t:tP prog w K k C e
theorem M1.cc{e:E}(h:M1 prog w K k C e):∀op a b,e=.cmp op a b->SE prog w K k C a/\SE prog w K k C b:=λop a b z=>(z▸h.c:cP prog w K k C (.cmp op a b))
theorem C9{α:Type}{P:α->Prop}{a:α}{l:List α}(h:P a)(h':∀x∈l,P x):∀x∈a::l,P x:=λx hx=>(mcP hx).elim (λe=>e▸h) (h' x)
theorem V7(e:E):M1 prog w K k C e :=
 E.rec (motive_1:=λe=>M1 prog w K k C e) (motive_2:=λt=>ST prog w K k C t) (motive_3:=λes=>∀e∈es,SE prog w K k C e) (motive_4:=λks=>∀p∈ks,SE prog w K k C p.2) (motive_5:=λts=>∀t∈ts,ST prog w K k C t) (motive_6:=λp=>SE prog w K k C p.2)
  (.mk e_bad trivial trivial) (.mk e_none trivial trivial) (λU=>.mk e_bool trivial trivial) (λU=>.mk e_int trivial trivial) (λU=>.mk e_neg trivial trivial) (λU=>.mk e_var trivial trivial) (λU=>.mk e_cvar trivial trivial)
  (λU U i=>.mk (e_attr i.1) trivial trivial) (λU U U U i is ks=>.mk (e_meth i.1 is ks) trivial trivial) (λU U U is ks=>.mk (e_fn is ks) trivial trivial) (λU U U is ks=>.mk (e_new is ks) trivial trivial) (λU U U U is=>.mk (e_via is) trivial trivial)
  (λU U U U=>.mk (no_E λU U U=>rfl) trivial trivial) (λU i=>.mk (e_len i.1) trivial trivial) (λU i=>.mk (e_max1 i.1) trivial trivial) (λU U i j=>.mk (e_max2 i.1 j.1) trivial trivial) (λU U i j=>.mk (e_min2 i.1 j.1) trivial trivial)
  (λU is=>.mk (U3 is) trivial trivial) (λU i=>.mk (U9 i.1) trivial trivial) (λU i=>.mk (e_not i.1) trivial trivial) (λU is=>.mk (e_and is) trivial trivial) (λU is=>.mk (e_or is) trivial trivial)
  (λU U U t i j=>⟨e_ite t i.1 j.1,trivial,t⟩) (λU U U i j=>⟨e_cmp i.1 j.1,⟨i.1,j.1⟩,trivial⟩) (λU U U U U U U U=>.mk (no_E λU U U=>rfl) trivial trivial) (λU i=>.mk (e_lall i.1) trivial trivial) (λU U U i j=>.mk (e_bin i.1 j.1) trivial trivial) (λU U i j=>.mk (e_idx i.1 j.1) trivial trivial) (λU U i j=>.mk (e_upto i.1 j.1) trivial trivial)
  (λU is=>.mk (e_tup is) trivial trivial) (λU is=>.mk (e_lst is) trivial trivial) (.mk e_stk trivial trivial) (λU i=>.mk (e_pop i.1) trivial trivial) (λU U i j=>.mk (TI i.1 j.1) trivial trivial)
  (λU U U U U i U=>.mk (Qd i.1) trivial trivial)
  (λU i=>t_e i.1 i.cc) (λU i=>t_not i) (λU is=>t_and is) (λU is=>t_or is)
  (λU h=>nomatch h) (λU U h hs=>C9 h.1 hs) (λU h=>nomatch h) (λU U h hs=>C9 (P:=λp:Nat×E=>SE prog w K k C p.2) h hs) (λU h=>nomatch h) (λU U h hs=>C9 h hs) (λU U h=>h.1) e
theorem Cc(e:E):SE prog w K k C e:=(V7 e).i
theorem KC(t:T):ST prog w K k C t:=(V7 (.ite t .none .none)).t
theorem s_asg{x:Nat}{e:E}:SS prog w K k C (.asg x e):=λA env c κ sc Z ρ m l y H s Q Er o R h=>by
 refine CV (NN o) λo1 o2 o3=>?_;clear o;refine FY (BF o1) λts v p u=>?_;obtain rfl:=u;refine AR (CE (l:=ts) o2) λt u o2=>?_;obtain rfl:=u;obtain⟨o3,o4⟩:=an (show((Cv v||vt v 16&&isL e)&&CM k sc e v)=true from o3)
 refine iG (UU o3) (λo3=>?_) λo3=>?_
 ·exact RS (Cc e) Z l o2 o4 (λn p'=>Oe o3) R h
 ·refine HU (isL_of e (an o3).2) λe' z it cs u=>?_;obtain rfl:=u
  ·exact asg_lc (Cc it) Z l o2 o4 R h
theorem VG:SS prog w K k C .raise:=λU U U U U U U U U U U U U U U U h=>h.elim
theorem JR(x:S):SS prog w K k C x :=
 S.rec (motive_1:=λx=>SS prog w K k C x) (motive_2:=λxs=>∀x∈xs,SS prog w K k C x)
  (λU U=>s_asg) (λU e=>s_casg (Cc e)) (λU U e=>s_asg2 (Cc e)) (λU e=>s_unp (Cc e)) (λe U v=>U5 (Cc e) (Cc v)) (λe U U v=>s_auga (Cc e) (Cc v)) (λU U v=>s_aug (Cc v))
  (λt U U b c=>s_cond (KC t) b c) (λt U b=>U6 (KC t) b) (λU it U b=>s_for (Cc it) b) (λe=>s_ret (Cc e)) s_ret0 VG (λt=>TL (KC t)) (λe=>s_expr (Cc e)) s_brk s_cont s_pass
  (λU h=>nomatch h) (λU U h hs=>C9 h hs) x
end
theorem KR.get{sl:As}{zs:List (Zf×Yr)}(h:A2 KR sl zs)(x:Nat):Rr VR (AN x sl) (zs.lookup (nm x)):=by
 induction h with
 | nil=>trivial
 | @cons p q l m hp _ ih =>
  obtain⟨z',y⟩:=q;refine Am hp λh1 h2=>?_;have h1:z'=nm p.1:=h1
  show Rr VR (cond (Y4 p.1 x) (some p.2) (AN x l)) (iS (nm x) ((z',y)::m))
  rw[ZV,h1];cases q:Y4 p.1 x with
  | true=>rw[Y6 q,beq_self_eq_true];exact h2
  | false=>rw[beq_eq_false_iff_ne.mpr λe=>by rw[LH e,cD] at q;exact zF q];exact ih
theorem Rr.isSome{a:Option V}{b:Option Yr}(h:Rr VR a b):b.isSome=a.isSome:=by
 cases a<;>cases b<;>first|rfl|exact h.elim
theorem Rr.or'{a a':Option V}{b b':Option Yr}(h:Rr VR a b)(h':Rr VR a' b'):Rr VR (a.or a') (b.or b'):=by
 cases a<;>cases b<;>first|exact h.elim|exact h|exact h'
theorem LU{α:Type}{b:Bool}{o:Option α}{x:α}(h:(bif b then o else Yu)=some x):b=true/\o=some x:=by
 cases b with
 | true=>exact⟨rfl,h⟩
 | false=>exact zN h
noncomputable abbrev KwF:=Zf×Yr->List (Zf×Yr)×List (Zf×Yr)->Sem (ForInStep (List (Zf×Yr)×List (Zf×Yr)))
theorem TX{names:List Zf}{ps:List Nat}(hn:names=ps.map nm){us:As}{zs:List (Zf×Yr)}(h:A2 KR us zs) :
 ∀{sl sl':As} {tl:List (Zf×Yr)},A2 KR sl tl->Nq ps sl us=some sl'->∃tl',A2 KR sl' tl' /\
  ∀f:KwF,(∀x sl,names.contains x.1=true->(sl.1.lookup x.1).isSome=false->f x sl=pure (.yield (sl.1++[(x.1,x.2)],sl.2)))->forIn zs (tl,[]) f=pure (tl',[]):=by
 induction h with
 | nil=>intro sl sl' tl h e;obtain rfl:=Ys e;exact⟨tl,h,λU U=>rfl⟩
 | @cons p q l m hp hr ih =>
  intro sl sl' tl h e;obtain⟨z,y⟩:=q;obtain⟨h1,h2⟩:=hp;subst h1;obtain⟨c,e⟩:=LU (show(bif has p.1 ps&&(AN p.1 sl).isNone then Nq ps (sl++[p]) l else Yu)=some sl' from e)
  obtain⟨c1,c2⟩:=an c;have c3:names.contains (nm p.1)=true:=by
   rw[hn,dL];exact aN (Hk c1)
  have c4:(tl.lookup (nm p.1)).isSome=false:=by
   rw[(KR.get h p.1).isSome];cases q:AN p.1 sl with
   | none=>rfl
   | some v=>replace c2:=q▸c2;exact zT c2
  refine AR (ih (h.append (.cons (a:=p) (b:=(nm p.1,y)) ⟨rfl,h2⟩ .nil)) e) λtl' k1 k2=>?_;refine⟨tl',k1,λf hf=>?_⟩;rw[cQ,hf _ _ c3 c4,pure_bind];exact k2 f hf
noncomputable def dflt:List (Zf×Yr)->List (Zf×Yr)->List (Zf×Yr)
 | sl,[]=>sl
 | sl,p::r=>dflt (if(sl.lookup p.1).isNone then sl++[p] else sl) r
theorem KD(n:Zf):∀(l sl:List (Zf×Yr)),(dflt sl l).lookup n=(sl.lookup n).or (l.lookup n)
 | [],sl=>(Option.or_none (o:=sl.lookup n)).symm
 | (k,v)::r,sl=>by
  rw[show dflt sl ((k,v)::r)=dflt (if(sl.lookup k).isNone then sl++[(k,v)] else sl) r from rfl,KD n r,ZV]
  by_cases h:(sl.lookup k).isNone=true
  ·rw[if_pos h,hW,ZV];cases e:n==k with
   | true =>
    refine(eq_of_beq e).symm▸?_;cases q:sl.lookup k with
    | none=>rfl
    | some y=>replace h:=q▸h;exact zT h
   | false=>cases sl.lookup n<;>rfl
  ·rw[if_neg h];cases e:n==k with
   | true =>
    refine(eq_of_beq e).symm▸?_;cases q:sl.lookup k with
    | none=>exact absurd rfl (q▸h)
    | some y=>rfl
   | false=>rfl
theorem LV{f:Zf×Yr->List (Zf×Yr)->Sem (ForInStep (List (Zf×Yr)))}(hf:∀p sl,f p sl=pure (.yield (if(sl.lookup p.1).isNone then sl++[p] else sl))) :
 ∀(l sl:List (Zf×Yr)),forIn l sl f=pure (dflt sl l)
 | [],sl=>rfl
 | p::r,sl=>by rw[cQ,hf,pure_bind];exact LV hf r _
theorem KG(x:Nat):∀(a b:As),AN x (a++b)=(AN x a).or (AN x b)
 | [],b=>rfl
 | p::r,b=>by
  show cond (Y4 p.1 x) (some p.2) (AN x (r++b))=(cond (Y4 p.1 x) (some p.2) (AN x r)).or _
  refine(KG x r b).symm▸?_;cases Y4 p.1 x<;>rfl
theorem TY{ds:List V}{ys:List Yr}(h:A2 VR ds ys):∀{ps:List Nat},A2 KR (ps.zip ds) ((ps.map nm).zip ys):=by
 induction h with
 | nil=>intro ps;exact hZ.symm▸hZ.symm▸.nil
 | cons h _ ih =>
  intro ps;cases ps with
  | nil=>exact .nil
  | cons p ps=>exact .cons ⟨rfl,h⟩ ih
theorem Qe{a:As}{b c':List (Zf×Yr)}{ds:As}(h1:A2 KR a b)(h2:A2 KR ds c'):∀ps:List Nat,A2 KR (Go (a++ds) ps) ((ps.map nm).filterMap λn=>((dflt b c').lookup n).map (n,·))
 | []=>.nil
 | p::ps=>by
  have ih:=Qe h1 h2 ps;have hg:Rr VR (AN p (a++ds)) ((dflt b c').lookup (nm p)):=by
   rw[KG,KD];exact(KR.get h1 p).or' (KR.get h2 p)
  rw[Zz,aA]
  show A2 KR (match AN p (a++ds) with
   | some v=>(p,v)::Go (a++ds) ps
   | none=>Go (a++ds) ps) _
  cases q:AN p (a++ds)<;>cases q':(dflt b c').lookup (nm p)<;>rw[q,q'] at hg<;>first|exact hg.elim|exact ih|exact .cons ⟨rfl,hg⟩ ih
theorem VH{fd:ZW}{L:List Arg}{kd:List (Option ZJ)}{dd:List ZJ}{ys:List Yr}{zs:List (Zf×Yr)}(hp:fd.params=⟨[],L,none,[],kd,none,dd⟩) :
 ∃(f:KwF) (g:List (Zf×Yr)×List (Zf×Yr)->Option (Array Yr)->Sem (List (Zf×Yr))),bindArgs fd ⟨ys,zs⟩=forIn zs ((L.map (·.arg)).zip ys,[]) f>>=(λr=>seqItems? fd.defaults>>=g r)/\(∀x sl,(L.map (·.arg)).contains x.1=true->(sl.1.lookup x.1).isSome=false->f x sl=pure (.yield (sl.1++[(x.1,x.2)],sl.2))) /\
  ∀(tl:List (Zf×Yr)) (x:Option (Array Yr)),ys.length<=(L.map (·.arg)).length->(x.getD #[]).toList.length<=(L.map (·.arg)).length->(((L.map (·.arg)).take ((L.map (·.arg)).length-(x.getD #[]).toList.length)).filter λn=>(tl.lookup n).isNone)=[] ->
   g (tl,[]) x=pure ((L.map (·.arg)).filterMap λn=>((dflt tl (((L.map (·.arg)).drop ((L.map (·.arg)).length-(x.getD #[]).toList.length)).zip (x.getD #[]).toList)).lookup n).map (n,·)):=by
 unfold bindArgs;refine hp.symm▸⟨_,_,rfl,λx sl c1 c2=>?_,λtl x c1 c2 c3=>?_⟩
 ·dsimp only;exact(if_pos (show(_||_)=true by rw[c1];rfl)).trans (if_neg (by rw[c2];decide))
 ·generalize L.map (·.arg)=names at c1 c2 c3 ⊢
  generalize (x.getD #[]).toList=dl at c2 c3 ⊢
  have c4:gh (dl.length-names.length) dl=dl:=by rw[Nat.sub_eq_zero_of_le c2];rfl
  refine(if_neg (show ¬ (decide (ys.length > names.length)&&true)=true by rw[Bool.and_true,decide_eq_true_eq];exact Ng c1)).trans ?_
  refine(if_neg (show ¬ (!(List.filter (λn=>(iS n tl).isNone) (List.take (names.length-(gh (dl.length-names.length) dl).length) names)).isEmpty)=true by rw[c4,c3];decide)).trans ?_
  refine(congrArg (·>>=_) (LV (λp sl=>by obtain⟨k,v⟩:=p;dsimp only;split<;>rfl) ((gh (names.length-(gh (dl.length-names.length) dl).length) names).zip (gh (dl.length-names.length) dl)) tl)).trans ?_
  rw[c4];simp only[pure_bind,List.map_nil,List.nil_append,eG,gS,List.isEmpty_nil,Bool.not_true,bU,if_false]
theorem Gj{fd:ZW}{s:Yq}{K:aC}(X:K.In s.heap){ps:List Nat}{ds:List V}{vs:List V}{ys:List Yr}{us:As}{zs:List (Zf×Yr)}{ρ:As}
 (h1:fd.params.posonlyargs=[])(h2:fd.params.kwonlyargs=[])(h3:fd.params.vararg=none)(h4:fd.params.kwarg=none)(hn:fd.params.args.map (·.arg)=ps.map nm)
 (hd:(ds=[]/\fd.defaults=.none)\/∃T o items n,fd.defaults=.ref T/\K.lookup T=some o/\o.data=.seq items n/\A2 VR ds items.toList)
 (r:A2 VR vs ys)(r':A2 KR us zs)(e:MX ps ds vs us=some ρ):∃binds sl,ρ=Go sl ps/\A2 KR ρ binds/\BindsTo s fd ⟨ys,zs⟩ binds/\(fd.defaults=.none->bindArgs fd ⟨ys,zs⟩=pure binds):=by
 have hp:fd.params=⟨[],fd.params.args,none,[],fd.params.kw_defaults,none,fd.params.defaults⟩:=by
  generalize fd.params=p at h1 h2 h3 h4 ⊢
  cases p;cases h1;cases h2;cases h3;cases h4;rfl
 refine Dy (VH (ys:=ys) (zs:=zs) hp) λf g e1 hf hg=>?_;rw[hn] at e1 hf hg;refine Am (LU (show(bif fU vs.length ps.length&&fU ds.length ps.length then _ else Yu)=some ρ from e)) λhle e=>?_
 refine Am (an hle) λhle hle'=>?_;have hle:=ZQ hle;have hle':=ZQ hle';refine oCs (Nq ps (ps.zip vs) us) (λhsl=>?_) λsl hsl=>?_
 ·replace e:=hsl▸e;exact zN e
 ·
  replace e:=hsl▸e;refine Am (LU e) λhall e=>?_;obtain rfl:=Ys e;refine AR (TX (names:=ps.map nm) rfl r' (TY r) hsl) λtl k1 k2=>?_;rw[k2 f hf,pure_bind] at e1;have fin:∀x:Option (Array Yr),A2 VR ds (x.getD #[]).toList->g (tl,[]) x=pure ((ps.map nm).filterMap λn=>((dflt tl (((ps.map nm).drop ((ps.map nm).length-(x.getD #[]).toList.length)).zip (x.getD #[]).toList)).lookup n).map (n,·)) /\
   A2 KR (Go (sl++(ps.drop (ps.length-ds.length)).zip ds) ps) ((ps.map nm).filterMap λn=>((dflt tl (((ps.map nm).drop ((ps.map nm).length-(x.getD #[]).toList.length)).zip (x.getD #[]).toList)).lookup n).map (n,·)):=λx hx=>by
   have l1:=r.length;have l2:=hx.length;have l3:(ps.map nm).length=ps.length:=Y2 ..;refine⟨hg tl x (ozH ‹_› ‹_› ‹_›) (ozH ‹_› ‹_› ‹_›) ?_,?_⟩
   ·rw[List.filter_eq_nil_iff];intro n hn';replace hn':=List.map_take▸l2▸l3▸hn';refine AR (mmP hn') λp hp z=>?_;obtain rfl:=z;have:=laP hall p hp;replace this:=((KR.get k1 p).isSome).trans this;cases q:iS (nm p) tl with
    | none=>replace this:=q▸this;exact zT this
    | some _=>exact Zg
   ·exact l3.symm▸l2▸List.map_drop▸Qe k1 (TY hx) ps
  rcases hd with⟨rfl,hd⟩|⟨T,o,items,n,hd,ho,hs,hA⟩
  ·refine Am (fin none .nil) λg1 g2=>?_;have h:=(show bindArgs fd ⟨ys,zs⟩=g (tl,[]) none by rw[e1,hd];rfl).trans g1
   exact⟨_,_,rfl,g2,BindsTo.of_eq h,λU=>h⟩
  ·refine Am (fin (some items) hA) λg1 g2=>?_;exact⟨_,_,rfl,g2,BindsTo.of_defaults hd (X _ _ ho) hs e1 g1,λh=>by replace h:=hd.symm.trans h;exact nomatch h⟩
theorem Hp(sl:As):∀ps:List Nat,(Go sl ps).map (·.1)=ps.filter λp=>(AN p sl).isSome
 | []=>rfl
 | p::r=>by
  rw[dQ]
  show List.map (λp:Nat×V=>p.1) (match AN p sl with
   | some v=>(p,v)::Go sl r
   | none=>Go sl r)=_
  cases AN p sl with
  | none=>exact Hp sl r
  | some v=>exact congrArg (p::·) (Hp sl r)
theorem KR.keys{sl:As}{zs:List (Zf×Yr)}(h:A2 KR sl zs):zs.map (·.1)=(sl.map (·.1)).map nm:=by
 induction h with
 | nil=>rfl
 | cons h _ ih=>exact Zz▸Zz▸Zz▸ih▸h.1▸rfl
theorem JS:∀{l:List Nat},l.Nodup->(l.map nm).Nodup
 | [],_=>.nil
 | x::r,h=>by
  refine Am (ncP h) λh1 h2=>?_;refine ncR ⟨λq=>?_,JS h2⟩;refine AR (mmP q) λy hy e=>?_;exact h1 (LH e▸hy)
theorem LX{α β:Type}[BEq α][LawfulBEq α]:∀{l:List (α×β)},(l.map (·.1)).Nodup->∀k,l.reverse.lookup k=l.lookup k
 | [],_,_=>rfl
 | (x,y)::r,h,k=>by
  refine Am (ncP h) λh1 h2=>?_;rw[ev,hW,LX h2 k,ZV,ZV];cases e:k==x with
  | true =>
   have:r.lookup k=none:=by
    rw[cY];intro p hp;have:k≠p.1:=λq=>h1 (eq_of_beq e▸q▸aN (f:=(·.1)) hp)
    simpa using this
   exact this▸rfl
  | false=>cases r.lookup k<;>rfl
section
variable{prog:Y8}{w:Y0}{k:Ck}{K:aC}{d:Nat}{A:Za}{c:Cx}{m:Zf->Option Yr}{H:MH}{s:Yq}{f:Nat}{vs:List V}{ys:List Yr}{us:As}{zs:List (Zf×Yr)}{Q:V->MH->Prop}{R:bh->Yq->Prop}{fd:ZW}{body:List af}{i:Fi}
theorem AU.enterL{prog:Y8}{w:Y0}{H:MH}{c:Cx}{m m':Zf->Option Yr}{s:Yq}(R:AU prog w c m H s){h':aV}(hk:∀b o,s.heap.get? b=some o->h'.get? b=some o)(hns:h'.Ns s.heap.objs.size m') :
 ∃oL D Yj,Fr c.WM s.heap.objs.size h' m'/\gN c.WM s.heap.objs.size h' Yj/\GK prog w c.WM D Yj ((c.L,oL)::c.X) H/\(∀p∈Yj,p.1<s.heap.objs.size) /\
  ∀m'' H'' s'',AU prog w (c.lx (s.heap.objs.size) ((c.L,oL)::c.X)) m'' H'' s''->AU prog w c m H'' s'':=by
 refine AJ λGG hG=>?_;refine O3 R.fr.ns λoL es ep hL hd hsk hf=>?_;obtain⟨D,Yj,N,L⟩:=R.led;refine hG ?_;clear hG GG;have Llt:c.L<s.heap.objs.size:=Yy hL;have nL:c.L∉Yj.map (·.1):=λq=>by refine AR (mmP q) λp hp e=>?_;exact(N p hp).2.1 e
 have bL:c.WM.get? c.L=Option.none:=by
  cases q:c.WM.get? c.L with
  | none=>rfl
  | some o=>exact absurd (Yy q) (Ng R.fr.above)
 refine⟨oL,D,(c.L,oL)::Yj,⟨hns,λb o e=>hk _ _ (R.fr.keep b o e),Yn R.fr.above (ZY Llt)⟩,?_,L.addX nL bL,λp hp=>?_,λm'' H'' s'' R''=>?_⟩
 ·intro p hp;rcases mcP hp with rfl|hp
  ·exact⟨hk _ _ hL,ZF Llt,bL⟩
  ·exact⟨hk _ _ (N p hp).1,ZF (Yy (N p hp).1),(N p hp).2.2⟩
 ·rcases mcP hp with rfl|hp
  ·exact Llt
  ·exact Yy (N p hp).1
 ·refine AJ λGG hG=>?_;obtain⟨D',Yl,N',L'⟩:=R''.led;refine CV (L'.xs (c.L,oL) (.head _)) λx1 x2 x3=>?_;refine hG ?_;clear hG GG;have kp:∀p∈Yl,p.1≠c.L->p∈Yl.filter λp=>p.1≠c.L:=λp hp q=>Zi.mpr ⟨hp,decide_eq_true q⟩;refine⟨⟨⟨oL,es,ep,N'.get x1,hd,hsk,hf⟩,R''.fr.keep,R.fr.above⟩,⟨D',Yl.filter λp=>p.1≠c.L,?_,L'.nd.sublist (bI _ Z1),λb o e=>(L'.ob b o e).mono (λc as z=>⟨rfl,λp hp q=>kp p hp (q▸x3 b c as (z▸e))⟩) λp hp q=>kp p hp λz=>?_,L'.dj,λp hp=>?_⟩,R''.gs,R''.dr,R''.os⟩
  ·intro p hp;obtain⟨hp1,hp2⟩:=mfP hp;exact⟨(N' p hp1).1,of_decide_eq_true hp2,(N' p hp1).2.2⟩
  ·exact zN (x2▸z▸q▸e)
  ·refine CV (L'.xs p (.tail _ hp)) λy1 y2 y3=>?_;exact⟨kp p y1 λz=>nL (z▸key (L.xs p hp).1),y2,y3⟩
theorem AU.enter{prog:Y8}{w:Y0}{H:MH}{c:Cx}{m m':Zf->Option Yr}{s:Yq}(R:AU prog w c m H s){h':aV}{t:Nat}(hk:∀b o,s.heap.get? b=some o->h'.get? b=some o)(hns:h'.Ns s.heap.objs.size m') :
 ∃oL,AU prog w (c.lx (s.heap.objs.size) ((c.L,oL)::c.X)) m' H {s with heap:=h',toks:=t} /\
  ∀m'' H'' s'',AU prog w (c.lx (s.heap.objs.size) ((c.L,oL)::c.X)) m'' H'' s''->AU prog w c m H'' s'' :=
 x35 (R.enterL hk hns) λoL D Yj F N L U back =>
 ⟨oL,⟨F,⟨D,Yj,N,L⟩,R.gs,R.dr,R.os⟩,back⟩
structure LY(K:aC)(f:Nat)(i:Fi)(fd:ZW)(body:List af):Prop where
 at_:∃oc od osl,K.lookup f=some ⟨oc,od,.func fd,osl⟩
 code:codeIn K fd.code fd.qualname=true
 gl:fd.globals=mainGlobals
 bi:fd.builtins=builtinsNs
 co:fd.scope.isCoroutine=false
 gen:fd.scope.isGenerator=false
 kind:fd.scope.kind=eT
 p1:fd.params.posonlyargs=[]
 p2:fd.params.kwonlyargs=[]
 p3:fd.params.vararg=none
 p4:fd.params.kwarg=none
 pn:fd.params.args.map (·.arg)=i.pars.map nm
 df:(i.dflt=[]/\fd.defaults=.none)\/∃T o items n,fd.defaults=.ref T/\K.lookup T=some o/\o.data=.seq items n/\A2 VR i.dflt items.toList
 nd:i.pars.Nodup
 body:fd.body=.stmts body
structure Hq(k:Ck)(i:Fi)(fd:ZW)(body:List af):Prop where
 nocell:∀x∈fd.scope.names,x.2≠aj
 cells:i.cells=[]
 loc:∀p∈i.pars,fd.scope.names.lookup (nm p)=some .local
 ok:Gh k fd.scope i.body body=true
theorem HZ:∀ρ:As,DW [] ρ=ρ
 | []=>rfl
 | p::r=>congrArg (p::·) (HZ r)
def Kf(prog:Y8)(w:Y0)(k:Ck)(K:aC)(C:CI)(d:Nat):Prop:=∀A:Za,(k.strict=true->A.handled=none)->8*A.depth+A.units+24*d<=7900->∀(c:Cx) m H s f vs ys us zs Q R,Base k K c.WM->AU prog w c m H s->A2 VR vs ys->A2 KR us zs->C f vs us H Q ->
 (∀v s',PE prog w c m Q v s'->R (.ok (.ret v)) s')->codeAny (model prog w) A (.call (.ref f) ⟨ys,zs⟩) R s
def ALd(prog:Y8)(w:Y0)(k:Ck)(K:aC)(C:CI)(d:Nat):Prop:=k.strict=true->∀A:Za,A.handled=none->8*A.depth+A.units+24*d<=7900->∀(Er:Yr->Yq->Prop) (c:Cx) m H s v y Q,Base k K c.WM->AU prog w c m H s->VR v y->C E2 [v] [] H Q ->
 Ba H v AQ λf=>codeAny (model prog w) A (.call (.ref f) ⟨[y],[]⟩) (wants (λz s'=>wpAny (model prog w) A (Z6 (.type "list") [z]) (PE prog w c m Q) Er s') Er) s
theorem FM:∀{d:Nat} {vs us H Q},¬ call d E2 vs us H Q
 | 0,_,_,_,_=>λh=>h
 | d+1,vs,us,H,Q=>λh=>by
  have h:op (AN E2 Q1) λi=>ID (call d) i vs us H Q:=h;rw[show AN E2 Q1=Yu from rfl] at h
  exact h
theorem ALd.no{prog:Y8}{w:Y0}{k:Ck}{K:aC}{d:Nat}:ALd prog w k K (call d) d:=λU U U U U U U U U U U U U U U h=>(FM h).elim
section
theorem TZ(q:∀v s',PE prog w c m Q v s'->R (.ok (.ret v)) s'){c':Cx}(back:∀m'' H'' s'',AU prog w c' m'' H'' s''->AU prog w c m H'' s'')(fl:Flow)(WQ:Yq):PS prog w c' (AS Q) fl WQ->R (.ok (.ret (match fl with|.ret v=>v|_=>.none))) WQ:=by
 intro h;refine AJ λGG hG=>?_;obtain⟨fl',X7,Wj,WW,rf,XN,WR,Wc⟩:=h;refine hG ?_;clear hG GG;have Wa:=back _ _ _ WR;cases rf with
 | next=>exact q _ _ ⟨.none,WW,.none,Wa,Wc⟩
 | ret rv=>exact q _ _ ⟨_,WW,rv,Wa,Wc⟩
 | brk=>exact Wc.elim
 | cont=>exact Wc.elim
theorem LZ{ρ:As}{binds:List (Zf×Yr)}(hkr:A2 KR ρ binds)(hnd:(binds.map (·.1)).Nodup):Bh ρ (λy=>binds.reverse.lookup y):=λx v e=>by
 have:=KR.get hkr x;replace this:=e▸this;refine oCs (binds.lookup (nm x)) (λq=>?_) λy q=>?_
 ·rw[q] at this;exact this.elim
 ·rw[q] at this;exact⟨y,(LX hnd _).trans q,this⟩
theorem GD{ρ sl:As}{binds:List (Zf×Yr)}{ps:List Nat}(hkr:A2 KR ρ binds)(e:ρ=Go sl ps)(h:ps.Nodup):(binds.map (·.1)).Nodup/\∀x∈binds,∃p∈ps,x.1=nm p:=by
 have hk:=KR.keys hkr;rw[e,Hp] at hk;refine⟨by rw[hk];exact JS (h.filter _),λx hx=>?_⟩
 have:x.1∈binds.map (·.1):=aN (f:=(·.1)) hx
 rw[hk] at this;refine AR (mmP this) λp hp e=>?_;exact⟨p,(mfP hp).1,e.symm⟩
theorem Ml{C:CI}(F:KF K k.isAttr)(ih:Kf prog w k K C d)(al:ALd prog w k K C d)(hh:k.strict=true->A.handled=none)(hd:8*A.depth+A.units+24*(d+1)<=7900)(G:LY K f i fd body)(P:Hq k i fd body)(B:Base k K c.WM)(Rl:AU prog w c m H s)(r:A2 VR vs ys)(r':A2 KR us zs)
 (h:ID C i vs us H Q)(q:∀v s',PE prog w c m Q v s'->R (.ok (.ret v)) s'):codeAny (model prog w) A (.call (.ref f) ⟨ys,zs⟩) R s:=by
 refine AR (O4 h) λρ hb h=>?_;replace h:=P.cells▸h;have h':Ap C [] i.body (DW [] ρ) H (AS Q):=h;rw[HZ] at h';refine FY G.at_ λoc od osl ho=>?_;have X:=B.kin.keeps Rl.fr.keep;refine AJ λGG hG=>?_;refine Q3 (Gj X G.p1 G.p2 G.p3 G.p4 G.pn G.df r r' hb) λbinds sl hsl hkr hbind U=>?_;refine Am (GD hkr hsl G.nd) λhnd hin=>?_;refine hG ?_;clear hG GG;refine fQ (fd:=fd) (body:=body) (binds:=binds) (dl hd) (X _ _ ho) rfl (B.lim.keeps Rl.fr.keep) (dX X G.code) G.body hbind P.nocell (λx hx=>by refine AR (hin x hx) λp hp e=>?_;exact e.symm▸P.loc p hp) (λWi hns hk=>?_) G.co G.gen G.kind
 refine AR (Rl.enter (t:=s.toks+binds.length) hk hns) λoL WV back=>?_;have Z:Ev prog w K k C (A.deeper (callEnv fd s.heap.objs.size f)) (c.lx (s.heap.objs.size) ((c.L,oL)::c.X)) (callEnv fd s.heap.objs.size f) [] fd.scope :=
  ⟨F,B,⟨rfl,G.kind,rfl,G.gl,G.bi,λx a e=>(zN e),λp hp e=>absurd e (P.nocell p hp)⟩,hh,d0 (dw (di hd (Y1 _))),λA' hh' hd' c' m H s f vs ys us zs Q R e U U R' r r' h q=>ih A' hh' (dc (di hd (Y1 _)) hd') c' m H s f vs ys us zs Q R (e▸B) R' r r' h q,
   λks Er c' m H s v y Q e R' r h=>al ks (A.deeper _) (hh ks) (dw (di hd (Y1 _))) Er c' m H s v y Q (e▸B) R' r h⟩
 exact th (TM Z (λx U=>JR x) (LZ hkr hnd) P.ok WV h') λfl WQ h=>TZ q back fl WQ h
theorem Ta{c:Cx}{env:eE}{h:aV}{ρ:As}{cm:Zf->Option Yr}{D:Nat->Nat}(apart:∀x y a,env.cells.lookup (nm x)=some a->env.cells.lookup (nm y)=some a->x=y)(xs:List Nat):∀{κ:Kp} {H:MH} {Yj:Bw} {K:Kp->MH->Prop},xs.Nodup->gN c.WM c.L h Yj->GK prog w c.WM D Yj c.X H ->
 (∀x∈xs,∃a,env.cells.lookup (nm x)=some a/\h.IsCell a (cm (nm x))/\Rr VR (AN x ρ) (cm (nm x))/\a≠c.L/\c.WM.get? a=none/\a∉Yj.map (·.1))->Mx xs ρ κ H K ->
 ∃κ' H' Yl,K κ' H'/\gN c.WM c.L h Yl/\GK prog w c.WM D Yl c.X H'/\∀y a,AN y κ'=some a->AN y κ=some a\/env.cells.lookup (nm y)=some a:=by
 induction xs with
 | nil=>exact λU N L U h=>⟨_,_,_,h,N,L,λy a e=>.inl e⟩
 | cons x r ih =>
  intro κ H Yj K hnd N L hx hw;refine AJ λGG hG=>?_;obtain⟨n1,n2⟩:=ncP hnd;refine x16 (hx x (.head _)) λa e1 z e4 e5 e6 e7=>?_;refine AR z λob e2 e3=>?_;refine hG ?_;clear hG GG;have hw:Mx r ρ ((x,a)::κ) (H.put a (.cell (AN x ρ))) K:=hw a (L.none e7 e6);have hob:OB prog w (.cell (AN x ρ)) ob:=by
   cases q:AN x ρ<;>cases q':cm (nm x)<;>rw[q,q'] at e4<;>rw[q'] at e3<;>first|exact e4.elim|exact e3|exact⟨_,e3,e4⟩
  have N':gN c.WM c.L h ((a,ob)::Yj):=λp hp=>by
   rcases mcP hp with rfl|hp
   ·exact⟨e2,e5,e6⟩
   ·exact N p hp
  refine O3 (ih n2 N' (L.alloc e7 hob) (λy hy=>by
   refine AJ λGG hG=>?_;obtain⟨a',f1,f2,f3,f4,f5,f6⟩:=hx y (.tail _ hy);refine hG ?_;clear hG GG;refine⟨a',f1,f2,f3,f4,f5,λq=>?_⟩;rcases mcP q with q|q
   ·have q:a'=a:=q;subst q;exact n1 (by rw[apart x y a' e1 f1];exact hy)
   ·exact f6 q) hw) λκ' H' Yl k1 k2 k3 k4=>?_
  refine⟨κ',H',Yl,k1,k2,k3,λy b e=>?_⟩;rcases k4 y b e with e|e
  ·have e:cond (Y4 x y) (some a) (AN y κ)=some b:=e;refine UJ (Y4 x y) (λq=>?_) λq=>?_
   ·replace e:=q▸e;obtain rfl:=Ys e;exact .inr (Y6 q▸e1)
   ·rw[q] at e;exact .inl e
  ·exact .inr e
end
theorem La{kindOf:Zf->Option bH}(n:Zf):∀(binds:List (Zf×Yr)) (m:Zf->Option Yr),(binds.map (·.1)).Nodup->bindL kindOf binds m n=if kindOf n=some .local then(binds.lookup n).or (m n) else m n
 | [],m,_=>by split<;>rfl
 | (k,v)::r,m,h=>by
  refine Am (ncP h) λh1 h2=>?_;unfold bindL;rw[La n r _ h2,ZV];by_cases e:n=k
  ·subst e;have:r.lookup n=none:=by
    rw[cY];intro p hp;have:n≠p.1:=λq=>h1 (q▸aN (f:=(·.1)) hp)
    simpa using this
   rw[beq_self_eq_true,this];by_cases hl:kindOf n=some .local
   ·exact(if_pos hl)▸(if_pos hl)▸(if_pos hl)▸(if_pos rfl)▸rfl
   ·exact(if_neg hl)▸(if_neg hl)▸(if_neg hl)▸rfl
  ·refine(beq_eq_false_iff_ne.mpr e).symm▸?_;have:(if kindOf k=some .local then λy=>if y=k then some v else m y else m) n=m n:=by
    split
    ·exact if_neg e
    ·rfl
   rw[this]
theorem Lb{kindOf:Zf->Option bH}(n:Zf):∀(binds:List (Zf×Yr)) (m:Zf->Option Yr),(binds.map (·.1)).Nodup->bindC kindOf binds m n=if kindOf n=some .local then m n else(binds.lookup n).or (m n)
 | [],m,_=>by split<;>rfl
 | (k,v)::r,m,h=>by
  refine Am (ncP h) λh1 h2=>?_;unfold bindC;rw[Lb n r _ h2,ZV];by_cases e:n=k
  ·subst e;have:r.lookup n=none:=by
    rw[cY];intro p hp;have:n≠p.1:=λq=>h1 (q▸aN (f:=(·.1)) hp)
    simpa using this
   rw[beq_self_eq_true,this];by_cases hl:kindOf n=some .local
   ·exact(if_pos hl)▸(if_pos hl)▸(if_pos hl)▸rfl
   ·exact(if_neg hl)▸(if_neg hl)▸(if_neg hl)▸(if_pos rfl)▸rfl
  ·refine(beq_eq_false_iff_ne.mpr e).symm▸?_;have:(if kindOf k=some .local then m else λy=>if y=k then some v else m y) n=m n:=by
    split
    ·rfl
    ·exact if_neg e
   exact this▸rfl
structure JT(k:Ck)(i:Fi)(fd:ZW)(body:List af):Prop where
 clo:fd.closure=[]
 dfl:fd.defaults=.none
 cnd:i.cells.Nodup
 cll:∀x∈i.cells,fd.scope.names.lookup (nm x)=some .cell
 loc:∀p∈i.pars,fd.scope.names.lookup (nm p)=some .local/\has p i.cells=false\/p∈i.cells
 ok:Gh k fd.scope i.body body=true
theorem CN:∀(names:List (Zf×bH)) (b:Nat) (acc:List (Zf×Zh)) {n:Zf},(n,aj)∈names\/(acc.lookup n).isSome=true->((cellsFrom b names acc).lookup n).isSome=true
 | [],_,_,_,h=>h.elim (λh=>nomatch h) id
 | (x,kd)::r,b,acc,n,h=>by
  unfold cellsFrom;split
  ·refine CN r _ _ ?_;rcases h with h|h
   ·rcases mcP h with h|h
    ·cases h;exact .inr (by rw[ZV,beq_self_eq_true];rfl)
    ·exact .inl h
   ·refine .inr ?_;rw[ZV];split
    ·rfl
    ·exact h
  ·rename_i hk;refine CN r _ _ ?_;rcases h with h|h
   ·rcases mcP h with h|h
    ·cases h;exact absurd rfl hk
    ·exact .inl h
   ·exact .inr h
theorem Gk{x:Nat}{v:V}{xs:List Nat}:∀{ρ:As},AN x (DW xs ρ)=some v->has x xs=false/\AN x ρ=some v
 | [],h=>zN h
 | p::r,h=>by
  have h:AN x (bif has p.1 xs then DW xs r else p::DW xs r)=some v:=h;refine UJ (has p.1 xs) (λq=>?_) λq=>?_
  ·
   replace h:=q▸h;refine Am (Gk (ρ:=r) h) λh1 h2=>?_;refine⟨h1,?_⟩
   show cond (Y4 p.1 x) (some p.2) (AN x r)=some v
   cases e:Y4 p.1 x with
   | true=>replace q:=h1▸(Y6 e)▸q;exact zT q
   | false=>exact h2
  ·
   replace h:=q▸h;have h:cond (Y4 p.1 x) (some p.2) (AN x (DW xs r))=some v:=h
   show _/\cond (Y4 p.1 x) (some p.2) (AN x r)=some v
   cases e:Y4 p.1 x with
   | true=>replace h:=e▸h;exact⟨Y6 e▸q,h⟩
   | false=>replace h:=e▸h;exact Gk (ρ:=r) h
theorem NU{x:Nat}:∀{l:List Nat},x∈l->has x l=true
 | y::r,h=>by
  show(Y4 y x||has x r)=true
  rcases mcP h with rfl|h
  ·rw[cD];rfl
  ·rw[NU h,Bool.or_true]
theorem Oj{x:Nat}{v:V}:∀{ρ:As},AN x ρ=some v->x∈ρ.map (·.1)
 | [],h=>zN h
 | p::r,h=>by
  have h:cond (Y4 p.1 x) (some p.2) (AN x r)=some v:=h;refine Zz.symm▸?_;refine UJ (Y4 p.1 x) (λe=>?_) λe=>?_
  ·exact(Y6 e)▸.head _
  ·replace h:=e▸h;exact .tail _ (Oj h)
section
theorem retE{c':Cx}(q:∀m'' H'' s'' v y,AU prog w c' m'' H'' s''->VR v y->Q v H''->R (.ok (.ret y)) s'')(fl:Flow)(WQ:Yq):PS prog w c' (AS Q) fl WQ->R (.ok (.ret (match fl with|.ret v=>v|_=>.none))) WQ:=by
 intro h;refine AJ λGG hG=>?_;obtain⟨fl',X7,Wj,WW,rf,XN,WR,Wc⟩:=h;refine hG ?_;clear hG GG;cases rf with
 | next=>exact q _ _ _ _ _ WR .none Wc
 | ret rv=>exact q _ _ _ _ _ WR rv Wc
 | brk=>exact Wc.elim
 | cont=>exact Wc.elim
theorem Pk(F:KF K k.isAttr)(ih:Kf prog w k K (call d) d)(hh:k.strict=true->A.handled=none)(hd:8*A.depth+A.units+24*(d+1)<=7900)(G:LY K f i fd body)(P:JT k i fd body){WM:aV}(B:Base k K WM)(XO:∀b o,WM.get? b=some o->s.heap.get? b=some o)(r:A2 VR vs ys)(r':A2 KR us zs)
 (h:ID (call d) i vs us H Q)
 (ent:∀(h':aV) m',(∀b o,s.heap.get? b=some o->h'.get? b=some o)->h'.Ns s.heap.objs.size m'->∃(c':Cx) (D:Nat->Nat) (Yj:Bw),c'.WM=WM/\c'.L=s.heap.objs.size/\((∀(k:Nat) (st:aP),c'.gs[k]?=some st->s.gens[k]?=some st)/\Zs s.gens/\s.os=c'.os)/\Fr c'.WM c'.L h' m'/\gN c'.WM c'.L h' Yj/\GK prog w c'.WM D Yj c'.X H/\(∀p∈Yj,p.1<s.heap.objs.size) /\
  ∀m'' H'' s'' v y,AU prog w c' m'' H'' s''->VR v y->Q v H''->R (.ok (.ret y)) s''):codeAny (model prog w) A (.call (.ref f) ⟨ys,zs⟩) R s:=by
 refine AJ λGG hG=>?_;refine AR (O4 h) λρ hb h=>?_;refine FY G.at_ λoc od osl ho=>?_;refine hG ?_;clear hG GG;have X:=B.kin.keeps XO;refine AJ λGG hG=>?_;refine Q3 (Gj X G.p1 G.p2 G.p3 G.p4 G.pn G.df r r' hb) λbinds sl hsl hkr U hpure=>?_;refine Am (GD hkr hsl G.nd) λhnd hin=>?_;refine hG ?_;clear hG GG;have some_of:∀{b:Nat} {x:Nat},x∈i.cells->((cellsFrom b fd.scope.names []).lookup (nm x)).isSome=true:=λhx=>CN _ _ _ (.inl (CC (P.cll _ hx)));refine codeAny_call_function (dl hd) (X _ _ ho) rfl G.co G.gen G.body (dX X G.code) ?_;refine(hpure P.dfl).symm▸P.clo.symm▸Yv (eW G.kind (λx hx=>?_) λenv he WO x=>?_)
 ·refine AR (hin x hx) λp hp e=>?_;exact e.symm▸(P.loc p hp).imp (λh=>h.1) λh=>⟨P.cll p h,some_of h⟩
 ·subst he;refine⟨(B.lim.keeps XO).keeps x.toInCall.keep,codeAny_func ?_⟩;refine AJ λGG hG=>?_;refine Gs x.done λWi tk u hk=>?_;obtain rfl:=u;refine x38 (ent Wi _ hk x.toInCall.ns) λc' D Yj u cL t XP N L lt back=>?_;obtain rfl:=u;refine CV t λc1 c2 c3=>?_;refine hG ?_;clear hG GG;have off:∀{a:Nat},s.heap.objs.size<a->a≠c'.L/\c'.WM.get? a=none/\a∉Yj.map (·.1):=λ{a} ha=>by
   refine⟨cL▸bQ ha,?_,λq=>?_⟩
   ·cases q:c'.WM.get? a with
    | none=>rfl
    | some o=>exact absurd (Yy (XO _ _ q)) (Ng (ZY ha))
   ·refine AR (mmP q) λp hp u=>?_;obtain rfl:=u;exact absurd (lt p hp) (Ng (ZY ha))
  refine O3 (Ta (c:=c') (env:=newEnv fd.scope s.heap.objs.size fd.globals (cellsFrom (s.heap.objs.size+1) fd.scope.names []) (fd.qualname++".<locals>.") (some f) fd.code none fd.builtins)
   (cm:=bindC (newEnv fd.scope s.heap.objs.size fd.globals (cellsFrom (s.heap.objs.size+1) fd.scope.names []) (fd.qualname++".<locals>.") (some f) fd.code none fd.builtins).kindOf binds λU=>none)
   (λy z a e1 e2=>LH (name_of_addr x.apart (CC e1) (CC e2))) i.cells P.cnd N L (λy hy=>by
    refine AJ λGG hG=>?_;obtain⟨a,ha⟩:=Zy.mp (some_of (b:=s.heap.objs.size+1) hy);obtain⟨o1,o2,o3⟩:=off (x.above _ _ (CC ha));refine hG ?_;refine⟨a,ha,x.cell _ _ ha,?_,o1,o2,o3⟩;rw[Lb _ _ _ hnd,if_neg (by unfold a7;show ¬ fd.scope.names.lookup (nm y)=_;rw[P.cll y hy];decide),Option.or_none]
    exact KR.get hkr y) h) λκ H' Yl hw N' L' hκ=>?_
  have WV:AU prog w c' _ H' {s with heap:=Wi,toks:=tk}:=⟨XP,⟨D,Yl,N',L'⟩,c1,c2,c3⟩
  have Z:Ev prog w K k (call d) (A.deeper (callEnvC fd s.heap.objs.size f)) c' (callEnvC fd s.heap.objs.size f) κ fd.scope :=
   ⟨F,B,⟨rfl,G.kind,cL.symm,G.gl,G.bi,λy a e=>(hκ y a e).elim (λe=>(zN e)) id,λp hp e=>Zy.mp (CN _ _ _ (.inl (e▸hp)))⟩,hh,d0 (dw (di hd (Y1 _))),
    λA' hh' hd' c' m H s f vs ys us zs Q R e U U R' r r' h q=>ih A' hh' (dc (di hd (Y1 _)) hd') c' m H s f vs ys us zs Q R (e▸B) R' r r' h q,λU U U U U U U U U U U U h=>(FM h).elim⟩
  refine th (TM Z (λx U=>JR x) (ρ:=DW i.cells ρ) (λy v e=>?_) P.ok WV hw) λfl WQ h=>retE back fl WQ h;refine Am (Gk e) λe1 e2=>?_;have hp:y∈i.pars:=by
   have:=Oj e2;rw[hsl,Hp] at this;exact(mfP this).1
  have hl:fd.scope.names.lookup (nm y)=some .local:=(P.loc y hp).elim (λh=>h.1) λh=>by
   have:has y i.cells=true:=NU h;exact tG this e1
  have g:=KR.get hkr y;replace g:=e2▸g;refine oCs (binds.lookup (nm y)) (λq=>?_) λz q=>?_
  ·rw[q] at g;exact g.elim
  ·
   rw[q] at g;refine⟨z,?_,g⟩;rw[La _ _ _ hnd,if_pos (by exact hl),q];rfl
theorem RV(F:KF K k.isAttr)(ih:Kf prog w k K (call d) d)(hh:k.strict=true->A.handled=none)(hd:8*A.depth+A.units+24*(d+1)<=7900)(G:LY K f i fd body)(P:JT k i fd body)(B:Base k K c.WM)(Rl:AU prog w c m H s)(r:A2 VR vs ys)(r':A2 KR us zs)
 (h:ID (call d) i vs us H Q)(q:∀v s',PE prog w c m Q v s'->R (.ok (.ret v)) s'):codeAny (model prog w) A (.call (.ref f) ⟨ys,zs⟩) R s :=
 Pk F ih hh hd G P B Rl.fr.keep r r' h λh' m' hk hns =>
  x35 (Rl.enterL hk hns) λoL D Yj XP N L lt back =>
  ⟨(c.lx (s.heap.objs.size) ((c.L,oL)::c.X)),D,Yj,rfl,rfl,⟨Rl.gs,Rl.dr,Rl.os⟩,XP,N,L,lt,λm'' H'' s'' v y R'' rv qv=>q _ _ ⟨v,H'',rv,back _ _ _ R'',qv⟩⟩
end
structure Qf(prog:Y8)(k:Ck)(K:aC)(f:Nat)(i:Fi)(fd:ZW)(body:List af)(cl:Cl)(g:Nat):Prop where
 nocell:∀x∈fd.scope.names,x.2≠aj
 cells:i.cells=[]
 loc:∀p∈i.pars,fd.scope.names.lookup (nm p)=some .local
 ks:fd.scope.names.lookup ("super":Zf)=some .globalImplicit
 kc:fd.scope.names.lookup ("__class__":Zf)=some .free
 slf:fd.scope.names.lookup (nm AA)=some .local
 hd:∃ar,fd.params.args.head?=some ar/\ar.arg=nm AA
 cd:∃cda ccl cdd vs ccs file tf,fd.code=.ref cda/\K.lookup cda=some ⟨ccl,cdd,.fields vs,ccs⟩/\vs[2]?=some (.str file tf)/\((prog.main.file:Zf)==file)=true
 top:(prog.main.scope.names.lookup ("super":Zf)).isSome=false
 cc:∃cc ccl ccd ccs,fd.closure.lookup ("__class__":Zf)=some cc/\K.lookup cc=some ⟨ccl,ccd,.cell (some (.ref (C5 cl))),ccs⟩
 mro:mroIn K (C5 cl) (.ref (C5 cl))=some true
 sup:ks_superIn K (C5 cl) (C5 cl) "__init__"=some (some (.ref g))
 isf:isFn K (.ref g)=true
 fni:fnIn K g=true
 st:nsIn K cStatics "thirdparty.any"=some none
 ok:∃p0 p1 ap args pos p rest as r,body=.Expr (.Call (.Attribute (.Call (.Name "super" p0) [] [] p1) "__init__" ap) args [] pos) p::rest/\i.body=.expr (.sup cl g as)::r/\Cw k fd.scope as args=true/\Gh k fd.scope r rest=true/\(ap.endLine==pos.line)=true/\args.length<20
theorem Mm(env:eE):∀xs:List ZJ,(xs.map λx=>(false,eval x env)).any (·.1)=false
 | []=>rfl
 | x::r=>Mm env r
section
theorem RX(F:KF K k.isAttr)(ih:Kf prog w k K (call d) d)(hh:k.strict=true->A.handled=none)(hd:8*A.depth+A.units+24*(d+1)<=7900)
 {cl:Cl}{g:Nat}(G:LY K f i fd body)(P:Qf prog k K f i fd body cl g)(B:Base k K c.WM)(Rl:AU prog w c m H s)(r:A2 VR vs ys)(r':A2 KR us zs)(h:ID (call d) i vs us H Q)
 (q:∀v s',PE prog w c m Q v s'->R (.ok (.ret v)) s'):codeAny (model prog w) A (.call (.ref f) ⟨ys,zs⟩) R s:=by
 have un:8*(A.depth+1)+(A.units+3)<=7900:=d0 (dw (di hd (Y1 _)));refine AJ λGG hG=>?_;refine AR (O4 h) λρ hb h=>?_;replace h:=P.cells▸h;have h':Ap (call d) [] i.body (DW [] ρ) H (AS Q):=h;rw[HZ] at h';refine FY G.at_ λoc od osl ho=>?_;have X:=B.kin.keeps Rl.fr.keep;refine Q3 (Gj X G.p1 G.p2 G.p3 G.p4 G.pn G.df r r' hb) λbinds sl hsl hkr hbind U=>?_;refine Am (GD hkr hsl G.nd) λhnd hin=>?_;obtain⟨p0,p1,ap,args,pos,p,rest,as,rs,hbody,hbo,okas,okr,hline,hlen⟩:=P.ok;refine hG ?_;clear hG GG;refine ks_codeAny_call_defAt (fd:=fd) (body:=body) (binds:=binds) (dl hd) (X _ _ ho) rfl (B.lim.keeps Rl.fr.keep) (dX X G.code) G.body hbind P.nocell (λx hx=>by refine AR (hin x hx) λp hp e=>?_;exact e.symm▸P.loc p hp) (λWi hns hk=>?_) G.co G.gen G.kind
 refine AJ λGG hG=>?_;refine AR (Rl.enter (t:=s.toks+binds.length) hk hns) λoL WV back=>?_
 generalize hc':(c.lx (s.heap.objs.size) ((c.L,oL)::c.X))=c' at WV back
 have ch:c'.WM=c.WM:=by exact hc'▸rfl
 have cL:c'.L=s.heap.objs.size:=by exact hc'▸rfl
 have O:EO (callEnv fd s.heap.objs.size f) c'.L [] fd.scope:=⟨rfl,G.kind,cL.symm,G.gl,G.bi,λx a e=>(zN e),λp hp e=>absurd e (P.nocell p hp)⟩;have calls:∀A':Za,(k.strict=true->A'.handled=none)->8*A'.depth+A'.units<=8*(A.deeper (callEnv fd s.heap.objs.size f)).depth+(A.deeper (callEnv fd s.heap.objs.size f)).units+12->∀(c'':Cx) m H s f vs ys us zs Q R,c''.WM=c.WM->AU prog w c'' m H s->A2 VR vs ys->A2 KR us zs->call d f vs us H Q ->
  (∀v s',PE prog w c'' m Q v s'->R (.ok (.ret v)) s')->codeAny (model prog w) A' (.call (.ref f) ⟨ys,zs⟩) R s :=
  λA' hh' hd' c'' m H s f vs ys us zs Q R e R' r r' h q=>ih A' hh' (dc (di hd (Y1 _)) hd') c'' m H s f vs ys us zs Q R (e▸B) R' r r' h q
 have Z:Ev prog w K k (call d) (A.deeper (callEnv fd s.heap.objs.size f)) c' (callEnv fd s.heap.objs.size f) [] fd.scope :=
  ⟨F,ch▸B,O,hh,un,λA' hh' hd' c'' m H s f vs ys us zs Q R e U U=>calls A' hh' hd' c'' m H s f vs ys us zs Q R (e.trans ch),λU U U U U U U U U U U U h=>(FM h).elim⟩
 have l:=LZ hkr hnd;subst hbody;replace h':=hbo▸h';refine AR (O4 h') λva gs h'=>?_;refine AR (Ho h') λa z u=>?_;obtain rfl:=z;refine Dy u λcl' bs hi o h''=>?_;obtain rfl:=o;refine AR (l _ _ gs) λys' gy ry=>?_;cases ry
 generalize X8:({s with heap:=Wi,toks:=s.toks+binds.length}:Yq)=WO at WV hG
 refine x45 (WV.inst hi) λWd X9 es n Xd YA I U U=>?_;have Wz:K.In WO.heap:=Z.B.kin.keeps WV.fr.keep;refine hG ?_;clear hG GG;refine ks_wpAt_execs_cons (ks_wpAt_mono (Q:=λfl WQ=>fl=.next/\∃WW,AU prog w c' (λy=>binds.reverse.lookup y) WW WQ/\Ap (call d) [] rs ρ WW (AS Q)) ?_ (λfl WQ hf=>?_) λU U e=>e)
 rotate_left
 ·obtain⟨rfl,WW,WR,Wf⟩:=hf;exact wpAt_of_wpAny (th (TM Z (λx U=>JR x) l okr WR Wf) λfl WQ h=>TZ q back fl WQ h)
 refine ks_wpAt_Expr_any ?_ (GC O) rfl;have he:eval (.Call (.Attribute (.Call (.Name "super" p0) [] [] p1) "__init__" ap) args [] pos) (callEnv fd s.heap.objs.size f)=(do
  let ov <- attributeBase (.Call (.Name "super" p0) [] [] p1) "__init__" (callEnv fd s.heap.objs.size f) (eval (.Call (.Name "super" p0) [] [] p1) (callEnv fd s.heap.objs.size f))
  standAt ap.atName
  let (f',first) <- holding [ov] (getMethod ov "__init__" (do return (<- importBound (.Call (.Name "super" p0) [] [] p1) (callEnv fd s.heap.objs.size f)).getD true))
  callWith pos f' first (backTo pos (starEach args (callEnv fd s.heap.objs.size f))) []):=by
  show(do
   let ov' <- attributeBase (.Call (.Name "super" p0) [] [] p1) "__init__" (callEnv fd s.heap.objs.size f) (eval (.Call (.Name "super" p0) [] [] p1) (callEnv fd s.heap.objs.size f))
   standAt ap.atName
   methodCall (.Call (.Name "super" p0) [] [] p1) "__init__" ap pos (callEnv fd s.heap.objs.size f) ov' (args.length+([]:List bR).length) (backTo pos (starEach args (callEnv fd s.heap.objs.size f))) (backToKw pos (keywordEach [] (callEnv fd s.heap.objs.size f))))=_
  simp only[QY (ks:=[]) (kws:=[]) okas rfl hline (by simpa using hlen)]
  rfl
 refine ks_wpAt_MethodCall ?_ he;clear he X8 q back hb hsl hkr hbind hin hnd okr h r r' hbo hk hns hd ih X cL hc';refine AJ λGG hG=>?_;refine AR P.hd λar har harg=>?_;refine x74 P.cd λcda ccl cdd fvs ccs file tf e1 e2 e3 e4=>?_;refine x42 P.cc λcc ccl' ccd ccs' f1 f2=>?_;refine AR (any_some (F.hdic cl')) λcdD hD U=>?_;refine Vn Z.B.glo λmg mb m1 m2 m3 m4 m5=>?_;obtain⟨W5,Xe,Xf,Wp,Xg⟩:=WO;dsimp only at I Wz;obtain⟨oD,hD1,hD2⟩:∃oD,W5.get? (C5 cl')=some oD/\oD.data=.cls cdD:=by
  unfold clsIn at hD;split at hD
  ·rename_i c d cd' sl ho;obtain rfl:=Ys hD;exact⟨_,Wz _ _ ho,rfl⟩
  ·exact zN hD
 have sb:=m5 ("super",.type "super") (.tail _ (.tail _ (.tail _ (.tail _ (.tail _ (.tail _ (.tail _ (.head _))))))));refine hG ?_;clear hG GG;refine ks_wpAt_super_base (env:=callEnv fd s.heap.objs.size f) P.ks P.kc (by decide +kernel) rfl (Wz _ _ ho) rfl (by rw[G.p1];exact har) e1 (Wz _ _ e2) rfl e3 e4 P.top ?_
 refine ks_loadName_global G.kind P.ks (eV (env:=callEnv fd s.heap.objs.size f) (by exact O.igl.symm▸m1.keeps WV.fr.keep) sb.1 (by exact O.ibi.symm▸m2.keeps WV.fr.keep) sb.2 ⟨rfl,?_⟩)
 refine eL G.kind P.kc f1 ⟨_,Wz _ _ f2,rfl⟩ ?_;refine harg.symm▸bz G.kind P.slf (by rw[O.ilo];exact WV.fr.ns) gy ?_
 refine ks_wpAny_isType_cls hD1 hD2 ⟨rfl,?_⟩;refine ks_wpAny_call_super hD1 hD2 I.at_ I.cls (λc e=>?_) (looks_mroIn Wz P.mro) (λWf e Wr=>?_)
 ·have:=I.no;unfold notCls at this;rw[e] at this;exact Bool.noConfusion this
 refine AJ λGG hG=>?_;refine CV (ks_newsPush (s:=⟨W5,Xe,Xf,Wp,Xg⟩) WV.fr Xd rfl e Wr) λYB W8 YC=>?_;have XL:W5.objs.size∉X9.map (·.1):=Co Xd YC
 have WR:=AU.addX' (t:=Wp) WV YA YB W8 XL;obtain⟨Xv,XW,Xh,W9⟩:=WR.led;have YD:InstAt Wf a (instObj (C5 cl') (Wd a)) (C5 cl') (some (dictOf es n)):=⟨Wr _ _ I.at_,rfl,rfl,Wr _ _ I.dict⟩;refine hG ?_;clear hG GG;refine ks_method (s:=⟨Wf,Xe,Xf,Wp,Xg⟩) (C:=C5 cl') (D:=C5 cl') WR.fr Z.B.kin Xh (W9.xs _ (.head _)).1 YD P.st P.sup (beq_iff_eq.mp P.isf) (by decide +kernel) λWh Wq YE YF YG=>?_
 have YH:Wh∉XW.map (·.1):=Co Xh YG
 have Wa:=AU.addX' (t:=Wp+1) WR W9 YE YF YH
 generalize XJ:(c'.x ((Wh,methodObj (.ref g) (.ref a))::(W5.objs.size,{cls:=.type "super",dict:=none,data:=.fields #[.ref (C5 cl'),.ref a,.ref (C5 cl')],slots:=#[]})::c'.X))=W0 at Wa
 have c3h:W0.WM=c.WM:=by exact XJ▸ch
 have c3L:W0.L=c'.L:=by exact XJ▸rfl
 have c3X:W0.X=(Wh,methodObj (.ref g) (.ref a))::(W5.objs.size,{cls:=.type "super",dict:=none,data:=.fields #[.ref (C5 cl'),.ref a,.ref (C5 cl')],slots:=#[]})::c'.X:=by exact XJ▸rfl
 have c3c:(W0.x (c'.X))=c':=by exact XJ▸rfl
 have Xi:Ev prog w K k (call d) (A.deeper (callEnv fd s.heap.objs.size f)) W0 (callEnv fd s.heap.objs.size f) [] fd.scope :=
  ⟨F,c3h▸B,c3L▸O,hh,un,λA' hh' hd' c'' m H s f vs ys us zs Q R e U U=>calls A' hh' hd' c'' m H s f vs ys us zs Q R (e.trans c3h),λU U U U U U U U U U U U h=>(FM h).elim⟩
 refine ew (P:=MethP K Wh g (.ref a)) (keywords:=backToKw pos (keywordEach [] (callEnv fd s.heap.objs.size f))) ?_ (keeps_M P.fni)
  (JP (ks:=[]) (kws:=[]) (Q:=λvs us H=>us=[]/\call d g (.ref a::vs) [] H _) okas rfl (Pf (sEs Xi l (λe U=>Cc e) okas Wa h'') λXj YI WW WQ WZ Wl Wg=>⟨Xj,WW,WZ,Wl,λs' R'=>cw ⟨[],_,.nil,R',rfl,Wg⟩⟩) ?_)
 ·rw[EA okas,Ek]
  show(_||false)=false
  rw[bY];exact Mm _ args
 ·rintro Xj Yb YI Yc WW WQ WZ Wb Wl ⟨rfl,Wg⟩;cases Wb
  obtain⟨Yd,Ye,Xk,YJ⟩:=Wl.led;have hm:=(YJ.xs (Wh,methodObj (.ref g) (.ref a)) (by rw[c3X];exact .head _)).1
  refine⟨⟨Xk.get hm,Xi.B.kin.keeps Wl.fr.keep⟩,dT (ks_codeAny_call_bound (Xk.get hm) ?_)⟩;refine calls (A.deeper _) hh (Yz _ 12) W0 _ WW WQ g _ _ _ _ _ _ c3h Wl (.cons (.ref a) WZ) .nil Wg λv XZ YK=>?_;obtain⟨v',XY,rv,W3,YL⟩:=YK;have Wx:=W3.dropX' (X':=c'.X) (λp hp=>by rw[c3X];exact .tail _ (.tail _ hp))
  rw[c3c] at Wx;exact⟨rfl,XY,Wx,YL⟩
end
end
theorem Kg(c:Cl):c∈cls:=by cases c<;>(repeat (first|exact .head _|apply gr))
theorem GE{α:Type}{x:Nat}{v:α}:∀{l:List (Nat×α)},AN x l=some v->(x,v)∈l
 | [],h=>zN h
 | p::r,h=>by
  have h:cond (Y4 p.1 x) (some p.2) (AN x r)=some v:=h;refine UJ (Y4 p.1 x) (λe=>?_) λe=>?_
  ·replace h:=e▸h;obtain rfl:=Ys h;exact(Y6 e)▸.head _
  ·replace h:=e▸h;exact .tail _ (GE h)
def V8(K:aC):Bool:=cls.all λc=>(mtab c).all λp=>(findIn K (.ref (C5 c)) (nm p.1)==some (some (.ref p.2)))&&isFn K (.ref p.2)&&keepIn K (.ref p.2)
def clsB(K:aC):Bool:=cls.all λc=>keepIn K (.ref (C5 c))&&plainGet K (C5 c) (nm AA)&&hasDictIn K (C5 c)&&(findIn K (.ref (C5 c)) "__setattr__"==some (some (.builtin "object.__setattr__")))&&plainOver K (C5 c)
noncomputable def VJ:V->Bool
 | .none=>true
 | _=>false
def attrB1(K:aC)(c:Cl)(n:Nat):Bool:=Ej (findIn K (.ref (C5 c)) (nm n)) λa=>noGet K a&&(takerIn K (C5 c) (nm n)==some none)&&!copiedNames.contains (nm n)&&(match GW c n with
 | some v=>VJ v&&a==some .none
 | none=>true)
def V9(K:aC)(l:List Nat):Bool:=cls.all λc=>l.all λn=>attrB1 K c n
theorem KF.of{K:aC}{l:List Nat}(h1:V8 K=true)(h3:clsB K=true)(h4:V9 K l=true)(h5:(specialIn K .none "__get__"==some none)=true):KF K λn=>has n l:=by
 have c3:=λc=>laP h3 c (Kg c);simp only[fP,beq_iff_eq] at c3;refine⟨λc m f e=>?_,λc U=>(c3 c).1.1.1.2,λc=>(c3 c).1.1.2,λc n hn=>?_,beq_iff_eq.mp h5,λc=>(c3 c).1.2,λc=>(c3 c).2⟩
 ·have:=laP (laP h1 c (Kg c)) _ (GE e);refine CV (NN this) λh1 h2 h3=>?_;exact⟨beq_iff_eq.mp h1,h2,h3⟩
 ·have:=laP (laP h4 c (Kg c)) n (Hk hn);refine AR (D9 this) λa ha h=>?_;refine IM (MP h) λt1 t2 t3 t4=>?_;clear h;refine⟨a,ha,t1,beq_iff_eq.mp t2,by rwa [Zq] at t3,λv hv=>?_⟩
  replace t4:=hv▸t4;refine Am (an t4) λt4 t5=>?_;exact⟨(by cases v<;>first|rfl|exact zT t4),beq_iff_eq.mp t5⟩
noncomputable def vr1(v:V)(y:Yr):Bool:=match v with
 | .none=>y==.none
 | .bool b=>y==.bool b
 | .int i=>Value.isInt i y
 | .ref _=>false
theorem vr1_of{v:V}{y:Yr}(h:vr1 v y=true):VR v y:=by
 cases v with
 | none=>cases(eq_of_beq h:y=.none);exact .none
 | bool b=>cases(eq_of_beq h:y=.bool b);exact .bool b
 | int i=>refine BB (dE (show Value.isInt i y=true from h)) λt z=>?_;obtain rfl:=z;exact .int i t
 | ref=>exact zT h
def vrB:List V->List Yr->Bool
 | [],[]=>true
 | v::r,y::s=>vr1 v y&&vrB r s
 | _,_=>false
theorem WA:∀{vs:List V} {ys:List Yr},vrB vs ys=true->A2 VR vs ys
 | [],[],_=>.nil
 | v::r,y::s,h=>.cons (vr1_of (an h).1) (WA (an h).2)
 | [],_::_,h=>zT (show false=true from h)
 | _::_,[],h=>nomatch (show false=true from h)
def dfB(K:aC)(i:Fi):Yr->Bool
 | .none=>i.dflt.isEmpty
 | .ref T=>Ej (K.lookup T) λo=>match o.data with
  | .seq items _=>vrB i.dflt items.toList
  | _=>false
 | _=>false
noncomputable def FN:FuncBody->List af
 | .stmts b=>b
 | _=>[]
noncomputable def Qg:FuncBody->Bool
 | .stmts _=>true
 | _=>false
noncomputable def NV:List Nat->Bool
 | []=>true
 | x::r=>!has x r&&NV r
theorem Lc:∀{l:List Nat},NV l=true->l.Nodup
 | [],_=>.nil
 | x::r,h=>by
  refine Am (an h) λh1 h2=>?_;refine ncR ⟨λhm=>?_,Lc h2⟩;replace h1:=(NU hm)▸h1;exact zT h1
def Ol(K:aC)(i:Fi)(fd:ZW):Bool :=
 (codeIn K fd.code fd.qualname&&(fd.globals==mainGlobals)&&(fd.builtins==builtinsNs)&&!fd.scope.isCoroutine&&!fd.scope.isGenerator&&(fd.scope.kind==.function)&&dfB K i fd.defaults) &&
 (fd.params.posonlyargs.isEmpty&&fd.params.kwonlyargs.isEmpty&&fd.params.vararg.isNone&&fd.params.kwarg.isNone&&(fd.params.args.map (·.arg)==i.pars.map nm)&&Qg fd.body&&NV i.pars)
theorem Tc{b:Bool}(h:(!b)=true):b=false:=by cases b<;>first|rfl|exact zT h
theorem Mn{α:Type}{o:Option α}(h:o.isNone=true):o=Option.none:=by cases o<;>first|rfl|exact zT h
theorem LY.of{K:aC}{f:Nat}{i:Fi}{fd:ZW}(hat:∃oc od osl,K.lookup f=some ⟨oc,od,.func fd,osl⟩)(h:Ol K i fd=true):LY K f i fd (FN fd.body):=by
 refine Am (an h) λhA hB=>?_;refine x07 (an7 hA) λh1 h2 h3 h4 h5 h6 h12=>?_;refine x07 (an7 hB) λh7 h8 h9 h10 h11 h13 h15=>?_;refine⟨hat,h1,eq_of_beq h2,eq_of_beq h3,Tc h4,Tc h5,eq_of_beq h6,Ah h7,Ah h8,Mn h9,Mn h10,eq_of_beq h11,?_,Lc h15,?_⟩
 ·unfold dfB at h12;split at h12
  ·rename_i e;exact .inl ⟨List.isEmpty_iff.mp h12,e⟩
  ·rename_i T e;refine AR (D9 h12) λo e2 h12=>?_;split at h12
   ·rename_i e3;exact .inr ⟨T,_,_,_,e,e2,e3,WA h12⟩
   ·exact zT h12
  ·exact zT h12
 ·unfold Qg at h13;split at h13
  ·rename_i e;rw[e];rfl
  ·exact zT h13
noncomputable def Kh(fd:ZW):Bool:=fd.scope.names.all λx=>x.2 !=.cell
def VK(i:Fi)(fd:ZW):Bool:=i.pars.all λp=>fd.scope.names.lookup (nm p)==some .local
def JU(k:Ck)(i:Fi)(fd:ZW):Bool:=Kh fd&&i.cells.isEmpty&&VK i fd&&Gh k fd.scope i.body (FN fd.body)
theorem Hr{fd:ZW}(h:Kh fd=true):∀x∈fd.scope.names,x.2≠NameKind.cell:=λx hx e=>by
 have:=laP h x hx;replace this:=e▸this;exact zT this
theorem Pl{i:Fi}{fd:ZW}(h:VK i fd=true):∀p∈i.pars,fd.scope.names.lookup (nm p)=some .local:=λp hp=>eq_of_beq (laP h p hp)
theorem Hq.of{k:Ck}{i:Fi}{fd:ZW}(h:JU k i fd=true):Hq k i fd (FN fd.body):=by
 refine IM (MP h) λh1 h2 h3 h4=>?_;exact⟨Hr h1,Ah h2,Pl h3,h4⟩
def Om(k:Ck)(i:Fi)(fd:ZW):Bool:=fd.closure.isEmpty&&(fd.defaults==.none)&&NV i.cells&&(i.cells.all λx=>fd.scope.names.lookup (nm x)==some .cell) &&
 (i.pars.all λp=>(fd.scope.names.lookup (nm p)==some .local)&&!has p i.cells||has p i.cells)&&Gh k fd.scope i.body (FN fd.body)
theorem JT.of{k:Ck}{i:Fi}{fd:ZW}(h:Om k i fd=true):JT k i fd (FN fd.body):=by
 refine x06 (an6 h) λh1 h2 h3 h4 h5 h6=>?_;exact⟨Ah h1,eq_of_beq h2,Lc h3,λx hx=>eq_of_beq (laP h4 x hx),λp hp=>(UU (laP h5 p hp)).imp (λh=>⟨eq_of_beq (an h).1,Tc (an h).2⟩) Hk,h6⟩
def Td(x:ZJ)(f:ZJ->List ZJ->List bR->ef->Bool):Bool:=vt x 3&&f (AL x).a (AL x).xs (AL x).kw (AL x).p
theorem On{x:ZJ}{f:ZJ->List ZJ->List bR->ef->Bool}(h:Td x f=true):∃a xs kw p,x=.Call a xs kw p/\f a xs kw p=true:=by
 refine Am (an h) λh1 h2=>?_;refine HU (AO h1) λa xs kw p z=>?_;obtain rfl:=z;exact⟨a,xs,kw,p,rfl,h2⟩
def WB(x:ZJ)(f:ZJ->Zf->ef->Bool):Bool:=vt x 2&&f (AL x).a (AL x).z (AL x).p
theorem Te{x:ZJ}{f:ZJ->Zf->ef->Bool}(h:WB x f=true):∃a z p,x=.Attribute a z p/\f a z p=true:=by
 refine Am (an h) λh1 h2=>?_;refine FY (AO h1) λa z p y=>?_;obtain rfl:=y;exact⟨a,z,p,rfl,h2⟩
def WC(x:ZJ)(n:Zf):Bool:=vt x 1&&((AL x).z==n)
theorem Tf{x:ZJ}{n:Zf}(h:WC x n=true):∃p,x=.Name n p:=by
 refine Am (an h) λh1 h2=>?_;refine HT (AO h1) λz p y=>?_;obtain rfl:=y;exact⟨p,by exact(eq_of_beq h2)▸rfl⟩
def supV(x:ZJ):Bool:=Td x λsx sargs skws U=>sargs.isEmpty&&skws.isEmpty&&WC sx "super"
theorem VL{x:ZJ}(h:supV x=true):∃p0 p1,x=.Call (.Name "super" p0) [] [] p1:=by
 refine x42 (On h) λa xs kw p z h=>?_;obtain rfl:=z;refine CV (NN h) λh1 h2 h3=>?_;clear h;cases Ah h1
 cases Ah h2
 obtain⟨p0,rfl⟩:=Tf h3;exact⟨p0,p,rfl⟩
def WD(x:ZJ)(l:Nat):Bool:=WB x λov z ap=>(z=="__init__")&&(ap.endLine==l)&&supV ov
theorem Tg{x:ZJ}{l:Nat}(h:WD x l=true):∃p0 p1 ap,x=.Attribute (.Call (.Name "super" p0) [] [] p1) "__init__" ap/\(ap.endLine==l)=true:=by
 refine NB (Te h) λov z ap y h=>?_;obtain rfl:=y;refine CV (NN h) λh1 h2 h3=>?_;clear h;cases eq_of_beq h1
 refine HT (VL h3) λp0 p1 y=>?_;obtain rfl:=y;exact⟨p0,p1,ap,rfl,h2⟩
def supA(k:Ck)(sc:ZR)(r:List S)(as:List E)(x:ZJ)(rest:List af):Bool:=Td x λfx args kws pos=>kws.isEmpty&&Cw k sc as args&&Gh k sc r rest&&Nat.blt args.length 20&&WD fx pos.line
theorem VM{k:Ck}{sc:ZR}{r:List S}{as:List E}{x:ZJ}{rest:List af}(h:supA k sc r as x rest=true):∃p0 p1 ap args pos,x=.Call (.Attribute (.Call (.Name "super" p0) [] [] p1) "__init__" ap) args [] pos/\Cw k sc as args=true/\Gh k sc r rest=true/\(ap.endLine==pos.line)=true/\args.length<20:=by
 refine x42 (On h) λfx args kws pos z h=>?_;obtain rfl:=z;refine Nf (Rs h) λh1 h2 h3 h4 h5=>?_;clear h;cases Ah h1
 refine NB (Tg h5) λp0 p1 ap z h6=>?_;obtain rfl:=z;exact⟨p0,p1,ap,args,pos,rfl,h2,h3,h6,ZQ h4⟩
def exprOf(y:af)(f:ZJ->Bool):Bool:=NP y 9&&Ej (Bb y).a f
def supB(k:Ck)(fd:ZW)(as:List E)(r:List S):Bool:=match FN fd.body with
 | y::rest=>exprOf y λx=>supA k fd.scope r as x rest
 | _=>false
def cellB(K:aC)(cl:Cl)(o:Option Zh):Bool:=Ej o λcc=>Ej (K.lookup cc) λob=>match ob.data with
 | .cell (some (.ref D))=>D==C5 cl
 | _=>false
def WE(K:aC)(file:Zf):Yr->Bool
 | .ref c=>Ej (K.lookup c) λob=>match ob.data with
  | .fields vs=>Ej vs[2]? λv=>match v with
   | .str n _=>file==n
   | _=>false
  | _=>false
 | _=>false
def Th(file:Zf)(k:Ck)(K:aC)(i:Fi)(fd:ZW)(cl:Cl)(g:Nat)(as:List E)(r:List S):Bool :=
 (Kh fd&&i.cells.isEmpty&&VK i fd &&
 (fd.scope.names.lookup ("super":Zf)==some .globalImplicit)&&(fd.scope.names.lookup ("__class__":Zf)==some .free)&&(fd.scope.names.lookup (nm AA)==some .local) &&
 ((fd.params.args.head?.map (·.arg))==some (nm AA))&&WE K file fd.code)&&(cellB K cl (fd.closure.lookup ("__class__":Zf))&&(mroIn K (C5 cl) (.ref (C5 cl))==some true) &&
 (ks_superIn K (C5 cl) (C5 cl) "__init__"==some (some (.ref g)))&&isFn K (.ref g)&&fnIn K g&&(nsIn K cStatics "thirdparty.any"==some none)&&supB k fd as r)
theorem Qf.of{prog:Y8}{k:Ck}{K:aC}{f:Nat}{i:Fi}{fd:ZW}{cl:Cl}{g:Nat}{as:List E}{r:List S}{file:Zf}(hbo:i.body=.expr (.sup cl g as)::r)(hf:prog.main.file=file)(ht:(prog.main.scope.names.lookup ("super":Zf)).isSome=false)(h:Th file k K i fd cl g as r=true):Qf prog k K f i fd (FN fd.body) cl g:=by
 refine Am (an h) λhA hB=>?_;refine Vm (an8 hA) λh1 h2 h3 h4 h5 h6 h7 h8=>?_;refine x07 (an7 hB) λh9 h10 h11 h11' h12 h13 h14=>?_;clear h hA hB;refine⟨Hr h1,Ah h2,Pl h3,eq_of_beq h4,eq_of_beq h5,eq_of_beq h6,?_,?_,ht,?_,eq_of_beq h10,eq_of_beq h11,h11',h12,eq_of_beq h13,?_⟩
 ·refine AR (Zx.mp (eq_of_beq h7)) λar e1 e2=>?_;exact⟨ar,e1,e2⟩
 ·unfold WE at h8;split at h8
  ·rename_i c e;refine AJ λGG hG=>?_;refine AR (D9 h8) λz e2 h8=>?_;obtain⟨oc,od,odt,os⟩:=z;refine hG ?_;dsimp only at h8;split at h8
   ·refine AR (D9 h8) λv e3 h8=>?_;split at h8
    ·exact⟨c,_,_,_,_,_,_,e,e2,e3,by rw[hf];exact h8⟩
    ·exact zT h8
   ·exact zT h8
  ·exact zT h8
 ·refine AJ λGG hG=>?_;refine AR (D9 h9) λcc e1 h9=>?_;refine AR (D9 h9) λz e2 h9=>?_;obtain⟨oc,od,odt,os⟩:=z;refine hG ?_;dsimp only at h9;split at h9
  ·rw[beq_iff_eq.mp h9] at e2;exact⟨cc,_,_,_,e1,e2⟩
  ·exact zT h9
 ·unfold supB at h14;split at h14
  ·rename_i y rest e1;refine AJ λGG hG=>?_;refine Am (an h14) λh3 h4=>?_;refine HT (BF h3) λv p z=>?_;obtain rfl:=z;refine AR (D9 (l:=some v) h4) λx e h=>?_;obtain rfl:=Ys e;refine x55 (VM h) λp0 p1 ap args pos z g1 g2 g3 g4=>?_;obtain rfl:=z;refine hG ?_;exact⟨p0,p1,ap,args,pos,p,rest,as,r,e1,hbo,g1,g2,g3,g4⟩
  ·exact zT h14
noncomputable abbrev Pm:=Cl×Nat×List E
noncomputable def supE(e:E):Option Pm:=E.casesOn (motive_1:=λU=>Option Pm) e Yu Yu (λU=>Yu) (λU=>Yu) (λU=>Yu) (λU=>Yu) (λU=>Yu) (λU U=>Yu) (λU U U U=>Yu) (λU U U=>Yu) (λU U U=>Yu) (λU U U U=>Yu) (λc f as=>some (c,f,as)) (λU=>Yu) (λU=>Yu) (λU U=>Yu) (λU U=>Yu) (λU=>Yu) (λU=>Yu) (λU=>Yu) (λU=>Yu) (λU=>Yu) (λU U U=>Yu) (λU U U=>Yu) (λU U U U U=>Yu) (λU=>Yu) (λU U U=>Yu) (λU U=>Yu) (λU U=>Yu) (λU=>Yu) (λU=>Yu) Yu (λU=>Yu) (λU U=>Yu) (λU U U U=>Yu)
noncomputable def Tj(s:S):Option Pm:=S.casesOn (motive_1:=λU=>Option Pm) s (λU U=>Yu) (λU U=>Yu) (λU U U=>Yu) (λU U=>Yu) (λU U U=>Yu) (λU U U U=>Yu) (λU U U=>Yu) (λU U U=>Yu) (λU U=>Yu) (λU U U=>Yu) (λU=>Yu) Yu Yu (λU=>Yu) (λe=>supE e) Yu Yu Yu
theorem nO{α:Type}{P:Prop}{a:α}(h:Yu=some a):P:=zN h
theorem VN(p:Pm)(e:E):supE e=some p->e=.sup p.1 p.2.1 p.2.2:=E.casesOn (motive_1:=λe=>supE e=some p->e=.sup p.1 p.2.1 p.2.2) e nO nO (λU=>nO) (λU=>nO) (λU=>nO) (λU=>nO) (λU=>nO) (λU U=>nO) (λU U U U=>nO) (λU U U=>nO) (λU U U=>nO) (λU U U U=>nO) (λc f as h=>by cases(show some (c,f,as)=some p from h);rfl) (λU=>nO) (λU=>nO) (λU U=>nO) (λU U=>nO) (λU=>nO) (λU=>nO) (λU=>nO) (λU=>nO) (λU=>nO) (λU U U=>nO) (λU U U=>nO) (λU U U U U=>nO) (λU=>nO) (λU U U=>nO) (λU U=>nO) (λU U=>nO) (λU=>nO) (λU=>nO) nO (λU=>nO) (λU U=>nO) (λU U U U=>nO)
theorem VO(p:Pm)(s:S):Tj s=some p->s=.expr (.sup p.1 p.2.1 p.2.2):=S.casesOn (motive_1:=λs=>Tj s=some p->s=.expr (.sup p.1 p.2.1 p.2.2)) s (λU U=>nO) (λU U=>nO) (λU U U=>nO) (λU U=>nO) (λU U U=>nO) (λU U U U=>nO) (λU U U=>nO) (λU U U=>nO) (λU U=>nO) (λU U U=>nO) (λU=>nO) nO nO (λU=>nO) (λe h=>congrArg S.expr (VN p e h)) nO nO nO
def Qh(file:Zf)(k:Ck)(K:aC)(i:Fi)(fd:ZW):Bool:=match i.body.head?.bind Tj with
 | some p=>Th file k K i fd p.1 p.2.1 p.2.2 i.body.tail
 | none=>bif i.cells.isEmpty then JU k i fd else Om k i fd
theorem VP{b:List S}{p:Pm}(h:b.head?.bind Tj=some p):b=.expr (.sup p.1 p.2.1 p.2.2)::b.tail:=by
 cases b with
 | nil=>exact zN h
 | cons s r=>exact(VO p s h)▸rfl
def fnB(file:Zf)(k:Ck)(K:aC)(p:Nat×Fi):Bool:=Ej (K.lookup p.1) λo=>match o.data with
 | .func fd=>Ol K p.2 fd&&Qh file k K p.2 fd
 | _=>false
section
variable{prog:Y8}{w:Y0}{k:Ck}{K:aC}{file:Zf}
theorem Qi(F:KF K k.isAttr)(hf:prog.main.file=file)(ht:(prog.main.scope.names.lookup ("super":Zf)).isSome=false)(hall:Q1.all (fnB file k K)=true):∀d,Kf prog w k K (call d) d
 | 0=>λU U U U U U U U U U U U U U U U U U h=>h.elim
 | d+1=>λA hh hd c m H s f vs ys us zs Q R B Rl r r' h q=>by
  have ih:=Qi F hf ht hall d;obtain⟨i,hi,h⟩:=O4 (show op (AN f Q1) λi=>ID (call d) i vs us H Q from h)
  obtain⟨⟨oc,od,odt,os⟩,ho,hb⟩:=D9 (laP hall _ (GE hi));dsimp only at hb;split at hb
  ·rename_i fd;obtain⟨h1,h2⟩:=an hb;have G:=LY.of (f:=f) ⟨_,_,_,ho⟩ h1;unfold Qh at h2;cases e:i.body.head?.bind Tj with
   | some p=>rw[e] at h2;exact RX F ih hh hd G (Qf.of (VP e) hf ht h2) B Rl r r' h q
   | none =>
    rw[e] at h2;cases e:i.cells.isEmpty with
    | true=>rw[e] at h2;exact Ml F ih ALd.no hh hd G (Hq.of h2) B Rl r r' h q
    | false=>rw[e] at h2;exact RV F ih hh hd G (JT.of h2) B Rl r r' h q
  ·cases hb
end
structure Pt where
 q:List Zh
 g:List Nat
structure In(P:Pt)(s s':Yq):Prop where
 e0:∀q∈P.q,∃o,s'.heap.get? q=some o
 kp:∀b o,b∉P.q->s.heap.get? b=some o->s'.heap.get? b=some o
 gs:∀(k:Nat) (st:aP),k∉P.g->s.gens[k]?=some st->s'.gens[k]?=some st
 dr:Zs s'.gens
 os:s'.os=s.os
structure IP(P:Pt)(s s':Yq):Prop where
 kp:∀q o,q∈P.q->s.heap.get? q=some o->s'.heap.get? q=some o
 gs:∀(k:Nat) (st:aP),k∈P.g->s.gens[k]?=some st->s'.gens[k]?=some st
 dr:Zs s'.gens
 os:s'.os=s.os
def Ex(P:Pt)(s:Yq):Prop:=(∀q∈P.q,∃o,s.heap.get? q=some o)/\Zs s.gens
theorem In.ex{P:Pt}{a b:Yq}(h:In P a b):Ex P b:=⟨h.e0,h.dr⟩
theorem In.trans{P:Pt}{a b c:Yq}(h:In P a b)(k:In P b c):In P a c :=
 ⟨k.e0,λx o hx e=>k.kp x o hx (h.kp x o hx e),λx st hx e=>k.gs x st hx (h.gs x st hx e),k.dr,k.os.trans h.os⟩
theorem IP.trans{P:Pt}{a b c:Yq}(h:IP P a b)(k:IP P b c):IP P a c :=
 ⟨λx o hx e=>k.kp x o hx (h.kp x o hx e),λx st hx e=>k.gs x st hx (h.gs x st hx e),k.dr,k.os.trans h.os⟩
theorem In.refl{P:Pt}{s:Yq}(h:Ex P s):In P s s:=⟨h.1,λU U U e=>e,λU U U e=>e,h.2,rfl⟩
theorem IP.ex{P:Pt}{a b:Yq}(h:IP P a b)(k:Ex P a):Ex P b:=⟨λq hq=>BB (k.1 q hq) λo e=>⟨o,h.kp q o hq e⟩,h.dr⟩
noncomputable def FS(P:Pt)(h:aV):Bw:=P.q.filterMap λq=>(h.get? q).map λo=>(q,o)
theorem BC{P:Pt}{h:aV}{p:Zh×dK}:p∈FS P h<->p.1∈P.q/\h.get? p.1=some p.2:=by
 unfold FS;rw[aE];constructor
 ·intro y;refine AR y λq hq e=>?_;refine AR (Zx.mp e) λo h1 z=>?_;obtain rfl:=z;exact⟨hq,h1⟩
 ·intro y;refine Am y λh1 h2=>?_;exact⟨p.1,h1,by rw[h2];rfl⟩
theorem Le{h:aV}:∀l:List Zh,((l.filterMap λq=>(h.get? q).map λo=>(q,o)).map (·.1)).Sublist l
 | []=>.slnil
 | q::r=>by
  rw[aA];cases h.get? q with
  | none=>exact(Le r).cons q
  | some o=>exact(Le r).cons_cons q
noncomputable def Cx.pt(c:Cx)(P:Pt)(h:aV):Cx:=(c.x (FS P h++c.X))
structure WF(P:Pt)(c:Cx):Prop where
 nd:P.q.Nodup
 x:∀p∈c.X,p.1∉P.q
 l:c.L∉P.q
 g:∀k∈P.g,c.gs[k]?=none
section
variable{prog:Y8}{w:Y0}{c:Cx}{m m':Zf->Option Yr}{H H':MH}{s s':Yq}{P:Pt}
theorem AU.re0(R:AU prog w (c.pt P s.heap) m H s)(hP:WF P c)(kp:∀b o,b∉P.q->s.heap.get? b=some o->s'.heap.get? b=some o)(gs:∀(k:Nat) (st:aP),k∉P.g->s.gens[k]?=some st->s'.gens[k]?=some st)(dr:Zs s'.gens)(os:s'.os=s.os):AU prog w (c.pt P s'.heap) m H s':=by
 refine AJ λGG hG=>?_;obtain⟨D,Yj,N,L⟩:=R.led;refine hG ?_;clear hG GG;have hn:∀q∈P.q,H q=none/\(∀a c as,H a=some (.inst c as)->D a≠q)/\c.WM.get? q=none:=λq hq=>by
  refine oCs (s.heap.get? q) (λe=>?_) λo e=>?_
  ·
   have h1:q∉Yj.map (·.1):=λz=>by
    refine AR (mmP z) λp hp v=>?_;obtain rfl:=v;exact sN ((N p hp).1) e
   have h2:c.WM.get? q=none:=by
    cases z:c.WM.get? q with
    | none=>rfl
    | some o=>exact sN (R.fr.keep _ _ z) e
   exact⟨L.none h1 h2,λa c as z k=>h1 (k▸L.dkey z),h2⟩
  ·
   refine CV (L.xs (q,o) (Yw _ (BC.mpr ⟨hq,e⟩))) λx1 x2 x3=>?_;exact⟨x2,x3,(N _ x1).2.2⟩
 have kf:∀p∈Yj,p.1∉P.q->p∈FS P s'.heap++Yj.filter λp=>decide (p.1∉P.q):=λp hp z=>Yt _ (Zi.mpr ⟨hp,decide_eq_true z⟩);refine⟨⟨R.fr.ns.at' λo e=>kp _ o hP.l e,λb o e=>kp b o (λz=>by have e:c.WM.get? b=some o:=e;rw[(hn b z).2.2] at e;exact zN e) (R.fr.keep b o e),R.fr.above⟩,⟨D,FS P s'.heap++Yj.filter λp=>decide (p.1∉P.q),λp hp=>?_,?_,λa o e=>(L.ob a o e).mono (λcl as z=>⟨rfl,λp hp k=>kf p hp λq=>(hn _ q).2.1 a cl as (z▸e) k.symm⟩) λp hp k=>kf p hp λq=>(by rw[k] at q;rw[(hn _ q).1] at e;exact zN e),L.dj,λp hp=>?_⟩,
  λk st e=>gs k st (λz=>by have e:c.gs[k]?=some st:=e;rw[hP.g k z] at e;exact zN e) (R.gs k st e),dr,os.trans R.os⟩
 ·rcases maP hp with hp|hp
  ·obtain⟨h1,h2⟩:=BC.mp hp;exact⟨h2,λz=>hP.l (z▸h1),(hn _ h1).2.2⟩
  ·obtain⟨h1,h2⟩:=mfP hp;exact⟨kp _ _ (of_decide_eq_true h2) (N p h1).1,(N p h1).2⟩
 ·rw[List.map_append];refine bj.mpr ⟨hP.nd.sublist (Le _),L.nd.sublist (bI _ Z1),λx hx y hy z=>?_⟩;refine AR (mmP hx) λp hp v=>?_;obtain rfl:=v;refine AR (mmP hy) λp' hp' v=>?_;obtain rfl:=v;exact of_decide_eq_true (mfP hp').2 (z▸(BC.mp hp).1)
 ·rcases maP hp with hp|hp
  ·have h1:=(BC.mp hp).1;exact⟨Yw _ hp,(hn _ h1).1,(hn _ h1).2.1⟩
  ·refine CV (L.xs p (Yt _ hp)) λx1 x2 x3=>?_;exact⟨kf p x1 (hP.x p hp),x2,x3⟩
theorem AU.re(R:AU prog w (c.pt P s.heap) m H s)(hP:WF P c)(I:In P s s'):AU prog w (c.pt P s'.heap) m H s':=R.re0 hP I.kp I.gs I.dr I.os
theorem AU.ga(R:AU prog w c m H s):AU prog w (c.g (s.gens)) m H s:=⟨R.fr,R.led,λU U h=>h,R.dr,R.os⟩
theorem AU.out{c':Cx}(Xl:AU prog w (c.pt P s.heap) m H s)(ex:Ex P s)(R:AU prog w ((c'.pt P s.heap).g s.gens) m' H' s')(hg:c'.gs=c.gs)(hd:c'.dr=c.dr)(ho:c'.os=c.os):IP P s s'/\AU prog w (c'.pt P s'.heap) m' H' s':=by
 refine AJ λGG hG=>?_;obtain⟨D,Yj,N,L⟩:=R.led;refine hG ?_;clear hG GG;have kp:∀q o,q∈P.q->s.heap.get? q=some o->s'.heap.get? q=some o:=λq o hq e=>N.get (L.xs (q,o) (Yw _ (BC.mpr ⟨hq,e⟩))).1;have e:FS P s'.heap=FS P s.heap:=by
  have key:∀l:List Zh,(∀q∈l,q∈P.q)->(l.filterMap λq=>(s'.heap.get? q).map λo=>(q,o))=l.filterMap λq=>(s.heap.get? q).map λo=>(q,o):=by
   intro l
   induction l with
   | nil=>intro _;rfl
   | cons q r ih =>
    intro hl;refine BB (ex.1 q (hl q (.head _))) λo e=>?_;rw[aA,aA,kp q o (hl q (.head _)) e,e,ih λx hx=>hl x (.tail _ hx)]
  exact key P.q λU h=>h
 refine⟨⟨kp,λk st U h=>R.gs k st h,R.dr,R.os.trans (ho.trans Xl.os.symm)⟩,?_⟩;unfold Cx.pt at R ⊢;exact e.symm▸⟨R.fr,⟨D,Yj,N,L⟩,λk st h=>R.gs k st (Xl.gs k st (hg▸h)),R.dr,R.os⟩
theorem AU.swap{gL:Zh}{obL:dK}{X':Bw}(R:AU prog w c m H s)(hX:(gL,obL)∈c.X)(hn:s.heap.Ns gL m')(ab:c.WM.objs.size<=gL)(hX':∀p∈X',p∈c.X/\p.1≠gL):∃oL,s.heap.get? c.L=some oL/\AU prog w (c.lx (gL) ((c.L,oL)::X')) m' H s:=by
 refine AJ λGG hG=>?_;refine O3 R.fr.ns λoL es ep hL hd hsk hf=>?_;obtain⟨D,Yj,N,L⟩:=R.led;refine CV (L.xs _ hX) λx1 x2 x3=>?_;refine hG ?_;clear hG GG;have nL:c.L∉Yj.map (·.1):=λq=>by refine AR (mmP q) λp hp e=>?_;exact(N p hp).2.1 e
 have bL:c.WM.get? c.L=Option.none:=by
  cases q:c.WM.get? c.L with
  | none=>rfl
  | some o=>exact absurd (Yy q) (Ng R.fr.above)
 have kp:∀p∈Yj,p.1≠gL->p∈(c.L,oL)::Yj.filter λp=>p.1≠gL:=λp hp q=>.tail _ (Zi.mpr ⟨hp,decide_eq_true q⟩);have nf:c.L∉(Yj.filter λp=>p.1≠gL).map (·.1):=λq=>nL ((Z1.map _).subset q)
 refine⟨oL,hL,⟨hn,R.fr.keep,ab⟩,⟨D,(c.L,oL)::Yj.filter λp=>p.1≠gL,λp hp=>?_,ncR ⟨nf,L.nd.sublist (bI _ Z1)⟩,λb o e=>(L.ob b o e).mono (λcl as z=>⟨rfl,λp hp q=>kp p hp (q▸x3 b cl as (z▸e))⟩) λp hp q=>kp p hp λz=>?_,L.dj,λp hp=>?_⟩,R.gs,R.dr,R.os⟩
 ·rcases mcP hp with rfl|hp
  ·exact⟨hL,λz=>nL ((show c.L=gL from z)▸key x1),bL⟩
  ·refine Am (mfP hp) λh1 h2=>?_;exact⟨(N p h1).1,of_decide_eq_true h2,(N p h1).2.2⟩
 ·exact zN (x2▸z▸q▸e)
 ·rcases mcP hp with rfl|hp
  ·exact⟨.head _,L.none nL bL,λa cl as e z=>nL (show c.L∈_ from(show D a=c.L from z)▸L.dkey e)⟩
  ·refine Am (hX' p hp) λh1 h2=>?_;refine CV (L.xs p h1) λy1 y2 y3=>?_;exact⟨kp p y1 h2,y2,y3⟩
theorem AU.adopt{S:Zh}{ob:dK}{o:O}(R:AU prog w (c.x ((S,ob)::c.X)) m H s)(hX:∀p∈c.X,p.1≠S)(h:OB prog w o ob):AU prog w c m (H.put S o) s/\H S=none:=by
 refine AJ λGG hG=>?_;obtain⟨D,Yj,N,L⟩:=R.led;refine CV (L.xs _ (.head _)) λx1 x2 x3=>?_;refine hG ?_;clear hG GG;exact⟨⟨R.fr,⟨D,Yj,N,(L.dropX λp hp=>.tail _ hp).wr L.nd (λp hp U=>hp) ⟨ob,x1,h⟩ x3 hX⟩,R.gs,R.dr,R.os⟩,x2⟩
end
noncomputable abbrev Ai:Nat:=1226
structure Tx(prog:Y8)(w:Y0)(s s':Yq):Prop where
 kp:∀b o,b≠Ai->s.heap.get? b=some o->s'.heap.get? b=some o
 tx:∃o,s'.heap.get? Ai=some o/\OB prog w .txt o
 gs:∀(k:Nat) (st:aP),s.gens[k]?=some st->s'.gens[k]?=some st
 dr:Zs s'.gens
 os:s'.os=s.os
section
variable{prog:Y8}{w:Y0}{c:Cx}{m:Zf->Option Yr}{H:MH}{s s':Yq}
theorem AU.txO(R:AU prog w c m H s)(ht:H Ai=some .txt):(∃o,s.heap.get? Ai=some o/\OB prog w .txt o)/\c.L≠Ai/\(∀p∈c.X,p.1≠Ai)/\c.WM.get? Ai=none:=by
 refine AJ λGG hG=>?_;obtain⟨D,Yj,N,L⟩:=R.led;refine AR ((L.ob _ _ ht).pl rfl) λob h1 h2=>?_;refine hG ?_;exact⟨⟨ob,(N _ h1).1,h2⟩,λe=>(N _ h1).2.1 e.symm,(λp hp e=>by have:=(L.xs p hp).2.1;exact zS (ht▸e▸this)),(N _ h1).2.2⟩
theorem Tx.refl(R:AU prog w c m H s)(ht:H Ai=some .txt):Tx prog w s s:=⟨λU U U e=>e,(R.txO ht).1,λU U e=>e,R.dr,rfl⟩
theorem Tx.trans{s'':Yq}(h:Tx prog w s s')(k:Tx prog w s' s''):Tx prog w s s'' :=
 ⟨λb o n e=>k.kp b o n (h.kp b o n e),k.tx,λx st e=>k.gs x st (h.gs x st e),k.dr,k.os.trans h.os⟩
theorem Tx.none(h:Tx prog w s s'){q:Zh}(e:s'.heap.get? q=none):s.heap.get? q=none:=by
 cases z:s.heap.get? q with
 | none=>rfl
 | some o =>
  by_cases hq:q=Ai
  ·obtain⟨o',e',U⟩:=h.tx;rw[hq,e'] at e;cases e
  ·rw[h.kp q o hq z] at e;cases e
theorem AU.tx(R:AU prog w c m H s)(ht:H Ai=some .txt)(t:Tx prog w s s'):AU prog w c m H s':=by
 refine AJ λGG hG=>?_;obtain⟨D,Yj,N,L⟩:=R.led;refine IM (R.txO ht) λU hL hX h0=>?_;refine AR t.tx λo' e' ho'=>?_;refine hG ?_;clear hG GG;have kf:∀p∈Yj,p.1≠Ai->p∈(Ai,o')::Yj.filter λp=>decide (p.1≠Ai):=λp hp q=>.tail _ (Zi.mpr ⟨hp,decide_eq_true q⟩);have nf:Ai∉(Yj.filter λp=>decide (p.1≠Ai)).map (·.1):=λq=>by
  refine AR (mmP q) λp hp e=>?_;exact of_decide_eq_true (mfP hp).2 e
 have ob':∀a o,H a=some o->a≠Ai->OR prog w c.WM D ((Ai,o')::Yj.filter λp=>decide (p.1≠Ai)) a o:=λa o e na=>(L.ob a o e).mono (λcl as z=>⟨rfl,λp hp q=>kf p hp λy=>by
  have:=(L.dj a cl as (z▸e)).1;exact zS (ht▸y▸q▸this)⟩) λp hp q=>kf p hp λz=>na (q▸z)
 refine⟨⟨R.fr.ns.at' λo e=>t.kp _ o hL e,λb o e=>t.kp b o (λz=>by exact zN (h0▸z▸e)) (R.fr.keep b o e),R.fr.above⟩,⟨D,(Ai,o')::Yj.filter λp=>decide (p.1≠Ai),λp hp=>?_,ncR ⟨nf,L.nd.sublist (bI _ Z1)⟩,λa o e=>?_,L.dj,λp hp=>?_⟩,λk st e=>t.gs k st (R.gs k st e),t.dr,t.os.trans R.os⟩
 ·rcases mcP hp with rfl|hp
  ·exact⟨e',aL hL,h0⟩
  ·refine Am (mfP hp) λh1 h2=>?_;exact⟨t.kp _ _ (of_decide_eq_true h2) (N p h1).1,(N p h1).2⟩
 ·by_cases na:a=Ai
  ·subst na;obtain rfl:=Ys (ht.symm.trans e);exact .inr (.inr ⟨o',.head _,ho'⟩)
  ·exact ob' a o e na
 ·refine CV (L.xs p hp) λx1 x2 x3=>?_;exact⟨kf p x1 (hX p hp),x2,x3⟩
end
structure Wk(prog:Y8)(w:Y0)(A:Za)(I:Zh)(P:Pt)(n:Nat)(it:Nat->Int)(Fin:Yq->Prop)(St:Nat->Yq->Prop):Prop where
 frame:∀i s s',St i s->In P s s'->St i s'
 fin:∀i s,St i s->Fin s
 item:∀i (s:Yq) (Q:Option Yr->Yq->Prop) (E:Yr->Yq->Prop),i<n->St i s->Ex P s->(∀t s',St (i+1) s'->IP P s s'->Q (some (.int (it i) t)) s')->wpAny (model prog w) A (pyNext (.ref I)) Q E s
 done:∀(s:Yq) (Q:Option Yr->Yq->Prop) (E:Yr->Yq->Prop),St n s->Ex P s->(∀s',Fin s'->IP P s s'->Q none s')->wpAny (model prog w) A (pyNext (.ref I)) Q E s
theorem Wk.imp{prog:Y8}{w:Y0}{A:Za}{I:Zh}{P:Pt}{n:Nat}{it:Nat->Int}{Fin Fin':Yq->Prop}{St:Nat->Yq->Prop}(W:Wk prog w A I P n it Fin St)(h:∀s,Fin s->Fin' s):Wk prog w A I P n it Fin' St :=
 ⟨W.frame,λi s x=>h s (W.fin i s x),W.item,λs Q E a b q=>W.done s Q E a b λs' f o=>q s' (h s' f) o⟩
def Sf(prog:Y8)(w:Y0)(I:Zh)(St:Nat->Yq->Prop):Prop:=∀(A:Za) i s (Q:Yr->Yq->Prop) (E:Yr->Yq->Prop),St i s->Q (.ref I) s->wpAny (model prog w) A (pyIter (.ref I)) Q E s
section
variable{prog:Y8}{w:Y0}{P:Pt}{N:Nat}{Fin:Yq->Prop}{r₀:bh}
def Tk(prog:Y8)(w:Y0)(A:Za)(r₀:bh):Prop:=∀{E:Yr->Yq->Prop} {s:Yq} {a:Zh} {g n:Nat} {gs:aP} {P:Nat->Yq->Yq->Prop} {Y:Protocol} {Q:Option Yr->Yq->Prop},s.heap.NoLimit->s.heap.IsGen a g->s.gens[g]?=some gs ->
 gs.Goes (model prog w) A.in1 (λn WS r WO=>r=r₀/\P n WS WO) Y n (.send .none) (s.setGen g .running) ->
 (∀v WO gs',gs'.bare=true->Y (n-1) (s.setGen g .running) v WO (λr' s''=>match n with
  | 0=>False
  | m+1=>gs'.Goes (model prog w) A.in1 (λn WS r WO=>r=r₀/\P n WS WO) Y m r' s'')->Q (some v) (WO.setGen g gs')) ->
 (∀WO,P n (s.setGen g .running) WO->∀h',(∀b o,WO.heap.get? b=some o->h'.get? b=some o)->Q none {WO.setGen g .finished with heap:=h'})->wpAny (model prog w) A (pyNext (.ref a)) Q E s
theorem RY{prog:Y8}{w:Y0}{A:Za}(hh:A.handled=none)(hroom:A.depth<recursionLimit):Tk prog w A (.ok (.ret .none)):=λ{E s a g n gs P Y Q} hl hg hgs hgo hY hP=>by
 refine Yo (dp (aX (name:=eP "__next__") hg.typeIs slot_gen_next
  (aS slot_gen_next hg.typeIs entry_gen_next ?_ (args_gen_next _))))
 show wpAny _ _ (Builtin.Generator.genWake (.ref a) (.send .none)) _ _ s
 refine Yo (aU (wpAny_genNumber hg (Yo (wpAny_genState hgs ?_))));cases gs with
 | running=>exact hgo.elim
 | finished=>exact hgo.elim
 | _ =>
  refine Yo (wpAny_roomToWake hl hroom ?_);refine(wpAny_resumeQ hgs hgo (λx WO hx=>?_) (λv WO gs' hb hv=>?_):wpAny _ _ (.resume g (.send .none) [] _) _ _ s)
  ·refine Am hx λz hp=>?_;obtain rfl:=z;refine(Yo ?_:wpAny _ _ (newExc (.type "StopIteration") []>>=_) _ _ _);refine Yo (aM ?_ (by size_fits))
   refine Yo (m:=firstArgMember _ _) (d8 (a:=cU) (by first|rfl|(rfl)) ?_)
   refine aM ?_ (by size_fits)
   refine Yo (Yo (gw ?_));refine(show A.in1.handled=none from hh).symm▸wpAny_throw ?_
   refine Yo (bJ (T:="StopIteration") (b:=true) ⟨_,Y9 _ rfl,rfl⟩ gT ?_);exact Yv (hP WO hp _ λb o hb=>Yx _ (Yx _ hb))
  ·exact Yv ⟨v,rfl,Yv (hY v WO gs' hb hv)⟩
theorem RZ{prog:Y8}{w:Y0}{A:Za}(hh:A.handled=none)(hroom:A.depth<recursionLimit):Tk prog w A (.ok .next):=λhl hg hgs hgo hY hP=>wpAny_pyNext_genexpQ hh hl hroom hg hgs hgo hY hP
theorem Lf{s:Yq}{g:Nat}{x:aP}(h:Zs s.gens)(hx:x.bare=true):Zs (s.setGen g x).gens:=λy hy=>by
 rcases Array.mem_or_eq_of_mem_setIfInBounds (show y∈s.gens.setIfInBounds g x from hy) with h'|h'
 ·exact h y h'
 ·exact h'.symm▸hx
theorem Lg{s:Yq}{g k:Nat}{x:aP}(h:k≠g):(s.setGen g x).gens[k]?=s.gens[k]?:=Array.getElem?_setIfInBounds_ne (aL h)
theorem Tm{s:Yq}{g:Nat}{x y:aP}(h:s.gens[g]?=some y):(s.setGen g x).gens[g]?=some x:=by
 have:g<s.gens.size:=(Zb.mp h).1
 show(s.gens.setIfInBounds g x)[g]?=some x
 exact(Array.getElem?_setIfInBounds_self_of_lt this)
noncomputable abbrev Pt.add(P:Pt)(g:Nat):Pt:=⟨P.q,g::P.g⟩
theorem Pn{P:Pt}{g k:Nat}(h:k∉(P.add g).g):k≠g:=λz=>h (by exact z▸.head _)
theorem In.run{P:Pt}{s s':Yq}{g:Nat}{x:aP}(hx:x.bare=true)(h:In P s s'):In (P.add g) s (s'.setGen g x) :=
 ⟨h.e0,h.kp,λk st hk e=>by exact(Lg (Pn hk)).symm▸h.gs k st (λz=>hk (.tail _ z)) e,Lf h.dr hx,h.os⟩
theorem In.add{P:Pt}{s s':Yq}{g:Nat}(h:In P s s'):In (P.add g) s s':=⟨h.e0,h.kp,λk st hk e=>h.gs k st (λz=>hk (.tail _ z)) e,h.dr,h.os⟩
theorem IP.of_run{P:Pt}{s s':Yq}{g:Nat}{x y:aP}(hy:y.bare=true)(hg:g∉P.g)(h:IP (P.add g) (s.setGen g x) s'):IP P s (s'.setGen g y) :=
 ⟨h.kp,λk st hk e=>by
  have ne:k≠g:=λz=>hg (z▸hk);rw[Lg ne];exact h.gs k st (.tail _ hk) (by rw[Lg ne];exact e),Lf h.dr hy,h.os⟩
def gR(P:Pt)(Fin:Yq->Prop)(r₀:bh):GenEnd:=λn WS r WO=>r=r₀/\(n=0/\IP P WS WO/\Fin WO)
def gY(P:Pt)(it:Nat->Int)(N:Nat)(K:Yq->Prop):Protocol:=λm WS v s kap=>(∃t,v=.int (it (N-1-m)) t)/\IP P WS s/\K s/\∀s',In P s s'->kap (.send .none) s'
def gK(I:Zh)(g:Nat)(s:Yq):Prop:=s.heap.IsGen I g/\s.heap.NoLimit
section
variable{A:Za}{I:Zh}{g:Nat}{it:Nat->Int}
theorem gK.kp{s s':Yq}(h:gK I g s)(hI:I∉P.q)(hC:cStatics∉P.q)(k:In P s s'):gK I g s':=by
 refine Am h λz y=>?_;refine NB z λo n q h1 h2=>?_;refine AR y λmc h3 h4=>?_;exact⟨⟨o,n,q,k.kp _ _ hI h1,h2⟩,mc,h3.at' λo e=>k.kp _ o hC e,h4⟩
theorem Wk.gen(L:Tk prog w A r₀)(hI:I∉P.q)(hC:cStatics∉P.q)(hg:g∉P.g)(hF:∀s s',Fin s->In (P.add g) s s'->Fin s') :
 Wk prog w A I P N it Fin (λi s=>gK I g s/\Fin s/\∃gs,s.gens[g]?=some gs/\∀s',In (P.add g) s s'->gs.Goes (model prog w) A.in1 (gR (P.add g) Fin r₀) (gY (P.add g) it N (λs=>gK I g s/\Fin s)) (N-i) (.send .none) s') where
 frame:=λi s s' ⟨h1,hf,gs,h2,h3⟩ k=>⟨h1.kp hI hC k,hF s s' hf k.add,gs,k.gs g gs hg h2,λs'' k'=>h3 s'' (k.add.trans k')⟩
 fin:=λi s h=>h.2.1
 item:=λi s Q E hi ⟨h1,hf,gs,h2,h3⟩ ex q=>by
  refine L (P:=λn WS WO=>n=0/\IP (P.add g) WS WO/\Fin WO) h1.2 h1.1 h2 (h3 _ ((In.refl ex).run rfl)) (λv WO gs' hb hv=>?_) λWO hp=>absurd hp.1 (Nat.sub_ne_zero_of_lt hi);refine IM hv λz ho u hc=>?_;refine BB z λt r=>?_;obtain rfl:=r;refine Am u λhk hf'=>?_;obtain⟨m,hm⟩:∃m,N-i=m+1:=⟨N-i-1,(g0 (Nat.sub_pos_of_lt hi)).symm⟩;have e1:N-1-(N-i-1)=i:=by exact(Nat.sub_right_comm N i 1).symm▸Nat.sub_sub_self (gJ hi)
  refine e1.symm▸?_;have e2:=ho.gs g .running (.head _) (Tm h2);have XQ:Ex P WO:=ho.ex ((In.refl ex).run (g:=g) (x:=.running) rfl).ex;refine q t _ ⟨⟨hk.1,hk.2⟩,hF WO _ hf' ((In.refl XQ).run hb),gs',Tm e2,λs' k=>?_⟩ (ho.of_run hb hg);have:=hc s' ⟨k.e0,k.kp,λx st hx e=>k.gs x st hx (by exact(Lg (Pn hx)).symm▸e),k.dr,k.os⟩
  replace this:=hm▸this;exact(show N-(i+1)=m by rw[<- iT,hm];rfl).symm▸this
 done:=λs Q E ⟨h1,hf0,gs,h2,h3⟩ ex q=>by
  rw[Nat.sub_self] at h3;refine L (P:=λn WS WO=>n=0/\IP (P.add g) WS WO/\Fin WO) h1.2 h1.1 h2 (h3 _ ((In.refl ex).run rfl)) (λv WO gs' hb hv=>?_) λWO hp h' hk=>?_
  ·refine IM hv λU ho U hc=>?_;exact(hc WO (In.refl (ho.ex ((In.refl ex).run (g:=g) (x:=.running) rfl).ex))).elim
  ·refine CV hp λU ho hf=>?_;have XQ:Ex P WO:=ho.ex ((In.refl ex).run (g:=g) (x:=.running) rfl).ex;have o1:=ho.of_run (y:=.finished) rfl hg;refine q _ (hF WO _ hf ⟨λx hx=>BB (XQ.1 x hx) λo e=>⟨o,hk _ _ e⟩,λb o U e=>hk b o e,λk st hx e=>?_,Lf ho.dr rfl,rfl⟩) ⟨λx o hx e=>hk _ _ (o1.kp x o hx e),o1.gs,o1.dr,o1.os⟩;exact(Lg (Pn hx)).symm▸e
end
inductive LI (prog:Y8) (w:Y0) (c:Cx) (P:Pt) (WP:MH) (F:List Nat) (sf n:Nat) (r:List Int) (s:Yq):Prop
 | mk (m:_) (H:_) (i:_) (T:_) (p0:AU prog w (c.pt P s.heap) m H s) (p1:Bh (PU sf i T.addr) m) (p2:AG H T) (p3:sz T<=n) (p4:sc T<=2) (p5:An WP H F) (p6:(∀x∈fp T,x∈F\/WP x=none)) (p7:∀d,T.den d≠none<->d∈r):LI prog w c P WP F sf n r s
section
variable{k:Ck}{K:aC}{d n:Nat}{B:Za}{env:eE}{sc':ZR}{c:Cx}{WP:MH}{F:List Nat}{sf:Nat}{fs:List Frame}{ds₀:List Int}{K':Yq->Prop}{tx yx:ZJ}{yp ep:ef}{rs:List af}
theorem AU.swapGs{c':Cx}{m:Zf->Option Yr}{H:MH}{s:Yq}(R:AU prog w (c'.pt P s.heap) m H s):AU prog w ((c'.pt P s.heap).g s.gens) m H s:=R.ga
theorem Tn(hev:∀c',c'.WM=c.WM->c'.L=c.L->Ev prog w K k (call d) (B.over (.whileLoop tx (.Expr (.Yield (some yx) yp) ep::rs) [] env) fs) c' env [] sc')
 (hco:env.scope.isCoroutine=false)(hin:interactive env=false)(o1:Oc k sc' Jk tx=true)(o2:CM k sc' JG yx=true)(o3:Gh k sc' NA rs=true)(con:∀T,sz T<=n->FQ d T)(hP:WF P c)(hasc:Gw ds₀)
 (hfs:splitAtGen fs=none)(hfg:fs.any Frame.guarded=false)(hK:∀s m H,AU prog w (c.pt P s.heap) m H s->An WP H F->K' s)
 (hleaf:∀WS s,IP P WS s->LI prog w c P WP F sf n [] s->Seg (model prog w) B (gR P Fin r₀) (gY P (λi=>ds₀.getD i 0) ds₀.length K') 0 WS (.whileLoop tx (.Expr (.Yield (some yx) yp) ep::rs) [] env) (leafOf (.ok .next)) fs s) :
 ∀(r pre:List Int),ds₀=pre++r->∀WS s,IP P WS s->Ex P s->LI prog w c P WP F sf n r s ->
  Seg (model prog w) B (gR P Fin r₀) (gY P (λi=>ds₀.getD i 0) ds₀.length K') r.length WS (.whileLoop tx (.Expr (.Yield (some yx) yp) ep::rs) [] env) ((model prog w).den (.whileLoop tx (.Expr (.Yield (some yx) yp) ep::rs) [] env)) fs s:=by
 intro r
 induction r with
 | nil =>
  intro pre e WS s ho ex ⟨m,H,i,T,R,l,g,hn,hs,f,hf,hd⟩;refine seg_whileLoop ?_;refine Pe (Q:=λb H'=>H'=H/\b=false) (KC Jk _ _ _ _ _ _ _ (hev ((c.pt P s.heap).g s.gens) rfl rfl) l _ _ _ _ _ o1 R.swapGs (OW (con T hn) g λb hb=>⟨rfl,?_⟩)) λb H' s' R' u=>Am u λe1 e2=>?_
  ·cases b with
   | false=>rfl
   | true=>refine BB (hb.mp rfl) λx hx=>?_;exact(Zn ((hd x).mp hx)).elim
  ·subst e1;subst e2;refine(if_neg Zg).symm▸seg_execs_nil ?_;refine Am (R.out ex (c':=c) R' rfl rfl rfl) λo R''=>?_;exact hleaf WS s' (ho.trans o) ⟨m,_,i,T,R'',l,g,hn,hs,f,hf,hd⟩
 | cons x r ih =>
  intro pre e WS s ho ex ⟨m,H,i,T,R,l,g,hn,hs,f,hf,hd⟩;have ha:Gw (x::r):=(e▸hasc:Gw (pre++(x::r))).sublist (List.sublist_append_right _ _);have hx:Hd T.den x:=⟨(hd x).mpr (.head _),λy hy=>ha.hd ((hd y).mp hy)⟩;refine seg_whileLoop ?_;refine Pe (Q:=λb H'=>H'=H/\b=true) (KC Jk _ _ _ _ _ _ _ (hev ((c.pt P s.heap).g s.gens) rfl rfl) l _ _ _ _ _ o1 R.swapGs (OW (con T hn) g λb hb=>⟨rfl,hb.mpr hx.act⟩)) λb H' s' R' u=>Am u λe1 e2=>?_;subst e1;subst e2;refine(if_pos rfl).symm▸?_;refine Am (R.out ex (c':=c) R' rfl rfl rfl) λoa Ra=>?_;have O2:=oa.ex ex;refine eX (seg_Expr_Yield hfs rfl hfg ?_ hco hin);refine Fc (Q:=λv H2=>v=V.int x/\Qt H' H2 (fp T)) (Cc JG _ _ _ _ _ _ _ (hev {c.pt P s'.heap with gs:=s'.gens} rfl rfl) l _ _ _ _ _ o2 Ra.swapGs (RL (con T hn) g hx λH2 wq=>⟨rfl,wq⟩)) λv y H2 s2 rv R2 u=>Am u λe1 wq=>?_
  subst e1;cases rv with
  | int _ t =>
   intro kap hkap;refine Am (Ra.out O2 (c':=c) R2 rfl rfl rfl) λob Rb=>?_;have g2:AG H2 T:=⟨wq.rp _ g.rep,g.ok,g.nd⟩;have f2:=f.more wq.fr hf;refine⟨⟨t,?_⟩,(ho.trans oa).trans ob,hK _ _ _ Rb f2,λs3 I3=>hkap .none s3 ?_⟩
   ·have:ds₀.length-1-r.length=pre.length:=by rw[e,bS,aI,<- ai];exact iD _ _
    rw[this,e];simp
   ·have R3:=Rb.re hP I3;refine seg_wrap (th (TM (Q:=λfl ρ H4=>fl=Fl.next/\∃i' T',ρ=PU sf i' T'.addr/\AG H4 T'/\T'.den=frm T.den (x+1)/\sz T'<=n/\sc T'<=2/\An H2 H4 (fp T)/\∀y∈fp T',y∈fp T\/H2 y=none) (hev ((c.pt P s3.heap).g s3.gens) rfl rfl) (λx U=>JR x) l o3 R3.swapGs (So con g2 hn hs hx λi' T' H4 g4 d4 n4 s4 f4 nw4=>⟨rfl,i',T',rfl,g4,d4,n4,s4,f4,nw4⟩)) λfl s4 hps=>?_);refine AJ λGG hG=>?_;obtain⟨fl',ρ4,m4,H4,rf,l4,R4,e4,i',T',rfl,g4,d4,n4,s4',f4,nw4⟩:=hps;refine hG ?_;subst e4;refine AJ λGG hG=>?_;cases rf
    refine Am (R3.out I3.ex (c':=c) R4 rfl rfl rfl) λoc Rc=>?_;refine hG ?_;refine fR rfl (ih (pre++[x]) (by rw[e,bk];rfl) s3 s4 oc (oc.ex I3.ex) ⟨m4,H4,i',T',Rc,l4,g4,n4,s4',f2.more f4 hf,λy hy=>(nw4 y hy).elim (hf y) λz=>.inr (f2.dm y z),λy=>?_⟩)
    refine d4.symm▸?_;unfold frm;have h1:=(Z5.mp ha).1;constructor
    ·intro h;split at h
     ·rename_i le;rcases mcP ((hd y).mp h) with rfl|h
      ·exact absurd ‹(_:Int)+1<=_› (a5 _)
      ·exact h
     ·exact absurd rfl h
    ·intro h;have:=h1 y h;rw[if_pos (by assumption)]
     exact(hd y).mpr (.tail _ h)
end
end
section
variable{prog:Y8}{w:Y0}{A:Za}
structure VQ(k:Ck)(K:aC)(f:Nat)(fd:ZW)(body:List af):Prop where
 at_:∃oc od osl,K.lookup f=some ⟨oc,od,.func fd,osl⟩
 code:codeIn K fd.code fd.qualname=true
 gl:fd.globals=mainGlobals
 bi:fd.builtins=builtinsNs
 co:fd.scope.isCoroutine=false
 gen:fd.scope.isGenerator=true
 kind:fd.scope.kind=eT
 p1:fd.params.posonlyargs=[]
 p2:fd.params.kwonlyargs=[]
 p3:fd.params.vararg=none
 p4:fd.params.kwarg=none
 pn:fd.params.args.map (·.arg)=[AA].map nm
 df:fd.defaults=.none
 bo:fd.body=.stmts body
 nocell:∀x∈fd.scope.names,x.2≠aj
 loc:fd.scope.names.lookup (nm AA)=some .local
 sh:∃a b tx yx yp ep rs wp,body=[a,b,.While tx (.Expr (.Yield (some yx) yp) ep::rs) [] wp]/\U4 k fd.scope (.asg US (.int 0)) a=true/\U4 k fd.scope (.asg UH (.var AA)) b=true/\Oc k fd.scope Jk tx=true/\CM k fd.scope JG yx=true/\Gh k fd.scope NA rs=true
inductive MQ (prog:Y8) (w:Y0) (c:Cx) (m:Zf->Option Yr) (P:Pt) (H:MH) (F:List Nat) (s:Yq):Prop
 | mk (H':_) (p0:AU prog w (c.pt P s.heap) m H' s) (p1:An H H' F):MQ prog w c m P H F s
inductive ItI (prog:Y8) (w:Y0) (bd:Nat) (c:Cx) (m:Zf->Option Yr) (H:MH) (F:List Nat) (ds:List Int) (I:Zh) (s:Yq):Prop
 | mk (H':_) (p0:AU prog w c m H' s) (p1:An H H' F) (p2:∀s',Tx prog w s s'->∀(A:Za) (P:Pt),A.handled=none->8*A.depth+A.units+bd<=7900->P.q.Nodup->(∀q∈P.q,s'.heap.get? q=none)->(∀g∈P.g,s'.gens.size<=g)->    ∃St,Wk prog w A I P ds.length (λi=>ds.getD i 0) (MQ prog w c m P H F) St/\Sf prog w I St/\St 0 s'):ItI prog w bd c m H F ds I s
def ItG(prog:Y8)(w:Y0)(bd:Nat)(c:Cx)(m:Zf->Option Yr)(H:MH)(F:List Nat)(ds:List Int)(I:Zh)(s:Yq):Prop:=(∃g,s.heap.IsGen I g)/\ItI prog w bd c m H F ds I s
def KH(prog:Y8)(w:Y0)(bd:Nat)(c:Cx)(m:Zf->Option Yr)(H:MH)(F:List Nat)(ds:List Int)(y:Yr)(s:Yq):Prop :=
 (∃l H',y=.ref l/\AU prog w c m H' s/\An H H' F/\H' l=some (.list (ds.map .int)))\/∃I,y=.ref I/\ItG prog w bd c m H F ds I s
theorem A2.kr1{a:Nat}{binds:List (Zf×Yr)}(h:A2 KR [(AA,.ref a)] binds):binds=[(nm AA,.ref a)]:=by
 cases h with
 | cons h1 h2 =>
  cases h2
  rename_i p;obtain⟨n,v⟩:=p;obtain⟨e1,e2⟩:=h1;cases e2
  exact congrArg (λn=>[(n,dY a)]) e1
theorem Ha{h:aV}{x:Zh}(e:h.objs.size<=x):h.get? x=none:=by
 cases q:h.get? x with
 | none=>rfl
 | some o=>exact absurd (Yy q) (Ng e)
theorem GF{P:Pt}{h:aV}(hq:∀q∈P.q,h.get? q=none):FS P h=[]:=by
 cases e:FS P h with
 | nil=>rfl
 | cons p r =>
  refine Am (BC.mp (show p∈FS P h by rw[e];exact .head _)) λh1 h2=>?_
  exact nS (hq _ h1) h2
section
variable{k:Ck}{K:aC}{d n:Nat}{c:Cx}{m:Zf->Option Yr}{H:MH}{s:Yq}{f:Nat}{fd:ZW}{body:List af}{T:Tr}{ds:List Int}{R:bh->Yq->Prop}
theorem AU.lt(Rl:AU prog w c m H s):c.L<s.heap.objs.size/\(∀p∈c.X,p.1<s.heap.objs.size/\p.1≠c.L):=by
 refine BB Rl.lo λoL hL=>?_;obtain⟨D,Yj,N,L⟩:=Rl.led;exact⟨Yy hL,λp hp=>⟨Yy (N p (L.xs p hp).1).1,(N p (L.xs p hp).1).2.1⟩⟩
abbrev GSh(k:Ck)(sc:ZR)(body:List af):Prop:=∃a b tx yx yp ep rs wp,body=[a,b,.While tx (.Expr (.Yield (some yx) yp) ep::rs) [] wp]/\U4 k sc (.asg US (.int 0)) a=true/\U4 k sc (.asg UH (.var AA)) b=true/\Oc k sc Jk tx=true/\CM k sc JG yx=true/\Gh k sc NA rs=true
theorem VS{c:Cx}{env:eE}{sc0:ZR}{P:Pt}{Fin K':Yq->Prop}{m0:Zf->Option Yr}(mkEv:∀B':Za,B'.handled=none->8*B'.depth+B'.units+24*d+12<=7900->∀c',c'.WM=c.WM->c'.L=c.L->Ev prog w K k (call d) B' c' env [] sc0)(hco:env.scope.isCoroutine=false)
 (hA:A.handled=none)(hd2:8*(A.depth+1)+(A.units+3)+24*d+12<=7900)(sh:GSh k sc0 body)(con:∀T,sz T<=n->FQ d T)(pok:WF P c)(ex:Ex P s)(R:AU prog w (c.pt P s.heap) m0 H s)(l:Bh [(AA,.ref T.addr)] m0)(g:AG H T)(hn:sz T<=n)(hs:sc T<=2)(hds:∀x,T.den x≠none<->x∈ds)(hasc:Gw ds)
 (hK:∀x m' H',AU prog w (c.pt P x.heap) m' H' x->An H H' (fp T)->K' x/\Fin x) :
 Seg (model prog w) A (gR P Fin (.ok (.ret .none))) (gY P (λi=>ds.getD i 0) ds.length K') ds.length s (.func body env) ((model prog w).den (.func body env)) [] s:=by
 refine AJ λGG hG=>?_;obtain⟨a,b,tx',yx,yp,ep,rs,wp,rfl,ca,cb,ct,cy,cr⟩:=sh;refine hG ?_;have ev1:=mkEv (A.over (.func [a,b,.While tx' (.Expr (.Yield (some yx) yp) ep::rs) [] wp] env) []) hA hd2 ((c.pt P s.heap).g s.gens) rfl rfl;refine seg_func (eX (seg_wrap (th (JR (.asg US (.int 0)) _ _ _ _ _ ev1 _ _ l _ _ _ (λfl ρ' H'=>fl=.next/\ρ'=[(AA,.ref T.addr),(US,.int 0)]/\H'=H) _ ca R.ga ⟨rfl,rfl,rfl⟩) λfl s5 hps=>?_)));refine AJ λGG hG=>?_;obtain⟨U,U,m5,H,rf,l5,R7,rfl,rfl,rfl⟩:=hps;cases rf
 refine hG ?_;refine eX (seg_wrap (th (JR (.asg UH (.var AA)) _ _ _ _ _ ev1 _ _ l5 _ _ _ (λfl ρ' H'=>fl=.next/\ρ'=PU T.addr 0 T.addr/\H'=H) _ cb R7 ⟨rfl,rfl,rfl⟩) λfl s6 hps=>?_));refine AJ λGG hG=>?_;obtain⟨U,U,m6,H,rf,l6,R8,rfl,rfl,rfl⟩:=hps;cases rf
 clear ev1 R7 l5;obtain⟨oo,R9⟩:=R.out (P:=P) ex (c':=c) R8 rfl rfl rfl;refine hG ?_;refine eX (seg_While λp=>?_);exact Tn (K:=K) (c:=c) (P:=P) (F:=fp T) (sf:=T.addr) (n:=n) (ds₀:=ds) (λc' h1 h2=>mkEv _ (by exact hA) (by exact hd2) c' h1 h2) hco (GC (mkEv A hA (dk (x:=24*d+12) hd2) c rfl rfl).O) ct cy cr con pok hasc rfl rfl (λx m' H' R' f'=>(hK x m' H' R' f').1) (λs0 x ho' ⟨m',H',_,_,R',_,_,_,_,f',_,_⟩ =>
  seg_leaf (.ok .next) (seg_end (.ok (.ret .none)) ⟨rfl,rfl,ho',(hK x m' H' R' f').2⟩)) ds [] rfl s s6 oo (oo.ex ex) ⟨m6,_,0,T,R9,l6,g,hn,hs,.refl,λx hx=>.inl hx,hds⟩
theorem To{F I gn:Nat}{obF obI:dK}{m0:Zf->Option Yr}{s3:Yq}{env:eE}{sc0:ZR}(con:∀T,sz T<=n->FQ d T)(Rl:AU prog w c m H s)(B:Base k K c.WM)(mkEv:∀B':Za,B'.handled=none->8*B'.depth+B'.units+24*d+12<=7900->∀c',c'.WM=c.WM->c'.L=F->Ev prog w K k (call d) B' c' env [] sc0)(hco:env.scope.isCoroutine=false)(sh:GSh k sc0 body)
 (hIs:∀h':aV,h'.get? I=some obI->h'.IsGen I gn)(k3:∀b o,s.heap.get? b=some o->s3.heap.get? b=some o)(gI:s3.heap.get? I=some obI)(gF:s3.heap.get? F=some obF)(fF:s.heap.get? F=none)(fI:s.heap.get? I=none)(nIF:I≠F)(hns:s3.heap.Ns F m0)(hgn:gn=s.gens.size)(e3g:s3.gens=s.gens.push (.fresh (.func body env)))(e3o:s3.os=s.os)
 (hF:c.WM.objs.size<=F)(l:Bh [(AA,.ref T.addr)] m0)(g:AG H T)(hn:sz T<=n)(hs:sc T<=2)(hds:∀x,T.den x≠none<->x∈ds)(hasc:Gw ds)(ht:H Ai=some .txt):ItG prog w (24*(d+2)) c m H (fp T) ds I s3:=by
 refine AJ λGG hG=>?_;refine BB Rl.lo λoL hL=>?_;obtain⟨D,Yj,N,L⟩:=Rl.led;refine hG ?_;clear hG GG;have hb0:∀{x},s.heap.get? x=none->c.WM.get? x=none:=λ{x} e=>by
  cases q:c.WM.get? x with
  | none=>rfl
  | some o=>exact sN (Rl.fr.keep _ _ q) e
 have nn:∀{x},s.heap.get? x=none->x∉Yj.map (·.1):=λ{x} e z=>by
  refine AR (mmP z) λp hp y=>?_;obtain rfl:=y;exact sN ((N p hp).1) e
 have nL:∀{x},s.heap.get? x=none->x≠c.L:=λe z=>by exact zS (hL▸z▸e)
 have R3:AU prog w (c.x ((I,obI)::(F,obF)::c.X)) m H s3 :=
  ⟨Rl.fr.keeps k3,⟨D,_,C9 ⟨gI,nL fI,hb0 fI⟩ (C9 ⟨gF,nL fF,hb0 fF⟩ λp hp=>⟨k3 _ _ (N p hp).1,(N p hp).2⟩),(L.addX (x:=F) (ob:=obF) (nn fF) (hb0 fF)).addX (x:=I) (ob:=obI) (λz=>(mcP z).elim nIF (nn fI)) (hb0 fI)⟩,λx st e=>(by
   refine e3g.symm▸?_;have:=Rl.gs x st e;have lt:=(Zb.mp this).1;exact(fe lt).symm▸(ZD lt)▸this),by exact e3g.symm▸Rl.dr.push rfl,e3o.trans Rl.os⟩
 refine⟨⟨gn,hIs _ gI⟩,H,R3.dropX' λp hp=>.tail _ (.tail _ hp),.refl,λs3' tx A' P hA' hb nd hq hg=>?_⟩;refine IM (R3.txO ht) λU tL tX U=>?_;have tI:=tX _ (.head _);have tF:=tX _ (.tail _ (.head _));have ge0:s3'.gens[gn]?=some (.fresh (.func body env)):=tx.gs _ _ (by exact e3g▸hgn▸fJ▸rfl)
 replace gI:=tx.kp _ _ tI gI;replace gF:=tx.kp _ _ tF gF;replace hns:=hns.at' λo e=>tx.kp _ o tF e;have gL:=tx.kp _ _ tL (k3 _ _ hL);replace R3:=R3.tx ht tx;have cX:∀p∈c.X,s3'.heap.get? p.1=some p.2/\p.1≠c.L/\p.1≠F:=λp hp=>have z:=N p (L.xs p hp).1;⟨tx.kp _ _ (tX p (.tail _ (.tail _ hp))) (k3 _ _ z.1),z.2.1,λe=>by exact zS (z.1▸e▸fF)⟩
 clear k3 tX tx nn;have nq:∀{x o},s3'.heap.get? x=some o->x∉P.q:=λe z=>by exact nS (hq _ z) e
 have hLim:s3'.heap.NoLimit:=B.lim.keeps λb o e=>R3.fr.keep b o e;refine AR (id hLim) λU y U=>?_;refine NB y λoC U U hC U=>?_;have gsz:gn<s3'.gens.size:=(Zb.mp ge0).1;have hgP:gn∉P.g:=λz=>ZE _ (ZB gsz (hg _ z));have cg:∀x∈(P.add gn).g,c.gs[x]?=none:=λx hx=>by
  have ge:gn<=x:=(mcP hx).elim (λz=>Zo z.symm) λz=>Yn (ZY gsz) (hg _ z);cases q:c.gs[x]? with
  | none=>rfl
  | some st=>exact absurd (ZB (Zb.mp (Rl.gs x st q)).1 (hgn▸ge)) (ZE _)
 have pok:∀L' X',L'∉P.q->(∀p∈X',p.1∉P.q)->WF (P.add gn) (c.lx (L') (X')):=λL' X' h1 h2=>⟨nd,h2,h1,cg⟩;have cXq:∀p∈c.X,p.1∉P.q:=λp hp=>nq (cX p hp).1;refine⟨_,Wk.gen (g:=gn) (r₀:=.ok (.ret .none)) (RY hA' (dl hb)) (nq gI) (nq hC) hgP (λx x' ⟨H',h1,h2⟩ I'=>⟨H',AU.re (P:=P.add gn) h1 (pok c.L c.X (nq gL) cXq) I',h2⟩),λA5 i5 s5 Q5 E5 h5 q5=>cI h5.1.1 q5,⟨hIs _ gI,hLim⟩,⟨H,by
  show AU prog w (c.x (FS P s3'.heap++c.X)) m H s3'
  exact(GF hq).symm▸R3.dropX' λp hp=>.tail _ (.tail _ hp),.refl⟩,.fresh (.func body env),ge0,λs4 I4=>⟨rfl,?_⟩⟩
 rw[iH];have R4:AU prog w ((c.x ((I,obI)::(F,obF)::c.X)).pt P s4.heap) m H s4:=by
  refine AU.re (P:=P.add gn) (s:=s3') ?_ (pok _ _ (nq gL) (C9 (nq gI) (C9 (nq gF) cXq))) I4
  show AU prog w (c.x (FS P s3'.heap++_)) m H s3'
  exact(GF hq).symm▸R3
 refine AR (R4.swap (gL:=F) (obL:=obF) (m':=m0) (X':=FS P s4.heap++((I,obI)::c.X)) (Yt _ (.tail _ (.head _))) (hns.at' λo e=>I4.kp _ _ (nq gF) e) hF λp hp=>(maP hp).elim (λhp=>⟨Yw _ hp,λz=>nq gF (z▸(BC.mp hp).1)⟩)
  λhp=>C9 (P:=λp=>p∈FS P s4.heap++(I,obI)::(F,obF)::c.X/\p.1≠F) ⟨Yt _ (.head _),nIF⟩ (λp hp=>⟨Yt _ (.tail _ (.tail _ hp)),(cX p hp).2.2⟩) p hp) λoL' eL' R5=>?_
 have eL':s4.heap.get? c.L=some oL':=eL';replace eL':=(I4.kp _ _ (nq gL) gL).symm.trans eL';obtain rfl:=Ys eL';clear R4;refine VS (c:=(c.lx (F) ((c.L,oL)::(I,obI)::c.X))) (P:=P.add gn) mkEv hco hA' (dj hb) sh con (pok _ _ (nq gF) (C9 (nq gL) (C9 (nq gI) cXq))) I4.ex (R5.dropX' λp hp=>?_) l g hn hs hds hasc λx m' H' R' f'=>?_
 ·exact(maP hp).elim (λhp=>.tail _ (Yw _ hp)) λhp=>(mcP hp).elim (λe=>e▸.head _) λhp=>(mcP hp).elim (λe=>e▸.tail _ (Yt _ (.head _))) λhp=>.tail _ (Yt _ (.tail _ hp))
 ·obtain⟨D',Yl,N',L'⟩:=R'.led;have mL:=(L'.xs (c.L,oL) (Yt _ (.head _))).1;have mI:=(L'.xs (I,obI) (Yt _ (.tail _ (.head _)))).1;obtain⟨o',U,R''⟩:=R'.swap (gL:=c.L) (obL:=oL) (m':=m) (X':=FS P x.heap++c.X) (Yt _ (.head _)) (Rl.fr.ns.at' λo e=>by obtain rfl:=Ys (hL.symm.trans e);exact N'.get mL) Rl.fr.above λp hp=>(maP hp).elim (λhp=>⟨Yw _ hp,λz=>nq gL (z▸(BC.mp hp).1)⟩) λhp=>⟨Yt _ (.tail _ (.tail _ hp)),(cX p hp).2.1⟩
  have fin:MQ prog w c m P H (fp T) x:=⟨H',R''.dropX' λp hp=>.tail _ hp,f'⟩;exact⟨⟨⟨hIs _ (N'.get mI),B.lim.keeps λb o e=>R'.fr.keep b o e⟩,fin⟩,fin⟩
theorem Oo(F:KF K k.isAttr)(ih:Kf prog w k K (call d) d)(con:∀T,sz T<=n->FQ d T)(hh:A.handled=none)(hd:8*A.depth+A.units+24*(d+2)<=7900)(G:VQ k K f fd body)(B:Base k K c.WM)(Rl:AU prog w c m H s)
 (g:AG H T)(hn:sz T<=n)(hs:sc T<=2)(hds:∀x,T.den x≠none<->x∈ds)(hasc:Gw ds)(ht:H Ai=some .txt)(q:∀y s',KH prog w (24*(d+2)) c m H (fp T) ds y s'->R (.ok (.ret y)) s'):codeAny (model prog w) A (.call (.ref f) ⟨[.ref T.addr],[]⟩) R s:=by
 refine AJ λGG hG=>?_;refine FY G.at_ λoc od osl ho=>?_;have X:=B.kin.keeps Rl.fr.keep;refine Q3 (Gj (s:=s) (ps:=[AA]) (ds:=[]) (vs:=[.ref T.addr]) (ys:=[.ref T.addr]) (us:=[]) (zs:=[]) X G.p1 G.p2 G.p3 G.p4 G.pn (.inl ⟨rfl,G.df⟩) (.cons (.ref _) .nil) .nil (ρ:=[(AA,.ref T.addr)]) rfl) λbinds sl hsl hkr hbind U=>?_;refine hG ?_;clear hG GG;cases hkr.kr1
 refine codeAny_call_generator (dl hd) (X _ _ ho) rfl G.co G.gen G.bo (dX X G.code) (hbind _ _ _ _ ?_);refine wpAny_newFunctionEnv G.nocell (λx hx=>by exact(msP hx).symm▸G.loc) (λWi hns hsb=>⟨(B.lim.keeps Rl.fr.keep).fresh _ hsb,q _ _ (.inr ⟨_,rfl,?_⟩)⟩) G.kind
 refine NB (id hns) λobF U U hF U=>?_;have ltF:=Yy hF;exact To (F:=s.heap.objs.size) (env:=callEnv fd s.heap.objs.size f) con Rl B (λB' hB mB c' h0 hL'=>⟨F,h0▸B,⟨rfl,G.kind,hL'.symm,G.gl,G.bi,λx a e=>(zN e),λp hp e=>absurd e (G.nocell p hp)⟩,λU=>hB,d0 (dw mB),λA'' hh'' hd'' c'' m H s f vs ys us zs Q R e U U R' r r' h q=>ih A'' hh'' (dc mB hd'') c'' m H s f vs ys us zs Q R (by exact e.symm▸h0.symm▸B) R' r r' h q,λU U U U U U U U U U U U h=>(FM h).elim⟩)
  G.co G.sh (λh' e=>⟨_,_,_,e,rfl,rfl,rfl⟩) (λb o e=>Yx _ (hsb.extBut b o (ZF (Yy e)) (Yx _ e))) (Y9 _ rfl) (Yx _ hF) (Ha (Y1 _)) (Ha (ZY ltF)) (bQ ltF) (hns.at' λo e=>Yx _ e) rfl rfl rfl
  (Yn Rl.fr.above (ZY Rl.lt.1)) (LZ hkr (ncR ⟨Zn,bE⟩)) g hn hs hds hasc ht
end
noncomputable abbrev itP(it:Nat->Int)(i:Nat)(v:Yr):Prop:=∃t,v=gg (it i) t
noncomputable abbrev lO(acc:Array Yr)(n:Nat):Obj:={cls:=.type "list",dict:=none,data:=.seq acc n,slots:=#[]}
theorem In.one{S:Zh}{s:Yq}{h:aV}{o:dK}{tk:Nat}(hb:Zs s.gens)(hs:h.get? S=some o)(k:∀b o,b≠S->s.heap.get? b=some o->h.get? b=some o):In ⟨[S],[]⟩ s {s with heap:=h,toks:=tk} :=
 ⟨λq hq=>⟨o,by rw[msP hq];exact hs⟩,λb o hb e=>k b o (λz=>hb (by exact z▸.head _)) e,λU U U e=>e,hb,rfl⟩
section
variable{I S:Zh}{n:Nat}{it:Nat->Int}{Fin:Yq->Prop}{St:Nat->Yq->Prop}{R:bh->Yq->Prop}
theorem Mo(W:Wk prog w A.in1 I ⟨[S],[]⟩ n it Fin St)(hn:n<=1000)(res:Yr):∀(j i:Nat) (s:Yq) (acc:Array Yr) (c:Nat),n-i=j->i<=n->St i s->Zs s.gens->s.heap.get? S=some (lO acc c)->iV (itP it) acc i ->
 (∀s' acc' c',Fin s'->s'.heap.get? S=some (lO acc' c')->iV (itP it) acc' n->R (.ok (.ret res)) s')->codeAny (model prog w) A (.builtin "list.extend.loop" ⟨[.ref S,.ref I,res],[]⟩) R s:=by
 have exS:∀{s:Yq} {o},s.heap.get? S=some o->Zs s.gens->Ex ⟨[S],[]⟩ s:=λ{s o} e b=>⟨λq hq=>⟨o,by exact(msP hq).symm▸e⟩,b⟩
 intro j
 induction j with
 | zero =>
  intro i s acc c hk hi hst hbr hS hacc hR;cases aY hi (dG.mp hk)
  refine aZ eg ?_;refine(aJ Z8 _).symm▸?_;refine(Yo (W.done s _ _ hst (exS hS hbr) λs' hf ho=>?_):wpAny _ A.in1 (pyNext (.ref I)>>=_) _ _ s);exact Yv (hR s' acc c hf (ho.kp S _ (.head _) hS) hacc)
 | succ j ih =>
  intro i s acc c hk hi hst hbr hS hacc hR;have hlt:i<n:=fz hk;have l1:acc.size+1<=sizeLine:=by rw[hacc.1,ao];exact Yn (Yn hlt hn) (by decide)
  refine aZ eg ?_;refine(aJ Z8 _).symm▸?_;refine(Yo (W.item i s _ _ hlt hst (exS hS hbr) λt s' hst' ho=>?_):wpAny _ A.in1 (pyNext (.ref I)>>=_) _ _ s);have hS':=ho.kp S _ (.head _) hS;refine Yo (bX hS' rfl (Yv ⟨bc Z8 _,ih (i+1) _ (acc.push (.int (it i) t)) _ (by rw[<- iT,hk];rfl) hlt (W.frame _ s' _ hst' (In.one (tk:=s'.toks) ho.dr (ZS _ hS' rfl) λb o hb e=>(ZN _ _ (aL hb)).trans e)) ho.dr (ZS _ hS' rfl) (hacc.push ⟨t,rfl⟩) hR⟩)
   (aW l1) (by show(acc.push _).size<=sizeLine+1;rw[Array.size_push];exact Zk l1))
theorem Tq(W:Wk prog w A.in1 I ⟨[S],[]⟩ n it Fin St)(hn:n<=1000)(res:Yr){s:Yq}{XR:Nat}(hst:St 0 s)(hbr:Zs s.gens){g:Nat}(hg:s.heap.IsGen I g)(hI:I≠S)(hS:s.heap.get? S=some {cls:=.type "list",data:=.seq #[] XR})
 (hR:∀s' acc' c',Fin s'->s'.heap.get? S=some (lO acc' c')->iV (itP it) acc' n->R (.ok (.ret res)) s') :
 wpAny (model prog w) A.in1 (bq (.ref S) (.ref I) res)
  (λfin s'=>match fin with|.done f=>R (.ok f) s'|.again c'=>c'.quiet=true/\codeAny (model prog w) A c' R s') (λe s'=>R (.error e) s') s:=by
 have hT:=hg.typeIs;refine Yo (fg hT ?_);have h1:a8 (.ref S) (.ref I)=false:=by simp[a8,aL hI]
 have h2:(au "generator"==au "list")=false:=by decide
 have h3:(au "generator"==au "tuple")=false:=by decide
 simp only[h1,h2,h3,bY,bU,if_false];refine Yo (cI hg ?_);refine Yo (aU ?_);refine Yo (fq hT PySem.F.gen_no_len ?_);refine Yo (fq hT PySem.F.gen_no_hint ?_);refine Yv ?_;refine Yo (dZ ?_);refine Yo ?_;refine Yo (bX hS rfl ?_);have Wt:=ZS (fi (·.push cU)) hS rfl
 refine bX (hz:=by seq_fits) Wt rfl ?_
 have Xm:=ZS (fi (·.pop)) Wt rfl
 refine Yv ⟨bc Z8 _,Mo W hn res n 0 _ _ _ rfl (Zp _) (W.frame 0 s _ hst (In.one (tk:=s.toks) hbr Xm λb o hb e=>(ZN _ _ (aL hb)).trans ((ZN _ _ (aL hb)).trans e))) hbr Xm (ItemsOf.nil _) hR⟩
end
section
variable{c:Cx}{m:Zf->Option Yr}{H:MH}{s:Yq}{F:List Nat}{ds:List Int}{I:Zh}{bd:Nat}{E Q:Yr->Yq->Prop}
theorem NW(hh:A.handled=none)(mb:8*A.depth+A.units+bd+2<=7900)(hl:ds.length<=1000)(ht:H Ai=some .txt)(g:ItG prog w bd c m H F ds I s)(q:∀l H' s',AU prog w c m (H'.put l (.list (ds.map .int))) s'->An H H' F->H' l=none->Q (.ref l) s') :
 wpAny (model prog w) A (Z6 (.type "list") [.ref I]) Q E s:=by
 refine AJ λGG hG=>?_;refine Am g λz y=>?_;refine BB z λgn hgn=>?_;obtain⟨H0,R0,f0,hw⟩:=y;refine Es (hw s (.refl R0 (f0.kp _ _ ht (.inr rfl))) A.in1.in1 ⟨[s.heap.objs.size],[]⟩ hh (d2 mb) (ncR ⟨Zn,bE⟩) (λx hx=>by rw[msP hx];exact Ha (Y1 _)) (λx hx=>nomatch hx)) λSt W U hst=>?_
 refine NB (id hgn) λoI U U hIo U=>?_;refine hG ?_;have hI:I≠s.heap.objs.size:=ZF (Yy hIo);refine callType_codes (Q₁:=λobj WO=>obj=.ref s.heap.objs.size/\WO={s with heap:=s.heap.push {cls:=.type "list",data:=.seq #[]}}) PySem.F.called_list (PySem.F.typeCall_list_1 _) PySem.F.entry_list_init
  (code_list_new _ ⟨rfl,rfl⟩) λobj WO Wi=>?_
 obtain⟨rfl,rfl⟩:=Wi;have hS:(s.heap.push {cls:=.type "list",data:=.seq #[]}).get? s.heap.objs.size=some {cls:=.type "list",data:=.seq #[]}:=Y9 _ rfl;refine⟨⟨_,hS,rfl⟩,PySem.F.args_list_init_2 _ _,?_⟩;have hst1:=W.frame 0 s {s with heap:=s.heap.push {cls:=.type "list",data:=.seq #[]}} hst (In.one (tk:=s.toks) R0.dr hS λb o U e=>Yx _ e)
 have hgn1:({s with heap:=s.heap.push {cls:=.type "list",data:=.seq #[]}}:Yq).heap.IsGen I gn:=hgn.push _
 have hb1:Zs ({s with heap:=s.heap.push {cls:=.type "list",data:=.seq #[]}}:Yq).gens:=R0.dr
 generalize hs1:({s with heap:=s.heap.push {cls:=.type "list",data:=.seq #[]}}:Yq)=s1 at hst1 hgn1 hb1 ⊢
 have hS:s1.heap.get? s.heap.objs.size=some {cls:=.type "list",data:=.seq #[]}:=by exact hs1▸hS
 refine(Yo ?_:wpAny _ A.in1.in1 (do let old <- Builtin.List.listItems (.ref s.heap.objs.size);Builtin.List.listUpdate (.ref s.heap.objs.size) (λU=>#[]);letGo old.toList.reverse;bq (.ref s.heap.objs.size) (.ref I) .none) _ _ s1)
 refine Yo (gU hS rfl (Yv ?_));refine Yo (bX hS rfl ?_);have Wt:=ZS (fi (λU=>(#[]:Array Yr))) hS rfl;refine Yo (wpAny_letGo ?_);refine Tq W hl .none (W.frame 0 s1 _ hst1 (In.one (tk:=s1.toks) hb1 Wt λb o hb e=>(ZN _ _ (aL hb)).trans e)) hb1 (hgn1.sameBut (a9 ..) hI) hI Wt λs' acc' c' hf hS' hacc=>?_;obtain⟨H',R',f'⟩:=hf;refine⟨rfl,?_⟩;have R'':AU prog w (c.x ((s.heap.objs.size,lO acc' c')::c.X)) m H' s':=R'.dropX' λp hp=>by
  refine mc hp ?_ λhp=>?_
  ·exact Yw _ (BC.mpr ⟨.head _,hS'⟩)
  ·exact Yt _ hp
 refine Am (R''.adopt (o:=.list (ds.map .int)) (λp hp=>ZF (R0.lt.2 p hp).1) ⟨acc'.toList,c',rfl,TQ hacc rfl λi v j u hj=>BB u λt e=>⟨t,by rw[e];congr 1;show ds.getD i 0=j;rw[Z7,hj];rfl⟩⟩) λR3 hn=>?_
 exact q _ H' s' R3 f' hn
end
noncomputable abbrev UM(xs:Array Nat):Prop:=xs.toList.Pairwise (· < ·)
theorem UM.lt{xs:Array Nat}(h:UM xs){i j:Nat}(hij:i<j)(hj:j<xs.size):xs[i]'(az hij hj)<xs[j]:=by
 have:=eh.mp h i j (by rw[ZO];exact az hij hj) (by rw[ZO];exact hj) hij
 simpa using this
theorem mid{lo hi:Nat}(h:lo<hi):lo<=(lo+hi) / 2/\(lo+hi) / 2<hi:=⟨(Nat.le_div_iff_mul_le (by decide)).mpr (Nat.mul_two lo▸ZC (ZY h) lo),(Nat.div_lt_iff_lt_mul (by decide)).mpr (Nat.mul_two hi▸Nat.add_lt_add_right h hi)⟩
theorem Lh{xs:Array Nat}(h:UM xs)(j:Nat):∀fuel lo hi,lo<=hi->hi<=xs.size->hi-lo<=fuel->(∀i (hs:i<xs.size),i<lo->xs[i]<j)->(∀i (hs:i<xs.size),hi<=i->j<=xs[i]) ->
 dH xs j fuel lo hi<=xs.size/\(∀i (hs:i<xs.size),i<dH xs j fuel lo hi->xs[i]<j)/\(∀i (hs:i<xs.size),dH xs j fuel lo hi<=i->j<=xs[i])
 | 0,lo,hi,h1,h2,h3,h4,h5=>by
  cases aY h1 (dG.mp (Nat.le_zero.mp h3))
  exact⟨h2,h4,h5⟩
 | fuel+1,lo,hi,h1,h2,h3,h4,h5=>by
  unfold dH;by_cases hl:lo<hi
  ·refine(if_pos hl).symm▸?_;have hm0:=mid hl;have hm:(lo+hi) / 2<xs.size:=ZB hm0.2 h2;dsimp only;refine(show xs.getD ((lo+hi) / 2) j=xs[(lo+hi) / 2] from by rw[ah,ZD hm];rfl).symm▸?_
   by_cases hc:xs[(lo+hi) / 2]<j
   ·refine(if_pos hc).symm▸Lh h j fuel _ _ hm0.2 h2 (ay (ZB (eH hl (aK hm0.1)) h3)) (λi hi' hlt=>?_) h5;by_cases e:i=(lo+hi) / 2
    ·subst e;exact hc
    ·exact az (h.lt (aR (ay hlt) e) hm) hc
   ·refine(if_neg hc).symm▸Lh h j fuel _ _ hm0.1 (ZY hm) (ay (ZB (Nat.sub_lt_sub_right hm0.1 hm0.2) h3)) h4 λi hs hle=>?_;by_cases e:i=(lo+hi) / 2
    ·subst e;exact bu.mp hc
    ·exact ZY (Zr (bu.mp hc) (h.lt (aR hle (aL e)) hs))
  ·refine(if_neg hl).symm▸?_;cases aY h1 (bu.mp hl)
   exact⟨h2,h4,h5⟩
theorem JV{xs:Array Nat}(h:UM xs)(j:Nat):ZG xs j<=xs.size/\(∀i (hi:i<xs.size),i<ZG xs j->xs[i]<j)/\(∀i (hs:i<xs.size),ZG xs j<=i->j<=xs[i]) :=
 Lh h j _ _ _ (Zp _) (Y1 _) (Y1 _) (λU U h=>absurd h (Nat.not_lt_zero _)) λi hs hle=>absurd hs (Ng hle)
theorem Re{xs:Array Nat}(h:UM xs){j:Nat}(hj:xs[ZG xs j]?≠some j):j∉xs.toList:=λhm=>by
 refine CV (JV h j) λh1 h2 h3=>?_;obtain⟨i,hi,e⟩:=bD hm;have hi':i<xs.size:=by rwa [ZO] at hi
 have e':xs[i]=j:=by refine e▸?_;trivial
 have ge:ZG xs j<=i:=bu.mp λz=>ZE _ (e'▸h2 i hi' z);have hp:ZG xs j<xs.size:=Zr ge hi';refine hj ?_;refine(ZD hp).symm▸?_;have:=h3 _ hp (Y1 _);by_cases z:ZG xs j=i
 ·congr 1;simp only[z];exact e'
 ·exact absurd (Zr this (h.lt (aR ge z) hi')) (by rw[e'];exact ZE _)
theorem Po{xs:Array Nat}(h:UM xs){j:Nat}(hj:j∉xs.toList):UM (SetTable.insertAt xs (ZG xs j) j):=by
 refine CV (JV h j) λh1 h2 h3=>?_
 show((((xs.extract 0 (ZG xs j)).push j++xs.extract (ZG xs j) xs.size)).toList).Pairwise (· < ·)
 rw[Array.toList_append,fA,gV,gV];have t:∀x∈xs.toList.extract 0 (ZG xs j),x<j:=λx hx=>by
  rw[aw,List.drop_zero,iH] at hx;obtain⟨i,hi,e⟩:=bD hx;rw[List.length_take,ZO] at hi;rw[List.getElem_take] at e;have:=h2 i (ZB hi (Nat.min_le_right _ _)) (ZB hi (Nat.min_le_left _ _));rw[<- e];simpa using this
 have d:∀x∈xs.toList.extract (ZG xs j) xs.size,j<x:=λx hx=>by
  rw[aw] at hx;have hx:=List.mem_of_mem_take hx;obtain⟨i,hi,e⟩:=bD hx;rw[List.length_drop,ZO] at hi;rw[List.getElem_drop] at e;have hb:ZG xs j+i<xs.size:=Nat.add_lt_of_lt_sub' hi;have h4:=h3 (ZG xs j+i) hb (Yz _ _);have h5:x≠j:=λz=>hj (z▸bv hx);have h6:xs[ZG xs j+i]'hb=x:=(show _=_ by trivial).trans e
  exact aR (h6▸h4) (aL h5)
 have s1:(xs.toList.extract 0 (ZG xs j)).Pairwise (· < ·):=by rw[aw,List.drop_zero];exact h.sublist (iI _ _)
 have s2:(xs.toList.extract (ZG xs j) xs.size).Pairwise (· < ·):=by rw[aw];exact h.sublist ((iI _ _).trans (cj _ _))
 refine gW.mpr ⟨gW.mpr ⟨s1,List.pairwise_singleton _ _,λx hx y hy=>by rw[msP hy];exact t x hx⟩,s2,λx hx y hy=>?_⟩
 refine iG (maP hx) (λhx=>?_) λhx=>?_
 ·exact az (t x hx) (d y hy)
 ·rw[msP hx];exact d y hy
structure Tb(led:Bool)(t:av):Prop where
 led:t.led=led
 srt:UM t.place
 dum:t.dummies=#[]
theorem Mp(j:Nat):iJ #[] j=false:=by unfold iJ;trivial
theorem Pp{led:Bool}{t:av}(h:Tb led t){j:Nat}(e:t.slot j=.empty):j∉t.place.toList:=by
 unfold iW at e;dsimp only at e;split at e
 ·exact nomatch e
 ·rename_i z;exact Re h.srt λw=>z (by exact w▸beq_self_eq_true _)
theorem Pq{led:Bool}{t:av}(h:Tb led t){j:Nat}:t.slot j≠.dummy:=λe=>by
 unfold iW at e;dsimp only at e;split at e
 ·cases e
 ·rw[h.dum,Mp] at e;exact nomatch e
theorem Op{led:Bool}{t:av}(h:Tb led t){f:Nat->Int}{x:Int}{j:Nat}{dm:Option Nat}:∀fuel p,p.dummy=none->fB t f x fuel p=some (.empty j dm)->dm=none/\j∉t.place.toList
 | 0,_,_,e=>zN e
 | fuel+1,p,hp,e=>by
  unfold fB at e;cases hs:t.slot p.j with
  | empty=>replace e:=hs▸e;cases e;exact⟨hp,Pp h hs⟩
  | dummy=>exact absurd hs (Pq h)
  | live i =>
   rw[hs] at e;dsimp only at e;split at e
   ·exact nomatch e
   ·refine Op h fuel _ ?_ e;unfold SetTable.advance;split
    ·exact hp
    ·exact hp
theorem Ts{led:Bool}{t:av}(h:Tb led t){x:Int}{j:Nat}{b:Bool}(e:t.freeSlot x=some (j,b)):j∉t.place.toList:=by
 unfold SetTable.freeSlot at e;refine oCs (t.probe (λU=>x+1) x (t.probeStart x)) (λhp=>?_) λm hp=>?_
 ·replace e:=hp▸e;exact zN e
 ·
  replace e:=hp▸e;cases m with
  | candidate=>exact zN e
  | empty j' dm =>
   refine Am (Op h _ _ (by rfl) (show fB t _ x _ _=_ from hp)) λz h2=>?_;obtain rfl:=z
   cases e
   exact h2
theorem Tb.stand{led:Bool}{t:av}(h:Tb led t)(n:Nat):Tb led (t.standIn n):=⟨h.led,by show(Array.range n).toList.Pairwise (· < ·);rw[Array.toList_range];exact cp,rfl⟩
theorem Tb.orStand{led:Bool}{t:av}(h:Tb led t)(n:Nat):Tb led (t.orStandIn n):=by
 unfold SetTable.orStandIn;split
 ·exact h
 ·exact h.stand n
theorem Tb.lay{led:Bool}{t:av}(h:Tb led t)(es:Array (Int×Yr))(x:Int)(v:Yr):Tb led (layNew t es x v).2.1:=by
 unfold layNew;split
 ·rename_i slot b e;refine(Tb.orStand (t:=(t.put slot).1) ⟨h.led,Po h.srt (Ts h e),?_⟩ _:Tb led ((t.put slot).1.orStandIn _))
  show(if iJ t.dummies slot=true then _ else _)=_
  rw[h.dum,Mp];rfl
 ·exact h.stand _
theorem Tb.relay{led:Bool}{t:av}(h:Tb led t)(es:Array (Int×Yr))(n:Nat):Tb led (relayAll t es n).2.1:=by
 unfold relayAll;cases e:t.relaid (es.map (·.1)) n with
 | none=>exact h.stand _
 | some p =>
  obtain⟨t',order⟩:=p;dsimp only;have ht:Tb led t':=by
   refine AR (fO.mp e) λowner U e=>?_;cases e
   refine⟨h.led,?_,rfl⟩
   show(List.map _ _).toArray.toList.Pairwise (· < ·)
   rw[List.toList_toArray];have sub:∀l:List Nat,((l.filterMap λj=>(owner.getD j none).map (j,·)).map (·.1)).Sublist l:=by
    intro l
    induction l with
    | nil=>exact .slnil
    | cons a r ih =>
     rw[aA];cases owner.getD a none with
     | none=>exact ih.cons a
     | some k=>exact ih.cons_cons a
   exact cp.sublist (sub _)
  split
  ·exact ht
  ·exact h.stand _
theorem Tb.off{led:Bool}{t:av}(h:Tb led t)(b:Bool):Tb led {t with plain:=b}:=⟨h.led,h.srt,h.dum⟩
theorem Tb.fresh{led:Bool}:Tb led (.fresh 0 0 led):=⟨rfl,.nil,rfl⟩
noncomputable def ld(w:Y0):Bool:=!(w.params.followText "set-order")
structure SO(prog:Y8)(w:Y0)(o:dK)(S:Int->Bool)(n:Nat)(es:Array (Int×Yr))(ep:Nat)(t:av):Prop where
 ex:o.ExactSet
 d:o.data=.set es ep t
 el:iK (intKind prog w) es.toList
 mem:∀k,S k=true<->∃e∈es.toList,(intKind prog w).is k e.2=true
 b:es.size<scanBound
 f:t.fits es.size=true
 n:es.size=n
 tb:Tb (ld w) t
inductive SI (prog:Y8) (w:Y0) (h:aV) (a:Zh) (S:Int->Bool) (n:Nat):Prop
 | mk (o:_) (es:_) (ep:_) (t:_) (p0:h.get? a=some o) (p1:SO prog w o S n es ep t):SI prog w h a S n
section
variable{E:Yr->Yq->Prop}{s:Yq}{a:Zh}{S:Int->Bool}{n:Nat}
theorem SO.put{o:dK}{es es':Array (Int×Yr)}{ep:Nat}{t t':av}{S':Int->Bool}{h:aV}(x:SO prog w o S n es ep t)(ho:h.get? a=some o)(hel:iK (intKind prog w) es'.toList)(hmem:∀k,S' k=true<->∃e∈es'.toList,(intKind prog w).is k e.2=true)(hb:es'.size<scanBound)(hf:t'.fits es'.size=true)(ht:Tb (ld w) t') :
 (h.update a (Obj.putSet es' t')).get? a=some {o with data:=.set es' (ep+1) t'}/\SO prog w {o with data:=.set es' (ep+1) t'} S' es'.size es' (ep+1) t' :=
 ⟨(SetOf_store (knd:=intKind prog w) ho x.ex x.d hel hmem hb hf).1,x.ex,rfl,hel,hmem,hb,hf,rfl,ht⟩
theorem addI{x:Yr}{k:Int}{Q:Bool->Yq->Prop}(hkey:(intKind prog w).is k x=true)(hsc:x.scannable=true)(hS:SI prog w s.heap a S n)(hroom:n+1<scanBound)
 (h:∀h',cG a s.heap h'->SI prog w h' a (λk'=>S k'||decide (k'=k)) (if S k then n else n+1)->Q (!S k) {s with heap:=h'}) :
 wpAny (model prog w) A (setAddHashed a x ((intKind prog w).hash k)) Q E s:=by
 obtain⟨o,es,ep,t,ho,so⟩:=hS;refine aU (Yo (aB ho so.d so.f ?_));dsimp only;refine(byScan_of hsc so.b so.el).symm▸?_;refine Yo ?_;refine Yo (dZ ?_);refine Yo (wpAny_setScan_of hkey ho so.d so.f so.el ?_);cases hr:List.findIdx? (λe=>(intKind prog w).is k e.2) es.toList with
 | some j =>
  refine AR (List.findIdx?_eq_some_iff_getElem.mp hr) λhj hpj U=>?_;have hSk:S k=true:=(so.mem k).mpr ⟨es.toList[j],List.getElem_mem hj,hpj⟩;refine Yv (Yv ?_);have e:s={s with heap:=s.heap}:=by cases s;rfl
  have:=h s.heap (Heap.SameBut.refl a s.heap) ⟨o,es,ep,t,ho,so.ex,so.d,so.el,λk'=>by
   rw[eD,decide_eq_true_eq,<- so.mem k'];exact⟨λhk=>hk.elim id (λe=>e▸hSk),.inl⟩,so.b,so.f,by exact hSk.symm▸so.n,so.tb⟩
  replace this:=hSk▸this;exact e▸this
 | none =>
  have hSk:S k=false:=by
   cases hk:S k with
   | false=>rfl
   | true=>refine AR ((so.mem k).mp hk) λe he hp=>?_;have:=List.findIdx?_eq_none_iff.mp hr e he;replace this:=hp.symm.trans this;exact Bool.noConfusion this
  have hgw:∀(b:Bool) {WO:Yq} {Q':Unit->Yq->Prop},Q' () WO->wpAny (model prog w) A (match b with|true=>rule "set.scan.the-table-gave-way"|false=>pure ()) Q' E WO :=
   λb WO Q' hq=>by cases b<;>first|exact Yv hq|exact dZ hq
  have hperm:=layNew_perm t es ((intKind prog w).hash k) x;have hfits:=layNew_fits t es ((intKind prog w).hash k) x;have htb:=so.tb.lay es ((intKind prog w).hash k) x
  generalize hL:layNew t es ((intKind prog w).hash k) x=L at hperm hfits htb ⊢
  obtain⟨es1,t1,wasDummy,gave⟩:=L;dsimp only at hperm hfits htb ⊢;replace hperm:=fA▸hperm;have hel1:iK (intKind prog w) es1.toList:=(so.el.push hkey hsc).perm hperm;have hmem1:∀k',(S k'||decide (k'=k))=true<->∃e∈es1.toList,(intKind prog w).is k' e.2=true:=mem_push_iff hkey so.mem hperm;have hsz1:es1.size=n+1:=by exact ZO▸hperm.length_eq▸bS▸ZO▸so.n▸rfl
  have hb1':es1.size<scanBound:=by rw[hsz1];exact hroom
  refine Yo (hgw _ ?_);have hend:∀h',cG a s.heap h'->SI prog w h' a (λk'=>S k'||decide (k'=k)) es1.size->Q true {s with heap:=h'}:=by
   intro h' hsb hS';have:=h h' hsb;rw[hSk] at this;rw[hsz1] at hS';exact this hS'
  have tail:∀{t2:av},t2.fits es1.size=true->Tb (ld w) t2->∀{g:Bool->Sem Unit},(∀(b:Bool) (WO:Yq) (Q':Unit->Yq->Prop),Q' () WO->wpAny (model prog w) A (g b) Q' E WO)->wpAny (model prog w) A (do
   storeSet a es1 t2
   if(!wasDummy&&t2.tooFull)=true then do
    g (relayAll t2 es1 (bK es1.size)).2.2
    storeSet a (relayAll t2 es1 (bK es1.size)).1 (relayAll t2 es1 (bK es1.size)).2.1
    pure (some true)
    else pure (some true)) (λr s'=>r=some true/\∃h',s'={s with heap:=h'}/\cG a s.heap h'/\SI prog w h' a (λk'=>S k'||decide (k'=k)) es1.size) E s:=λ{t2} hf2 ht2 {g} hg=>by
   refine Yo (fD ho so.d ?_ (fE hb1'));refine Am (so.put ho hel1 hmem1 hb1' hf2 ht2) λho1 so1=>?_;have hsb1:=a9 s.heap a (Obj.putSet es1 t2);split
   ·have hp:=relayAll_perm t2 es1 (bK es1.size);have hfr:=relayAll_fits t2 es1 (bK es1.size);have htr:=ht2.relay es1 (bK es1.size)
    generalize hRl:relayAll t2 es1 (bK es1.size)=Rl at hp hfr htr ⊢
    obtain⟨es2,t3,gave2⟩:=Rl;have hsz:es2.size=es1.size:=by rw[<- ZO,hp.length_eq,ZO]
    refine Yo (hg _ _ _ ?_);refine Yo (fD ho1 rfl ?_ (fE (by rw[hsz];exact hb1')))
    refine Am (so1.put ho1 (hel1.perm hp) (λk'=>(hmem1 k').trans ⟨λz=>AR z λe he q=>⟨e,hp.mem_iff.mpr he,q⟩,λz=>AR z λe he q=>⟨e,hp.mem_iff.mp he,q⟩⟩) (by rw[hsz];exact hb1') hfr htr) λho2 so2=>?_
    exact Yv ⟨rfl,_,rfl,hsb1.trans (a9 _ a _),_,_,_,_,ho2,(hsz▸so2)⟩
   ·exact Yv ⟨rfl,_,rfl,hsb1,_,_,_,_,ho1,so1⟩
  have hg:∀(b:Bool) (WO:Yq) (Q':Unit->Yq->Prop),Q' () WO->wpAny (model prog w) A (match b with|true=>rule "set.scan.the-table-gave-way"|false=>pure ()) Q' E WO:=λb WO Q' hq=>hgw b hq
  split
  ·refine Yo ?_;refine(hashByValue_scannable 8 hsc).symm▸Yv ?_;refine Z9 (tail (t2:=if plainKind x=true then t1 else{t1 with plain:=false}) ?_ ?_ hg) (λr s' hrs=>?_) λU U e=>e
   ·split
    ·exact hfits
    ·exact SetTable.fits_plain_off hfits
   ·split
    ·exact htb
    ·exact htb.off false
   ·obtain⟨rfl,h',rfl,hsb,hS'⟩:=hrs;exact Yv (hend h' hsb hS')
  ·refine Yo (Yv ?_);refine Z9 (tail hfits htb hg) (λr s' hrs=>?_) λU U e=>e;obtain⟨rfl,h',rfl,hsb,hS'⟩:=hrs;exact Yv (hend h' hsb hS')
end
noncomputable abbrev Ig(led:Bool):Obj:={cls:=.type "set",dict:=none,data:=.set #[] 0 (.fresh 0 0 led)}
noncomputable def Qj(it:Nat->Int)(i:Nat)(k:Int):Bool:=(bN i).any λj=>it j==k
section
variable{I S:Zh}{n:Nat}{it:Nat->Int}{Fin:Yq->Prop}{St:Nat->Yq->Prop}{R:bh->Yq->Prop}{E:Yr->Yq->Prop}{s:Yq}
theorem SI.kp{h h':aV}{a:Zh}{f:Int->Bool}{m:Nat}(x:SI prog w h a f m)(e:∀o,h.get? a=some o->h'.get? a=some o):SI prog w h' a f m:=let ⟨o,es,ep,t,ho,so⟩:=x;⟨o,es,ep,t,e _ ho,so⟩
theorem SI.congr{h:aV}{a:Zh}{f f':Int->Bool}{m m':Nat}(x:SI prog w h a f m)(e:∀k,f k=f' k)(em:m=m'):SI prog w h a f' m':=by
 exact em▸(show f=f' from funext e)▸x
theorem Tt(i:Nat)(k:Int):Qj it (i+1) k=(Qj it i k||decide (k=it i)):=by
 unfold Qj;rw[List.range_succ,List.any_append,gt,List.any_nil,bY]
 congr 1
 rw[ft,beq_iff_eq,decide_eq_true_iff];exact eq_comm
theorem Tu(W:Wk prog w A.in1 I ⟨[S],[]⟩ n it Fin St)(hn:n<=1000)(inj:∀i j,i<j->j<n->it i≠it j):∀(j i:Nat) (s:Yq),n-i=j->i<=n->St i s->Zs s.gens->SI prog w s.heap S (Qj it i) i ->
 (∀s',Fin s'->Zs s'.gens->SI prog w s'.heap S (Qj it n) n->R (.ok (.ret .none)) s')->codeAny (model prog w) A (.builtin "set.update.loop" ⟨[.ref S,.ref I],[]⟩) R s:=by
 have exS:∀{s:Yq} {f m},SI prog w s.heap S f m->Zs s.gens->Ex ⟨[S],[]⟩ s:=λ{s f m} ⟨o,_,_,_,e,_⟩ b=>⟨λq hq=>⟨o,by exact(msP hq).symm▸e⟩,b⟩
 intro j
 induction j with
 | zero =>
  intro i s hk hi hst hbr hS hR;cases aY hi (dG.mp hk)
  refine aZ cK ?_;refine(aJ ae _).symm▸?_;refine(Yo (W.done s _ _ hst (exS hS hbr) λs' hf ho=>?_):wpAny _ A.in1 (pyNext (.ref I)>>=_) _ _ s);exact Yv (hR s' hf ho.dr (hS.kp λo e=>ho.kp S o (.head _) e))
 | succ j ih =>
  intro i s hk hi hst hbr hS hR;have hlt:i<n:=fz hk;refine aZ cK ?_;refine(aJ ae _).symm▸?_;refine(Yo (W.item i s _ _ hlt hst (exS hS hbr) λt s' hst' ho=>?_):wpAny _ A.in1 (pyNext (.ref I)>>=_) _ _ s);have hS':SI prog w s'.heap S (Qj it i) i:=hS.kp λo e=>ho.kp S o (.head _) e;refine(Yo (aU ?_):wpAny _ A.in1 (holding [gg (it i) t] (setAdd S (.int (it i) t))>>=_) _ _ s');refine aU ?_;refine Yo ((intKind prog w).pyHash (k:=it i) (intKind_is _ _ _ _) ?_);have nf:Qj it i (it i)=false:=by
   cases q:Qj it i (it i) with
   | false=>rfl
   | true =>
    refine AR (List.any_eq_true.mp q) λx hx e=>?_;exact absurd (eq_of_beq e) (inj x i (bw.mp hx) hlt)
  refine addI (s:={s' with toks:=s'.toks+1}) (intKind_is _ _ _ _) rfl hS' (Zr (Yn hlt hn) (by decide)) λh' hsb hS2=>?_
  have hSi:SI prog w h' S (Qj it (i+1)) (i+1):=hS2.congr (λk=>(Tt i k).symm) (by exact nf▸rfl)
  obtain⟨o,U,U,U,eo,U⟩:=id hSi;exact Yv ⟨bc ae _,ih (i+1) _ (by rw[<- iT,hk];rfl) hlt (W.frame _ s' _ hst' (In.one (tk:=s'.toks+1) ho.dr eo λb o hb e=>(hsb.2 b hb).trans e)) ho.dr hSi hR⟩
theorem newI{Q:Yr->Yq->Prop}(h:SI prog w (s.heap.push (Ig (ld w))) s.heap.objs.size (λU=>false) 0->Q (.ref s.heap.objs.size) {s with heap:=s.heap.push (Ig (ld w))}):wpAny (model prog w) A (newSet (.type "set")) Q E s:=by
 refine Yo (Yo (bM (Yv ?_)));dsimp only;exact Yo (wpAny_alloc (Yv (h ⟨_,#[],0,_,Y9 _ rfl,⟨rfl,rfl,rfl⟩,rfl,λe he=>by simp at he,λk=>by simp,by decide,by rfl,rfl,.fresh⟩)))
theorem MR(a:Yr){Q₁:Yr->Yq->Prop}(h:Q₁ (.ref s.heap.objs.size) {s with heap:=s.heap.push (Ig (ld w))}):codeAny (model prog w) A (.call (.builtin "set.__new__") ⟨[.type "set",a],[]⟩) (wants Q₁ E) s:=by
 refine codeAny_of_tree ?_;refine Yo (d8 (PySem.F.newCall_set_1 a) (Yv ⟨bc f7 _,aZ PySem.F.entry_set_new ?_⟩));refine(aJ f7 _).symm▸?_;unfold iL.«set.__new__» Builtin.Frozenset.newClass;have hsub:=iM;obtain⟨hp,g,d,tk,os⟩:=s
 wp_walk
 refine bM (Yv ?_);dsimp only;refine Yo (wpAny_alloc (Yv ?_));exact Yv h
end
theorem Oq:isSubtype (.type "generator") (.type "set")=pure false:=by rw[b8];kernel_rfl
theorem JW:isSubtype (.type "generator") (.type "frozenset")=pure false:=by rw[b8];kernel_rfl
section
variable{E:Yr->Yq->Prop}{s:Yq}
set_option maxHeartbeats 3200000 in
theorem Ps{v:Zh}{T:String}{Fin:Yq->Prop}{n:Nat}{it:Nat->Int}{Q:Yr->Yq->Prop}(hT:s.TypeIs (.ref v) T)(hs1:isSubtype (.type T) (.type "set")=pure false)(hs2:isSubtype (.type T) (.type "frozenset")=pure false)(hne:(au T==au "dict")=false)
 (hn:n<=1000)(inj:∀i j,i<j->j<n->it i≠it j)
 (hit:∀Q':Yr->Yq->Prop,(∀I s',(∃St,Wk prog w A.in1.in1.in1 I ⟨[s.heap.objs.size],[]⟩ n it Fin St/\St 0 s')->Zs s'.gens->s'.heap.get? s.heap.objs.size=some (Ig (ld w))->Q' (.ref I) s')->wpAny (model prog w) A.in1.in1 (pyIter (.ref v)) Q' E {s with heap:=s.heap.push (Ig (ld w))})
 (h:∀s',Fin s'->Zs s'.gens->SI prog w s'.heap s.heap.objs.size (Qj it n) n->Q (.ref s.heap.objs.size) s'):wpAny (model prog w) A (Z6 (.type "set") [.ref v]) Q E s:=by
 obtain⟨c,tl,hmro⟩:=aF.mro;have hmade:=aF.made;have hsub:=aF.sub;refine dT (codeAny_of_tree ?_)
 show wpAny _ _ (callAny (.type "set") _) _ _ _
 refine Yv ⟨Code.quiet_builtin _ (by decide +kernel),aZ PySem.F.entry_type_call ?_⟩
 rw[Around.under_plain (weight_type_call_type "set" [.ref v] []) rfl];have h1:=aF.notType;have h2:=aF.canCreate;have hct:=PySem.F.typeCall_set_1 (.ref v)
 repeat (any_goals (first|assumption|wp_step))
 refine iN (MR (.ref v) (E:=E) (Q₁:=λobj WO=>obj=.ref s.heap.objs.size/\WO={s with heap:=s.heap.push (Ig (ld w))}) ⟨rfl,rfl⟩) λr WO hr=>?_
 cases r with
 | error e=>exact hr
 | ok fl =>
  cases fl with
  | ret obj =>
   obtain⟨rfl,rfl⟩:=hr;have hS:(s.heap.push (Ig (ld w))).get? s.heap.objs.size=some (Ig (ld w)):=Y9 _ rfl;have hTs:Shared.TypeIs {s with heap:=s.heap.push (Ig (ld w))} (.ref s.heap.objs.size) "set":=⟨_,hS,rfl⟩
   have hli:=aF.init.lookup;have hbi:=aF.init.bind (.ref s.heap.objs.size)
   repeat (any_goals (first|assumption|wp_step))
   refine iN (codeAny_call_builtin (R:=wants (λr WQ=>r=.none/\Fin WQ/\Zs WQ.gens/\SI prog w WQ.heap s.heap.objs.size (Qj it n) n) E) aF.init.plain PySem.F.entry_set_init (check_set_init_1 hTs ?_)) λWZ WQ XS=>?_
   ·obtain⟨ov,hov,hcl⟩:=hT;obtain⟨ocls,odict,odata,oslots⟩:=ov;simp only at hcl;subst hcl;have hov':(s.heap.push {cls:=.type "set",dict:=none,data:=.set #[] 0 (.fresh 0 0 (ld w))}).get? v=some {cls:=.type T,dict:=odict,data:=odata,slots:=oslots}:=Yx _ hov;have hS:(s.heap.push {cls:=.type "set",dict:=none,data:=.set #[] 0 (.fresh 0 0 (ld w))}).get? s.heap.objs.size=some {cls:=.type "set",dict:=none,data:=.set #[] 0 (.fresh 0 0 (ld w))}:=hS;unfold iL.«set.__init__» noKeywords Builtin.Frozenset.updateFrom
    generalize hPI:pyIter=PI
    wp_walk
    subst hPI;refine hit _ λI s' hw hbr hg=>?_;obtain⟨St,W,hst⟩:=hw;refine Yo (wpAny_runValue (Tu W hn inj n 0 s' rfl (Zp _) hst hbr ⟨_,_,_,_,hg,⟨rfl,rfl,rfl⟩,rfl,λe he=>by simp at he,λk=>by simp[Qj],by decide,by rfl,rfl,.fresh⟩ λs'' hf hbr'' hS''=>Yv ?_))
    show wpAny _ _ (ret cU) _ _ _
    exact Yv ⟨rfl,hf,hbr'',hS''⟩
   ·cases WZ with
    | error e=>exact XS
    | ok YM =>
     cases YM with
     | ret r =>
      obtain⟨rfl,hf,hbr',hS'⟩:=XS
      repeat (any_goals (first|assumption|wp_step))
      exact h _ hf hbr' hS'
     | _=>exact XS.elim
  | _=>exact hr.elim
end
theorem Bl:Slot "set_iterator" "__next__" "set_iterator.__next__" :=
 .of (owner:="set_iterator") (n:="__next__") (by rw[typeLookup_type,builtinLookup_eq_fast];kernel_rfl) (by decide +kernel) (by decide +kernel) (by decide +kernel)
  (by first|exact .inl (by decide +kernel)|exact .inr (by decide +kernel)) (by rw[b8];kernel_rfl)
theorem EB:entryFor table "set_iterator.__next__"=some iL.«set_iterator.__next__»:=entryFor_of_tree (by kernel_rfl)
theorem El(a:Yr):argsOk "set_iterator.__next__" ⟨[a],[]⟩:=by kernel_rfl
theorem Li:entryFor table "set.__iter__"=some iL.«frozenset.__iter__»:=entryFor_alias (id':="frozenset.__iter__") (by kernel_rfl) rfl (by decide +kernel) (by kernel_rfl)
theorem MS:entryFor table "set.__and__"=some iL.«frozenset.__and__»:=entryFor_alias (id':="frozenset.__and__") (by kernel_rfl) rfl (by decide +kernel) (by kernel_rfl)
noncomputable abbrev VT(first:Yr)(i:Nat)(a:Zh)(n ep:Nat):Obj:={cls:=.type "set_iterator",data:=.fields #[first,.int i 0,.ref a,.int n 0,.int ep 0]}
structure Kt(P:Pt)(J:Zh)(s s':Yq):Prop where
 kp:∀b o,b≠J->b∉P.q->s.heap.get? b=some o->s'.heap.get? b=some o
 gs:∀(k:Nat) (st:aP),k∉P.g->s.gens[k]?=some st->s'.gens[k]?=some st
 dr:Zs s'.gens
 os:s'.os=s.os
theorem Kt.refl{P:Pt}{J:Zh}{s:Yq}(h:Zs s.gens):Kt P J s s:=⟨λU U U U e=>e,λU U U e=>e,h,rfl⟩
theorem Kt.In{P:Pt}{J:Zh}{s s' s'':Yq}(h:Kt P J s s')(k:In P s' s''):Kt P J s s'' :=
 ⟨λb o h1 h2 e=>k.kp b o h2 (h.kp b o h1 h2 e),λx st h1 e=>k.gs x st h1 (h.gs x st h1 e),k.dr,k.os.trans h.os⟩
theorem Kt.ch{P:Pt}{J:Zh}{s s':Yq}{h':aV}{tk:Nat}(h:Kt P J s s')(k:∀b o,b≠J->s'.heap.get? b=some o->h'.get? b=some o):Kt P J s {s' with heap:=h',toks:=tk} :=
 ⟨λb o h1 h2 e=>k b o h1 (h.kp b o h1 h2 e),h.gs,h.dr,h.os⟩
theorem IP.ch{P:Pt}{J:Zh}{s:Yq}{h':aV}{tk:Nat}(hb:Zs s.gens)(hJ:J∉P.q)(k:∀b o,b≠J->s.heap.get? b=some o->h'.get? b=some o):IP P s {s with heap:=h',toks:=tk} :=
 ⟨λq o hq e=>k q o (λz=>hJ (z▸hq)) e,λU U U e=>e,hb,rfl⟩
section
variable{P:Pt}{J a:Zh}{n ep:Nat}{o:dK}{es:Array (Int×Yr)}{t:av}{vs:List Yr}{it:Nat->Int}{sl:Nat->Nat}{WS:Yq}
theorem Wk.si(hh:A.handled=none)(hJ:J∉P.q)(ha:a∉P.q)(haJ:a≠J)(hd:o.data=.set es ep t)(hf:t.fits es.size=true)(hn:es.size=n)(hv:vs.length=n)(hvi:∀(i:Nat) (v:Yr),vs[i]?=some v->∃tk,v=.int (it i) tk)
 (hnext:∀(A:Za) (s:Yq) (Q:Option (Yr×Nat)->Yq->Prop) (E:Yr->Yq->Prop) (i:Nat),s.heap.get? a=some o->i<=n->Q ((vs[i]?).map λv=>(v,sl (i+1))) s->wpAny (model prog w) A (setNext a (sl i) i ep) Q E s) :
 Wk prog w A J P n it (Kt P J WS) (λi s=>s.heap.get? J=some (VT (.int (sl i) 0) i a n ep)/\s.heap.get? a=some o/\Kt P J WS s) where
 frame:=λi s s' y k=>CV y λh1 h2 h3=>⟨k.kp _ _ hJ h1,k.kp _ _ ha h2,h3.In k⟩
 fin:=λi s h=>h.2.2
 item:=λi s Q E hi y ex q=>CV y λh1 h2 h3=>by
  refine AJ λGG hG=>?_;obtain⟨v,hvv⟩:∃v,vs[i]?=some v:=⟨vs[i]'(ozJ ‹_› ‹_›),ZH _⟩;refine BB (hvi i v hvv) λtk z=>?_;obtain rfl:=z;refine hG ?_;have hT:s.TypeIs (.ref J) "set_iterator":=⟨_,h1,rfl⟩;refine Yo (dp (aX (name:=eP "__next__") hT Bl
   (aS Bl hT EB ?_ (El _))))
  refine(Yo (eY h1 rfl ?_):wpAny _ _ (fieldsOf (.ref J)>>=_) _ _ s);refine(Yo (aO h2 hd hf ?_):wpAny _ _ (setEntries a>>=_) _ _ s);refine hn.symm▸?_;rw[if_neg (by simp)]
  show wpAny _ _ (setNext a ((sl i:Int)).toNat ((i:Int)).toNat ((ep:Int)).toNat>>=_) _ _ s
  rw[Zj,Zj,Zj];refine Yo (hnext _ _ _ _ i h2 (ZY hi) ?_);refine hvv.symm▸?_;refine Yo (b9 h1 rfl (by exact bO _) ?_)
  have g1:=ZS (Zt (·.setIfInBounds 0 (rawInt (sl (i+1))))) h1 (by rfl)
  replace g1:(s.heap.update J (Zt (·.setIfInBounds 0 (rawInt (sl (i+1)))))).get? J=some (VT (.int (sl (i+1)) 0) i a n ep):=g1
  refine Yo (b9 g1 rfl (by exact ZK _ _) ?_)
  have g2:=ZS (Zt (·.setIfInBounds 1 (rawInt ((i:Int)+1)))) g1 (by rfl)
  replace g2:((s.heap.update J (Zt (·.setIfInBounds 0 (rawInt (sl (i+1)))))).update J (Zt (·.setIfInBounds 1 (rawInt ((i:Int)+1))))).get? J=some (VT (.int (sl (i+1)) 0) (i+1) a n ep):=g2
  have k2:∀b o,b≠J->s.heap.get? b=some o->((s.heap.update J (Zt (·.setIfInBounds 0 (rawInt (sl (i+1)))))).update J (Zt (·.setIfInBounds 1 (rawInt ((i:Int)+1))))).get? b=some o:=λb o hb e=>(ZN _ _ (aL hb)).trans ((ZN _ _ (aL hb)).trans e)
  refine Yv ⟨_,rfl,Yv (q tk _ ⟨g2,k2 _ _ haJ h2,h3.ch (tk:=s.toks) k2⟩ (IP.ch (tk:=s.toks) ex.2 hJ k2))⟩
 done:=λs Q E y ex q=>CV y λh1 h2 h3=>by
  have hT:s.TypeIs (.ref J) "set_iterator":=⟨_,h1,rfl⟩;refine Yo (dp (aX (name:=eP "__next__") hT Bl
   (aS Bl hT EB ?_ (El _))))
  refine(Yo (eY h1 rfl ?_):wpAny _ _ (fieldsOf (.ref J)>>=_) _ _ s);refine(Yo (aO h2 hd hf ?_):wpAny _ _ (setEntries a>>=_) _ _ s);refine hn.symm▸?_;rw[if_neg (by simp)]
  show wpAny _ _ (setNext a ((sl n:Int)).toNat ((n:Int)).toNat ((ep:Int)).toNat>>=_) _ _ s
  rw[Zj,Zj,Zj];refine Yo (hnext _ _ _ _ n h2 (Y1 _) ?_);refine(f8 (Zo hv)).symm▸?_;refine Yo (b9 h1 rfl (by exact ZK _ _) ?_)
  refine(Yo ?_:wpAny _ _ (newExc (.type "StopIteration") []>>=_) _ _ _);refine Yo (aM ?_ (by size_fits))
  refine Yo (m:=firstArgMember _ _) (d8 (a:=cU) (by first|rfl|(rfl)) ?_)
  refine aM ?_ (by size_fits)
  refine Yo (gw ?_);refine(show A.in1.handled=none from hh).symm▸Yo (Yv (wpAny_throw ?_))
  refine Yo (bJ (T:="StopIteration") (b:=true) ⟨_,Y9 _ rfl,rfl⟩ gT ?_);have kk:∀{o1 o2:dK} b o,b≠J->s.heap.get? b=some o->(((s.heap.update J (Zt (·.setIfInBounds 2 cU))).push o1).push o2).get? b=some o:=λb o hb e=>(((a9 ..).extBut.push _).push _) b o hb e
  exact Yv (q _ (h3.ch (tk:=s.toks) kk) (IP.ch (tk:=s.toks) ex.2 hJ kk))
end
end
theorem Pv{xs:Array Nat}(h:UM xs):ZG xs 0=0:=by
 refine CV (JV h 0) λh1 h2 U=>?_;cases e:ZG xs 0 with
 | zero=>rfl
 | succ p=>rw[e] at h1 h2;exact absurd (h2 0 (ZB (bO p) h1) (bO p)) (Nat.not_lt_zero _)
theorem Pw{xs:Array Nat}(h:UM xs){i:Nat}(hi:i<xs.size):ZG xs (xs[i]+1)=i+1:=by
 refine CV (JV h (xs[i]+1)) λh1 h2 h3=>?_;have a:i<ZG xs (xs[i]+1):=Nat.lt_of_not_le λz=>Nat.not_succ_le_self _ (h3 i hi z);have b:¬ i+1<ZG xs (xs[i]+1):=λz=>by
  have hs:i+1<xs.size:=ZB z h1;exact absurd (ZB (h2 (i+1) hs z) (h.lt (aG i) hs)) (ZE _)
 exact aY (bu.mp b) a
theorem Ii{α:Type}:∀{l:List α} {i:Nat} (h:i<l.length),(l[i]::l.eraseIdx i).Perm l
 | x::r,0,_=>.refl _
 | x::r,i+1,h=>by
  exact((List.Perm.swap _ _ _).trans (.cons _ (Ii _)):(r[i]'(Nat.lt_of_succ_lt_succ h)::x::r.eraseIdx i).Perm (x::r))
theorem Jv{α:Type}(next:Nat->Nat):∀fuel k (left:List α) (out:Array α),left.length=fuel->(iX next fuel k left out).toList.Perm (out.toList++left)
 | 0,_,left,out,h=>by
  cases left with
  | nil=>rw[eG];exact .refl _
  | cons=>cases h
 | fuel+1,k,left,out,h=>by
  have hlt:next k % left.length<left.length:=Nat.mod_lt _ (by rw[h];exact bO _)
  unfold iX;rw[ZH hlt];refine(Jv next fuel (k+1) (left.eraseIdx (next k % left.length)) (out.push left[next k % left.length]) (by rw[eZ hlt,h];rfl)).trans ?_
  rw[fA,bk];exact List.Perm.append_left _ (Ii hlt)
theorem WG{prog:Y8}{w:Y0}{A:Za}{E:Yr->Yq->Prop}{α:Type}:∀(n:Nat) (xs:List α) (s:Yq) (Q:List α->Yq->Prop),xs.length<=n->(∀ys d,ys.Perm xs->Q ys {s with drawn:=d})->wpAny (model prog w) A (drawOrder n xs) Q E s
 | 0,xs,s,Q,h,q=>by
  cases xs with
  | nil=>exact Yv (q [] s.drawn (.refl _))
  | cons=>exact absurd h (by simp)
 | n+1,[],s,Q,h,q=>by exact Yv (q [] s.drawn (.refl _))
 | n+1,x::r,s,Q,h,q=>by
  have ch:∀{k:Nat->Sem (List α)},(∀i,i<(x::r).length->wpAny (model prog w) A (k i) Q E {s with drawn:=s.drawn.bump .order})->wpAny (model prog w) A (choose .order (x::r).length>>=k) Q E s:=λ{k} hk Γ p hΓ=>by
   exact(⟨Nat.succ_ne_zero _,hk _ (Nat.mod_lt _ (dS _)) Γ p hΓ⟩:Sem.wp _ Γ (.choose .order (x::r).length k) _ _ p s)
  refine ch λi hi=>?_;refine(ZH hi).symm▸?_;refine Yo (WG n _ _ _ (by refine(eZ hi).symm▸?_;simp at h ⊢;assumption) λys d hp=>Yv (q _ d ((List.Perm.cons _ hp).trans (Ii hi))))
section
variable{prog:Y8}{w:Y0}{A:Za}{E:Yr->Yq->Prop}{s:Yq}{a:Zh}{S:Int->Bool}{n ep:Nat}{o:dK}{es:Array (Int×Yr)}{t:av}
section
variable{P:Pt}{J:Zh}
theorem Jw{Q:Bool->Yq->Prop}(q:Q (w.params.followText "set-order") s):wpAny (model prog w) A setsByText Q E s:=by
 exact Yo (bM (Yv q))
noncomputable abbrev tOrd(w:Y0)(a:Zh)(ep:Nat)(es:Array (Int×Yr)):Array (Int×Yr):=pickOrder (w.params.setOrder a ep) es
theorem Rf(so:SO prog w o S n es ep t)(ht:w.params.followText "set-order"=true){Q:Option (Yr×Nat)->Yq->Prop}{i:Nat}(ho:s.heap.get? a=some o)(q:Q ((((tOrd w a ep es).toList.map (·.2))[i]?).map λv=>(v,0)) s) :
 wpAny (model prog w) A (setNext a 0 i ep) Q E s:=by
 refine Yo (aB ho so.d so.f ?_);dsimp only;refine Yo (Jw ?_);refine ht.symm▸?_;simp only[↓reduceIte];rw[if_neg (by simp)]
 refine Yo ?_;refine Yo (aB ho so.d so.f ?_);refine Yo (Jw ?_);refine ht.symm▸?_;refine Yo (bM (Yv (Yv ?_)));rw[Ze,bg,Option.map_map] at q;exact q
noncomputable def Os(t:av):Nat->Nat
 | 0=>0
 | i+1=>t.place.getD i 0+1
theorem Px(so:SO prog w o S n es ep t)(ht:w.params.followText "set-order"=false)(hpl:(!t.plain&&decide (es.size > 1))=false){Q:Option (Yr×Nat)->Yq->Prop}{i:Nat}(ho:s.heap.get? a=some o)(hi:i<=n)(q:Q (((es.toList.map (·.2))[i]?).map λv=>(v,Os t (i+1))) s) :
 wpAny (model prog w) A (setNext a (Os t i) i ep) Q E s:=by
 have hps:t.place.size=n:=by
  have:=so.f;exact so.n▸eq_of_beq (an this).1
 have hb:ZG t.place (Os t i)=i:=by
  cases i with
  | zero=>exact Pv so.tb.srt
  | succ i =>
   show ZG t.place (t.place.getD i 0+1)=i+1
   have hlt:i<t.place.size:=by exact ozJ ‹_› ‹_›
   exact(show t.place.getD i 0=t.place[i] from by rw[ah,ZD hlt];rfl).symm▸Pw so.tb.srt hlt
 refine Yo (aB ho so.d so.f ?_);dsimp only;refine Yo (Jw ?_);refine ht.symm▸?_
 show wpAny _ _ (if(!t.plain&&decide (es.size > 1))=true then _ else _) _ _ s
 rw[if_neg (by exact hpl.symm▸Zg)]
 show wpAny _ _ ((if(!t.led&&!es.isEmpty)=true then unsupported _ else pure ())>>=_) _ _ s
 have hled:t.led=true:=by rw[so.tb.led];unfold ld;exact ht▸rfl
 rw[if_neg (by exact hled.symm▸Zg)]
 refine Yo (Yv ?_);refine hb.symm▸?_;replace q:=bg▸Ze▸q;by_cases hlt:i<n
 ·have h1:i<es.size:=by exact so.n.symm▸hlt
  have h2:i<t.place.size:=by exact ozJ ‹_› ‹_›
  rw[ZD h1] at q ⊢;refine(ZD h2).symm▸Yv ?_;have:Os t (i+1)=t.place[i]+1:=by show t.place.getD i 0+1=_;exact ah▸(ZD h2)▸rfl
  replace q:=this▸q;exact q
 ·have h1:es[i]?=none:=fj (by refine so.n.symm▸?_;exact bu.mp ‹_›)
  rw[h1] at q ⊢;exact Yv q
end
section
variable{P:Pt}{J Tp:Zh}{oT:dK}{it:Nat->Int}{WS:Yq}{ord:List Nat}
theorem Wk.sd(hh:A.handled=none)(hJ:J∉P.q)(ha:a∉P.q)(haJ:a≠J)(hTq:Tp∉P.q)(hTJ:Tp≠J)(so:SO prog w o S n es ep t)(hT:oT.data=.seq (ord.map λ(i:Nat)=>rawInt (i:Int)).toArray 0)(ho:ord.length=n)(hv:∀(i p:Nat),ord[i]?=some p->∃e tk,es[p]?=some e/\e.2=.int (it i) tk) :
 Wk prog w A J P n it (Kt P J WS) (λi s=>s.heap.get? J=some (VT (.ref Tp) i a n ep)/\s.heap.get? a=some o/\s.heap.get? Tp=some oT/\Kt P J WS s) where
 frame:=λi s s' z k=>IM z λh1 h2 h3 h4=>⟨k.kp _ _ hJ h1,k.kp _ _ ha h2,k.kp _ _ hTq h3,h4.In k⟩
 fin:=λi s h=>h.2.2.2
 item:=λi s Q E hi z ex q=>IM z λh1 h2 h3 h4=>by
  refine AJ λGG hG=>?_;obtain⟨p,hp⟩:∃p,ord[i]?=some p:=⟨ord[i]'(ozJ ‹_› ‹_›),ZH _⟩;refine Gs (hv i p hp) λe tk he hev=>?_;refine hG ?_;have hTy:s.TypeIs (.ref J) "set_iterator":=⟨_,h1,rfl⟩;refine Yo (dp (aX (name:=eP "__next__") hTy Bl
   (aS Bl hTy EB ?_ (El _))))
  refine(Yo (eY h1 rfl ?_):wpAny _ _ (fieldsOf (.ref J)>>=_) _ _ s);refine(Yo (aO h2 so.d so.f ?_):wpAny _ _ (setEntries a>>=_) _ _ s);refine so.n.symm▸?_;rw[if_neg (by simp)]
  refine(Yo (gU h3 hT ?_):wpAny _ _ (seqItems? (.ref Tp)>>=_) _ _ s);dsimp only;rw[Zj];have hpl:(ord.map λ(i:Nat)=>rawInt (i:Int)).toArray[i]?=some (rawInt (p:Int)):=by exact f9▸Ze▸hp▸rfl
  refine hpl.symm▸?_
  show wpAny _ _ (setNextDrawn a ((p:Int)).toNat ((ep:Int)).toNat>>=λx=>setField (.ref J) 1 (rawInt ((i:Int)+1))>>=λU=>ret x) _ _ s
  rw[Zj,Zj];refine Yo ?_;refine Yo (aB h2 so.d so.f ?_);dsimp only;rw[if_neg (by simp),he]
  obtain⟨hx,v⟩:=e;subst hev;refine Yv ?_;refine Yo (b9 h1 rfl (by exact ZK _ _) ?_)
  have g2:=ZS (Zt (·.setIfInBounds 1 (rawInt ((i:Int)+1)))) h1 (by rfl)
  replace g2:(s.heap.update J (Zt (·.setIfInBounds 1 (rawInt ((i:Int)+1))))).get? J=some (VT (.ref Tp) (i+1) a n ep):=g2
  have k2:∀b o,b≠J->s.heap.get? b=some o->(s.heap.update J (Zt (·.setIfInBounds 1 (rawInt ((i:Int)+1))))).get? b=some o:=λb o hb e=>(ZN _ _ (aL hb)).trans e
  refine Yv ⟨_,rfl,Yv (q tk _ ⟨g2,k2 _ _ haJ h2,k2 _ _ hTJ h3,h4.ch (tk:=s.toks) k2⟩ (IP.ch (tk:=s.toks) ex.2 hJ k2))⟩
 done:=λs Q E z ex q=>IM z λh1 h2 h3 h4=>by
  have hTy:s.TypeIs (.ref J) "set_iterator":=⟨_,h1,rfl⟩;refine Yo (dp (aX (name:=eP "__next__") hTy Bl
   (aS Bl hTy EB ?_ (El _))))
  refine(Yo (eY h1 rfl ?_):wpAny _ _ (fieldsOf (.ref J)>>=_) _ _ s);refine(Yo (aO h2 so.d so.f ?_):wpAny _ _ (setEntries a>>=_) _ _ s);refine so.n.symm▸?_;rw[if_neg (by simp)]
  refine(Yo (gU h3 hT ?_):wpAny _ _ (seqItems? (.ref Tp)>>=_) _ _ s);dsimp only;rw[Zj];have hpl:(ord.map λ(i:Nat)=>rawInt (i:Int)).toArray[n]?=none:=by exact f9▸Ze▸(f8 (Zo ho))▸rfl
  refine hpl.symm▸?_;refine Yo (b9 h1 rfl (by exact bO _) ?_)
  have g1:=ZS (Zt (·.setIfInBounds 0 (rawInt 0))) h1 (by rfl)
  replace g1:(s.heap.update J (Zt (·.setIfInBounds 0 (rawInt 0)))).get? J=some (VT (rawInt 0) n a n ep):=g1
  refine Yo (b9 g1 rfl (by exact ZK _ _) ?_)
  refine(Yo ?_:wpAny _ _ (newExc (.type "StopIteration") []>>=_) _ _ _);refine Yo (aM ?_ (by size_fits))
  refine Yo (m:=firstArgMember _ _) (d8 (a:=cU) (by first|rfl|(rfl)) ?_)
  refine aM ?_ (by size_fits)
  refine Yo (gw ?_);refine(show A.in1.handled=none from hh).symm▸Yo (Yv (wpAny_throw ?_))
  refine Yo (bJ (T:="StopIteration") (b:=true) ⟨_,Y9 _ rfl,rfl⟩ gT ?_);have kk:∀{o1 o2:dK} b o,b≠J->s.heap.get? b=some o->((((s.heap.update J (Zt (·.setIfInBounds 0 (rawInt 0)))).update J (Zt (·.setIfInBounds 2 cU))).push o1).push o2).get? b=some o:=λb o hb e=>Yx _ (Yx _ ((ZN _ _ (aL hb)).trans ((ZN _ _ (aL hb)).trans e)))
  exact Yv (q _ (h4.ch (tk:=s.toks) kk) (IP.ch (tk:=s.toks) ex.2 hJ kk))
theorem SO.ints(so:SO prog w o S n es ep t):∃is:List Int,A2 (λ(i:Int) (e:Int×Yr)=>∃tk,e.2=.int i tk) is es.toList/\∀k,S k=true<->k∈is:=by
 have key:∀l:List (Int×Yr),iK (intKind prog w) l->∃is:List Int,A2 (λ(i:Int) (e:Int×Yr)=>∃tk,e.2=.int i tk) is l/\∀k,(∃e∈l,(intKind prog w).is k e.2=true)<->k∈is:=by
  intro l
  induction l with
  | nil=>exact λU=>⟨[],.nil,λk=>⟨λy=>AR y λU h U=>(nomatch h),λh=>nomatch h⟩⟩
  | cons e r ih =>
   intro h;refine AR (ih h.tail) λis h1 h2=>?_;refine Am h.head λz U=>?_;refine AR z λk hk U=>?_;refine BB (dE hk) λtk hv=>?_;refine⟨k::is,.cons ⟨tk,hv⟩ h1,λx=>⟨λy=>AR y λe' he' hx=>?_,λhx=>?_⟩⟩
   ·rcases mcP he' with rfl|he'
    ·exact((intKind prog w).inj e'.2 x k hx hk)▸.head _
    ·exact .tail _ ((h2 x).mp ⟨e',he',hx⟩)
   ·rcases mcP hx with rfl|hx
    ·exact⟨e,.head _,hk⟩
    ·refine AR ((h2 x).mpr hx) λe' he' hx'=>?_;exact⟨e',.tail _ he',hx'⟩
 refine AR (key es.toList so.el) λis h1 h2=>?_;exact⟨is,h1,λk=>(so.mem k).trans (h2 k)⟩
theorem VU{ds is:List Int}(hl:is.length=ds.length)(hd:ds.Nodup)(h:∀k,k∈ds->k∈is):is.Perm ds:=by
 induction ds generalizing is with
 | nil=>cases is with
  | nil=>exact .refl _
  | cons=>cases hl
 | cons d r ih =>
  refine Am (ncP hd) λh1 h2=>?_;have hm:=h d (.head _);refine(List.perm_cons_erase hm).trans (.cons _ (ih (by rw[List.length_erase_of_mem hm,hl];rfl) h2 λk hk=>?_))
  exact(List.mem_erase_of_ne (show k≠d from λe=>h1 (e▸hk))).mpr (h k (.tail _ hk))
end
noncomputable def Fe:Yr->Int
 | .int i _=>i
 | _=>0
abbrev Tv(vs:List Yr)(i:Nat):Int:=Fe ((vs[i]?).getD .none)
theorem it_map(vs:List Yr):(bN vs.length).map (Tv vs)=vs.map Fe:=by
 refine dW (by simp) λi h1 h2=>?_
 have:i<vs.length:=by simpa using h1
 simp[Tv,ZH this]
section
variable{P:Pt}{Q:Yr->Yq->Prop}{ds:List Int}
theorem SO.vals(so:SO prog w o (λk=>decide (k∈ds)) ds.length es ep t)(hnd:ds.Nodup):((es.toList.map (·.2)).map Fe).Perm ds/\∀v∈es.toList.map (·.2),∃tk,v=.int (Fe v) tk:=by
 refine AR so.ints λis h1 h2=>?_;have e:∀{is:List Int} {l:List (Int×Yr)},A2 (λ(i:Int) (e:Int×Yr)=>∃tk,e.2=.int i tk) is l->(l.map (·.2)).map Fe=is/\∀v∈l.map (·.2),∃tk,v=.int (Fe v) tk:=by
  intro is l h
  induction h with
  | nil=>exact⟨rfl,λU h=>nomatch h⟩
  | @cons i e r l he _ ih =>
   refine BB he λtk he=>?_;refine⟨by rw[Zz,Zz,ih.1,he];rfl,λv hv=>?_⟩
   rcases mcP hv with rfl|hv
   ·exact⟨tk,by show e.2=.int (Fe e.2) tk;exact he▸rfl⟩
   ·exact ih.2 v hv
 refine Am (e h1) λe1 e2=>?_;refine⟨?_,e2⟩;rw[e1];exact VU (by exact h1.length▸ZO▸so.n▸rfl) hnd λk hk=>(h2 k).mp (decide_eq_true hk)
theorem NX{vs vs':List Yr}(p:vs'.Perm vs)(h1:(vs.map Fe).Perm ds)(h2:∀v∈vs,∃tk,v=.int (Fe v) tk):((bN ds.length).map (Tv vs')).Perm ds/\vs'.length=ds.length/\∀(i:Nat) (v:Yr),vs'[i]?=some v->∃tk,v=.int (Tv vs' i) tk:=by
 have hl:vs'.length=ds.length:=by rw[p.length_eq,<- h1.length_eq,Y2]
 refine⟨?_,hl,λi v hv=>?_⟩
 ·rw[<- hl,it_map];exact(p.map _).trans h1
 ·refine BB (h2 v (p.mem_iff.mp (aH hv))) λtk e=>?_;exact⟨tk,by unfold Tv;exact hv.symm▸e⟩
theorem Tw(hS:SI prog w s.heap a (λk=>decide (k∈ds)) ds.length)(hnd:ds.Nodup)(hbr:Zs s.gens)(ha:a∉P.q)(hP:∀q∈P.q,q<s.heap.objs.size)
 (q:∀I it s',((bN ds.length).map it).Perm ds->(∀A2:Za,A2.handled=none->∃St,Wk prog w A2 I P ds.length it (Kt P I s) St/\St 0 s')->Kt P I s s'->I∉P.q->s.heap.objs.size<=I->(∀b o,s.heap.get? b=some o->s'.heap.get? b=some o)->Q (.ref I) s'):wpAny (model prog w) A (pyIter (.ref a)) Q E s:=by
 obtain⟨o,es,ep,t,ho,so⟩:=hS;refine Am (so.vals hnd) λhp1 hp2=>?_;have hT:s.TypeIs (.ref a) "set":=⟨o,ho,so.ex.1⟩;have hlt:=Yy ho;refine wpAny_pyIter_slot hT gE (aS gE hT Li ?_ (PySem.F.args_set_iter_1 _))
 show wpAny _ _ (fK a>>=_) _ _ s
 refine Yo (Yo (aO ho so.d so.f (Yv ?_)));refine so.n.symm▸?_;have fin:∀{first:Yr} {s1:Yq},s1.heap.get? a=some o->Zs s1.gens->s1.os=s.os->s.heap.objs.size<=s1.heap.objs.size->(∀b o,s.heap.get? b=some o->s1.heap.get? b=some o)->(∀(k:Nat) (st:aP),s.gens[k]?=some st->s1.gens[k]?=some st) ->
  (∃it,((bN ds.length).map it).Perm ds/\∀s2,s2.heap.get? s1.heap.objs.size=some (VT first 0 a ds.length ep)->(∀b o,s1.heap.get? b=some o->s2.heap.get? b=some o)->Kt P s1.heap.objs.size s s2->∀A2:Za,A2.handled=none->∃St,Wk prog w A2 s1.heap.objs.size P ds.length it (Kt P s1.heap.objs.size s) St/\St 0 s2) ->
  wpAny (model prog w) A.in1 (newFields "set_iterator" [first,rawInt 0,.ref a,rawInt ds.length,rawInt ep]>>=ret) (λr s'=>∃v,r=.done (.ret v)/\∃T' r',s'.TypeIs v T'/\typeLookup (.type T') "__next__"=pure (some r')/\Q v s') E s1:=λ{first s1} h1 hb hos hsz hk hg ⟨it,hp,hw⟩=>by
  have kk:∀b o,s.heap.get? b=some o->(s1.heap.push (VT first 0 a ds.length ep)).get? b=some o:=λb o e=>Yx _ (hk b o e);have kt:Kt P s1.heap.objs.size s {s1 with heap:=s1.heap.push (VT first 0 a ds.length ep)}:=⟨λb o U U e=>kk b o e,λk st U e=>hg k st e,hb,hos⟩
  refine Yo (aM (Yv ⟨_,rfl,"set_iterator",_,⟨_,Y9 _ rfl,rfl⟩,Bl.lookup,?_⟩));exact q _ it _ hp (hw _ (Y9 _ rfl) (λb o e=>Yx _ e) kt) kt (λz=>ZE _ (ZB (hP _ z) hsz)) hsz kk
 have ep1:∀{s1:Yq} {first:Yr} {Q' E'},s1.heap.get? a=some o->wpAny (model prog w) A.in1 (newFields "set_iterator" [first,rawInt 0,.ref a,rawInt ds.length,rawInt ep]>>=ret) Q' E' s1->wpAny (model prog w) A.in1 (setEpoch a>>=λe=>newFields "set_iterator" [first,rawInt 0,.ref a,rawInt ds.length,rawInt e]>>=ret) Q' E' s1:=λh1 h=>Yo (fG h1 so.d so.f h);have sa:s.heap.objs.size∉P.q:=λz=>ZE _ (hP _ z);refine Yo ?_;refine Yo (aB ho so.d so.f ?_);refine Yo (Jw ?_);refine(Yv ?_:wpAny _ _ (pure (!(w.params.followText "set-order")&&(!t.plain&&decide (es.size > 1)))) _ _ s);by_cases hdr:(!(w.params.followText "set-order")&&(!t.plain&&decide (es.size > 1)))=true
 ·rw[if_pos hdr];refine Yo (WG _ _ _ _ (by exact cz.symm▸Y1 _) λys dd hys=>?_)
  have hyl:ys.length=ds.length:=by rw[hys.length_eq,cz]
  refine Yo (wpAny_newTuple ?_ (by rw[Y2,hyl];have:=so.b;rw[so.n] at this;unfold scanBound at this;refine ao.symm▸?_;exact Yn (ZY (m:=4096) ‹_›) (by decide)))
  refine ep1 (Yx _ ho) (fin (Yx _ ho) hbr rfl (by rw[b0];exact Zu _) (λb o e=>Yx _ e) (λU U e=>e) ?_)
  have hvp:(ys.map λ(p:Nat)=>((es[p]?).map (·.2)).getD .none).Perm (es.toList.map (·.2)):=by
   refine(hys.map _).trans (List.Perm.of_eq ?_);refine dW (by simp[so.n]) λi h1 h2=>?_
   have:i<es.size:=by simpa using h2
   simp[ZD this]
  refine CV (NX hvp hp1 hp2) λv1 v2 v3=>?_;refine⟨_,v1,λs2 g1 g2 kt A2 hA2=>⟨_,Wk.sd (Tp:=s.heap.objs.size) (ord:=ys) hA2 (λz=>ZE s.heap.objs.size (Nat.lt_of_succ_lt (by have:=hP _ z;rw[b0] at this;exact this))) ha (by rw[b0];exact ZF (ez hlt)) sa (by rw[b0];exact ZF (aG _)) so (oT:={cls:=.type "tuple",data:=.seq (ys.map λ(i:Nat)=>rawInt (i:Int)).toArray}) rfl hyl (λi p hp=>?_),g1,g2 _ _ (Yx _ ho),g2 _ _ (Y9 _ rfl),kt⟩⟩
  have hpl:p<es.size:=by rw[so.n];exact bw.mp (hys.mem_iff.mp (aH hp))
  obtain⟨tk,e⟩:=v3 i es[p].2 (by rw[Ze,hp];show some (((es[p]?).map (·.2)).getD .none)=_;exact(ZD hpl)▸rfl)
  exact⟨_,tk,ZD hpl,e⟩
 ·rw[if_neg hdr];refine Yo (Yv (ep1 ho (fin ho hbr rfl (Y1 _) (λb o e=>e) (λU U e=>e) ?_)));cases hby:w.params.followText "set-order" with
  | true =>
   have hvp:((tOrd w a ep es).toList.map (·.2)).Perm (es.toList.map (·.2)):=by
    refine List.Perm.map _ ?_;have:=Jv (w.params.setOrder a ep) es.size 0 es.toList #[] (ZO ..);exact this
   refine CV (NX hvp hp1 hp2) λv1 v2 v3=>?_;exact⟨_,v1,λs2 g1 g2 kt A2 hA2=>⟨_,Wk.si (sl:=λU=>0) hA2 sa ha (ZF hlt) so.d so.f so.n v2 v3 (λA s Q E i h1 U q=>Rf so hby h1 q),g1,g2 _ _ ho,kt⟩⟩
  | false =>
   refine CV (NX (.refl _) hp1 hp2) λv1 v2 v3=>?_;replace hdr:=hby▸hdr;exact⟨_,v1,λs2 g1 g2 kt A2 hA2=>⟨_,Wk.si (sl:=Os t) hA2 sa ha (ZF hlt) so.d so.f so.n v2 v3 (λA s Q E i h1 hi q=>Px so hby (by simpa using hdr) h1 hi q),g1,g2 _ _ ho,kt⟩⟩
end
section
variable{x r:Zh}
theorem SI.so{h:aV}(x:SI prog w h a S n):h.SetOf (intKind prog w) a S n:=let ⟨o,es,ep,t,ho,so⟩:=x;⟨o,es,ep,t,ho,so.ex,so.d,so.el,so.mem,so.b,so.f,so.n⟩
theorem Ty{Q:Bool->Yq->Prop}(l:List Zh)(hl:∀x∈l,∃S n,SI prog w s.heap x S n)(q:Q true s):wpAny (model prog w) A (setsQuiet l) Q E s:=by
 refine Yo (wpAny_forIn_list _ (λrest b s'=>s'=s/\b.1=none/\∀x∈rest,∃S n,SI prog w s.heap x S n) _ ?_ ?_ _ _ ⟨rfl,rfl,hl⟩)
 ·rintro x rest b s' ⟨rfl,hb,hr⟩;refine HT (hr x (.head _)) λS n z=>?_;obtain⟨o,es,ep,t,ho,so⟩:=z;refine Yo (aO ho so.d so.f ?_);refine Yo (ce _ (λrest b s''=>s''=s'/\b.1=none/\iK (intKind prog w) rest) _ ?_ ?_ _ _ ⟨rfl,rfl,so.el⟩)
  ·rintro⟨hh,v⟩ rest b s'' ⟨rfl,hb,hr⟩;refine Am hr.head λz U=>?_;refine AR z λk hk U=>?_;refine BB (dE hk) λtk hv=>?_;dsimp only at hv;subst hv;exact Yv ⟨rfl,rfl,hr.tail⟩
  ·rintro⟨b1,b2⟩ s'' ⟨rfl,hb,U⟩;dsimp only at hb;subst hb;exact Yv ⟨rfl,rfl,λy hy=>hr y (.tail _ hy)⟩
 ·rintro⟨b1,b2⟩ s' ⟨rfl,hb,U⟩;dsimp only at hb;subst hb;exact Yv q
theorem VV(so:SO prog w o S n es ep t)(ho:s.heap.get? a=some o)(hx:∃S n,SI prog w s.heap x S n){Sr:Int->Bool}{nr:Nat}(hr:SI prog w s.heap r Sr nr){Q:Array (Int×Yr)->Yq->Prop}
 (q:∀(arr:Array (Int×Yr)) h' d,arr.toList.Perm es.toList->cG r s.heap h'->SI prog w h' r Sr nr->Q arr {s with heap:=h',drawn:=d}):wpAny (model prog w) A (setWalkUnseen a [x,r] (some r)) Q E s:=by
 have same:∀(arr:Array (Int×Yr)),arr.toList.Perm es.toList->Q arr s:=λarr h=>q arr s.heap s.drawn h (.refl r s.heap) hr;refine Yo (aB ho so.d so.f ?_);refine Yo (Jw ?_);have walk:(w.params.followText "set-order"||(t.led&&t.plain)||decide (es.size<=1))=true->wpAny (model prog w) A (setWalk a) Q E s:=λhc=>by
  refine Yo (aB ho so.d so.f ?_);refine Yo (Jw ?_);cases ht:w.params.followText "set-order" with
  | true =>
   refine Yo (bM ?_);exact Yv (same _ (Jv (w.params.setOrder a ep) es.size 0 es.toList #[] (ZO ..)))
  | false =>
   rw[ht,Bool.false_or] at hc;have h1:(!t.plain&&decide (es.size > 1))=false:=by
    rcases UU hc with h|h
    ·exact((an h).2)▸rfl
    ·have:¬ es.size > 1:=by have:=of_decide_eq_true h;exact Ng ‹_›
     rw[decide_eq_false this,gP]
   have h2:(!t.led&&decide (es.size > 1))=false:=by
    rcases UU hc with h|h
    ·rw[(an h).1];rfl
    ·have:¬ es.size > 1:=by have:=of_decide_eq_true h;exact Ng ‹_›
     rw[decide_eq_false this,gP]
   show wpAny _ _ (if(!t.plain&&decide (es.size > 1))=true then _ else _) _ _ s
   rw[if_neg (by exact h1.symm▸Zg)]
   show wpAny _ _ ((if(!t.led&&decide (es.size > 1))=true then unsupported _ else pure ())>>=_) _ _ s
   rw[if_neg (by exact h2.symm▸Zg)]
   exact Yo (Yv (Yv (same _ (.refl _))))
 by_cases hc:(w.params.followText "set-order"||(t.led&&t.plain)||decide (es.size<=1))=true
 ·exact(if_pos hc).symm▸walk hc
 ·refine(if_neg hc).symm▸Yo (Ty _ (λy hy=>?_) ?_)
  ·rcases mcP hy with rfl|hy
   ·exact⟨S,n,o,es,ep,t,ho,so⟩
   ·rcases mcP hy with rfl|hy
    ·exact hx
    ·exact(msP hy).symm▸⟨Sr,nr,hr⟩
  ·refine Yo (dZ ?_);obtain⟨or,er,pr,tr,hor,sor⟩:=id hr;refine Yo (aB hor sor.d sor.f ?_);dsimp only;split
   ·refine Yo (fD hor sor.d ?_ (fE sor.b));refine Am (sor.put hor (t':={tr with led:=tr.led&&t.led,plain:=tr.plain&&t.plain}) sor.el sor.mem sor.b sor.f ⟨by show(tr.led&&t.led)=ld w;rw[sor.tb.led,so.tb.led,Bool.and_self],sor.tb.srt,sor.tb.dum⟩) λh1 h2=>?_
    exact Yv (q _ _ s.drawn (.refl _) (a9 _ r _) ⟨_,_,_,_,h1,(sor.n▸h2)⟩)
   ·exact Yv (same _ (.refl _))
end
end
section
variable{prog:Y8}{w:Y0}{A:Za}{E:Yr->Yq->Prop}{s:Yq}
section
variable{a x y r:Zh}{d1 d2:List Int}
noncomputable abbrev Em(l:List Int)(k:Int):Bool:=decide (k∈l)
abbrev eI(e:Int×Yr):Int:=Fe e.2
theorem Ot{id:String}{asked walked:Zh}(hx:SI prog w s.heap asked (Em d1) d1.length)(hy:SI prog w s.heap walked (Em d2) d2.length)(hr:SI prog w s.heap r (Em []) 0)(n2:d2.Nodup)(ra:r≠asked)(rw':r≠walked){Q:Unit->Yq->Prop}
 (q:∀s' acc,acc.Nodup->(∀k,k∈acc<->k∈d1/\k∈d2)->SI prog w s'.heap r (Em acc) acc.length->(∀b o,b≠r->s.heap.get? b=some o->s'.heap.get? b=some o)->s'.gens=s.gens->s'.os=s.os->Q () s') :
 wpAny (model prog w) A (do
  let was <- setEpoch walked
  for (h,x) in <- setWalkUnseen walked [asked,r] (some r) do
   holding [x] do
    if(<- setFind asked x h).isSome then
     let _ <- setAddHashed r x h
   br id walked was) Q E s:=by
 obtain⟨o,es,ep,t,ho,so⟩:=_root_.id hy;refine Yo (fG ho so.d so.f ?_);refine Yo (VV so ho ⟨_,_,hx⟩ hr λarr h' d hp hsb hr'=>?_);obtain⟨v1,v2⟩:=so.vals n2;have hpi:(arr.toList.map eI).Perm d2:=by
  refine(hp.map eI).trans ?_;rw[cq] at v1;exact v1
 refine Yo (ce _ (λrest U s'=>∃acc:List Int,SI prog w s'.heap r (Em acc) acc.length/\acc.Nodup/\(∀k∈acc,k∉rest.map eI)/\(rest.map eI).Nodup/\iK (intKind prog w) rest/\acc.length+rest.length<=es.size/\(∀k,k∈acc\/(k∈d1/\k∈rest.map eI)<->k∈d1/\k∈d2) /\
  (∀b o,b≠r->s.heap.get? b=some o->s'.heap.get? b=some o)/\s'.gens=s.gens/\s'.os=s.os) _ ?_ ?_ _ _ ⟨[],hr',.nil,λk h=>(nomatch h),hpi.nodup_iff.mpr n2,so.el.perm hp,?_,λk=>?_,?_,rfl,rfl⟩)
 ·rintro⟨hh,v⟩ rest b s' ⟨acc,g1,g2,g3,g4,g5,g6,g7,g8,g9,g10⟩;obtain⟨⟨k,hk,hke⟩,hsc⟩:=g5.head;obtain⟨tk,hv⟩:=dE hk;dsimp only at hv hke;subst hv;subst hke;have ek:eI ((intKind prog w).hash k,gg k tk)=k:=rfl;rw[Zz,ek] at g3 g4 g7;obtain⟨g4a,g4b⟩:=ncP g4;have hx':SI prog w s'.heap asked (Em d1) d1.length:=hx.kp λo e=>g8 _ o ra.symm e;have ho':=g8 _ _ rw'.symm ho;refine Yo (aU ?_);refine Yo (wpAny_setFind_of hk hsc hx'.so λi hi=>?_);have un:∀{s2:Yq} {Q'},s2.heap.get? walked=some o->Q' () s2->wpAny (model prog w) A (br id walked ep) Q' E s2:=λ{s2 Q'} h hq=>by
   unfold br;refine Yo (fG h so.d so.f ?_);rw[if_neg (by simp)]
   exact Yv hq
  rw[hi];by_cases hm:k∈d1
  ·rw[show Em d1 k=true from decide_eq_true hm,if_pos rfl]
   refine Yo (addI hk hsc g1 ?_ λh2 sb2 hS=>Yv ?_)
   ·have:=so.b;rw[aI] at g6;exact ozU ‹_› ‹_›
   ·refine Yo (un ((sb2.2 _ rw'.symm).trans ho') (Yv ⟨k::acc,?_,ncR ⟨λz=>g3 k z (.head _),g2⟩,λj hj z=>?_,g4b,g5.tail,by rw[aI] at g6 ⊢;exact ozV ‹_›,λj=>?_,λb o hb e=>(sb2.2 b hb).trans (g8 b o hb e),g9,g10⟩))
    ·have hn:k∉acc:=λz=>g3 k z (.head _);refine hS.congr (λj=>?_) (by rw[show Em acc k=false from decide_eq_false hn];rfl)
     rw[ft];simp[or_comm]
    ·rcases mcP hj with rfl|hj
     ·exact g4a z
     ·exact g3 j hj (.tail _ z)
    ·rw[<- g7 j,cM,cM];constructor
     ·rintro((rfl|h)|⟨h1,h2⟩)
      ·exact .inr ⟨hm,.inl rfl⟩
      ·exact .inl h
      ·exact .inr ⟨h1,.inr h2⟩
     ·rintro(h|⟨h1,rfl|h2⟩)
      ·exact .inl (.inr h)
      ·exact .inl (.inl rfl)
      ·exact .inr ⟨h1,h2⟩
  ·rw[show Em d1 k=false from decide_eq_false hm,if_neg Zg]
   refine Yv (Yo (un ho' (Yv ⟨acc,g1,g2,λj hj z=>g3 j hj (.tail _ z),g4b,g5.tail,by rw[aI] at g6;exact aW ‹_›,λj=>?_,g8,g9,g10⟩)))
   rw[<- g7 j,cM];constructor
   ·rintro(h|⟨h1,h2⟩)
    ·exact .inl h
    ·exact .inr ⟨h1,.inr h2⟩
   ·rintro(h|⟨h1,rfl|h2⟩)
    ·exact .inl h
    ·exact absurd h1 hm
    ·exact .inr ⟨h1,h2⟩
 ·rintro b s' ⟨acc,g1,g2,U,U,U,U,g7,g8,g9,g10⟩;exact Yv (q s' acc g2 (λk=>⟨λh=>(g7 k).mp (.inl h),λh=>((g7 k).mpr h).elim _root_.id λz=>(nomatch z.2)⟩) g1 g8 g9 g10)
 ·rw[List.length_nil,Nat.zero_add,hp.length_eq,ZO];exact Y1 _
 ·rw[hpi.mem_iff];exact⟨λh=>h.elim (λz=>(nomatch z)) _root_.id,.inr⟩
 ·exact λb o hb e=>(hsb.2 b hb).trans e
theorem SI.ty{S:Int->Bool}{n:Nat}(h:SI prog w s.heap a S n):s.TypeIs (.ref a) "set":=let ⟨o,_,_,_,e,so⟩:=h;⟨o,e,so.ex.1⟩
theorem SI.size{S:Int->Bool}{n:Nat}{Q:Nat->Yq->Prop}(h:SI prog w s.heap a S n)(q:Q n s):wpAny (model prog w) A (fK a) Q E s:=by
 obtain⟨o,es,ep,t,ho,so⟩:=h;refine Yo (aO ho so.d so.f (Yv ?_));exact so.n.symm▸q
theorem SI.any{S:Int->Bool}{n:Nat}{Q:Bool->Yq->Prop}(h:SI prog w s.heap a S n)(q:Q true s):wpAny (model prog w) A (Builtin.Frozenset.isAnySet (.ref a)) Q E s:=by
 refine Yo (bJ h.ty iM ?_);exact Yv q
theorem VW(hx:SI prog w s.heap x (Em d1) d1.length)(hy:SI prog w s.heap y (Em d2) d2.length)(n1:d1.Nodup)(n2:d2.Nodup)(hxy:y≠x){Q:Yr->Yq->Prop}
 (q:∀s' acc,acc.Nodup->(∀k,k∈acc<->k∈d1/\k∈d2)->SI prog w s'.heap s.heap.objs.size (Em acc) acc.length->(∀b o,s.heap.get? b=some o->s'.heap.get? b=some o)->s'.gens=s.gens->s'.os=s.os->Q (.ref s.heap.objs.size) s') :
 wpAny (model prog w) A (binaryOp .BitAnd (.ref x) (.ref y)) Q E s:=by
 refine wpAny_binaryOp_same (op:=.BitAnd) (T:="set") hx.ty hy.ty PySem.F.fills_set_and gX (aS gX hx.ty MS ?_ (PySem.F.args_set_and_2 _ _));refine Yo (d8 (a:=(dY x,dY y)) (by rfl) ?_)
 refine Yo (Yo (hx.any ?_));refine hy.any ?_;refine Yo (Yv ?_);unfold Builtin.Frozenset.intersection;rw[if_neg (by simp[hxy])]
 refine Yo ?_;refine Yo (Yo (bJ hx.ty iM (Yv ?_)));refine Yo (newI λhr=>?_);have hx1:SI prog w (s.heap.push (Ig (ld w))) x (Em d1) d1.length:=hx.kp λo e=>Yx _ e;have hy1:SI prog w (s.heap.push (Ig (ld w))) y (Em d2) d2.length:=hy.kp λo e=>Yx _ e;have hr1:SI prog w (s.heap.push (Ig (ld w))) s.heap.objs.size (Em []) 0:=hr.congr (λk=>by trivial) rfl
 have nr:∀{b S n},SI prog w s.heap b S n->s.heap.objs.size≠b:=λ⟨o,_,_,_,e,_⟩=>bQ (Yy e);refine Yo (Yv ?_);refine Yo (aU ?_);refine Yo (hy1.any ?_);refine Yo (Yv ?_);refine Yo (hy1.size ?_);refine Yo (hx1.size ?_);have fin:∀{s':Yq} {acc:List Int},acc.Nodup->(∀k,k∈acc<->k∈d1/\k∈d2)->SI prog w s'.heap s.heap.objs.size (Em acc) acc.length->(∀b o,b≠s.heap.objs.size->(s.heap.push (Ig (ld w))).get? b=some o->s'.heap.get? b=some o)->s'.gens=s.gens->s'.os=s.os->Q (.ref s.heap.objs.size) s' :=
  λh1 h2 h3 h4 h5 h6=>q _ _ h1 h2 h3 (λb o e=>h4 b o (ZF (Yy e)) (Yx _ e)) h5 h6
 by_cases hc:d2.length > d1.length
 ·refine(if_pos hc).symm▸?_;refine Z9 (Ot (d1:=d2) (d2:=d1) hy1 hx1 hr1 n1 (nr hy) (nr hx) (Q:=λU s'=>Q (.ref s.heap.objs.size) s') λs' acc h1 h2 h3 h4 h5 h6=>fin h1 (λk=>(h2 k).trans and_comm) h3 h4 h5 h6) (λU s' h=>?_) λU U e=>e;exact Yv (Yv ⟨_,rfl,by simp,h⟩)
 ·refine(if_neg hc).symm▸?_;refine Z9 (Ot (d1:=d1) (d2:=d2) hx1 hy1 hr1 n2 (nr hx) (nr hy) (Q:=λU s'=>Q (.ref s.heap.objs.size) s') λs' acc h1 h2 h3 h4 h5 h6=>fin h1 h2 h3 h4 h5 h6) (λU s' h=>?_) λU U e=>e;exact Yv (Yv ⟨_,rfl,by simp,h⟩)
end
theorem Ou:∀{vs:List Yr},(∀v∈vs,∃tk,v=.int (Fe v) tk)->de vs (vs.map Fe)
 | [],_=>.nil
 | v::r,h=>by
  refine BB (h v (.head _)) λtk e=>?_;exact Zz.symm▸e.symm▸.cons _ tk (Ou λx hx=>h x (.tail _ hx))
theorem Py{it:Nat->Int}{acc:Array Yr}{n:Nat}(h:iV (itP it) acc n):de acc.toList ((bN n).map it):=by
 have e:acc.toList.map Fe=(bN n).map it:=by
  refine dW (by simp[h.1]) λi h1 h2=>?_
  have hi:i<acc.size:=by simpa using h1
  refine BB (h.2 i acc[i] (ZD hi)) λt e=>?_;simp[e,Fe]
 refine e▸Ou λv hv=>?_;obtain⟨i,hi,rfl⟩:=bD hv;obtain⟨t,e⟩:=h.2 i acc.toList[i] (by exact bg▸ZH hi)
 exact⟨t,by rw[e];rfl⟩
section
variable{a:Zh}{ds:List Int}
theorem Tz{Q:Bool->Yq->Prop}(hT:s.TypeIs (.ref a) "set")(h:Q false s):wpAny (model prog w) A (Builtin.List.listLengthHint (.ref a)) Q E s:=by
 refine Yo (fq hT PySem.F.slot_set_len.lookup ?_)
 generalize hid:("set.__len__":String)=id0
 wp_delta
 refine(show splitId id0=some ("set","__len__") from by subst hid;decide +kernel).symm▸?_
 subst hid;refine Yo (bJ (T:="set") (b:=true) hT (by rw[b8];kernel_rfl) ?_)
 refine fw (λhab=>absurd hab (by decide)) (λU=>?_)
 refine fw (λU=>?_) (λhab=>absurd (by decide +kernel) hab)
 refine Yo (fg hT ?_);exact Yv h
structure Up(s s':Yq):Prop where
 kp:∀b o,s.heap.get? b=some o->s'.heap.get? b=some o
 gs:∀(k:Nat) (st:aP),s.gens[k]?=some st->s'.gens[k]?=some st
 dr:Zs s'.gens
 os:s'.os=s.os
theorem Pz{S:Zh}{R:bh->Yq->Prop}(hh:A.handled=none)(hS:SI prog w s.heap a (Em ds) ds.length)(hnd:ds.Nodup)(hbr:Zs s.gens)(hl:ds.length<=1000)(haS:a≠S){XR:Nat}(hO:s.heap.get? S=some {cls:=.type "list",data:=.seq #[] XR})(res:Yr)
 (hR:∀s' acc c' is,is.Perm ds->de acc.toList is->s'.heap.get? S=some (lO acc c')->(∀b o,b≠S->s.heap.get? b=some o->s'.heap.get? b=some o)->(∀(k:Nat) (st:aP),s.gens[k]?=some st->s'.gens[k]?=some st)->Zs s'.gens->s'.os=s.os->R (.ok (.ret res)) s') :
 wpAny (model prog w) A.in1 (bq (.ref S) (.ref a) res)
  (λfin s'=>match fin with|.done f=>R (.ok f) s'|.again c'=>c'.quiet=true/\codeAny (model prog w) A c' R s') (λe s'=>R (.error e) s') s:=by
 refine Yo (fg hS.ty ?_);have h1:a8 (.ref S) (.ref a)=false:=by simp[a8,aL haS]
 have h2:(au "set"==au "list")=false:=by decide
 have h3:(au "set"==au "tuple")=false:=by decide
 simp only[h1,h2,h3,bY,bU,if_false];refine Yo (Tw (P:=⟨[S],[]⟩) hS hnd hbr (λz=>haS (msP z)) (λq hq=>by exact(msP hq).symm▸Yy hO) λI it s1 hp hw kt hI hge kp=>?_)
 refine AR (hw A.in1 hh) λSt W hst=>?_;have hT1:s1.TypeIs (.ref a) "set":=(hS.kp λo e=>kp a o e).ty;have hS1:=kp _ _ hO;have key:∀{h:aV} {W6:Nat},(∀b o,b≠S->s1.heap.get? b=some o->h.get? b=some o)->h.get? S=some {cls:=.type "list",data:=.seq #[] W6}->codeAny (model prog w) A (.builtin "list.extend.loop" ⟨[.ref S,.ref I,res],[]⟩) R {s1 with heap:=h}:=λ{h W6} hk hg =>
  Mo W hl res ds.length 0 _ _ _ rfl (Zp _) (W.frame 0 s1 _ hst (In.one (tk:=s1.toks) kt.dr hg hk)) kt.dr hg (ItemsOf.nil _) λs' acc c' hf hg' hacc=>hR s' acc c' _ hp (Py hacc) hg' (λb o hb e=>hf.kp b o (λz=>ZE _ (ZB (z▸Yy e) hge)) (λz=>hb (msP z)) e) (λk st e=>hf.gs k st (λz=>nomatch z) e) hf.dr hf.os
 refine Yo (aU (Tz hT1 ?_));refine fw (λU=>?_) (λU=>Yv ⟨bc Z8 _,key (λU U U e=>e) hS1⟩);refine Yo (dZ ?_);refine Yo ?_;refine Yo (bX hS1 rfl ?_);have Wt:=ZS (fi (·.push cU)) hS1 rfl
 refine bX (hz:=by seq_fits) Wt rfl ?_
 exact Yv ⟨bc Z8 _,key (λb o hb e=>(ZN _ _ (aL hb)).trans ((ZN _ _ (aL hb)).trans e)) (ZS (fi (·.pop)) Wt rfl)⟩
theorem Ov{R:List Yr->Yq->Prop}(hh:A.handled=none)(hS:SI prog w s.heap a (Em ds) ds.length)(hnd:ds.Nodup)(hbr:Zs s.gens)(hl:ds.length<=1000)
 (h:∀s' vs is,is.Perm ds->de vs is->Up s s'->R vs s'):wpAny (model prog w) A (collect (.ref a)) R E s:=by
 obtain⟨oa,U,U,U,ha,U⟩:=_root_.id hS;have hlt:=Yy ha;refine Yo (wpAny_runValue (aZ entry_proto_collect' ?_));refine(aJ PySem.F.plain_proto_collect _).symm▸?_;refine Yo (aM ?_);refine Yv ⟨bc fS _,aZ entry_list_iadd' ?_⟩;refine(aJ fS _).symm▸?_;have YN:(s.heap.push {cls:=.type "list",data:=.seq ([]:List Yr).toArray}).get? s.heap.objs.size=some {cls:=.type "list",data:=.seq #[]}:=Y9 _ rfl;have hP:=hS.kp (h':=s.heap.push {cls:=.type "list",data:=.seq ([]:List Yr).toArray}) λo e=>Yx _ e;refine Z9 (Pz (A:=A) (s:={s with heap:=s.heap.push {cls:=.type "list",data:=.seq ([]:List Yr).toArray}}) (S:=s.heap.objs.size)
  (R:=λ(q:bh) (s':Yq)=>∃acc c' is,q=.ok (.ret (.ref s.heap.objs.size))/\is.Perm ds/\de acc.toList is/\s'.heap.get? s.heap.objs.size=some (lO acc c')/\Up s s')
  hh hP hnd hbr hl (ZF hlt) YN (.ref s.heap.objs.size) λs' acc c' is h1 h2 h3 h4 h5 h6 h7=>⟨acc,c',is,rfl,h1,h2,h3,λb o e=>h4 b o (ZF (Yy e)) (Yx _ e),h5,h6,h7⟩) (λfin s' x=>?_) λe s' x=>?_
 ·cases fin with
  | done f =>
   refine x35 x λacc c' is e h1 h2 h3 h4=>?_;cases e
   refine(Yo (wpAny_load h3 ?_):wpAny _ A (load s.heap.objs.size>>=_) _ _ _);exact Yv (h s' _ is h1 h2 h4)
  | again W6 =>
   refine⟨x.1,iN x.2 λq WQ y=>?_⟩;refine x35 y λacc c' is z h1 h2 h3 h4=>?_;obtain rfl:=z;refine(Yo (wpAny_load h3 ?_):wpAny _ A (load s.heap.objs.size>>=_) _ _ _);exact Yv (h WQ _ is h1 h2 h4)
 ·refine NB x λU U U e' U=>?_;exact nomatch e'
theorem P0{Q:Yr->Yq->Prop}{ls:List Int}(hh:A.handled=none)(hS:SI prog w s.heap a (Em ds) ds.length)(hnd:ds.Nodup)(hbr:Zs s.gens)(hl:ds.length<64)(hp:ds.Perm ls)(ha:Gw ls)
 (h:∀D s' out c',s.heap.get? D=none->s'.heap.get? D=some (seqObj "list" out c')->de out.toList ls->Up s s'->Q (.ref D) s'):wpAny (model prog w) A (Z6 (.builtin "sorted") [.ref a]) Q E s:=by
 refine call_function_entry kind_sorted plain_sorted entry_sorted (args_sorted1 _) ?_;unfold iL.«sorted»;refine Yo (m:=checkCount "sorted" 1 1 _) (Yv ?_);refine Yo (Ov (A:=A.in1) hh hS hnd hbr (Yn (ZY (m:=64) ‹_›) (by decide)) λs1 vs is h1 h2 up=>?_)
 have hvl:vs.length<64:=by rw[h2.length,h1.length_eq];exact hl
 refine Yo (wpAny_newList ?_ (by rw[ao];exact Yn (ZY (m:=64) ‹_›) (by decide)))
 have ho:(s1.heap.push {cls:=.type "list",data:=.seq vs.toArray}).get? s1.heap.objs.size=some (seqObj "list" vs.toArray 0):=Y9 _ rfl;refine Yo (aU (aS PyProof.Rows.slot_list_sort ⟨_,ho,rfl⟩ PyProof.Rows.entry_list_sort (list_sort_tree ho h2 hvl λout ns' hO hp' hP=>⟨.none,rfl,?_⟩) (PyProof.Rows.args_list_sort _)));have e:ns'=ls:=lks_uniq (hp'.trans (h1.trans hp)) hP (ha.imp ZZ);subst e;obtain⟨ep',hat'⟩:=sortedHeap_at (out:=out) ho;have sz:s.heap.get? s1.heap.objs.size=none:=by
  cases q:s.heap.get? s1.heap.objs.size with
  | none=>rfl
  | some o=>exact absurd (Yy (up.kp _ _ q)) (ZE _)
 refine Yv ⟨_,rfl,h _ _ out ep' sz hat' hO ⟨λb o e=>?_,up.gs,up.dr,up.os⟩⟩;have e1:(s1.heap.push {cls:=.type "list",data:=.seq vs.toArray}).get? b=some o:=Yx _ (up.kp _ _ e);have hne:b≠s1.heap.objs.size:=ZF (Yy (up.kp _ _ e));exact(sortedHeap_old hne (Yy e1)).trans e1
end
section
variable{WS:Yq}{I l:Zh}{P:Pt}{items:Array Yr}{n:Nat}{it:Nat->Int}
theorem Wk.list(hh:A.handled=none)(hI:I∉P.q)(hl:l∉P.q)(hne:l≠I)(hn:items.size=n)(hv:∀(i:Nat) (v:Yr),items[i]?=some v->∃t,v=.int (it i) t) :
 Wk prog w A I P n it (Kt P I WS) (λi s=>s.heap.IsListIter I l i/\s.heap.IsList l items/\Kt P I WS s) where
 frame:=λi s s' z k=>CV z λh1 h2 h3=>⟨AR h1 λo a b=>⟨o,k.kp _ _ hI a,b⟩,h2.at λo e=>k.kp _ _ hl e,h3.In k⟩
 fin:=λi s h=>h.2.2
 item:=λi s Q E hi z ex q=>CV z λh1 h2 h3=>by
  have hx:items[i]?=some (items[i]'(ozJ ‹_› ‹_›)):=ZD _;obtain⟨t,e⟩:=hv i _ hx;rw[e] at hx;exact fZ h1 h2 hx λh' hi' sb=>q t _ ⟨hi',h2.at λo e=>(sb.2 l hne).trans e,h3.ch (tk:=s.toks) λb o hb e=>(sb.2 b hb).trans e⟩ (IP.ch (tk:=s.toks) ex.2 hI λb o hb e=>(sb.2 b hb).trans e)
 done:=λs Q E z ex q=>CV z λh1 h2 h3=>wpAny_pyNext_list_end hh h1 h2 (by rw[<- hn];exact fj (Y1 _)) λh' eb=>q _ (h3.ch (tk:=s.toks) λb o hb e=>eb b o hb e) (IP.ch (tk:=s.toks) ex.2 hI λb o hb e=>eb b o hb e)
end
section
variable{c:Cx}{m:Zf->Option Yr}{H:MH}{s1:Yq}{F:List Nat}{ds:List Int}{P:Pt}{bd:Nat}{y:Yr}{Q:Yr->Yq->Prop}
theorem KH.all(v:KH prog w bd c m H F ds y s):∃H',AU prog w c m H' s/\An H H' F:=by
 rcases v with⟨l,H',_,R,f,_⟩|⟨I,_,_,H',R,f,_⟩
 ·exact⟨H',R,f⟩
 ·exact⟨H',R,f⟩
theorem fin_kt{H':MH}{I:Zh}{s'':Yq}(R:AU prog w c m H' s)(f:An H H' F)(hq:∀q∈P.q,s.heap.get? q=none)(fI:s.heap.get? I=none)(nI:I∉P.q)(nd:P.q.Nodup)(hg:∀g∈P.g,s.gens.size<=g)(hf:Kt P I s s''):MQ prog w c m P H F s'':=by
 have hq':∀x∈I::P.q,s.heap.get? x=none:=λx hx=>(mcP hx).elim (λe=>e▸fI) (hq x);have pk:WF ⟨I::P.q,P.g⟩ c:=⟨ncR ⟨nI,nd⟩,λp hp z=>?_,λz=>?_,λk hk=>?_⟩
 ·have R2:=AU.re0 (prog:=prog) (w:=w) (P:=⟨I::P.q,P.g⟩) (s:=s) (s':=s'') (c:=c) (m:=m) (H:=H') ?_ pk (λb o hb e=>hf.kp b o (λz=>hb (by exact z▸.head _)) (λz=>hb (.tail _ z)) e) (λk st hk e=>hf.gs k st hk e) hf.dr hf.os
  ·refine⟨H',R2.dropX' λp hp=>?_,f⟩;rcases maP hp with hp|hp
   ·refine Am (BC.mp hp) λz1 z2=>?_;exact Yw _ (BC.mpr ⟨.tail _ z1,z2⟩)
   ·exact Yt _ hp
  ·show AU prog w (c.x (FS _ s.heap++c.X)) m H' s
   rw[GF hq'];exact R
 ·obtain⟨D,Yj,N,L⟩:=R.led;have:=(N p (L.xs p hp).1).1;exact nS (hq' _ z) this
 ·refine BB R.lo λoL hL=>?_;exact nS (hq' _ z) hL
 ·cases q:c.gs[k]? with
  | none=>rfl
  | some st=>have:=(Zb.mp (R.gs k st q)).1;have:=hg k hk;exact absurd ‹(_:Nat)<_› (Ng ‹_›)
theorem AU.freshX{x:Nat}{ob:dK}{H':MH}{s':Yq}(R:AU prog w c m H' s)(u:Up s s')(hx:s.heap.get? x=none)(ho:s'.heap.get? x=some ob):AU prog w (c.x ((x,ob)::c.X)) m H' s':=by
 refine AJ λGG hG=>?_;obtain⟨D,Yj,N,L⟩:=R.led;refine BB R.lo λoL hL=>?_;refine hG ?_;clear hG GG;have n1:x∉Yj.map (·.1):=λz=>by
  refine AR (mmP z) λp hp y=>?_;obtain rfl:=y;exact sN ((N p hp).1) hx
 have f1:c.WM.get? x=none:=by
  cases q:c.WM.get? x with
  | none=>rfl
  | some o=>exact sN (R.fr.keep _ _ q) hx
 refine⟨R.fr.keeps u.kp,⟨D,(x,ob)::Yj,λp hp=>?_,L.addX n1 f1⟩,λk st e=>u.gs k st (R.gs k st e),u.dr,u.os.trans R.os⟩;rcases mcP hp with rfl|hp
 ·exact⟨ho,(λz=>by have z:x=c.L:=z;exact zN (hx▸z▸hL)),f1⟩
 ·exact⟨u.kp _ _ (N p hp).1,(N p hp).2⟩
theorem VX{H':MH}{I:Zh}{ob:dK}{s'':Yq}(R:AU prog w (c.x ((I,ob)::c.X)) m H' s)(hX:∀p∈c.X,p.1≠I)(f:An H H' F)(hq:∀q∈P.q,s.heap.get? q=none)(nd:P.q.Nodup)(hg:∀g∈P.g,s.gens.size<=g)(hf:Kt P I s s''):MQ prog w c m P H F s'':=by
 have e:=R.xget;have nI:I∉P.q:=λz=>by exact nS (hq _ z) e
 have pk:WF ⟨I::P.q,P.g⟩ c:=⟨ncR ⟨nI,nd⟩,λp hp z=>?_,λz=>?_,λk hk=>?_⟩
 ·have R2:=AU.re0 (prog:=prog) (w:=w) (P:=⟨I::P.q,P.g⟩) (s:=s) (s':=s'') (c:=c) (m:=m) (H:=H') ?_ pk (λb o hb e=>hf.kp b o (λz=>hb (by exact z▸.head _)) (λz=>hb (.tail _ z)) e) (λk st hk e=>hf.gs k st hk e) hf.dr hf.os
  ·refine⟨H',R2.dropX' λp hp=>?_,f⟩;rcases maP hp with hp|hp
   ·refine Am (BC.mp hp) λz1 z2=>?_;exact Yw _ (BC.mpr ⟨.tail _ z1,z2⟩)
   ·exact Yt _ hp
  ·have:FS ⟨I::P.q,P.g⟩ s.heap=[(I,ob)]:=by
    unfold FS;rw[aA,e];exact congrArg (_::·) (GF (P:=⟨P.q,P.g⟩) hq)
   show AU prog w (c.x (FS _ s.heap++c.X)) m H' s
   exact this.symm▸R
 ·obtain⟨D,Yj,N,L⟩:=R.led;have:=(N p (L.xs p (.tail _ hp)).1).1;rcases mcP z with z|z
  ·exact hX p hp z
  ·exact nS (hq _ z) this
 ·refine AJ λGG hG=>?_;obtain⟨D,Yj,N,L⟩:=R.led;refine BB R.lo λoL hL=>?_;refine hG ?_;rcases mcP z with z|z
  ·exact(N _ (L.xs _ (.head _)).1).2.1 z.symm
  ·have hL:s.heap.get? c.L=some oL:=hL;exact nS (hq _ z) hL
 ·cases q:c.gs[k]? with
  | none=>rfl
  | some st=>have:=(Zb.mp (R.gs k st q)).1;have:=hg k hk;exact absurd ‹(_:Nat)<_› (Ng ‹_›)
theorem Rg{xs:List Yr}{ds:List Int}(h:de xs ds){v:Yr}:∀i,xs[i]?=some v->∃t,v=.int (ds.getD i 0) t:=by
 induction h with
 | nil=>intro i e;simp at e
 | cons n t _ ih =>
  intro i e;cases i with
  | zero=>simp at e;exact⟨t,by simp[<- e]⟩
  | succ i=>simp at e ⊢;exact ih i e
theorem Qk{xs:List Yr}{I l:Zh}{A2:Za}(hI:de xs ds)(hA:A2.handled=none)(nI:I∉P.q)(lP:l∉P.q)(hne:l≠I):Wk prog w A2 I P ds.length (λi=>ds.getD i 0) (Kt P I s) (λi x=>x.heap.IsListIter I l i/\x.heap.IsList l xs.toArray/\Kt P I s x) :=
 Wk.list hA nI lP hne (items:=xs.toArray) (by exact ZI▸hI.length) λi v hv=>Rg hI i (by simpa using hv)
theorem KH.iter(v:KH prog w bd c m H F ds y s)(ht:H Ai=some .txt)(nd:P.q.Nodup)(hq:∀q∈P.q,s.heap.get? q=none)(hg:∀g∈P.g,s.gens.size<=g)(i1:In P s s1)
 (q:∀I s',(∀A2:Za,A2.handled=none->8*A2.depth+A2.units+bd<=7900->∃St,Wk prog w A2 I P ds.length (λi=>ds.getD i 0) (MQ prog w c m P H F) St/\Sf prog w I St/\St 0 s')->In P s1 s'->(∀b o,s1.heap.get? b=some o->s'.heap.get? b=some o)->Q (.ref I) s') :
 wpAny (model prog w) A (pyIter y) Q E s1:=by
 rcases v with⟨l,H',rfl,R,f,hl⟩|⟨I,rfl,⟨g,hgn⟩,H',R,f,hw⟩
 ·refine AR (R.lst (.inl hl)) λxs h1 h2=>?_;have hI:=Fb h2 (CT ds);have old:∀{b o},s.heap.get? b=some o->b∉P.q:=λe z=>by exact nS (hq _ z) e
  refine AR (_root_.id h1) λol e1 e2=>?_;have hl1:s1.heap.IsList l xs.toArray:=h1.at λo e=>i1.kp _ _ (old e) e;have lP:l∉P.q:=old e1;have l1:l<s1.heap.objs.size:=Yy (i1.kp _ _ lP e1);have nI:s1.heap.objs.size∉P.q:=λz=>by refine BB (i1.e0 _ z) λo e=>?_;exact ZE _ (Yy e)
  have fI:s.heap.get? s1.heap.objs.size=none:=by
   cases q:s.heap.get? s1.heap.objs.size with
   | none=>rfl
   | some o=>exact absurd (Yy (i1.kp _ _ nI q)) (ZE _)
  refine dD hl1 ?_;have kk:∀{o1:dK} b o,s1.heap.get? b=some o->(s1.heap.push o1).get? b=some o:=λb o e=>Yx _ e;exact q _ _ (λA2 hA U=>⟨_,(Qk hI hA nI lP (ZF l1)).imp λs'' hf=>fin_kt R f hq fI nI nd hg hf,λA5 i5 s5 Q5 E5 h5 q5=>wpAny_pyIter_listiter h5.1 q5,⟨_,Y9 _ rfl,rfl,rfl⟩,hl1.at λo e=>kk _ _ e,λb o h1 h2 e=>kk b o (i1.kp b o h2 e),λk st hk e=>i1.gs k st hk e,i1.dr,i1.os⟩) ⟨λx hx=>BB (i1.e0 x hx) λo e=>⟨o,kk _ _ e⟩,λb o U e=>kk b o e,λU U U e=>e,i1.dr,rfl⟩ kk
 ·have hgI:s1.heap.IsGen I g:=by
   refine NB hgn λo k x a b=>?_;exact⟨o,k,x,i1.kp _ _ (λz=>by exact zN ((hq _ z).symm.trans a)) a,b⟩
  refine cI hgI (q I s1 (λA2 h1 h2=>?_) ⟨i1.e0,λU U U e=>e,λU U U e=>e,i1.dr,rfl⟩ λU U e=>e);refine Es (hw s (.refl R (f.kp _ _ ht (.inr rfl))) A2 P h1 h2 nd hq hg) λSt W sf st=>?_;exact⟨St,W,sf,W.frame 0 s s1 st i1⟩
theorem KH.iter0(v:KH prog w bd c m H F ds y s)(ht:H Ai=some .txt)(q:∀I s',s.heap.get? I=none\/s'=s->Up s s'->(∃o,s'.heap.get? I=some o)->ItI prog w bd c m H F ds I s'->Q (.ref I) s'):wpAny (model prog w) A (pyIter y) Q E s:=by
 rcases v with⟨l,H',rfl,R,f,hl⟩|⟨I,rfl,⟨g,hgn⟩,H',R,f,hw⟩
 ·refine AR (R.lst (.inl hl)) λxs h1 h2=>?_;have hI:=Fb h2 (CT ds);refine AR (_root_.id h1) λol e1 e2=>?_;refine dD h1 ?_;have kk:∀{o1:dK} b o,s.heap.get? b=some o->(s.heap.push o1).get? b=some o:=λb o e=>Yx _ e;have fI:s.heap.get? s.heap.objs.size=none:=Ha (Y1 _);have up:Up s {s with heap:=s.heap.push {cls:=.type "list_iterator",data:=.fields #[.ref l,.int 0 0]}}:=⟨kk,λU U e=>e,R.dr,rfl⟩
  have ht':=f.kp _ _ ht (.inr rfl);have nIt:s.heap.objs.size≠Ai:=λz=>by refine AR ((R.txO ht').1) λo e U=>?_;exact zN (fI▸z▸e)
  have EU:l≠Ai:=λz=>by exact nomatch (ht'▸z▸hl)
  have R1:AU prog w c m H' {s with heap:=s.heap.push {cls:=.type "list_iterator",data:=.fields #[.ref l,.int 0 0]}}:=⟨R.fr.keeps kk,let ⟨D,Yj,N,L⟩:=R.led;⟨D,Yj,λp hp=>⟨kk _ _ (N p hp).1,(N p hp).2⟩,L⟩,R.gs,R.dr,R.os⟩
  refine q _ _ (.inl fI) up ⟨_,Y9 _ rfl⟩ ⟨H',R1,f,λs' tx A2 P hA U nd hq hg=>?_⟩;have gI:=tx.kp _ _ nIt (Y9 (h:=s.heap) (o:={cls:=.type "list_iterator",data:=.fields #[.ref l,.int 0 0]}) rfl);have gl:=tx.kp _ _ EU (kk _ _ e1);have nI:s.heap.objs.size∉P.q:=λz=>by exact nS (hq _ z) gI
  have lP:l∉P.q:=λz=>by exact nS (hq _ z) gl
  have l1:l<s.heap.objs.size:=Yy e1;exact⟨_,(Qk hI hA nI lP (ZF l1)).imp λs'' hf=>VX ((R.freshX up fI (Y9 _ rfl)).tx ht' tx) (λp hp=>ZF (R.lt.2 p hp).1) f hq nd hg hf,λA5 i5 s5 Q5 E5 h5 q5=>wpAny_pyIter_listiter h5.1 q5,⟨_,gI,rfl,rfl⟩,(h1.at λo e=>kk _ _ e).at λo e=>tx.kp _ _ EU e,Kt.refl tx.dr⟩
 ·exact cI hgn (q I s (.inr rfl) ⟨λU U e=>e,λU U e=>e,R.dr,rfl⟩ (NB hgn λo U U e U=>⟨o,e⟩) ⟨H',R,f,hw⟩)
theorem VY(ds:List Int)(k:Int):Qj (λi=>ds.getD i 0) ds.length k=Em ds k:=by
 unfold Qj Em;rw[ft,List.any_eq_true,decide_eq_true_iff];constructor
 ·intro z;refine AR z λi hi e=>?_;have hi:=bw.mp hi;dsimp only at e;rw[Z7,ZH hi] at e;exact(eq_of_beq e)▸List.getElem_mem hi
 ·intro h;obtain⟨i,hi,e⟩:=bD h;exact⟨i,bw.mpr hi,by dsimp only;rw[Z7,ZH hi];simpa using e⟩
theorem nd_inj{ds:List Int}(h:ds.Nodup):∀i j,i<j->j<ds.length->ds.getD i 0≠ds.getD j 0:=λi j hij hj e=>by
 rw[Z7,Z7,ZH (az ‹_› ‹_›),ZH hj] at e;exact eh.mp h i j (az ‹_› ‹_›) hj hij e
theorem NY:isSubtype (.type "list") (.type "set")=pure false:=by rw[b8];kernel_rfl
theorem Ij:isSubtype (.type "list") (.type "frozenset")=pure false:=by rw[b8];kernel_rfl
theorem Ow(hh:A.handled=none)(mb:8*A.depth+A.units+bd+3<=7900)(hl:ds.length<=1000)(nd:ds.Nodup)(ht:H Ai=some .txt)(v:KH prog w bd c m H F ds y s)
 (q:∀S ob H' s',SI prog w s'.heap S (Em ds) ds.length->AU prog w (c.x ((S,ob)::c.X)) m H' s'->An H H' F->(∀p∈c.X,p.1≠S)->Q (.ref S) s') :
 wpAny (model prog w) A (Z6 (.type "set") [y]) Q E s:=by
 refine AR v.all λH0 R0 U=>?_;have main:∀(a:Zh) (T:String),y=.ref a->s.TypeIs (.ref a) T->isSubtype (.type T) (.type "set")=pure false->isSubtype (.type T) (.type "frozenset")=pure false->(au T==au "dict")=false->wpAny (model prog w) A (Z6 (.type "set") [y]) Q E s:=by
  rintro a T rfl hT h1 h2 h3;refine Ps (Fin:=MQ prog w c m ⟨[s.heap.objs.size],[]⟩ H F) hT h1 h2 h3 hl (nd_inj nd) (λQ' hq=>?_) λs' hf hb hS=>?_
  ·have hS:(s.heap.push (Ig (ld w))).get? s.heap.objs.size=some (Ig (ld w)):=Y9 _ rfl;refine v.iter (P:=⟨[s.heap.objs.size],[]⟩) ht (ncR ⟨Zn,bE⟩) (λx hx=>by exact(msP hx).symm▸Ha (Y1 _)) (λx hx=>nomatch hx) (In.one (tk:=s.toks) R0.dr hS λb o U e=>Yx _ e) λI s' hw i2 kp=>hq I s' (Es (hw A.in1.in1.in1 hh ?_) λSt W U st=>⟨St,W,st⟩) i2.dr (kp _ _ hS)
   show 8*A.depth+(A.units+1+1+1)+bd<=7900
   exact d4 ‹_›
  ·obtain⟨H',R',f'⟩:=hf;obtain⟨ob,U,U,U,ho,U⟩:=_root_.id hS;exact q _ ob H' s' (hS.congr (VY ds) rfl) (R'.dropX' λp hp=>by
    rcases mcP hp with rfl|hp
    ·exact Yw _ (BC.mpr ⟨.head _,ho⟩)
    ·exact Yt _ hp) f' λp hp=>ZF (R0.lt.2 p hp).1
 rcases v with⟨l,H',rfl,R,f,hl⟩|⟨I,rfl,⟨g,hgn⟩,H',R,f,hw⟩
 ·refine AR (R.lst (.inl hl)) λxs h1 h2=>?_;exact main l "list" rfl h1.typeIs NY Ij (by decide)
 ·exact main I "generator" rfl hgn.typeIs Oq JW (by decide)
end
end
section
variable{prog:Y8}{w:Y0}{c:Cx}{m:Zf->Option Yr}{H:MH}{s:Yq}
theorem Ok.den50:∀{T:Tr},Ok T->∀d,T.den d≠none->0<=d/\d<50
 | .null _,_=>λU h=>absurd rfl h
 | .leaf _ _ _ i ds,h=>λd e=>by
  refine AR (FZ e) λs U h1=>?_;have:=h.2.1 _ (bv h1);exact⟨this.1,this.2.1⟩
 | .bin k _ A B,h=>by
  cases k with
  | uni=>exact λd e=>(IN.mp e).elim (Ok.den50 h.1 d) (Ok.den50 h.2.1 d)
  | dm=>exact λd e=>(IN.mp e).elim (Ok.den50 h.1 d) (Ok.den50 h.2.1 d)
  | inter=>exact λd e=>Ok.den50 h.1 d (Gu.mp e).1
  | anot=>exact λd e=>Ok.den50 h.1 d (KB.mp e).1
  | maybe=>exact λd e=>Ok.den50 h.1 d e
 | .una k _ A,h=>by
  cases k with
  | filt=>exact λd e=>Ok.den50 h.1 d (HV.mp e).1
  | inv=>exact λd e=>have z:=K2.mp e;⟨Y3 h.2.1.2.1 z.1,Z4 z.2.1 h.2.1.2.2⟩
  | con=>exact λd e=>Ok.den50 h.1 d (HW.mp e)
 | .req _ _ A B,h=>λd e=>Ok.den50 h.1 d (Gv.mp e).1
theorem Ok.al50:∀{T:Tr},Ok T->∀d,al T d->0<=d/\d<50
 | .null _,_=>λU h=>h.elim
 | .leaf _ _ _ i ds,h=>λd e=>by
  refine AR (FZ e) λs U h1=>?_;have:=h.2.1 _ h1;exact⟨this.1,this.2.1⟩
 | .bin k x A B,h=>by
  cases k with
  | inter=>exact λd e=>Ok.al50 h.1 d e.1
  | uni=>exact λd e=>Ok.den50 (T:=.bin .uni x A B) h d e
  | dm=>exact λd e=>Ok.den50 (T:=.bin .dm x A B) h d e
  | anot=>exact λd e=>Ok.den50 (T:=.bin .anot x A B) h d e
  | maybe=>exact λd e=>Ok.den50 (T:=.bin .maybe x A B) h d e
 | .una (.filt _ _ _ _) _ A,h=>λd e=>Ok.al50 h.1 d e.1
 | .una (.inv s l w i) x A,h=>λd e=>Ok.den50 (T:=.una (.inv s l w i) x A) h d e
 | .una (.con _) _ A,h=>λd e=>Ok.al50 h.1 d e
 | .req _ _ A B,h=>λd e=>Ok.al50 h.1 d e.1
theorem Gw.len50{ds:List Int}(h:Gw ds)(b:∀d∈ds,0<=d/\d<50):ds.length<=50:=by
 have key:∀(l:List Int) (lo:Int),Gw l->(∀i∈l,lo<=i/\i<50)->lo<=50->(l.length:Int)<=50-lo:=by
  intro l
  induction l with
  | nil=>exact λlo U U h=>d5 h
  | cons x r ih =>
   intro lo ha hb _;have hx:=hb x (.head _);have:=ih (x+1) (Z5.mp ha).2 (λi hi=>⟨(Z5.mp ha).1 i hi,(hb i (.tail _ hi)).2⟩) (‹_/\(_:Int)<_›.2);rw[aI];push_cast;exact ozL ‹_› ‹_›
 have:=key ds 0 h b (by decide)
 exact aT.mp ‹_›
open Classical in
theorem Ki{T:Tr}(h:Ok T):∃ds,Gw ds/\(∀d,al T d<->d∈ds)/\ds.length<=50:=by
 have ha:Gw ((BJ 0 50 1).filter λd=>decide (al T d)):=QT.sublist Z1;refine⟨_,ha,λd=>?_,ha.len50 λd hd=>Gd.mp ((mfP hd).1)⟩;rw[Zi,decide_eq_true_iff];exact⟨λz=>⟨Gd.mpr (h.al50 d z),z⟩,λz=>z.2⟩
section
variable{k:Ck}{K:aC}{d:Nat}{A:Za}{c':Cx}{m':Zf->Option Yr}{H1:MH}{f a:Nat}{R:bh->Yq->Prop}{fd:ZW}{body:List af}{F G1:List Nat}{ds:List Int}{bd:Nat}{y:Yr}
noncomputable def Rh(prog:Y8)(w:Y0)(c c':Cx)(m:Zf->Option Yr):Prop:=∀P:Pt,c.L∉P.q->∀m2 H2 (s2:Yq),AU prog w (c'.pt P s2.heap) m2 H2 s2->AU prog w (c.pt P s2.heap) m H2 s2
theorem Rh.z(b:Rh prog w c c' m){m2 H2 s2}(R:AU prog w c' m2 H2 s2):AU prog w c m H2 s2:=b ⟨[],[]⟩ (Zn) m2 H2 s2 R
theorem KH.back(v:KH prog w bd c' m' H F ds y s)(ht:H Ai=some .txt)(b:Rh prog w c c' m):KH prog w bd c m H F ds y s:=by
 rcases v with⟨l,H',rfl,R,f,hl⟩|⟨I,rfl,hg,H',R,f,hw⟩
 ·exact .inl ⟨l,H',rfl,b.z R,f,hl⟩
 ·refine .inr ⟨I,rfl,hg,H',b.z R,f,λs' tx A P h1 h2 h3 h4 h5=>?_⟩;refine Es (hw s' tx A P h1 h2 h3 h4 h5) λSt W sf st=>?_;refine⟨St,W.imp λs' ⟨H',R',f'⟩=>⟨H',b P (λz=>?_) _ _ _ R',f'⟩,sf,st⟩;refine BB (((b.z R).tx (f.kp _ _ ht (.inr rfl)) tx).lo) λoL hL=>?_;exact nS (h4 _ z) hL
theorem KH.more(v:KH prog w bd c m H1 G1 ds y s)(f:An H H1 F)(q:∀x∈G1,x∈F\/H x=none):KH prog w bd c m H F ds y s:=by
 rcases v with⟨l,H',rfl,R,f',hl⟩|⟨I,rfl,hg,H',R,f',hw⟩
 ·exact .inl ⟨l,H',rfl,R,f.more f' q,hl⟩
 ·refine .inr ⟨I,rfl,hg,H',R,f.more f' q,λs' tx A P h1 h2 h3 h4 h5=>?_⟩;refine Es (hw s' tx A P h1 h2 h3 h4 h5) λSt W sf st=>?_;exact⟨St,W.imp λs' ⟨H',R',f''⟩=>⟨H',R',f.more f'' q⟩,sf,st⟩
theorem ItI.up{bd':Nat}{I:Zh}(v:ItI prog w bd c m H F ds I s)(h:bd<=bd'):ItI prog w bd' c m H F ds I s :=
 let ⟨H',R,f',hw⟩:=v;⟨H',R,f',λs' tx A P h1 h2=>hw s' tx A P h1 (Mine.up h h2)⟩
theorem KH.up{bd':Nat}(v:KH prog w bd c m H F ds y s)(h:bd<=bd'):KH prog w bd' c m H F ds y s:=by
 rcases v with v|⟨I,rfl,hg,v⟩
 ·exact .inl v
 ·exact .inr ⟨I,rfl,hg,v.up h⟩
structure WH(K:aC)(f:Nat)(i:Fi)(fd:ZW)(body:List af):Prop where
 ok:LY K f i fd body
 nocell:∀x∈fd.scope.names,x.2≠aj
 loc:∀p∈i.pars,fd.scope.names.lookup (nm p)=some .local
theorem Ev.of{C:CI}{env:eE}{κ:Kp}{sc:ZR}(F:KF K k.isAttr)(ih:Kf prog w k K C d)(hC:∀vs us H Q,¬ C E2 vs us H Q)(hh:k.strict=true->A.handled=none)(hd:8*A.depth+A.units+24*d+12<=7900)(B:Base k K c.WM)(O:EO env c.L κ sc):Ev prog w K k C A c env κ sc :=
 ⟨F,B,O,hh,d0 (dw hd),λA' hh' hd' c' m H s f vs ys us zs Q R e U U R' r r' h q=>ih A' hh' (dc hd hd') c' m H s f vs ys us zs Q R (e▸B) R' r r' h q,λU U U U U U v U Q U U U h=>(hC [v] [] _ Q h).elim⟩
theorem Gl{i:Fi}{vs:List V}{ys:List Yr}{ρ:As}(hd:8*A.depth+A.units+24<=7900)(G:WH K f i fd body)(B:Base k K c.WM)(Rl:AU prog w c m H s)(r:A2 VR vs ys)(hb:MX i.pars i.dflt vs []=some ρ)
 (q:∀oL m' s1,s.heap.get? c.L=some oL->EO (callEnv fd s.heap.objs.size f) s.heap.objs.size [] fd.scope->AU prog w (c.lx (s.heap.objs.size) ((c.L,oL)::c.X)) m' H s1->Bh ρ m'->Rh prog w c (c.lx (s.heap.objs.size) ((c.L,oL)::c.X)) m ->
  wpAny (model prog w) (A.deeper (callEnv fd s.heap.objs.size f)) (execs body (callEnv fd s.heap.objs.size f)) (λfl WQ=>R (.ok (.ret (match fl with|.ret v=>v|_=>.none))) WQ)
   (λe s'=>wpAny (model prog w) (A.deeper (callEnv fd s.heap.objs.size f)) (leaving (callEnv fd s.heap.objs.size f) e) (λU s''=>R (.error e) s'') (λe' s''=>R (.error e') s'') s') s1) :
 codeAny (model prog w) A (.call (.ref f) ⟨ys,[]⟩) R s:=by
 refine FY G.ok.at_ λoc od osl ho=>?_;have X:=B.kin.keeps Rl.fr.keep;refine AJ λGG hG=>?_;refine Q3 (Gj (s:=s) X G.ok.p1 G.ok.p2 G.ok.p3 G.ok.p4 G.ok.pn G.ok.df r .nil hb) λbinds sl hsl hkr hbind U=>?_;refine Am (GD hkr hsl G.ok.nd) λhnd hin=>?_;refine hG ?_;clear hG GG;refine fQ (fd:=fd) (body:=body) (dl hd) (X _ _ ho) rfl (B.lim.keeps Rl.fr.keep) (dX X G.ok.code) G.ok.body hbind G.nocell (λx hx=>by refine AR (hin x hx) λp hp e=>?_;exact e.symm▸G.loc p hp) (λWi hns hk=>?_) G.ok.co G.ok.gen G.ok.kind
 refine AJ λGG hG=>?_;refine BB Rl.lo λoL hL=>?_;obtain⟨D,Yj,N,L⟩:=Rl.led;refine hG ?_;clear hG GG;have Llt:c.L<s.heap.objs.size:=Yy hL;have nL:c.L∉Yj.map (·.1):=λq=>by refine AR (mmP q) λp hp e=>?_;exact(N p hp).2.1 e
 have bL:c.WM.get? c.L=Option.none:=by
  cases q:c.WM.get? c.L with
  | none=>rfl
  | some o=>exact absurd (Yy q) (Ng Rl.fr.above)
 have WV:AU prog w (c.lx (s.heap.objs.size) ((c.L,oL)::c.X)) (λx=>binds.reverse.lookup x) H {s with heap:=Wi,toks:=s.toks+binds.length}:=by
  refine⟨⟨hns,λb o e=>hk _ _ (Rl.fr.keep b o e),Yn Rl.fr.above (ZY Llt)⟩,⟨D,(c.L,oL)::Yj,λp hp=>?_,L.addX nL bL⟩,Rl.gs,Rl.dr,Rl.os⟩;rcases mcP hp with rfl|hp
  ·exact⟨hk _ _ hL,ZF Llt,bL⟩
  ·exact⟨hk _ _ (N p hp).1,ZF (Yy (N p hp).1),(N p hp).2.2⟩
 have cX:∀p∈c.X,p.1≠c.L:=λp hp=>(Rl.lt.2 p hp).2;refine q oL _ _ hL ⟨rfl,G.ok.kind,rfl,G.ok.gl,G.ok.bi,λx a e=>(zN e),λp hp e=>absurd e (G.nocell p hp)⟩ WV (LZ hkr hnd) λP hP m2 H2 s2 R2=>?_;obtain⟨D',Yl,N',L'⟩:=R2.led;have hm:=(L'.xs (c.L,oL) (Yt _ (.head _))).1;obtain⟨o',U,R''⟩:=R2.swap (gL:=c.L) (obL:=oL) (m':=m) (X':=FS P s2.heap++c.X) (Yt _ (.head _)) (Rl.fr.ns.at' λo e=>by obtain rfl:=Ys (hL.symm.trans e);exact N'.get hm) Rl.fr.above λp hp=>by
  rcases maP hp with hp|hp
  ·exact⟨Yw _ hp,λz=>hP (z▸(BC.mp hp).1)⟩
  ·exact⟨Yt _ (.tail _ hp),cX p hp⟩
 exact R''.dropX' λp hp=>.tail _ hp
abbrev i1:Fi:=⟨[AA],[],[],[]⟩
abbrev O5(K:aC)(f:Nat)(fd:ZW)(body:List af):Prop:=WH K f i1 fd body
theorem GH(F:KF K k.isAttr)(ih:Kf prog w k K (call d) d)(hh:k.strict=true->A.handled=none)(hd:8*A.depth+A.units+24*(d+1)<=7900)(G:O5 K f fd body)(B:Base k K c.WM)(Rl:AU prog w c m H s)
 (q:∀(c':Cx) m' s1 env,c'.WM=c.WM->Ev prog w K k (call d) (A.deeper env) c' env [] fd.scope->AU prog w c' m' H s1->Bh [(AA,.ref a)] m'->Rh prog w c c' m ->
  wpAny (model prog w) (A.deeper env) (execs body env) (λfl WQ=>R (.ok (.ret (match fl with|.ret v=>v|_=>.none))) WQ) (λe s'=>wpAny (model prog w) (A.deeper env) (leaving env e) (λU s''=>R (.error e) s'') (λe' s''=>R (.error e') s'') s') s1) :
 codeAny (model prog w) A (.call (.ref f) ⟨[.ref a],[]⟩) R s :=
 Gl (dm (x:=1) hd (ZU (Zp d))) G B Rl (.cons (.ref a) .nil) rfl λoL m' s1 U O R1 l b=>q (c.lx (s.heap.objs.size) ((c.L,oL)::c.X)) m' s1 _ rfl (.of F ih (λU U U U=>FM) hh (di hd (Y1 _)) B O) R1 l b
end
theorem Gw.ext{a b:List Int}(h:Gw a)(k:Gw b)(e:∀x,x∈a<->x∈b):a=b :=
 lks_uniq ((ea h.nd k.nd).mpr e) (h.imp ZZ) (k.imp ZZ)
section
variable{s':Yq}{x:Nat}{ob:dK}{o:O}
theorem AU.fresh(R:AU prog w c m H s)(u:Up s s')(hx:s.heap.get? x=none)(ho:s'.heap.get? x=some ob)(h:OB prog w o ob):AU prog w c m (H.put x o) s'/\H x=none:=by
 refine AJ λGG hG=>?_;obtain⟨D,Yj,N,L⟩:=R.led;refine BB R.lo λoL hL=>?_;refine hG ?_;clear hG GG;have n1:x∉Yj.map (·.1):=λz=>by
  refine AR (mmP z) λp hp y=>?_;obtain rfl:=y;exact sN ((N p hp).1) hx
 have f1:c.WM.get? x=none:=by
  cases q:c.WM.get? x with
  | none=>rfl
  | some o=>exact sN (R.fr.keep _ _ q) hx
 refine⟨⟨R.fr.keeps u.kp,⟨D,(x,ob)::Yj,λp hp=>?_,L.alloc n1 h⟩,λk st e=>u.gs k st (R.gs k st e),u.dr,u.os.trans R.os⟩,L.none n1 f1⟩;rcases mcP hp with rfl|hp
 ·exact⟨ho,(λz=>by have z:x=c.L:=z;exact zN (hx▸z▸hL)),f1⟩
 ·exact⟨u.kp _ _ (N p hp).1,(N p hp).2⟩
end
def WI(prog:Y8)(w:Y0)(k:Ck)(K:aC)(d N:Nat):Prop:=∀T,sz T<=N->∀(A:Za) (c:Cx) m H s (R:bh->Yq->Prop) (ds:List Int) f,A.handled=none->8*A.depth+A.units+24*(d+3+sz T)<=7900->Base k K c.WM->AU prog w c m H s->H Ai=some .txt->AG H T->sc T<=2->Gw ds->(∀x,al T x<->x∈ds) ->
 Bt T.cl AQ=some f->(∀y s',KH prog w (24*(d+3+sz T)) c m H (fp T) ds y s'->R (.ok (.ret y)) s')->codeAny (model prog w) A (.call (.ref f) ⟨[.ref T.addr],[]⟩) R s
section
variable{k:Ck}{K:aC}{d n:Nat}{A:Za}{f a:Nat}{R:bh->Yq->Prop}{fd:ZW}{body:List af}{Fp:List Nat}{ds:List Int}{bd:Nat}{env:eE}{sc':ZR}{κ:Kp}{ρ:As}{C:CI}{e:E}
theorem VZ(F:KF K k.isAttr)(ih:Kf prog w k K (call d) d)(hh:A.handled=none)(hd:8*A.depth+A.units+24*(d+1)<=7900)(G:O5 K f fd body)(hb:∃ex p,body=[.Return (some ex) p]/\CM k fd.scope (.lst []) ex=true)(B:Base k K c.WM)(Rl:AU prog w c m H s)
 (q:∀y s',KH prog w bd c m H [] [] y s'->R (.ok (.ret y)) s'):codeAny (model prog w) A (.call (.ref f) ⟨[.ref a],[]⟩) R s:=by
 refine Gs hb λex p x o=>?_;obtain rfl:=x;refine GH F ih (λU=>hh) hd G B Rl λc' m' s1 env e Z R1 l b=>?_;refine ZL (Z3 (Fc (Q:=λv H'=>∃l,v=.ref l/\H l=none/\H'=H.put l (.list [])) (Cc (.lst []) _ _ _ _ _ _ _ Z l _ _ _ _ _ o R1 ?_) λv y H' s' rv R2 hq=>?_))
 ·exact⟨Zp _,λl hl=>⟨l,rfl,hl,rfl⟩⟩
 ·refine AJ λGG hG=>?_;refine Es hq λl' x hl u=>?_;obtain rfl:=x;obtain rfl:=u;cases rv
  refine hG ?_;exact q _ _ (.inl ⟨l',_,rfl,b.z R2,An.new0 hl,AH _ _ _⟩)
theorem Va(F:KF K k.isAttr)(ih:Kf prog w k K (call d) d)(hh:A.handled=none)(hd:8*A.depth+A.units+24*(d+1)<=7900)(G:O5 K f fd body)(hb:∃ov z ap p1 p2 p,body=[.Return (some (.Call (.Name "list" p1) [.Attribute ov z ap] [] p2)) p]/\Mf fd.scope "list"=true/\CM k fd.scope (.attr (.var AA) Bg) (.Attribute ov z ap)=true)(B:Base k K c.WM)(Rl:AU prog w c m H s)
 {la wa i:Nat}{ps:List (Int×Int)}(g:AG H (.leaf a la wa i ps))(hds:Gw ds)(hal:∀x,al (.leaf a la wa i ps) x<->x∈ds)
 (q:∀y s',KH prog w bd c m H Fp ds y s'->R (.ok (.ret y)) s'):codeAny (model prog w) A (.call (.ref f) ⟨[.ref a],[]⟩) R s:=by
 refine x63 hb λov z ap p1 p2 p u og o=>?_;obtain rfl:=u;have hm:ds=ps.map (·.1):=by
  refine hds.ext (eu.mpr g.ok.1) λx=>?_;rw[<- hal x]
  show Jl x ps≠none<->_
  constructor
  ·intro h;refine AR (FZ h) λs U h1=>?_;exact aN (f:=(·.1)) h1
  ·intro h;refine AR (mmP h) λp hp u=>?_;obtain rfl:=u;have:∀{l:List (Int×Int)},p∈l->Jl p.1 l≠none:=by
    intro l
    induction l with
    | nil=>exact λh=>nomatch h
    | cons z r ih =>
     intro h;unfold Jl;split
     ·exact λh=>zS h
     ·rename_i hne;rcases mcP h with rfl|h
      ·exact absurd rfl hne
      ·exact ih h
   exact this hp
 refine GH F ih (λU=>hh) hd G B Rl λc' m' s1 env e Z R1 l b=>?_;refine ZL (Z3 (aD (Z.glB R1 (.tail _ (.tail _ (.tail _ (.tail _ (.tail _ (.tail _ (.head _))))))) og ?_)));refine gQ (Fc (Q:=λv H'=>v=.ref la/\H'=H) (Cc (.attr (.var AA) Bg) _ _ _ _ _ _ _ Z l _ _ _ _ _ o R1 ?_) λv y H' s' rv R2 hq=>?_)
 ·refine AB (n:=Bg) g.rep.1 ?_;exact⟨rfl,rfl⟩
 ·refine AJ λGG hG=>?_;obtain⟨rfl,rfl⟩:=hq;cases rv
  refine AR (R2.lst (.inl g.rep.2.1)) λxs h1 h2=>?_;refine Es h1 λob g1 g2 u=>?_;refine BB u λnn g3=>?_;refine hG ?_;have hl:xs.length=ps.length:=by rw[<- h2.length,Y2]
  refine call_list_seq la (.inl rfl) g1 g2 g3 (λh' c2 hk hg=>?_) (by rw[ZI,ao];exact ozA hl.symm g.ok.2.2.2)
  refine Am (R2.fresh (s':={s' with heap:=h'}) (o:=.list (ps.map λp=>.int p.1)) ⟨hk,λU U e=>e,R2.dr,rfl⟩ (Ha (Y1 _)) hg ⟨xs,c2,rfl,h2⟩) λR3 hn=>?_
  exact q _ _ (.inl ⟨_,_,rfl,b.z R3,An.new hn,by rw[AH,hm,cq];rfl⟩)
theorem Ql(F:KF K k.isAttr)(ih:Kf prog w k K (call d) d)(hh:A.handled=none)(hd:8*A.depth+A.units+24*(d+3+n)<=7900)(G:O5 K f fd body)(hb:∃ov ap p2 p,body=[.Return (some (.Call (.Attribute ov (nm AQ) ap) [] [] p2)) p]/\CX ov=true/\(ap.endLine==p2.line)=true/\CM k fd.scope (.attr (.var AA) AE) ov=true)(B:Base k K c.WM)(Rl:AU prog w c m H s)
 {T:Tr}(hT:∀{G:V->MH->Prop},G (.ref T.addr) H->wE (call d) [] (.attr (.var AA) AE) [(AA,.ref a)] H G)(hc:WI prog w k K d (sz T))(hn:sz T<n)(ht:H Ai=some .txt)(g:AG H T)(hs:sc T<=2)(hds:Gw ds)(hal:∀x,al T x<->x∈ds)(hM:∀{G:Nat->Prop},(∀f,Bt T.cl AQ=some f->G f)->Ba H (.ref T.addr) AQ G)
 (q:∀y s',KH prog w (24*(d+3+n)) c m H (fp T) ds y s'->R (.ok (.ret y)) s'):codeAny (model prog w) A (.call (.ref f) ⟨[.ref a],[]⟩) R s:=by
 refine x44 hb λov ap p2 p z o4 o5 o=>?_;obtain rfl:=z;refine GH F ih (λU=>hh) (dm hd l1) G B Rl λc' m' s1 env e Z R1 l b=>?_;refine ZL (Z3 (Qa (G:=λv H'=>v=.ref T.addr/\H'=H) (Cc (.attr (.var AA) AE)) Z l o4 o5 o R1 (hT ⟨rfl,rfl⟩) λv y H' s' rv R2 hq=>?_));obtain⟨rfl,rfl⟩:=hq;cases rv
 refine hM λf' hf'=>hc T (Y1 _) _ _ _ _ _ _ _ _ hh (dw (di hd (Nat.add_lt_add_left hn _))) (e▸B) R2 ht g hs hds hal hf' λy s'' v=>?_;exact q _ _ ((v.back ht b).up (m24 (ZC (ZY hn) _)))
end
end
section
variable{prog:Y8}{w:Y0}{k:Ck}{K:aC}{d n:Nat}{A:Za}{c c1:Cx}{m:Zf->Option Yr}{H:MH}{s:Yq}{f a:Nat}{R:bh->Yq->Prop}{fd:ZW}{body:List af}{ds:List Int}{bd:Nat}
theorem Ox(T:Tr):(Bt T.cl AQ).isSome=true:=by
 cases T with
 | bin k=>cases k<;>rfl
 | una k=>cases k<;>rfl
 | _=>rfl
theorem A4.all{H:MH}{T:Tr}{G:Nat->Prop}(r:A4 H T)(q:∀f,Bt T.cl AQ=some f->G f):Ba H (.ref T.addr) AQ G :=
 r.m (Ox T) rfl (q _ (fnd T AQ (Ox T)))
section
variable{env:eE}{sc':ZR}{κ:Kp}{ρ:As}{C:CI}{e:E}{Er Q:Yr->Yq->Prop}
theorem Ev.cx(Z:Ev prog w K k C A c env κ sc')(h:c1.WM=c.WM)(l:c1.L=c.L):Ev prog w K k C A c1 env κ sc' :=
 ⟨Z.F,h▸Z.B,l▸Z.O,Z.hh,Z.un,λA' h1 h2 c' m H s f vs ys us zs Q R e n o=>Z.calls A' h1 h2 c' m H s f vs ys us zs Q R (e.trans h) n (o.imp (λo=>⟨o.1,o.2.trans l⟩) λo=>o),λks Er c' m H s v y Q e=>Z.alls ks Er c' m H s v y Q (e.trans h)⟩
theorem Oy{n:Nat}{ov:ZJ}{ap q1 q2 pa:ef}(Z:Ev prog w K k (call d) A c env [] sc')(l:Bh [(AA,.ref a)] m)(hh:A.handled=none)(og:Mf sc' "set"=true)(o4:CX ov=true)(o5:(ap.endLine==pa.line)=true)(o:CM k sc' (.attr (.var AA) n) ov=true)(R:AU prog w c m H s)
 {T:Tr}(hT:∀{G:V->MH->Prop},G (.ref T.addr) H->wE (call d) [] (.attr (.var AA) n) [(AA,.ref a)] H G)(hc:WI prog w k K d (sz T))(hd:8*A.depth+A.units+24*(d+3+sz T)+12<=7900)(ht:H Ai=some .txt)(g:AG H T)(hs:sc T<=2)(hds:Gw ds)(hal:∀x,al T x<->x∈ds)(hl:ds.length<=50)
 (q:∀S ob H' s',SI prog w s'.heap S (Em ds) ds.length->AU prog w (c.x ((S,ob)::c.X)) m H' s'->An H H' (fp T)->(∀p∈c.X,p.1≠S)->Q (.ref S) s') :
 wpAny (model prog w) A (eval (.Call (.Name "set" q1) [.Call (.Attribute ov (nm AQ) ap) [] [] pa] [] q2) env) Q Er s:=by
 refine aD (Z.glB R (.tail _ (.tail _ (.tail _ (.tail _ (.tail _ (.head _)))))) og ?_);refine gQ (Qa (G:=λv H'=>v=.ref T.addr/\H'=H) (Cc (.attr (.var AA) n)) Z l o4 o5 o R (hT ⟨rfl,rfl⟩) λv y H' s' rv R2 hq=>?_);obtain⟨rfl,rfl⟩:=hq;cases rv
 refine g.rep.all λf' hf'=>hc T (Y1 _) _ _ _ _ _ _ _ _ hh (dw hd) Z.B R2 ht g hs hds hal hf' λy s'' v=>?_;exact Ow hh (d3 hd) (Yn hl (by decide)) hds.nd ht v q
theorem T0(F:KF K k.isAttr)(ih:Kf prog w k K (call d) d)(hh:A.handled=none){WT We:Tr}(hd:8*A.depth+A.units+24*(d+3+(sz WT+sz We+1))<=7900)(G:O5 K f fd body)
 (hb:∃ov ap pa q1 q2 ov' ap' pa' q1' q2' bp p1 p2 p,body=[.Return (some (.Call (.Name "sorted" p1) [.BinOp (.Call (.Name "set" q1) [.Call (.Attribute ov (nm AQ) ap) [] [] pa] [] q2) .BitAnd (.Call (.Name "set" q1') [.Call (.Attribute ov' (nm AQ) ap') [] [] pa'] [] q2') bp] [] p2)) p] /\
  Mf fd.scope "sorted"=true/\Mf fd.scope "set"=true/\CX ov=true/\(ap.endLine==pa.line)=true/\CM k fd.scope (.attr (.var AA) Ak) ov=true/\CX ov'=true/\(ap'.endLine==pa'.line)=true/\CM k fd.scope (.attr (.var AA) Av) ov'=true)
 (B:Base k K c.WM)(Rl:AU prog w c m H s)(ht:H Ai=some .txt)(g:AG H (.bin .inter a WT We))(hs:sc (.bin .inter a WT We)<=2)(hA:WI prog w k K d (sz WT))(hB:WI prog w k K d (sz We))(hds:Gw ds)(hal:∀x,al (.bin .inter a WT We) x<->x∈ds)
 (q:∀y s',KH prog w bd c m H (fp (.bin .inter a WT We)) ds y s'->R (.ok (.ret y)) s'):codeAny (model prog w) A (.call (.ref f) ⟨[.ref a],[]⟩) R s:=by
 refine AJ λGG hG=>?_;obtain⟨ov,ap,pa,q1,q2,ov',ap',pa',q1',q2',bp,p1,p2,p,rfl,og,og',o1,o2,o3,o4,o5,o6⟩:=hb;refine hG ?_;refine AJ λGG hG=>?_;refine Am (id g.rep) λv U=>?_;refine AR v λid hi U=>?_;refine Es (Ki g.bA.ok) λda a1 a2 a3=>?_;refine Es (Ki g.bB.ok) λdb b1 b2 b3=>?_;refine hG ?_;clear hG GG;refine IM (Lw g.nd) λv U U dj=>?_;refine Am v λn1 n2=>?_;have hl:ds.length<=50:=hds.len50 λx hx=>g.ok.al50 x ((hal x).mpr hx);refine GH F ih (λU=>hh) (dm hd l1) G B Rl λc' m' s1 env e Z R1 l b=>?_;refine ZL (Z3 (aD (Z.glB R1 (.tail _ (.tail _ (.tail _ (.tail _ (.head _))))) og ?_)));refine callWith_builtin1 (wpAny_BinOp (Oy (T:=WT) (ds:=da) Z l hh og' o1 o2 o3 R1 (λh=>AB (n:=Ak) hi h) hA (di hd (ZC (ZU (Yz _ _)) (d+3))) ht g.bA (Gc hs).1 a1 a2 a3 λS1 ob1 H1 s2 i1 R2 f1 x1=>?_));have g1:AG H1 We:=⟨g.bB.rep.frame f1 λx hx hx'=>dj x hx' hx,g.bB.ok,g.bB.nd⟩;refine Oy (T:=We) (ds:=db) (c:=(c'.x ((S1,ob1)::c'.X))) (Z.cx rfl rfl) l hh og' o4 o5 o6 R2 (λh=>AB (n:=Av) (f1.kp _ _ hi (.inl n1)) h) hB (di hd (ZC (ZU (ZK _ _)) (d+3))) (f1.kp _ _ ht (.inr rfl)) g1 (Gc hs).2.1 b1 b2 b3 λS2 ob2 H2 s3 i2 R3 f2 x2=>?_;have i1':SI prog w s3.heap S1 (Em da) da.length:=i1.kp λo eo=>by
  obtain⟨D,Yj,N,L⟩:=R3.led;obtain⟨D',Yl,N',L'⟩:=R2.led;have h1:=N'.get (L'.xs _ (.head _)).1;obtain rfl:=Ys (h1.symm.trans eo);exact N.get (L.xs _ (.tail _ (.head _))).1
 refine VW i1' i2 a1.nd b1.nd (λz=>x2 (S1,ob1) (.head _) z.symm) λs4 acc hnd hm hS kp hg ho=>?_;have hp:acc.Perm ds:=(ea hnd hds.nd).mpr λx=>by rw[hm,<- a2,<- b2,<- hal];exact cH
 refine P0 hh hS hnd (by rw[hg];exact R3.dr) (by rw[hp.length_eq];exact Zr hl (by decide)) hp hds λD s5 out c5 hf hD hI up=>?_
 have hf3:s3.heap.get? D=none:=by
  cases q:s3.heap.get? D with
  | none=>rfl
  | some o=>exact sN (kp _ _ q) hf
 obtain⟨R4,hn⟩:=R3.fresh (s':=s5) (o:=.list (ds.map .int)) ⟨λb o e=>up.kp _ _ (kp _ _ e),λk st e=>up.gs k st (by exact hg.symm▸e),up.dr,up.os.trans ho⟩ hf3 hD ⟨out.toList,c5,by rw[<- Mi],QZ hI⟩
 have R5:AU prog w c' m' (H2.put D (.list (ds.map .int))) s5:=R4.dropX' λp hp=>.tail _ (.tail _ hp);refine q _ _ (.inl ⟨D,_,rfl,b.z R5,?_,AH _ _ _⟩);exact((f1.mono λx hx=>.tail _ (Yw _ hx)).trans (f2.mono λx hx=>.tail _ (Yt _ hx))).trans (An.new hn)
end
section
variable{XT:Nat}{Xn:ZW}{Xo:List af}
theorem al_inv(F:KF K k.isAttr)(ih:Kf prog w k K (call d) d)(con:∀T,sz T<=n->FQ d T)(hh:A.handled=none)(hd:8*A.depth+A.units+24*(d+4)<=7900)(G:O5 K f fd body)(XU:VQ k K XT Xn Xo)
 (hb:∃ap p' p p9 y,body=[.Return (some (.Call (.Attribute (.Name (k.clN .Base) p') (nm AQ) ap) [y] [] p)) p9]/\Mf fd.scope (k.clN .Base)=true/\k.Yj .Base=true/\k.via .Base AQ XT=true/\(ap.endLine==p.line)=true/\Cw k fd.scope [.var AA] [y]=true)
 (B:Base k K c.WM)(Rl:AU prog w c m H s)(ht:H Ai=some .txt){T:Tr}(ha:T.addr=a)(g:AG H T)(hn:sz T<=n)(hs:sc T<=2)(hds:Gw ds)(hal:∀x,T.den x≠none<->x∈ds)
 (q:∀y s',KH prog w (24*(d+2)) c m H (fp T) ds y s'->R (.ok (.ret y)) s'):codeAny (model prog w) A (.call (.ref f) ⟨[.ref a],[]⟩) R s:=by
 refine x56 hb λap p' p p9 y z o11 o5 o6 o7 o9=>?_;obtain rfl:=z;refine GH F ih (λU=>hh) (dm hd (ZC (by decide) d)) G B Rl λc' m' s1 env e Z R1 l b=>?_
 refine Nf (Z.B.via .Base AQ XT o6) λt1 t2 t3 t4 t5=>?_;refine ZL (Z3 ?_);refine bZ (Z.glC R1 o11 o5 (method_of_cls R1.fr Z.B.kin t4 (cls_val R1.fr Z.B.kin t1 t2 t3 rfl ?_))) (Gg (k:=k) (ks:=[]) (ov:=.Name (k.clN .Base) p') rfl o7 (ZQ rfl) o9 rfl);refine Mg (ks:=[]) (kws:=[]) (G:=λvs us H'=>vs=[.ref a]/\us=[]/\H'=H) Z l (λe U=>Cc e) (λU h=>nomatch h) t5 o9 rfl (R1.tok _) ⟨rfl,rfl,rfl⟩ λvs us ys zs WW WQ WZ Wb WR Wg=>?_;refine AJ λGG hG=>?_;obtain⟨rfl,rfl,rfl⟩:=Wg;cases Wb
 refine Dy WZ.tl λy' U z h1 r=>?_;obtain rfl:=z;cases r.nl
 cases h1
 refine hG ?_;subst ha;exact dT (Oo F ih con hh (dw (di hd (Zu (d+3)))) XU Z.B WR g hn hs hal hds ht λy s' v=>q _ _ (v.back ht b))
end
end
theorem In.keeps{P:Pt}{s s':Yq}(h:e9 s s')(ex:Ex P s):In P s s':=by
 refine Gs h λh' tk z hk=>?_;obtain rfl:=z;exact⟨λq hq=>BB (ex.1 q hq) λo e=>⟨o,hk _ _ e⟩,λb o U e=>hk b o e,λU U U e=>e,ex.2,rfl⟩
theorem IP.keeps{P:Pt}{s s':Yq}(h:e9 s s')(hb:Zs s.gens):IP P s s':=by
 refine Gs h λh' tk z hk=>?_;obtain rfl:=z;exact⟨λq o U e=>hk q o e,λU U U e=>e,hb,rfl⟩
section
variable{prog:Y8}{w:Y0}{A:Za}{P:Pt}{I F2 a g2:Nat}{ds:List Int}{Fin FinO:Yq->Prop}{St:Nat->Yq->Prop}{cenv:eE}{elt iter:ZJ}{x:Zf}{px pos:ef}{ifs:List ZJ}{scope:ZR}{pz:Int->Bool}
theorem Qm{ge:ZJ}{cd:Code}(hg:ge=.GeneratorExp elt [⟨.Name x px,iter,ifs,0⟩] scope pos)(hc:cd=.compLoop ge 0 (.ref I) .none cenv):(model prog w).den cd=Sem.onRaise (do
 standAt iter.pos
 match <- pyNext (.ref I) with
 | none=>pure (.done .next)
 | some v =>
  letOwnedTupleGo (.Name x px) (.ref I) v
  assign (.Name x px) cenv v
  let mut ok:=true
  for c in ifs do
   if ok then ok <- isTrue c cenv (eval c cenv)
  if ok then
   (do let v <- eval elt cenv;standAt elt.pos;let _ <- yieldOut cenv v)
  again cd) (leaving cenv):=by
 subst hc;subst hg;exact congrArg (λp=>Sem.onRaise p (leaving cenv)) (compTurn_gen elt (.Name x px) iter ifs scope pos (.ref I) .none cenv)
theorem T3{ge:ZJ}{cd:Code}(hg:ge=.GeneratorExp elt [⟨.Name x px,iter,ifs,0⟩] scope pos)(hc:cd=.compLoop ge 0 (.ref I) .none cenv)(W:Wk prog w (A.over cd []) I ⟨F2::a::P.q,g2::P.g⟩ ds.length (λi=>ds.getD i 0) Fin St)
 (hx:cenv.kindOf x=some .local)(hl:cenv.locals=F2)(hp:(cenv.scope.kind==.class||(cenv.scope.kind==.module&&cenv.locals !=cenv.globals))=false)(hco:cenv.scope.isCoroutine=false)
 (nF:F2∉P.q)(na:a∉P.q)(naF:a≠F2){oa:dK}(hF:∀s,Fin s->s.heap.get? a=some oa->gK a g2 s/\FinO s)
 (hT:∀k t WQ Wj E,Fin WQ->WQ.heap.Ns F2 Wj->Wj x=some (.int k t)->wpAny (model prog w) (A.over cd []) (forIn ifs true λc r=>if r=true then do let ok <- isTrue c cenv (eval c cenv);pure (ax ok) else pure (ax r)) (λok WU=>ok=pz k/\e9 WQ WU) E WQ)
 (hE:∀k t WQ Wj E,Fin WQ->WQ.heap.Ns F2 Wj->Wj x=some (.int k t)->wpAny (model prog w) (A.over cd []) (eval elt cenv) (λy WU=>(∃t',y=.int k t')/\e9 WQ WU) E WQ) :
 ∀(r pre:List Int),ds=pre++r->∀WS s m,IP (P.add g2) WS s->Ex ⟨F2::a::P.q,g2::P.g⟩ s->St pre.length s->s.heap.Ns F2 m->s.heap.get? a=some oa ->
  Seg (model prog w) A (gR (P.add g2) FinO (.ok .next)) (gY (P.add g2) (λj=>(ds.filter pz).getD j 0) (ds.filter pz).length (λs=>gK a g2 s/\FinO s)) (r.filter pz).length WS
   cd
   ((model prog w).den cd) [] s:=by
 have hO:∀{s s':Yq},IP ⟨F2::a::P.q,g2::P.g⟩ s s'->IP (P.add g2) s s':=λh=>⟨λq o hq e=>h.kp q o (.tail _ (.tail _ hq)) e,h.gs,h.dr,h.os⟩;have hcq:cd.quiet=true:=by rw[hc];rfl
 intro r
 induction r with
 | nil =>
  intro pre e WS s m ho ex st hn ha;have en:pre.length=ds.length:=by rw[e,eG]
  rw[Qm hg hc,eM];refine Z0 (am ?_);refine Z0 (W.done s _ _ (en▸st) ex λs' hf ho'=>?_);exact seg_end (.ok .next) ⟨rfl,rfl,ho.trans (hO ho'),(hF s' hf (ho'.kp a oa (.tail _ (.head _)) ha)).2⟩
 | cons k r ih =>
  intro pre e WS s m ho ex st hn ha;have hlt:pre.length<ds.length:=by rw[e,bS,aI];exact Nat.lt_add_of_pos_right (bO _)
  have hk:ds.getD pre.length 0=k:=by rw[e];simp
  rw[Qm hg hc,eM];refine Z0 (am ?_);refine Z0 (W.item pre.length s _ _ hlt st ex λt s1 st1 o1=>?_);refine hk.symm▸?_;have O2:=o1.ex ex;have ha1:=o1.kp a oa (.tail _ (.head _)) ha;refine Z0 (d8 (rfl:letOwnedTupleGo (.Name x px) (.ref I) (.int k t)=pure ()) ?_);have hn1:s1.heap.Ns cenv.locals m:=by exact hl.symm▸hn.at' λo e=>o1.kp F2 o (.head _) e
  refine Z0 (wpAny_assign_Name (wpAny_storeName_local hx hn1 (λWf XK Xp=>?_) hp));rw[hl] at XK Xp;have eo:∀b o,b≠F2->s1.heap.get? b=some o->Wf.get? b=some o:=λb o hb e=>Xp.extBut b o hb e;have exF:∃o,Wf.get? F2=some o:=NB XK λo U U e U=>⟨o,e⟩;have ex2:Ex ⟨F2::a::P.q,g2::P.g⟩ {s1 with heap:=Wf,toks:=s1.toks+1}:=⟨λq hq=>by
   by_cases z:q=F2
   ·exact z.symm▸exF
   ·refine BB (O2.1 q hq) λo e=>?_;exact⟨o,eo q o z e⟩,O2.2⟩
  have i2:In ⟨F2::a::P.q,g2::P.g⟩ s1 {s1 with heap:=Wf,toks:=s1.toks+1}:=⟨ex2.1,λb o hb e=>eo b o (λz=>hb (by exact z▸.head _)) e,λU U U e=>e,O2.2,rfl⟩
  have st2:=W.frame _ _ _ st1 i2;have ha2:Wf.get? a=some oa:=eo _ _ naF ha1;have o2:IP (P.add g2) WS {s1 with heap:=Wf,toks:=s1.toks+1}:=(ho.trans (hO o1)).trans ⟨λq o hq e=>eo q o (λz=>nF (z▸hq)) e,λU U U e=>e,O2.2,rfl⟩
  refine Z0 (Z9 (hT k t {s1 with heap:=Wf,toks:=s1.toks+1} _ _ (W.fin _ _ st2) XK (by simp)) (λok s3 h3=>?_) λU U e=>e)
  obtain⟨rfl,k3⟩:=h3;have st3:=W.frame _ _ _ st2 (.keeps k3 ex2);have ex3:=(In.keeps k3 ex2).ex;have o3:=o2.trans (.keeps k3 O2.2);refine Gs k3 λWq Yf u Xq=>?_;obtain rfl:=u;have hn3:=XK.keeps Xq;have ha3:=Xq _ _ ha2;have e':ds=(pre++[k])++r:=by rw[e,bk];rfl
  have el:(pre++[k]).length=pre.length+1:=by simp
  cases hpz:pz k with
  | false =>
   rw[List.filter_cons_of_neg (by exact hpz.symm▸Zg)]
   exact fR hcq (ih (pre++[k]) e' WS _ _ o3 ex3 (el▸st3) hn3 ha3)
  | true =>
   rw[cZ hpz,aI];simp only[if_true];have hy:∀v,yieldOut cenv v=yieldValue v:=λv=>by simp only[yieldOut,hco,bU,if_false]
   simp only[hy];rw[Sem.bind_eq_wrap',Sem.bind_eq_wrap',Sem.wrap_wrap,Sem.wrap_wrap];refine seg_wrap (Z9 (hE k t _ _ _ (W.fin _ _ st3) hn3 (by simp)) (λy s4 h4=>?_) λU U e=>e)
   obtain⟨⟨t',rfl⟩,k4⟩:=h4;have st4:=W.frame _ _ _ st3 (.keeps k4 ex3);have ex4:=(In.keeps k4 ex3).ex;have o4:=o3.trans (.keeps k4 ex3.2);refine Gs k4 λW2 Yg u Xr=>?_;obtain rfl:=u;have ha4:=Xr _ _ ha3;refine seg_at (seg_yield rfl rfl rfl ⟨⟨t',?_⟩,o4,hF _ (W.fin _ _ st4) ha4,λs'' hi=>?_⟩)
   ·congr 1
    have:(ds.filter pz).length-1-(r.filter pz).length=(pre.filter pz).length:=by
     rw[e,iE,bS,cZ hpz,aI,<- ai];exact iD _ _
    rw[this,e,iE,cZ hpz];simp
   ·have i5:In ⟨F2::a::P.q,g2::P.g⟩ _ s'':=⟨λq hq=>by
     rcases mcP hq with rfl|hq
     ·refine BB (ex4.1 q (.head _)) λo e=>?_;exact⟨o,hi.kp _ _ nF e⟩
     ·rcases mcP hq with rfl|hq
      ·exact⟨_,hi.kp _ _ na ha4⟩
      ·exact hi.e0 q hq,λb o hb e=>hi.kp b o (λz=>hb (.tail _ (.tail _ z))) e,hi.gs,hi.dr,hi.os⟩
    exact fR hcq (ih (pre++[k]) e' s'' s'' _ ⟨λU U U e=>e,λU U U e=>e,hi.dr,rfl⟩ i5.ex (el▸W.frame _ _ _ st4 i5) ((hn3.keeps Xr).at' λo e=>hi.kp _ o nF e) (hi.kp _ _ na ha4))
end
section
variable{prog:Y8}{w:Y0}{k:Ck}{K:aC}{d:Nat}{A:Za}{c:Cx}{m:Zf->Option Yr}{H:MH}{s:Yq}{a:Nat}
abbrev iC:Fi:=⟨[AA],[],[BO],[]⟩
structure FnC(K:aC)(f:Nat)(fd:ZW)(body:List af):Prop where
 ok:LY K f iC fd body
 clo:fd.closure=[]
 dfl:fd.defaults=.none
 cll:fd.scope.names.lookup (nm BO)=some .cell
 loc:fd.scope.names.lookup (nm AA)=some .local
section
variable{f:Nat}{R:bh->Yq->Prop}{fd:ZW}{body:List af}
theorem P1(F:KF K k.isAttr)(ih:Kf prog w k K (call d) d)(hh:k.strict=true->A.handled=none)(hd:8*A.depth+A.units+24*(d+1)<=7900)(G:FnC K f fd body)(B:Base k K c.WM)(Rl:AU prog w c m H s)
 (q:∀(c':Cx) m' s1 C,c'.WM=c.WM->Ev prog w K k (call d) (A.deeper (callEnvC fd s.heap.objs.size f)) c' (callEnvC fd s.heap.objs.size f) [(BO,C)] fd.scope->AU prog w c' m' (H.put C (.cell none)) s1->H C=none->Bh [(AA,.ref a)] m'->Rh prog w c c' m ->
  wpAny (model prog w) (A.deeper (callEnvC fd s.heap.objs.size f)) (execs body (callEnvC fd s.heap.objs.size f)) (λfl WQ=>R (.ok (.ret (match fl with|.ret v=>v|_=>.none))) WQ) (λe s'=>wpAny (model prog w) (A.deeper (callEnvC fd s.heap.objs.size f)) (leaving (callEnvC fd s.heap.objs.size f) e) (λU s''=>R (.error e) s'') (λe' s''=>R (.error e') s'') s') s1) :
 codeAny (model prog w) A (.call (.ref f) ⟨[.ref a],[]⟩) R s:=by
 refine FY G.ok.at_ λoc od osl ho=>?_;have X:=B.kin.keeps Rl.fr.keep;refine AJ λGG hG=>?_;refine Q3 (Gj (s:=s) (ps:=[AA]) (ds:=[]) (vs:=[.ref a]) (ys:=[.ref a]) (us:=[]) (zs:=[]) X G.ok.p1 G.ok.p2 G.ok.p3 G.ok.p4 G.ok.pn G.ok.df (.cons (.ref _) .nil) .nil (ρ:=[(AA,.ref a)]) rfl) λbinds sl hsl hkr U hpure=>?_;refine Am (GD hkr hsl G.ok.nd) λhnd hin=>?_;refine hG ?_;clear hG GG;cases hkr.kr1
 refine codeAny_call_function (dl hd) (X _ _ ho) rfl G.ok.co G.ok.gen G.ok.body (dX X G.ok.code) ?_;rw[hpure G.dfl,G.clo];have someC:∀b,((cellsFrom b fd.scope.names []).lookup (nm BO)).isSome=true:=λb=>CN _ _ _ (.inl (CC G.cll));refine Yv (eW G.ok.kind (λx hx=>by exact(msP hx).symm▸.inl G.loc) λenv he WO x=>?_)
 subst he;refine⟨(B.lim.keeps Rl.fr.keep).keeps x.toInCall.keep,codeAny_func ?_⟩;refine AJ λGG hG=>?_;refine Gs x.done λWi tk u hk=>?_;obtain rfl:=u;refine BB Rl.lo λoL hL=>?_;obtain⟨D,Yj,N,L⟩:=Rl.led;refine BB (Zy.mp (someC (s.heap.objs.size+1))) λC hC=>?_;refine hG ?_;clear hG GG;have Llt:c.L<s.heap.objs.size:=Yy hL;have nL:c.L∉Yj.map (·.1):=λq=>by refine AR (mmP q) λp hp e=>?_;exact(N p hp).2.1 e
 have bL:c.WM.get? c.L=Option.none:=by
  cases q:c.WM.get? c.L with
  | none=>rfl
  | some o=>exact absurd (Yy q) (Ng Rl.fr.above)
 have hCa:=x.above _ _ (CC hC);have fC:s.heap.get? C=none:=Ha (ZY hCa);have nC:C∉Yj.map (·.1):=λz=>by
  refine AR (mmP z) λp hp u=>?_;obtain rfl:=u;exact sN ((N p hp).1) fC
 have bC:c.WM.get? C=none:=by
  cases q:c.WM.get? C with
  | none=>rfl
  | some o=>exact sN (Rl.fr.keep _ _ q) fC
 have nCL:C∉((c.L,oL)::Yj).map (·.1):=λz=>by
  rcases mcP z with z|z
  ·have z:C=c.L:=z;rw[z] at hCa;exact ZE _ (az hCa Llt)
  ·exact nC z
 refine AR (x.cell _ _ hC) λobC c1 c2=>?_;have e0:bindC (newEnv fd.scope s.heap.objs.size fd.globals (cellsFrom (s.heap.objs.size+1) fd.scope.names []) (fd.qualname++".<locals>.") (some f) fd.code none fd.builtins).kindOf [(nm AA,dY a)] (λU=>none) (nm BO)=none:=by
  exact(Lb _ _ _ hnd).trans (if_neg (by unfold a7;show ¬ fd.scope.names.lookup (nm BO)=_;rw[G.cll];decide))
 have WV:AU prog w (c.lx (s.heap.objs.size) ((c.L,oL)::c.X)) (bindL (newEnv fd.scope s.heap.objs.size fd.globals (cellsFrom (s.heap.objs.size+1) fd.scope.names []) (fd.qualname++".<locals>.") (some f) fd.code none fd.builtins).kindOf [(nm AA,dY a)] λU=>none) (H.put C (.cell none)) {s with heap:=Wi,toks:=tk}:=by
  refine⟨⟨x.toInCall.ns,λb o e=>hk _ _ (Rl.fr.keep b o e),Yn Rl.fr.above (ZY Llt)⟩,⟨D,(C,obC)::(c.L,oL)::Yj,λp hp=>?_,(L.addX nL bL).alloc nCL (by rw[e0] at c2;exact c2)⟩,Rl.gs,Rl.dr,Rl.os⟩
  rcases mcP hp with rfl|hp
  ·exact⟨c1,bQ hCa,bC⟩
  ·rcases mcP hp with rfl|hp
   ·exact⟨hk _ _ hL,ZF Llt,bL⟩
   ·exact⟨hk _ _ (N p hp).1,ZF (Yy (N p hp).1),(N p hp).2.2⟩
 have cX:∀p∈c.X,p.1≠c.L:=λp hp=>(Rl.lt.2 p hp).2;refine q (c.lx (s.heap.objs.size) ((c.L,oL)::c.X)) _ _ C ?_ ⟨F,?_,⟨rfl,G.ok.kind,?_,G.ok.gl,G.ok.bi,λy b e=>?_,λp hp e=>Zy.mp (CN _ _ _ (.inl (e▸hp)))⟩,hh,d0 (dw (di hd (Y1 _))),λA' hh' hd' c' m H s f vs ys us zs Q R e U U R' r r' h q=>ih A' hh' (dc (di hd (Y1 _)) hd') c' m H s f vs ys us zs Q R (e▸B) R' r r' h q,λU U U U U U U U U U U U h=>(FM h).elim⟩ WV (L.none nC bC) (λy v e=>?_) λP hP m2 H2 s2 R2=>?_
 ·rfl
 ·exact B
 ·rfl
 ·have e:cond (Y4 BO y) (some C) none=some b:=e;refine UJ (Y4 BO y) (λq=>?_) λq=>?_
  ·replace e:=q▸e;obtain rfl:=Ys e;exact(Y6 q)▸hC
  ·replace e:=q▸e;exact zN e
 ·have e:cond (Y4 AA y) (some (V.ref a)) none=some v:=e;refine UJ (Y4 AA y) (λq=>?_) λq=>?_
  ·
   replace e:=q▸e;obtain rfl:=Ys e;refine(Y6 q)▸⟨.ref a,?_,.ref a⟩;rw[La _ _ _ hnd,if_pos (by exact G.loc)]
   trivial
  ·replace e:=q▸e;exact zN e
 ·obtain⟨D',Yl,N',L'⟩:=R2.led;have hm:=(L'.xs (c.L,oL) (Yt _ (.head _))).1;obtain⟨o',U,R''⟩:=R2.swap (gL:=c.L) (obL:=oL) (m':=m) (X':=FS P s2.heap++c.X) (Yt _ (.head _)) (Rl.fr.ns.at' λo e=>by obtain rfl:=Ys (hL.symm.trans e);exact N'.get hm) Rl.fr.above λp hp=>by
   rcases maP hp with hp|hp
   ·exact⟨Yw _ hp,λz=>hP (z▸(BC.mp hp).1)⟩
   ·exact⟨Yt _ (.tail _ hp),cX p hp⟩
  exact R''.dropX' λp hp=>.tail _ hp
end
section
variable{n C sa:Nat}{ds xs:List Int}{env:eE}{sc' scope:ZR}{Er Q:Yr->Yq->Prop}{ex:Bool}{op:fm}
theorem Ri{H':MH}{G:Bool->MH->Prop}{i:Int}(hop:op=(if ex then gZ else .In))(h1:H' C=some (.cell (some (.ref sa))))(h2:H' sa=some (.set xs))(hl:xs.length<=1000)(q:G (keep xs ex i) H') :
 UI (call d) [(BO,C)] [.e (.cmp op (.var AW) (.cvar BO))] [(AW,.int i)] H' G:=by
 have hi:I5 i (.set xs) (xs.contains i):=.set hl;unfold keep at q;subst hop;have fin:∀b,b=(xs.contains i !=ex)->HC b (G true H') (G false H'):=λb e=>by subst e;revert q;cases(xs.contains i !=ex)<;>exact _root_.id
 cases ex with
 | true =>
  refine cv h1 ⟨.set xs,xs.contains i,h2,hi,fin _ ?_⟩;cases xs.contains i<;>rfl
 | false =>
  refine cv h1 ⟨.set xs,xs.contains i,h2,hi,fin _ ?_⟩;cases xs.contains i<;>rfl
theorem Vb{prog:Y8}{w:Y0}{A:Za}{s:Yq}{env:eE}{c P:Zh}{ps:Array Yr}{pos:ef}{qualname:Zf}{scope:ZR}{Er:Yr->Yq->Prop}{Q:Yr->Yq->Prop}(hc:env.code=.ref c)(hok:s.heap.IsCode c P ps)(htab:s.heap.TableAt c P ps)
 (hQ:∀code h' tk ps',Heap.ExtBut P s.heap h'->h'.IsCode c P ps'->h'.get? P=some {cls:=.none,data:=.fields ps'}->Q code {s with heap:=h',toks:=tk}):wpAny (model prog w) A (genexprCode env pos qualname scope) Q Er s:=by
 refine oCs (codeAmong pos ps.toList) (λhnf=>?_) λcv hnf=>?_
 ·exact wpAny_genexprCodeX hc hok htab hnf λc' h' tk hx U U hok' U htab' U=>hQ _ _ _ _ hx hok' htab'.2
 ·exact wpAny_genexprCode_hit hc hok hnf (hQ cv s.heap s.toks ps (Heap.ExtBut.refl _ _) hok htab.2)
theorem Rj{ge iter elt:ZJ}{cd:Code}{x:Zf}{px pos:ef}{ifs:List ZJ}{I:Nat}{cenv:eE}(hg:ge=.GeneratorExp elt [⟨.Name x px,iter,ifs,0⟩] scope pos)(hc:cd=.compLoop ge 0 (.ref I) .none cenv){R:GenEnd}{Y:Protocol}{n':Nat}{s0 s:Yq}{c0:Code}(sf:∀(A:Za) (Q:Yr->Yq->Prop) (E:Yr->Yq->Prop),Q (.ref I) s->wpAny (model prog w) A (pyIter (.ref I)) Q E s)
 (loop:Seg (model prog w) A R Y n' s0 cd ((model prog w).den cd) [] s):Seg (model prog w) A R Y n' s0 c0 ((compStart ge 0 (.ref I) .none cenv).onRaise (leaving cenv)) [] s:=by
 subst hc;subst hg;rw[eM];refine(Z0 (bM ?_):Seg _ A _ _ _ s0 _ ((ask>>=_).wrap _ _ _ _) [] s);split
 ·exact fR rfl loop
 ·first
   | exact Z0 (dZ (Z0 (am (Z0 (sf _ _ _ (fR rfl loop))))))
   | (refine Z0 (dZ ?_);show Seg _ A _ _ _ s0 _ ((standAt _>>=_).wrap _ _ _ _) [] s;exact Z0 (am (Z0 (sf _ _ _ (fR rfl loop)))))
theorem T4{F2 I2 gn I:Nat}{obF obI:dK}{s2 s5:Yq}{mF:Zf->Option Yr}{cenv:eE}{ge iter elt:ZJ}{px pos:ef}{ifs:List ZJ}{H' H1:MH}{T:Tr}{bd:Nat}(hg:ge=.GeneratorExp elt [⟨.Name (nm AW) px,iter,ifs,0⟩] scope pos)
 (hop:op=(if ex then gZ else .In))(hifs:LL scope [.e (.cmp op (.var AW) (.cvar BO))] ifs=true)(helt:Im scope (.var AW) elt=true)(B:Base k K c.WM)(R1:AU prog w c m H1 s2)(ht1:H1 Ai=some .txt)(f1:An H' H1 (fp T))(g:AG H' T)
 (hw:∀s',Tx prog w s2 s'->∀(A:Za) (P:Pt),A.handled=none->8*A.depth+A.units+24*(d+3+sz T)<=7900->P.q.Nodup->(∀q∈P.q,s'.heap.get? q=none)->(∀g∈P.g,s'.gens.size<=g)->∃St,Wk prog w A I P ds.length (λi=>ds.getD i 0) (MQ prog w c m P H' (fp T)) St/\Sf prog w I St/\St 0 s')
 (tx0:Tx prog w s2 s5)(gI:s5.heap.get? I2=some obI)(gF:s5.heap.get? F2=some obF)(hns:s5.heap.Ns F2 mF)(nF:s2.heap.get? F2=none)(nG:s2.heap.get? I2=none)(nFt:F2≠Ai)(nGt:I2≠Ai)(naF:I2≠F2)(hIs:∀h':aV,h'.get? I2=some obI->h'.IsGen I2 gn)(hgn:gn=s2.gens.size)(gnew:s5.gens[gn]?=some (.fresh (.compStart ge 0 (.ref I) .none cenv)))
 (EPc:EP cenv F2 [(BO,C)] scope)(hx:cenv.kindOf (nm AW)=some .local)(hl0:cenv.locals=F2)(hp:(cenv.scope.kind==.class||(cenv.scope.kind==.module&&cenv.locals !=cenv.globals))=false)(hco:cenv.scope.isCoroutine=false)
 (hC:H' C=some (.cell (some (.ref sa))))(hsa:H' sa=some (.set xs))(hl:xs.length<=1000)(hbd:24*(d+3+sz T)+12<=bd):ItG prog w bd c m H' (fp T) (ds.filter λi=>keep xs ex i) I2 s5:=by
 refine⟨⟨gn,hIs _ gI⟩,H1,R1.tx ht1 tx0,f1,λs' tx A2 P hA hb nd hqf hgf=>?_⟩;have t2':=tx0.trans tx;refine AJ λGG hG=>?_;refine Am (R1.txO ht1) λu U=>?_;refine AR u λoT e1 hoT=>?_;refine AR tx.tx λo' eo' ho'=>?_;refine hG ?_;clear hG GG;replace gI:=tx.kp _ _ nGt gI;replace gF:=tx.kp _ _ nFt gF;replace hns:=hns.at' λo e=>tx.kp _ o nFt e;have R6:=R1.tx ht1 t2';have ge0:=tx.gs _ _ gnew;clear gnew tx0;have nq:∀{x o},s'.heap.get? x=some o->x∉P.q:=λe z=>by exact nS (hqf _ z) e
 have gsz:gn<s'.gens.size:=(Zb.mp ge0).1;have fr:o'.isFreed=false:=by
  refine AR ho' λpp hpp U=>?_;exact Obj.isFreed_of_fields (vs:=pp) (by exact hpp▸rfl)
 have us:(s2.heap.update Ai λU=>o').get? Ai=some o':=ZS (λU=>o') e1 fr;have oth:∀{b r},b≠Ai->s2.heap.get? b=r->(s2.heap.update Ai λU=>o').get? b=r:=λnb e=>(ZN _ _ (aL nb)).trans e
 generalize s2.heap.update Ai (λU=>o')=hU at us oth
 refine AJ λGG hG=>?_;obtain⟨cd,hc⟩:∃cd,cd=Code.compLoop ge 0 (.ref I) .none cenv:=⟨_,rfl⟩;refine Es (hw {s2 with heap:=hU} ⟨λb o nb e=>oth nb e,⟨o',us,ho'⟩,λU U e=>e,R1.dr,rfl⟩ (A2.in1.over cd []) ⟨F2::I2::P.q,gn::P.g⟩ hA (by rw[hc,hg];exact dy hbd hb)
  (ncR ⟨λz=>(mcP z).elim (λz=>naF z.symm) (nq gF),ncR ⟨nq gI,nd⟩⟩) (C9 (oth nFt nF) (C9 (oth nGt nG) λx hx=>oth (λz=>by rw[<- z,hqf _ hx] at eo';cases eo') (t2'.none (hqf _ hx)))) (C9 (Zo hgn.symm) λx hx=>Yn (ZY (hgn▸gsz)) (hgf _ hx))) λSt W sf st=>?_
 have cLq:c.L∉P.q:=by
  refine BB R6.lo λoL hL=>?_;exact nq hL
 have cXq:∀p∈c.X,p.1∉P.q:=λp hp=>by
  obtain⟨D,Yj,N,L⟩:=R6.led;exact nq (N p (L.xs p hp).1).1
 have pok:WF (P.add gn) c:=⟨nd,cXq,cLq,λx hx=>by
  have ge:gn<=x:=(mcP hx).elim (λz=>Zo z.symm) λz=>Yn (ZY gsz) (hgf _ z);cases q:c.gs[x]? with
  | none=>rfl
  | some st=>exact absurd (ZB (Zb.mp (R1.gs x st q)).1 (hgn▸ge)) (ZE _)⟩
 have hLim:s'.heap.NoLimit:=B.lim.keeps λb o e=>R6.fr.keep b o e;refine AR (id hLim) λU u U=>?_;refine NB u λoC U U hCs U=>?_;refine hG ?_;have toIn:∀{s''},In (P.add gn) s' s''->In ⟨F2::I2::P.q,gn::P.g⟩ {s2 with heap:=hU} s'':=λ{s''} i=>⟨C9 ⟨_,i.kp _ _ (nq gF) gF⟩ (C9 ⟨_,i.kp _ _ (nq gI) gI⟩ i.e0),λb o hb e=>by
  have nb:b∉P.q:=λz=>hb (.tail _ (.tail _ z));by_cases z:b=Ai
  ·subst z;obtain rfl:=Ys (us.symm.trans e);exact i.kp _ _ nb eo'
  ·refine oCs (s2.heap.get? b) (λy=>?_) λo2 y=>?_
   ·exact nS (oth z y) e
   ·obtain rfl:=Ys (e.symm.trans (oth z y));exact i.kp _ _ nb (t2'.kp _ _ z y),λx st hx e=>i.gs x st hx (t2'.gs x st e),i.dr,i.os.trans t2'.os⟩
 have rdy:∀{WQ Wj},MQ prog w c m ⟨F2::I2::P.q,gn::P.g⟩ H' (fp T) WQ->WQ.heap.Ns F2 Wj->∃H2,Rd prog w F2 Wj H2 WQ/\H2 C=some (.cell (some (.ref sa)))/\H2 sa=some (.set xs):=λ{WQ Wj} ⟨H2,r2,f2⟩ hn=>⟨H2,r2.rd B.mods B.len hn λU U e=>e,f2.kp _ _ hC (.inl λz=>by
  refine HT (g.rep.fpi C z) λc' as e=>?_;exact nomatch (hC.symm.trans e)),f2.kp _ _ hsa (.inr rfl)⟩
 refine⟨_,Wk.gen (g:=gn) (r₀:=.ok .next) (RZ hA (dl hb)) (nq gI) (nq hCs) (λz=>ZE _ (ZB gsz (hgf _ z))) (λx x' ⟨H2,h1,h2⟩ I'=>⟨H2,AU.re (P:=P.add gn) h1 pok I',h2⟩),λA5 i5 s5 Q5 E5 h5 q5=>cI h5.1.1 q5,⟨hIs _ gI,hLim⟩,⟨H1,by
  show AU prog w (c.x (FS P s'.heap++c.X)) m H1 s'
  exact(GF hqf).symm▸R6,f1⟩,_,ge0,λs4 I4=>⟨rfl,?_⟩⟩
 rw[iH];have i4:=toIn I4;clear toIn;rw[show(model prog w).den (Code.compStart ge 0 (.ref I) .none cenv)=(compStart ge 0 (.ref I) .none cenv).onRaise (leaving cenv) from by rw[hg];rfl]
 refine Rj hg hc (λA5 Q5 E5=>sf A5 0 s4 Q5 E5 (W.frame _ _ _ st i4)) (T3 hg hc (P:=P) (F2:=F2) (a:=I2) (g2:=gn) (oa:=obI) (FinO:=MQ prog w c m P H' (fp T)) (pz:=λi=>keep xs ex i) W hx hl0 hp hco (nq gF) (nq gI) naF
  (λx ⟨H2,r2,f2⟩ e=>⟨⟨hIs _ e,B.lim.keeps λb o e=>r2.fr.keep b o e⟩,H2,r2.dropX' λp hp=>(maP hp).elim (λhp=>Yw _ (BC.mpr ⟨.tail _ (.tail _ (BC.mp hp).1),(BC.mp hp).2⟩)) (Yt _),f2⟩)
  (λi t WQ Wj E hf hn hm=>by
   refine Es (rdy hf hn) λH2 rd c1 c2=>?_;exact th (spTs (G:=λb U=>b=keep xs ex i) (C:=call d) EPc (Bh.one (.int i t) hm) hifs rd (Ri hop c1 c2 hl rfl)) λb WU s=>Am s λk e=>⟨e,k⟩)
  (λi t WQ Wj E hf hn hm=>by
   refine Es (rdy hf hn) λH2 rd c1 c2=>?_;refine Qc (sp (C:=call d) (G:=λv U=>v=.int i) EPc (Bh.one (.int i t) hm) (Ie _ _ _ helt) rd rfl) λv y WU r k e=>?_;subst e;cases r
   exact⟨⟨_,rfl⟩,k⟩)
  ds [] rfl s4 s4 _ ⟨λU U U e=>e,λU U U e=>e,I4.dr,rfl⟩ i4.ex (W.frame _ _ _ st i4) (hns.at' λo e=>I4.kp _ _ (nq gF) e) (I4.kp _ _ (nq gI) gI))
theorem T5{ov elt:ZJ}{ap pa px pos:ef}{ifs:List ZJ}{cF:Nat}{oF:dK}{vs:Array Yr}{file:Zf}{tf tg tt:Tok}{flags text:Int}{inF:Bool}{bd:Nat}
 (Z:Ev prog w K k (call d) A c env [(BO,C)] sc')(l:Bh [(AA,.ref a)] m)(hh:A.handled=none)(R:AU prog w c m H s)(ht:H Ai=some .txt)
 (hcode:env.code=.ref cF)(hK:K.lookup cF=some oF)(hcF:oF.cls=.type "code")(hdF:oF.data=.fields vs)(v11:vs[11]?=some (.ref Ai))(v18:vs.getD 18 .none=.str file tf)(v7:vs.getD 7 .none=.int flags tg)(v9:vs.getD 9 .none=.bool inF)(v10:vs.getD 10 .none=.int text tt)
 (S:ScP sc' scope AW)(hco:scope.isCoroutine=false)(h0:scope.names.lookup (".0":Zf)=some NameKind.local)(hifs:LL scope [.e (.cmp op (.var AW) (.cvar BO))] ifs=true)(helt:Im scope (.var AW) elt=true)
 (o4:CX ov=true)(o5:(ap.endLine==pa.line)=true)(o:CM k sc' (.attr (.var AA) AE) ov=true)(hop:op=(if ex then gZ else .In))
 {T:Tr}(hT:∀{G:V->MH->Prop},G (.ref T.addr) H->wE (call d) [(BO,C)] (.attr (.var AA) AE) [(AA,.ref a)] H G)(hc:WI prog w k K d (sz T))(hd:8*A.depth+A.units+24*(d+3+sz T)<=7900)(g:AG H T)(hs:sc T<=2)(hds:Gw ds)(hal:∀x,al T x<->x∈ds)
 (hC:H C=some (.cell (some (.ref sa))))(hsa:H sa=some (.set xs))(hl:xs.length<=1000)(hbd:24*(d+3+sz T)+12<=bd)
 (q:∀y s',KH prog w bd c m H (fp T) (ds.filter λi=>keep xs ex i) y s'->Q y s') :
 wpAny (model prog w) A (eval (.GeneratorExp elt [⟨.Name (nm AW) px,.Call (.Attribute ov (nm AQ) ap) [] [] pa,ifs,0⟩] scope pos) env) Q Er s:=by
 refine AR (Z.O.clos S) λcl hclos hcl=>?_;refine wpAny_GeneratorExp_make (cl:=cl) hco hclos S.nc h0 S.kd (dl hd) ?_ λU=>rfl;refine Qa (G:=λv H'=>v=.ref T.addr/\H'=H) (Cc (.attr (.var AA) AE)) Z l o4 o5 o R (hT ⟨rfl,rfl⟩) λv y H' s1 rv R0 hq=>?_;obtain⟨rfl,rfl⟩:=hq;cases rv
 refine g.rep.all λf' hf'=>hc T (Y1 _) _ _ _ _ _ _ _ _ hh hd Z.B R0 ht g hs hds hal hf' λy s'' v=>?_;refine v.iter0 ht λI s2 hI up exI vi=>⟨?_,?_⟩
 ·obtain⟨H1,R1,U,U⟩:=vi;exact Z.B.lim.keeps R1.fr.keep
 refine AJ λGG hG=>?_;obtain⟨H1,R1,f1,hw⟩:=vi;have ht1:=f1.kp _ _ ht (.inr rfl);refine IM (R1.txO ht1) λu tL tX t0=>?_;refine AR u λoT e1 t=>?_;refine AR t λps e2 e3=>?_;refine hG ?_;have X1:=Z.B.kin.keeps R1.fr.keep;have nFt:cF≠Ai:=λz=>by have:=Z.B.kin _ _ hK;exact zN (t0▸z▸this)
 refine Vb hcode ⟨oF,vs,file,tf,flags,tg,inF,text,tt,oT,X1 _ _ hK,hdF,by rw[ah,v11];rfl,v18,v7,v9,v10,e1,by rw[e2],e3,nFt⟩ ⟨⟨oF,vs,X1 _ _ hK,hcF,hdF,v11⟩,by exact e2▸e1⟩ λcode h3 tk3 ps' eb hok' htT=>?_
 refine AJ λGG hG=>?_;obtain⟨U,U,U,U,U,U,U,U,U,oT',U,U,U,U,U,U,U,e1',e2',e3',U⟩:=hok';have k3:∀b o,c.WM.get? b=some o->h3.get? b=some o:=λb o e=>eb b o (λz=>by exact zN (t0▸z▸e)) (R1.fr.keep b o e)
 refine x37 Z.B.bui λmg bm ob b1 b2 b3 b4 b5 b6 b7=>?_;refine hG ?_;refine wpAny_builtinsFor (by rw[Z.O.igl];exact b1.keeps k3) b2 b3 (k3 _ _ b4) b5 b6 b7 ?_
 intro h' hn' hs';have szF:h'.objs.size=h3.objs.size+1:=by rw[hs'.1,b0]
 have k4:∀b o,h3.get? b=some o->h'.get? b=some o:=λb o e=>hs'.extBut b o (ZF (Yy e)) (Yx _ e);refine q _ _ ?_;refine .inr ⟨_,rfl,?_⟩;refine NB (id hn') λobF U U eF U=>?_;have nF:s2.heap.get? h3.objs.size=none:=by
  cases z:s2.heap.get? h3.objs.size with
  | none=>rfl
  | some o =>
   by_cases e:h3.objs.size=Ai
   ·rw[<- e] at e1';exact absurd (Yy e1') (ZE _)
   ·exact absurd (Yy (eb _ _ e z)) (ZE _)
 have nG:s2.heap.get? h'.objs.size=none:=by
  cases z:s2.heap.get? h'.objs.size with
  | none=>rfl
  | some o =>
   by_cases e:h'.objs.size=Ai
   ·have:=k4 _ _ e1';rw[<- e] at this;exact absurd (Yy this) (ZE _)
   ·exact absurd (Yy (k4 _ _ (eb _ _ e z))) (ZE _)
 have nFt':h3.objs.size≠Ai:=λz=>by rw[<- z] at e1';exact ZE _ (Yy e1')
 have nGt:h'.objs.size≠Ai:=λz=>by have:=k4 _ _ e1';rw[<- z] at this;exact ZE _ (Yy this)
 have naF:h'.objs.size≠h3.objs.size:=by rw[szF];exact Nat.succ_ne_self _
 refine T4 (F2:=h3.objs.size) (cenv:=genEnv scope cl h3.objs.size code builtinsNs env) rfl hop hifs helt Z.B R1 ht1 f1 g hw ⟨λb o nb e=>Yx _ (k4 _ _ (eb _ _ nb e)),⟨_,Yx _ (k4 _ _ htT),ps',rfl,e3'⟩,λx st e=>(by
  have lt:=(Zb.mp e).1
  show(s2.gens.push _)[x]?=_
  rw[fe lt,<- ZD lt];exact e),R1.dr.push rfl,rfl⟩ (Y9 _ rfl) (Yx _ eF) (hn'.at' λo e=>Yx _ e) nF nG nFt' nGt naF (λh e=>⟨_,_,_,e,rfl,rfl,rfl⟩) rfl (by show(s2.gens.push _)[s2.gens.size]?=_;exact fJ)
  ⟨S.kd,rfl,λy h=>h,λh=>h,Z.O.igl,rfl,λy a h g=>⟨.inr h,(hcl (nm y,.free) (CC h) rfl).trans (Z.O.ice _ _ g)⟩⟩ S.hx rfl (by show(scope.kind==.class||(scope.kind==.module&&_))=false;rw[S.kd];rfl) hco hC hsa hl hbd
end
inductive Rk (k:Ck) (sc:ZR) (op:fm) (ge:ZJ):Prop
 | mk (ov:_) (elt:_) (ap:_) (pa:_) (px:_) (pos:_) (ifs:_) (scope:_) (p0:ge=.GeneratorExp elt [⟨.Name (nm AW) px,.Call (.Attribute ov (nm AQ) ap) [] [] pa,ifs,0⟩] scope pos) (p1:ScP sc scope AW) (p2:scope.isCoroutine=false) (p3:scope.names.lookup (".0":Zf)=some NameKind.local) (p4:LL scope [.e (.cmp op (.var AW) (.cvar BO))] ifs=true) (p5:Im scope (.var AW) elt=true) (p6:CX ov=true) (p7:(ap.endLine==pa.line)=true) (p8:CM k sc (.attr (.var AA) AE) ov=true):Rk k sc op ge
inductive T6 (K:aC) (code:Yr):Prop
 | mk (cF:_) (oF:_) (vs:_) (file:_) (tf:_) (flags:_) (tg:_) (inF:_) (text:_) (tt:_) (p0:code=.ref cF) (p1:K.lookup cF=some oF) (p2:oF.cls=.type "code") (p3:oF.data=.fields vs) (p4:vs[11]?=some (.ref Ai)) (p5:vs.getD 18 .none=.str file tf) (p6:vs.getD 7 .none=.int flags tg) (p7:vs.getD 9 .none=.bool inF) (p8:vs.getD 10 .none=.int text tt):T6 K code
section
variable{n f sa:Nat}{R:bh->Yq->Prop}{fd:ZW}{body:List af}{ds xs:List Int}{bo:Int}{ex:Bool}{WT:Tr}
theorem Vc(F:KF K k.isAttr)(ih:Kf prog w k K (call d) d)(hh:A.handled=none)(hd:8*A.depth+A.units+24*(d+3+(sz WT+1))<=7900)(G:FnC K f fd body)(hcd:T6 K fd.code)
 (hb:∃st test g1 g2 p1 p2 p,body=[st,.If test [.Return (some g1) p1] [.Return (some g2) p2] p]/\U4 k fd.scope (.casg BO (.attr (.var AA) Bg)) st=true/\Oc k fd.scope (.e (.attr (.var AA) Bc)) test=true/\Rk k fd.scope .NotIn g1/\Rk k fd.scope .In g2)
 (B:Base k K c.WM)(Rl:AU prog w c m H s)(ht:H Ai=some .txt)(g:AG H (.una (.filt sa xs ex bo) a WT))(hs:sc WT<=2)(hc:WI prog w k K d (sz WT))(hds:Gw ds)(hal:∀x,al (.una (.filt sa xs ex bo) a WT) x<->x∈ds)
 (q:∀y s',KH prog w (24*(d+3+(sz WT+1))) c m H (fp (.una (.filt sa xs ex bo) a WT)) ds y s'->R (.ok (.ret y)) s'):codeAny (model prog w) A (.call (.ref f) ⟨[.ref a],[]⟩) R s:=by
 refine AJ λGG hG=>?_;obtain⟨st,test,g1,g2,p1,p2,p,rfl,os,ot,gx1,gx2⟩:=hb;obtain⟨cF,oF,vs,file,tf,flags,tg,inF,text,tt,hcode,hK,hcF,hdF,v11,v18,v7,v9,v10⟩:=hcd;refine Es (Ki g.uA.ok) λda a1 a2 a3=>?_;refine hG ?_;have he:(da.filter λi=>keep xs ex i)=ds:=by
  have:Gw (da.filter λi=>keep xs ex i):=a1.sublist Z1;refine this.ext hds λx=>?_;rw[Zi,<- a2,<- hal];exact cH
 refine P1 F ih (λU=>hh) (dm hd l1) G B Rl λc' m' s1 C e Z R1 hC l b=>?_;have f0:An H (H.put C (.cell none)) []:=An.new0 hC;have f2:An H ((H.put C (.cell none)).put C (.cell (some (.ref sa)))) []:=f0.wr hC (AH _ _ _) rfl;have hC2:((H.put C (.cell none)).put C (.cell (some (.ref sa)))) C=some (.cell (some (.ref sa))):=AH _ _ _;refine ZL (th (JR (.casg BO (.attr (.var AA) Bg)) _ _ _ _ _ Z _ _ l _ _ _ (λfl ρ' H'=>fl=.next/\ρ'=[(AA,.ref a)]/\H'=(H.put C (.cell none)).put C (.cell (some (.ref sa)))) _ os R1 ?_) λfl s2 hps=>?_)
 ·exact AB (n:=Bg) (f0.l g.rep.1) ⟨_,AH _ _ _,rfl,rfl,rfl⟩
 refine AJ λGG hG=>?_;obtain⟨fl',ρ2,m2,H2,rf,l2,R2,rfl,rfl,rfl⟩:=hps;cases rf
 refine hG ?_;refine ZL (wpAny_If (Pe (Q:=λb H'=>b=ex/\H'=(H.put C (.cell none)).put C (.cell (some (.ref sa)))) (KC (.e (.attr (.var AA) Bc)) _ _ _ _ _ _ _ Z l2 _ _ _ _ _ ot R2 ?_) λbb H3 s3 R3 hq=>?_))
 ·exact AB (n:=Bc) (f2.l g.rep.1) ⟨rfl,rfl⟩
 refine AJ λGG hG=>?_;obtain⟨rfl,rfl⟩:=hq;refine hG ?_
 generalize (H.put C (.cell none)).put C (.cell (some (.ref sa)))=H2 at f2 hC2 R3
 have ga:AG H2 WT:=g.uA.nil f2;have hsa:H2 sa=some (.set xs):=f2.l g.rep.2.1;have done:∀{op:fm} {ge:ZJ} {Qv:Yr->Yq->Prop} {Er:Yr->Yq->Prop},Rk k fd.scope op ge->op=(if bb then gZ else .In)->(∀y s',KH prog w (24*(d+3+(sz WT+1))) c m H (fp (.una (.filt sa xs bb bo) a WT)) ds y s'->Qv y s')->wpAny (model prog w) (A.deeper (callEnvC fd s.heap.objs.size f)) (eval ge (callEnvC fd s.heap.objs.size f)) Qv Er s3:=λ{op ge Qv Er} gx hop hq=>by
  obtain⟨ov,elt,ap,pa,px,pos,ifs,scope,rfl,x1,x2,x3,x4,x5,x6,x7,x8⟩:=gx;refine T5 (T:=WT) (ds:=da) (bd:=24*(d+3+(sz WT+1))) Z l2 hh R3 (f2.l ht) hcode hK hcF hdF v11 v18 v7 v9 v10 x1 x2 x3 x4 x5 x6 x7 x8 hop (λh=>AB (n:=AE) (f2.l g.rep.1) h) hc (dw (di hd (Y1 _))) ga hs a1 a2 hC2 hsa g.ok.2.1.2.2 (ZC (by decide:12<=24) (24*(d+3+sz WT))) λy s' v=>hq y s' ?_
  rw[he] at v;exact(v.back (f2.l ht) b).more (f2.mono λU h=>nomatch h) λx hx=>.inl (.tail _ hx)
 cases bb with
 | true =>
  rw[if_pos rfl];exact ZL (Z3 (done gx1 rfl λy s' v=>q y s' v))
 | false =>
  exact(if_neg Zg).symm▸ZL (Z3 (done gx2 rfl λy s' v=>q y s' v))
end
end
def ShN(k:Ck)(sc:ZR)(body:List af):Prop:=∃ex p,body=[.Return (some ex) p]/\CM k sc (.lst []) ex=true
def ShL(k:Ck)(sc:ZR)(body:List af):Prop:=∃ov z ap p1 p2 p,body=[.Return (some (.Call (.Name "list" p1) [.Attribute ov z ap] [] p2)) p]/\Mf sc "list"=true/\CM k sc (.attr (.var AA) Bg) (.Attribute ov z ap)=true
def ShW(k:Ck)(sc:ZR)(body:List af):Prop:=∃ov ap p2 p,body=[.Return (some (.Call (.Attribute ov (nm AQ) ap) [] [] p2)) p]/\CX ov=true/\(ap.endLine==p2.line)=true/\CM k sc (.attr (.var AA) AE) ov=true
def ShI(k:Ck)(sc:ZR)(body:List af):Prop:=∃ov ap pa q1 q2 ov' ap' pa' q1' q2' bp p1 p2 p,body=[.Return (some (.Call (.Name "sorted" p1) [.BinOp (.Call (.Name "set" q1) [.Call (.Attribute ov (nm AQ) ap) [] [] pa] [] q2) .BitAnd (.Call (.Name "set" q1') [.Call (.Attribute ov' (nm AQ) ap') [] [] pa'] [] q2') bp] [] p2)) p] /\
 Mf sc "sorted"=true/\Mf sc "set"=true/\CX ov=true/\(ap.endLine==pa.line)=true/\CM k sc (.attr (.var AA) Ak) ov=true/\CX ov'=true/\(ap'.endLine==pa'.line)=true/\CM k sc (.attr (.var AA) Av) ov'=true
def ShV(k:Ck)(sc:ZR)(body:List af):Prop:=∃ap p' p p9 y,body=[.Return (some (.Call (.Attribute (.Name (k.clN .Base) p') (nm AQ) ap) [y] [] p)) p9]/\Mf sc (k.clN .Base)=true/\k.Yj .Base=true/\k.via .Base AQ Aj=true/\(ap.endLine==p.line)=true/\Cw k sc [.var AA] [y]=true
def ShF(k:Ck)(sc:ZR)(body:List af):Prop:=∃st test g1 g2 p1 p2 p,body=[st,.If test [.Return (some g1) p1] [.Return (some g2) p2] p]/\U4 k sc (.casg BO (.attr (.var AA) Bg)) st=true/\Oc k sc (.e (.attr (.var AA) Bc)) test=true/\Rk k sc .NotIn g1/\Rk k sc .In g2
structure AlF(k:Ck)(K:aC):Prop where
 base:∃fd body,VQ k K Aj fd body
 null:∃fd body,O5 K Ce fd body/\ShN k fd.scope body
 leaf:∃fd body,O5 K Cf fd body/\ShL k fd.scope body
 inter:∃fd body,O5 K CS fd body/\ShI k fd.scope body
 wrap:∃fd body,O5 K BS fd body/\ShW k fd.scope body
 inv:∃fd body,O5 K B5 fd body/\ShV k fd.scope body
 filt:∃fd body,FnC K Cs fd body/\T6 K fd.code/\ShF k fd.scope body
section
variable{prog:Y8}{w:Y0}{k:Ck}{K:aC}{d n:Nat}
theorem al_all(F:KF K k.isAttr)(ih:Kf prog w k K (call d) d)(con:∀T,sz T<=n->FQ d T)(X:AlF k K):∀N,N<=n->WI prog w k K d N:=by
 intro N
 induction N with
 | zero =>
  intro _ T hT;cases T<;>exact absurd hT (Nat.not_succ_le_zero _)
 | succ N ihN =>
  intro hN T hT A c m H s R ds f hh hd B Rl ht g hs hds hal hf q;have sub:∀{M},M<=N->WI prog w k K d M:=λh T' h'=>ihN (Yn (Zu _) hN) T' (Yn h' h);cases T with
  | null a =>
   cases(show some Ce=some f from hf)
   refine Gs X.null λfd body G sh=>?_;have:ds=[]:=by
    cases ds with
    | nil=>rfl
    | cons x r=>exact((hal x).mpr (.head _)).elim
   subst this;have hd':8*A.depth+A.units+24*(d+3+1)<=7900:=hd;exact VZ F ih hh (dm hd' (l1 (n:=1))) G sh B Rl q
  | leaf a la wa i ps =>
   cases(show some Cf=some f from hf)
   refine Gs X.leaf λfd body G sh=>?_;have hd':8*A.depth+A.units+24*(d+3+1)<=7900:=hd;exact Va F ih hh (dm hd' (l1 (n:=1))) G sh B Rl g hds hal q
  | bin kk a WT We =>
   have hz:sz WT+sz We+1<=N+1:=hT;have hd':8*A.depth+A.units+24*(d+3+(sz WT+sz We+1))<=7900:=hd;have gen:Bt (Tr.bin kk a WT We).cl AQ=some Aj->(∀x,(Tr.bin kk a WT We).den x≠none<->x∈ds)->codeAny (model prog w) A (.call (.ref f) ⟨[.ref (Tr.bin kk a WT We).addr],[]⟩) R s:=λe hden=>by
    obtain rfl:=Ys (e.symm.trans hf);refine HT X.base λfd body G=>?_;exact Oo (T:=.bin kk a WT We) F ih con hh (dm hd l2) G B Rl g (Yn hT hN) hs hden hds ht λy s' v=>q y s' (v.up (m24 l2))
   cases kk with
   | uni=>exact gen rfl hal
   | dm=>exact gen rfl hal
   | anot=>exact gen rfl hal
   | maybe=>exact gen rfl hal
   | inter =>
    cases(show some CS=some f from hf)
    refine Gs X.inter λfd body G sh=>?_;exact T0 F ih hh hd' G sh B Rl ht g hs (sub (sl1 hz)) (sub (sr1 hz)) hds hal q
  | una kk a WT =>
   have hz:sz WT+1<=N+1:=hT;have hd':8*A.depth+A.units+24*(d+3+(sz WT+1))<=7900:=hd;cases kk with
   | filt sa xs ex bo =>
    cases(show some Cs=some f from hf)
    refine Dy X.filt λfd body G cd sh=>?_;exact Vc F ih hh hd' G cd sh B Rl ht g hs (sub (ZX hz)) hds hal q
   | inv ma lim wt id =>
    cases(show some B5=some f from hf)
    refine AJ λGG hG=>?_;refine Gs X.inv λfd body G sh=>?_;refine HT X.base λXn Xo XU=>?_;refine hG ?_;exact al_inv (T:=.una (.inv ma lim wt id) a WT) F ih con hh (dm hd' l4) G XU sh B Rl ht rfl g (Yn hT hN) hs hds hal λy s' v=>q y s' (v.up (m24 l2))
   | con sc' =>
    cases(show some BS=some f from hf)
    refine Gs X.wrap λfd body G sh=>?_;exact Ql (n:=sz WT+1) (T:=WT) F ih hh hd' G sh B Rl (λh=>AB (n:=AE) g.rep.1 h) (sub (ZX hz)) (aG _) ht g.uA hs hds hal g.uA.rep.all λy s' v=>q y s' (v.more .refl λx hx=>.inl (.tail _ hx))
  | req a i WT We =>
   have hz:sz WT+sz We+2<=N+1:=hT;have hd':8*A.depth+A.units+24*(d+3+(sz WT+sz We+2))<=7900:=hd;cases(show some BS=some f from hf)
   refine Gs X.wrap λfd body G sh=>?_;have hsI:sc (.bin .inter i WT We)<=2:=a6.mpr ⟨a6.mpr ⟨(OU hs).1,Yn (OU hs).2 (Zu 1)⟩,Zu 1⟩;exact Ql (n:=sz WT+sz We+2) (T:=.bin .inter i WT We) F ih hh hd' G sh B Rl (λh=>AB (n:=AE) g.rep.1 h) (sub (ZX hz)) (aG _) ht g.rI hsI hds hal g.rI.rep.all λy s' v=>q y s' (v.more .refl λx hx=>.inl (.tail _ hx))
end
section
variable{prog:Y8}{w:Y0}{A:Za}{E:Yr->Yq->Prop}{h:aV}{g:Array aP}{d:Drawn}{t:Nat}{os:Y7}{env:eE}
variable{nm q:Zf}{C N:Zh}{bs bm bmB:List Yr}{hdct:Bool}{sn:List Zf}{sub:List Yr}{ab:Bool}{col:Option Bool}{dd:Option Zh}{k0 k1 k2 k3 k5:Option Yr}{B newId initId:String}
theorem Rm{Q:Yr->Yq->Prop}(hC:h.get? C=some (excClassObj nm q C N bs bm hdct sn sub ab col dd k0 k1 k2 k3 k5 newId))(hq:Q (.bool true) ⟨h,g,d,t,os⟩) :
 wpAny (model prog w) A (Z6 (.builtin "issubclass") [.ref C,.ref C]) Q E ⟨h,g,d,t,os⟩:=by
 refine call_issubclass (S:=λU R s=>s.heap.get? C=some (excClassObj nm q C N bs bm hdct sn sub ab col dd k0 k1 k2 k3 k5 newId)/\R (.ok (.ret (.bool true))) s) (λprog w A R s hs=>issubclass_outer ?_) ⟨hC,hq⟩;obtain⟨hC,hR⟩:=hs;obtain⟨h,g,d,t,os⟩:=s;have hT:(⟨h,g,d,t,os⟩:Yq).TypeIs (.ref C) "type":=⟨_,hC,rfl⟩;have hc:(dY C::bm).contains (.ref C)=true:=by simp
 refine(Yo (fg hT ?_):wpAny _ A.in1 (typeOf (.ref C)>>=_) _ _ _);rw[if_pos (by decide)]
 repeat (first|with_reducible refine dJ hC ?_|(with_reducible refine eO hC ?_;rw[hc])|wp_step)
 exact hR
theorem P2(F:ExcBaseFacts B newId initId bmB){mN:Zf->Option Yr}{x:Zf}{np pos:ef}{Q:Flow->Yq->Prop}(hh:A.handled=none)(hC:h.get? C=some (excClassObj nm q C N bs bm hdct sn sub ab col dd k0 k1 k2 k3 k5 newId))(hn:h.Ns N mN)(hni:mN "__init__"=none)(T:OwnTail h bmB bm)
 (hx:∀{Q:Yr->Yq->Prop},Q (.ref C) ⟨h,g,d,t,os⟩->wpAny (model prog w) A (eval (.Name x np) env) Q E ⟨h,g,d,t,os⟩)
 (hE:∀h' e,gc h h' e (.ref C) []->E (.ref e) ⟨h',g,d,t,os⟩) :
 wpAny (model prog w) A (exec (.Raise (some (.Name x np)) none pos) env) Q E ⟨h,g,d,t,os⟩:=by
 have hbase:bm.contains (.type "BaseException")=true:=T.hasType F.hasBase;have hcB:(dY C::bm).contains (.type "BaseException")=true:=by rw[hV,hbase,Bool.or_true]
 refine(Yo (am ?_):wpAny (model prog w) A (do standAt pos;raiseStmt env (some (do let v <- eval (.Name x np) env;standAt pos;pure v)) none) Q E _)
 unfold raiseStmt;refine Yo (Yo (hx (Yo (am (Yv ?_)))));refine Yo (Yv ?_);dsimp only;refine Yo (aU ?_)
 repeat (first|with_reducible refine dJ hC ?_|(with_reducible refine eO hC ?_;refine hcB.symm▸?_)|(with_reducible refine wpAny_call_exc_subT (rest:=[]) F T hC hn hni (λh' e hm=>?_) (Zp _))|wp_step)
 refine Es hm.there λtt he htn htt=>?_;have hC':=hm.keeps _ _ hC
 repeat (first|with_reducible refine dJ he ?_|with_reducible refine dJ hC' ?_|(with_reducible refine eO hC' ?_;first|refine hcB.symm▸?_|rw[hcC])|with_reducible refine Rm hC' ?_|wp_step)
 exact wpAny_raiseNew_none hh (hE h' e hm)
end
structure UN(C:Zh)(fs:List Zh)(l:List eE)(e:Zh)(s0 s:Yq):Prop where
 base:∃B a0,(∀b o,s0.heap.get? b=some o->b∉fs->B.get? b=some o)/\Heap.FlyingW B l e (.ref C) a0 s.heap
 sl:s0.heap.UpToSlots s.heap
 gs:s.gens=s0.gens
 os:s.os=s0.os
theorem UN.kp{C e:Zh}{fs:List Zh}{l:List eE}{s0 s:Yq}(f:UN C fs l e s0 s){b:Zh}{o:dK}(h:s0.heap.get? b=some o)(n:b∉fs):s.heap.get? b=some o:=by
 refine Gs f.base λB a0 h1 h2=>?_;exact h2.1 _ _ (h1 _ _ h n)
section
variable{M:Model}{A:Za}{E:Yr->Yq->Prop}{s0 s:Yq}{env:eE}{Yk:List eE}{L e C:Zh}{fs:List Zh}{Q:Unit->Yq->Prop}
theorem NZ{h':aV}(hfr:A.frames=some (env::Yk))(hf:env.frame=some L)(hF:∃b,s0.heap.FunFrames b (env::Yk))(hx:gc s0.heap h' e (.ref C) [])(q:∀s',UN C ((env::Yk).filterMap (·.frame)) Yk e s0 s'->Q () s') :
 wpAny M A (leaving env (.ref e)) Q E {s0 with heap:=h'}:=by
 refine BB hF λb hF=>?_;refine wpAny_leaves_madeW (base:=hideAll s0.heap ((env::Yk).filterMap (·.frame))) hfr hf (λb o q=>of_hideAll _ q) (funFrames_hide hF λenv he a ha=>aE.mpr ⟨env,he,ha⟩) hx λh'' t x1 x2 x3 x4=>?_
 exact q _ ⟨⟨_,_,λb o e nb=>hideAll_get _ e nb,x1⟩,(Heap.UpToSlots.of_keeps hx.keeps).trans x4,rfl,rfl⟩
theorem T8(hfr:A.frames=some (env::Yk))(hf:env.frame=some L)(fl:UN C fs (env::Yk) e s0 s)(q:∀s',UN C fs Yk e s0 s'->Q () s'):wpAny M A (leaving env (.ref e)) Q E s:=by
 refine Gs fl.base λB a0 h1 h2=>?_;exact wpAny_leaves_onW hfr hf h2 λh' x1 x2=>q _ ⟨⟨B,a0,h1,x1⟩,fl.sl.trans x2,fl.gs,fl.os⟩
end
section
variable{prog:Y8}{w:Y0}{A:Za}{E:Yr->Yq->Prop}{s0 s:Yq}{env:eE}{Yk:List eE}{L e C:Zh}{fs:List Zh}{c2 c3:Cx}{m2 m3:Zf->Option Yr}{H:MH}{XF X₀:Bw}{FL:Zh}{oL oL':dK}{l:List eE}
theorem AU.flw(R3:AU prog w c3 m3 H s0)(hX:c3.X=XF++X₀)(R2:AU prog w c2 m2 H s0)(e0:c2.WM=c3.WM)(h2:∃o2,(c2.L,o2)∈XF)(hfs:∀f∈fs,f=c3.L\/∃o,(f,o)∈XF)(YO:∀p∈X₀,p.1∉fs/\p.1≠c2.L/\p.1≠FL)
 (hL:(FL,oL)∈XF)(hne:FL≠c2.L)(hL':s.heap.get? FL=some oL')(fl:UN C fs l e s0 s):AU prog w (c2.x ((FL,oL')::X₀)) m2 H s:=by
 refine AJ λGG hG=>?_;obtain⟨D,Yj,N,L⟩:=R3.led;obtain⟨o2,h2⟩:=h2;refine hG ?_;clear hG GG;have mX:∀{p},p∈XF->p∈c3.X:=λh=>hX▸Yw _ h;have bL3:c3.WM.get? c3.L=none:=by
  cases q:c3.WM.get? c3.L with
  | none=>rfl
  | some o=>exact absurd (Yy q) (Ng R3.fr.above)
 have fh:∀f,(f=c3.L\/∃o,(f,o)∈XF)->c3.WM.get? f=none/\(∀a o,H a=some o->a≠f)/\∀a cl as,H a=some (.inst cl as)->D a≠f:=λf hf=>by
  rcases hf with rfl|⟨o,ho⟩
  ·refine⟨bL3,λa o ha z=>?_,λa cl as ha z=>?_⟩
   ·subst z;rcases L.ob _ o ha with⟨_,_,_,_,_,h1,_⟩|⟨_,_,_,_,h1,_⟩|⟨_,h1,_⟩
    ·exact(N _ h1).2.1 rfl
    ·exact nS bL3 h1
    ·exact(N _ h1).2.1 rfl
   ·refine AR (mmP (L.dkey ha)) λp hp e=>?_;exact(N p hp).2.1 (e.trans z)
  ·refine CV (L.xs _ (mX ho)) λx1 x2 x3=>?_;exact⟨(N _ x1).2.2,(λa o ha z=>by exact zN (x2▸z▸ha)),x3⟩
 have fL:=fh FL (.inr ⟨oL,hL⟩);have ff:∀f∈fs,_:=λf hf=>fh f (hfs f hf)
 let P:Zh×dK->Bool:=λp=>decide (p.1∉fs/\p.1≠c2.L/\p.1≠FL)
 have kf:∀p∈Yj,(p.1∉fs/\p.1≠c2.L/\p.1≠FL)->p∈(FL,oL')::Yj.filter P:=λp hp q=>.tail _ (Zi.mpr ⟨hp,decide_eq_true q⟩);have ok:∀x,(∀f,(f=c3.L\/∃o,(f,o)∈XF)->x≠f)->(x∉fs/\x≠c2.L/\x≠FL):=λx hx=>⟨λz=>hx x (hfs x z) rfl,hx _ (.inr ⟨o2,h2⟩),hx _ (.inr ⟨oL,hL⟩)⟩;refine⟨⟨fl.sl.ns R2.fr.ns,λb o eb=>fl.kp (R2.fr.keep b o eb) λz=>?_,R2.fr.above⟩,⟨D,(FL,oL')::Yj.filter P,λp hp=>?_,ncR ⟨λz=>?_,L.nd.sublist (bI _ Z1)⟩,λa o ha=>?_,L.dj,λp hp=>?_⟩,by exact fl.gs.symm▸R2.gs,by rw[fl.gs];exact R2.dr,fl.os.trans R2.os⟩
 ·have eb:c2.WM.get? b=some o:=eb;exact zN (((ff b z).1)▸e0▸eb)
 ·rcases mcP hp with rfl|hp
  ·exact⟨hL',hne,(congrArg (λh=>Heap.get? h FL) e0).trans fL.1⟩
  ·refine Am (mfP hp) λh1 h3=>?_;have h3:=of_decide_eq_true h3;exact⟨fl.kp (N p h1).1 h3.1,h3.2.1,(congrArg (λh=>Heap.get? h p.1) e0).trans (N p h1).2.2⟩
 ·refine AR (mmP z) λp hp e=>?_;exact(of_decide_eq_true (mfP hp).2).2.2 e
 ·exact e0.symm▸(L.ob a o ha).mono (λcl as z=>⟨rfl,λp hp q=>kf p hp (ok _ λf hf=>q▸(fh f hf).2.2 a cl as (z▸ha))⟩) λp hp q=>kf p hp (ok _ λf hf=>q▸(fh f hf).2.1 a o ha)
 ·rcases mcP hp with rfl|hp
  ·refine CV (L.xs _ (mX hL)) λx1 x2 x3=>?_;exact⟨.head _,x2,x3⟩
  ·refine CV (L.xs p (hX▸Yt _ hp)) λx1 x2 x3=>?_;exact⟨kf p x1 (YO p hp),x2,x3⟩
theorem P3{x:Zf}{np pos:ef}{Xs:af}{suite:List af}{rest:List ExceptHandler}{Q:Flow->Yq->Prop}{nm q:Zf}{N:Zh}{bs bm:List Yr}{hdct:Bool}{sn:List Zf}{sub:List Yr}{ab:Bool}{col:Option Bool}{dd:Option Zh}{k0 k1 k2 k3 k5:Option Yr}{newId:String}
 (hfr:A.frames=some (env::Yk))(hf:env.frame=some L)(fl:UN C fs (env::Yk) e s0 s)(hC:s0.heap.get? C=some (excClassObj nm q C N bs bm hdct sn sub ab col dd k0 k1 k2 k3 k5 newId))(hCf:C∉fs)(hbase:bm.contains (.type "BaseException")=true)
 (hx:∀{s':Yq} {A':Za} {Q:Yr->Yq->Prop} {E:Yr->Yq->Prop},(∀b o,s0.heap.get? b=some o->b∉fs->s'.heap.get? b=some o)->Q (.ref C) s'->wpAny (model prog w) A' (eval (.Name x np) env) Q E s')
 (k:∀s' E,UN C fs (env::Yk) e s0 s'->wpAny (model prog w) (A.mark (some (.ref e))) (execs (Xs::suite) env) Q E s') :
 wpAny (model prog w) A (noteFrame (.ref e) env) (λU WQ=>wpAny (model prog w) A (setFlight (.ref e) none) (λU WU=>wpAny (model prog w) A (handleBy (.ref e) env (.ExceptHandler (some (.Name x np)) none (Xs::suite) pos::rest)) Q E WU) E WQ) E s:=by
 refine Gs fl.base λB a0 h1 h2=>?_;refine wpAny_looks_onW hfr hf h2 λW2 YP YQ=>?_;refine wpAny_landsW YP λYh hheld YR=>?_;refine AR hheld.there λob hob hobc=>?_;have kp:∀{h:aV} {l},Heap.FlyingW B l e (.ref C) a0 h->∀b o,s0.heap.get? b=some o->b∉fs->h.get? b=some o:=λhh b o e n=>hh.1 _ _ (h1 _ _ e n);refine wpAny_handleBy_cons (codeAny_handlers_test (hx (kp hheld) ?_)) (by intro q;cases q)
 refine wpAny_excMatches_sub_self (kp hheld _ _ hC hCf) hob hobc hbase (codeAny_handlers_suite ?_);refine lands_againW hheld λYi YS YT=>?_;exact k _ _ ⟨⟨B,a0,h1,YS⟩,((fl.sl.trans YQ).trans YR).trans YT,fl.gs,fl.os⟩
end
section
variable{prog:Y8}{w:Y0}{k:Ck}{K:aC}{d:Nat}{H:MH}{C:Nat}
noncomputable abbrev exB:List Value:=[.type "Exception",.type "BaseException",.type "object"]
inductive Lj (C:Zh) (h:aV):Prop
 | mk (nm:_) (q:_) (N:_) (bs:_) (bm:_) (hdct:_) (sn:_) (sub:_) (ab:_) (col:_) (dd:_) (k0:_) (k1:_) (k2:_) (k3:_) (k5:_) (mN:_) (mg:_) (p0:h.get? C=some (excClassObj nm q C N bs bm hdct sn sub ab col dd k0 k1 k2 k3 k5 "Exception.__new__")) (p1:h.Ns N mN) (p2:mN "__init__"=none) (p3:OwnTail h exB bm) (p4:h.Ns mainGlobals mg) (p5:mg "ReadTooFar"=some (.ref C)):Lj C h
def KI(c:Cx)(Yk:List eE):Prop:=∀env∈Yk,env.scope.kind≠.module/\∃L,env.frame=some L/\(L=c.L\/∃o,(L,o)∈c.X/\∀vs,o.data≠.fields vs)
theorem Kj{WM h:aV}{L:Zh}{m:Zf->Option Yr}(F:Fr WM L h m){o:dK}(e:h.get? L=some o):∀vs,o.data≠.fields vs:=λvs z=>by
 refine x33 F.ns λo' es ep e' d U=>?_;obtain rfl:=Ys (e'.symm.trans e);replace d:=z.symm.trans d;cases d
section
variable{A:Za}{c:Cx}{m:Zf->Option Yr}{s:Yq}{f:Nat}{R:bh->Yq->Prop}{fd:ZW}{body:List af}{Yk:List eE}
theorem KI.frames{oL:dK}{Ln:Zh}{s0:Yq}{m0:Zf->Option Yr}{H0:MH}(ho:KI c Yk)(hd:∀vs,oL.data≠.fields vs)(R0:AU prog w (c.lx (Ln) ((c.L,oL)::c.X)) m0 H0 s0):s0.heap.FunFrames (hideAll s0.heap (Yk.filterMap (·.frame))) Yk:=by
 obtain⟨D,Yj,N,L⟩:=R0.led;have key:∀l:List eE,(∀e∈l,e∈Yk)->s0.heap.FunFrames (hideAll s0.heap (Yk.filterMap (·.frame))) l:=by
  intro l
  induction l with
  | nil=>exact λU=>trivial
  | cons env r ih =>
   intro h;refine Am (ho env (h env (.head _))) λh1 z=>?_;refine AR z λL' h2 h3=>?_;refine⟨h1,?_,ih λe he=>h e (.tail _ he)⟩;have hm:L'∈Yk.filterMap (·.frame):=aE.mpr ⟨env,h env (.head _),h2⟩
   rcases h3 with rfl|⟨o,ho,hdo⟩
   ·exact⟨_,oL,h2,fk _ hm,(N _ (L.xs _ (.head _)).1).1,hd⟩
   ·exact⟨_,o,h2,fk _ hm,(N _ (L.xs _ (.tail _ ho)).1).1,hdo⟩
 exact key Yk λU h=>h
theorem T9{env:eE}{sc:ZR}{np rp:ef}{E:Yr->Yq->Prop}{Q:Flow->Yq->Prop}(hh:A.handled=none)(Z:Ev prog w K k (call d) A c env [] sc)(hg:Mf sc "ReadTooFar"=true)(rt:Lj C c.WM)(Rl:AU prog w c m H s)
 (q:∀h' e,gc s.heap h' e (.ref C) []->E (.ref e) {s with heap:=h'}):wpAny (model prog w) A (execs [.Raise (some (.Name "ReadTooFar" np)) none rp] env) Q E s:=by
 obtain⟨nm,qn,N,bs,bm,hdct,sn,sub,ab,col,dd,k0,k1,k2,k3,k5,mN,mg,hC,hN,hni,T,hmg,hx⟩:=rt;refine Dy Z.B.glo λU mb U b2 U=>?_;refine ZL ?_;obtain⟨h,g,dr,t,os⟩:=s;exact P2 ej hh (Rl.fr.keep _ _ hC) (hN.keeps Rl.fr.keep) hni (T.keeps Rl.fr.keep) (λhq=>Z.glob Rl hg (by decide +kernel) ⟨mg,mb,hmg,b2,.inl hx⟩ hq) q
theorem Lk{env:eE}:∀{pre post:List af},execs (pre++post) env=execs pre env>>=λf=>match f with|.next=>execs post env|f=>pure f
 | [],post=>by
  show execs post env=pure ZT>>=_
  rw[pure_bind]
 | a::r,post=>by
  have ih:=Lk (env:=env) (pre:=r) (post:=post)
  show execs (a::(r++post)) env=_
  rw[execs_cons,execs_cons,bind_assoc]
  congr 1
  funext f
  cases f with
  | next=>exact ih
  | _=>rw[pure_bind]
theorem Rn{M:Model}{A:Za}{env:eE}{E:Yr->Yq->Prop}{pre post:List af}{Q:Flow->Yq->Prop}{s:Yq}(h:wpAny M A (execs pre env) (λf s'=>match f with|.next=>wpAny M A (execs post env) Q E s'|f=>Q f s') E s):wpAny M A (execs (pre++post) env) Q E s:=by
 rw[Lk];refine Yo (Z9 h (λf s' h=>?_) λU U e=>e);cases f with
 | next=>exact h
 | _=>exact Yv h
theorem UA{i:Fi}{vs:List V}{ys:List Yr}{ρ:As}{preS:List S}{t:T}{G:MH->Prop}(F:KF K k.isAttr)(ih:Kf prog w k K (call d) d)(hh:A.handled=none)(hd:8*A.depth+A.units+24*(d+1)<=7900)(hG:WH K f i fd body)(B:Base k K c.WM)(Rl:AU prog w c m H s)(r:A2 VR vs ys)(hb:MX i.pars i.dflt vs []=some ρ)
 (rt:Lj C c.WM)(hfr:A.frames=some Yk)(ho:KI c Yk)(sh:∃pre test np rp els p rest,body=pre++.If test [.Raise (some (.Name "ReadTooFar" np)) none rp] els p::rest/\Gh k fd.scope preS pre=true/\Oc k fd.scope t test=true/\Mf fd.scope "ReadTooFar"=true)
 (hw:Ap (call d) [] preS ρ H λfl ρ' H'=>fl=.next/\wT (call d) [] t ρ' H' λb H''=>b=true/\G H'')
 (q:∀e s' s0 m0 oL Ln H',AU prog w (c.lx (Ln) ((c.L,oL)::c.X)) m0 H' s0->AU prog w c m H' s0->(∀vs,oL.data≠.fields vs)->UN C (Ln::Yk.filterMap (·.frame)) Yk e s0 s'->G H'->R (.error (.ref e)) s'):codeAny (model prog w) A (.call (.ref f) ⟨ys,[]⟩) R s:=by
 refine x74 sh λpre test np rp els p rest y o1 o2 og=>?_;obtain rfl:=y;refine Gl (dm (x:=1) hd (ZU (Zp d))) hG B Rl r hb λoL m1 s1 hL O R1 l b=>?_;have hdL:=Kj Rl.fr hL;have Z:=Ev.of (c:=(c.lx (s.heap.objs.size) ((c.L,oL)::c.X))) (A:=A.deeper (callEnv fd s.heap.objs.size f)) F ih (λU U U U=>FM) (λU=>hh) (di hd (Y1 _)) B O;refine Rn (th (TM Z (λx U=>JR x) l o1 R1 hw) λfl s2 hps=>?_);obtain⟨fl',ρ2,m2,H2,rf,l2,R2,rfl,ht⟩:=hps;cases rf
 refine ZL (wpAny_If (Pe (KC t _ _ _ _ _ _ _ Z l2 _ _ _ _ _ o2 R2 ht) λb3 H3 s3 R3 hq=>?_));refine Am hq λy hg=>?_;obtain rfl:=y;rw[if_pos rfl];refine T9 hh Z og rt R3 λh' e hm=>?_;have FF:s3.heap.FunFrames (hideAll s3.heap (Yk.filterMap (·.frame))) Yk:=ho.frames hdL R3
 refine NB R3.fr.ns λoN eN nN hN U=>?_;have FF2:s3.heap.FunFrames (hideAll s3.heap ((callEnv fd s.heap.objs.size f::Yk).filterMap (·.frame))) (callEnv fd s.heap.objs.size f::Yk):=by
  have key:∀l:List eE,s3.heap.FunFrames (hideAll s3.heap (Yk.filterMap (·.frame))) l->(∀e∈l,e∈Yk)->s3.heap.FunFrames (hideAll s3.heap ((callEnv fd s.heap.objs.size f::Yk).filterMap (·.frame))) l:=by
   intro l
   induction l with
   | nil=>exact λU U=>trivial
   | cons env r ih =>
    intro h hm;refine CV h λh1 y h6=>?_;refine Q3 y λL' o h2 h3 h4 h5=>?_;exact⟨h1,⟨L',o,h2,fk _ (aE.mpr ⟨env,.tail _ (hm env (.head _)),h2⟩),h4,h5⟩,ih h6 λe he=>hm e (.tail _ he)⟩
  refine⟨by show fd.scope.kind≠_;rw[O.ikd];decide,⟨s.heap.objs.size,oN,rfl,fk _ (aE.mpr ⟨_,.head _,rfl⟩),hN,λvs z=>?_⟩,key Yk FF λU h=>h⟩
  exact Kj R3.fr hN vs z
 refine NZ (C:=C) (a4 hfr) rfl ⟨_,FF2⟩ hm λs' fl=>?_;exact q e s' s3 m2 oL s.heap.objs.size H3 R3 (b.z R3) hdL fl hg
end
inductive P4 (prog:Y8) (w:Y0) (C:Zh) (c:Cx) (m:Zf->Option Yr) (Yk:List eE) (G:MH->Prop) (e:Zh) (s':Yq):Prop
 | mk (s0:_) (m0:_) (oL:_) (Ln:_) (H':_) (XF:_) (fs:_) (p0:AU prog w (c.lx (Ln) (XF++(c.L,oL)::c.X)) m0 H' s0) (p1:AU prog w c m H' s0) (p2:(∀vs,oL.data≠.fields vs)) (p3:UN C fs Yk e s0 s') (p4:(∀f∈fs,f=Ln\/(∃o,(f,o)∈XF)\/f∈Yk.filterMap (·.frame))) (p5:(∀p∈XF,∀x∈c.X,x.1≠p.1)) (p6:G H'):P4 prog w C c m Yk G e s'
def Ra(prog:Y8)(w:Y0)(k:Ck)(K:aC)(C:Zh)(bd f:Nat)(ys:List Yr)(H:MH)(G:MH->Prop):Prop :=
 ∀(A:Za) (c:Cx) m s (R:bh->Yq->Prop) Yk,A.handled=none->8*A.depth+A.units+bd<=7900->Base k K c.WM->AU prog w c m H s->Lj C c.WM->A.frames=some Yk->KI c Yk->(∀e s',P4 prog w C c m Yk G e s'->R (.error (.ref e)) s')->codeAny (model prog w) A (.call (.ref f) ⟨ys,[]⟩) R s
def ShR(k:Ck)(sc:ZR)(preS:List S)(t:T)(body:List af):Prop:=∃pre test np rp els p rest,body=pre++.If test [.Raise (some (.Name "ReadTooFar" np)) none rp] els p::rest/\Gh k sc preS pre=true/\Oc k sc t test=true/\Mf sc "ReadTooFar"=true
def MT(k:Ck)(K:aC)(f:Nat)(i:Fi)(preS:List S)(t:T):Prop:=∃fd body,WH K f i fd body/\ShR k fd.scope preS t body
section
variable{n f:Nat}{i:Fi}{vs:List V}{ys:List Yr}{ρ:As}{preS:List S}{t:T}{G:MH->Prop}
theorem Ra.of(F:KF K k.isAttr)(ih:Kf prog w k K (call d) d)(X:MT k K f i preS t)(r:A2 VR vs ys)(hb:MX i.pars i.dflt vs []=some ρ)(hw:Ap (call d) [] preS ρ H λfl ρ' H'=>fl=.next/\wT (call d) [] t ρ' H' λb H''=>b=true/\G H''):Ra prog w k K C (24*(d+1)) f ys H G:=λA c m s R Yk hh hd B Rl rt hfr ho q=>by
 refine Gs X λfd body hG sh=>?_;exact UA F ih hh hd hG B Rl r hb rt hfr ho sh hw λe s' s0 m0 oL Ln H' R0 R1 hd fl hg=>q e s' ⟨s0,m0,oL,Ln,H',[],_,R0,R1,hd,fl,λf hf=>(mcP hf).imp _root_.id .inr,λU h=>(nomatch h),hg⟩
def ShC(k:Ck)(sc:ZR)(re:E)(n:Nat)(es:List E)(x:ZJ):Prop:=∃ov ap xs p,x=.Call (.Attribute ov (nm n) ap) xs [] p/\CX ov=true/\(ap.endLine==p.line)=true/\fU (xs.length+0) 19=true/\CM k sc re ov=true/\Cw k sc es xs=true
def ViF(k:Ck)(K:aC)(f:Nat)(i:Fi)(n:Nat)(es:List E):Prop:=∃fd body,WH K f i fd body/\∃x p,(body=[.Expr x p]\/body=[.Return (some x) p])/\ShC k fd.scope (.attr (.var AA) AE) n es x
theorem Hb{A:Za}{env:eE}{c:Cx}{m:Zf->Option Yr}{s:Yq}{sc:ZR}{es:List E}{x:ZJ}{P:Yr->Yq->Prop}{Er:Yr->Yq->Prop}{us:List V}{f':Nat}{a':Nat}{C':CI}{re:E}(Z:Ev prog w K k C' A c env [] sc)(l:Bh ρ m)(sh:ShC k sc re n es x)(R:AU prog w c m H s)
 (h1:∀{G:V->MH->Prop},G (.ref a') H->wE C' [] re ρ H G)(h2:∀{G:Nat->Prop},G f'->Ba H (.ref a') n G)(h3:∀{G:List V->MH->Prop},G us H->PC C' [] es ρ H G)
 (q:∀zs s',A2 VR us zs->AU prog w c m H s'->codeAny (model prog w) A (.call (.ref f') ⟨.ref a'::zs,[]⟩) (wants P Er) s'):wpAny (model prog w) A (eval x env) P Er s:=by
 refine x46 sh λov ap xs p u o4 o5 o6 o7 o8=>?_;obtain rfl:=u;refine bZ (Fc (Cc re _ _ _ _ _ _ _ Z l _ _ _ (λv H'=>v=.ref a'/\H'=H) _ o7 R (h1 ⟨rfl,rfl⟩)) λv y H s r R' hq=>?_) (Gg (ov:=ov) (ks:=[]) o4 o5 (aK (ZQ o6)) o8 rfl);obtain⟨rfl,rfl⟩:=hq;refine Pa Z.F Z.B.kin R' r (h2 (G:=λf=>f=f') rfl) λf hf z=>?_;subst z;cases r
 refine Mg (ks:=[]) (kws:=[]) (G:=λvs ks H'=>vs=us/\ks=[]/\H'=H) Z l (λe U=>Cc e) (λU h=>nomatch h) hf o8 rfl R' (h3 ⟨rfl,rfl,rfl⟩) λvs us' ys zs WW WQ WZ Wb WR Wg=>?_;refine AJ λGG hG=>?_;obtain⟨rfl,rfl,rfl⟩:=Wg;cases Wb
 refine hG ?_;exact dT (q ys WQ WZ WR)
end
section
variable{n f:Nat}{i:Fi}{vs:List V}{ys:List Yr}{ρ:As}{G:MH->Prop}{bd:Nat}
theorem KI.deep{c:Cx}{Yk:List eE}{oL:dK}{fd:ZW}{x f:Nat}(ho:KI c Yk)(hd:∀vs,oL.data≠.fields vs)(hk:fd.scope.kind=.function):KI (c.lx (x) ((c.L,oL)::c.X)) (callEnv fd x f::Yk):=λenv he=>by
 rcases mcP he with rfl|he
 ·exact⟨by show fd.scope.kind≠_;refine hk.symm▸?_;decide,x,rfl,.inl rfl⟩
 ·refine Am (ho env he) λh1 z=>?_;refine AR z λL' h2 h3=>?_;refine⟨h1,L',h2,.inr ?_⟩;rcases h3 with rfl|⟨o,h3,h4⟩
  ·exact⟨oL,.head _,hd⟩
  ·exact⟨o,.tail _ h3,h4⟩
theorem Ra.via{es:List E}{us:List V}{f' a':Nat}(F:KF K k.isAttr)(ih:Kf prog w k K (call d) d)(hbd:24*(d+1)<=bd)(X:ViF k K f i n es)(r:A2 VR vs ys)(hb:MX i.pars i.dflt vs []=some ρ)
 (h1:∀{G:V->MH->Prop},G (.ref a') H->wE (call d) [] (.attr (.var AA) AE) ρ H G)(h2:∀{G:Nat->Prop},G f'->Ba H (.ref a') n G)(h3:∀{G:List V->MH->Prop},G us H->PC (call d) [] es ρ H G)
 (hin:∀zs,A2 VR us zs->Ra prog w k K C bd f' (.ref a'::zs) H G):Ra prog w k K C (bd+12) f ys H G:=λA c m s R Yk hh hd B Rl rt hfr ho q=>by
 refine Gs X λfd body hG y=>?_;refine Gs y λx p hbody sh=>?_;have hd1:8*A.depth+A.units+24*(d+1)<=7900:=up (Yn hbd (Yz bd 12)) hd;refine Gl (dm (x:=1) hd1 (ZU (Zp d))) hG B Rl r hb λoL m1 s1 hL O R1 l b=>?_;have hdL:=Kj Rl.fr hL;have Z:=Ev.of (c:=(c.lx (s.heap.objs.size) ((c.L,oL)::c.X))) (A:=A.deeper (callEnv fd s.heap.objs.size f)) F ih (λU U U U=>FM) (λU=>hh) (di hd1 (Y1 _)) B O;have main:∀P:Yr->Yq->Prop,wpAny (model prog w) (A.deeper (callEnv fd s.heap.objs.size f)) (eval x (callEnv fd s.heap.objs.size f)) P (λe s'=>wpAny (model prog w) (A.deeper (callEnv fd s.heap.objs.size f)) (leaving (callEnv fd s.heap.objs.size f) e) (λU s''=>R (.error e) s'') (λe' s''=>R (.error e') s'') s') s1:=λP=>by
  refine Hb Z l sh R1 h1 h2 h3 λzs s2 rz R2=>?_;refine hin zs rz (A.deeper (callEnv fd s.heap.objs.size f)) (c.lx (s.heap.objs.size) ((c.L,oL)::c.X)) _ s2 _ (callEnv fd s.heap.objs.size f::Yk) hh (dv hd) B R2 rt (a4 hfr) (ho.deep hdL O.ikd) λe s' th=>?_;obtain⟨s0,m0,ow,Ln,H',XF,fs,R3,R4,hdw,fl,hfs,hxf,hg⟩:=th;refine T8 (a4 hfr) rfl fl λs'' fl'=>q e s'' ⟨s0,m0,oL,Ln,H',XF++[(s.heap.objs.size,ow)],fs,?_,b.z R4,hdL,fl',λf hf=>?_,λp hp x hx=>?_,hg⟩
  ·rw[bk];exact R3
  ·rcases hfs f hf with h|⟨o,h⟩|h
   ·exact .inl h
   ·exact .inr (.inl ⟨o,Yw _ h⟩)
   ·rcases mcP h with rfl|h
    ·exact .inr (.inl ⟨ow,Yt _ (.head _)⟩)
    ·exact .inr (.inr h)
  ·rcases maP hp with hp|hp
   ·exact hxf p hp x (.tail _ hx)
   ·rw[msP hp];exact ZF (Rl.lt.2 x hx).1
 rcases hbody with rfl|rfl
 ·refine x42 sh λov ap xs p' y U=>?_;obtain rfl:=y;exact ZL (wpAny_Expr (main _) (GC Z.O) rfl)
 ·exact ZL (Z3 (main _))
end
abbrev Ll:T:=.not (.e (.meth (.var AA) AC [] []))
abbrev tA:T:=.not (.e (.meth (.attr (.var AA) Ak) AC [] []))
abbrev Vd:T:=.e (.cmp .GtE (.attr (.var AA) Au) (.attr (.var AA) Aq))
abbrev tUni:T:=.not (.or [(.e (.var AZ)),(.e (.var AX))])
abbrev pUni:List S:=[.seta (.var AA) Au (.none),.asg Ak (.attr (.var AA) Ak),.asg Av (.attr (.var AA) Av),.asg AZ (.meth (.var Ak) AC [] []),.asg AX (.meth (.var Av) AC [] [])]
structure Qn(k:Ck)(K:aC):Prop where
 un:MT k K BP Ec pUni tUni
 inn:MT k K B3 Ed [] Ll
 ins:MT k K BD DF [] Ll
 nn:MT k K CA D8 [] tA
 ns:MT k K BH Ct [] tA
 mn:MT k K Bf DG [] tA
 ms:MT k K A3 CR [] tA
 vn:MT k K Bs Dg [] Vd
 vs:MT k K BA CZ [] Vd
 ls:MT k K Bq DX [] Ll
 wn:ViF k K Bm FW Ar []
 ws:ViF k K Az De AP [.var AW]
section
variable{n:Nat}{G:MH->Prop}{ρ:As}{a:Nat}{A B T:Tr}
theorem Lm(c:FQ d T)(g:AG H T)(hn:¬ Ag T.den)(hρ:AN AA ρ=some (.ref T.addr))(q:G H):wT (call d) [] Ll ρ H λb H'=>b=true/\G H':=by
 show op (AN AA ρ) λv=>Ba H v AC λf=>call d f [v] [] H λv H=>Fq H v λb=>(!b)=true/\G H
 refine hρ.symm▸Aa c g rfl λb hb=>?_;cases b with
 | false=>exact⟨rfl,q⟩
 | true=>exact absurd (hb.mp rfl) hn
theorem t_A{cl:Cl}{as:As}(c:FQ d A)(g:AG H A)(hn:¬ Ag A.den)(own:H a=some (.inst cl as))(hl:(AN Ak as).or (GW cl Ak)=some (.ref A.addr))(hρ:AN AA ρ=some (.ref a))(q:G H):wT (call d) [] tA ρ H λb H'=>b=true/\G H':=by
 show op (AN AA ρ) λv=>MW H v Ak λv=>Ba H v AC λf=>call d f [v] [] H λv H=>Fq H v λb=>(!b)=true/\G H
 rw[hρ];refine AB own ?_;rw[hl];refine Aa c g rfl λb hb=>?_;cases b with
 | false=>exact⟨rfl,q⟩
 | true=>exact absurd (hb.mp rfl) hn
theorem Ve(F:KF K k.isAttr)(ih:Kf prog w k K (call d) d)(cn:Ih n d)(X:Qn k K){kd:Int}{f:Nat}(hk:Bu kd T)(hkd:kd=4\/kd=5\/kd=6\/kd=7\/kd=8\/kd=10\/kd=11)(g:AG H T)(hz:sz T<=n)(hn:¬ Ag T.den)(hf:Bt T.cl Ar=some f) :
 Ra prog w k K C (24*(d+1)+12) f [.ref T.addr] H (λH'=>AG H' T/\((kd=4\/kd=11)/\(H Ai=some .txt->H' Ai=some .txt)\/H'=H)):=by
 have cc:∀{T},sz T<=n->FQ d T:=λh=>cn _ h d (Y1 _);have up:∀{bd bd' f ys G},Ra prog w k K C bd f ys H G->bd<=bd'->Ra prog w k K C bd' f ys H G:=λh hb A c m s R Yk hh hd=>h A c m s R Yk hh (Mine.up hb hd);have one:∀{x},A2 VR [V.ref x] [dY x]:=.cons (.ref _) .nil;have uni:∀{kk a A B},Q4 kk=true->AG H (.bin kk a A B)->sz (.bin kk a A B)<=n->¬ Ag (Tr.bin kk a A B).den->(kd=4\/kd=11)->Ra prog w k K C (24*(d+1)) BP [.ref a] H (λH'=>AG H' (.bin kk a A B)/\((kd=4\/kd=11)/\(H Ai=some .txt->H' Ai=some .txt)\/H'=H)):=λ{kk a A B} hu g hz hn h4=>by
  refine Ra.of F ih X.un (vs:=[.ref a]) one rfl ?_;refine AR (Bk.start g) λid hc b=>?_;have hnA:¬ Ag A.den:=λz=>hn (by show Ag (dB kk A.den B.den);rw[ND hu];exact Jn.mpr (.inl z))
  have hnB:¬ Ag B.den:=λz=>hn (by show Ag (dB kk A.den B.den);rw[ND hu];exact Jn.mpr (.inr z))
  refine Cu b.own HX ?_;refine Mc.symm▸?_;replace b:=b.put (ys:=bF kk A.addr B.addr (some .none)) (OD kk)
  generalize H.put a _=H1 at b ⊢
  refine AB b.own (AB b.own (b.rA.m1 rfl ((cc (sl0 hz)).act b.gA λba hba=>b.rB.m1 rfl ((cc (sr0 hz)).act b.gB λbb hbb=>?_))));cases ba with
  | true=>exact absurd (hba.mp rfl) hnA
  | false =>
   cases bb with
   | true=>exact absurd (hbb.mp rfl) hnB
   | false=>exact⟨rfl,rfl,⟨⟨⟨some .none,b.own,hu⟩,b.gA.rep,b.gB.rep⟩,g.ok,g.nd⟩,.inl ⟨h4,λz=>b.fr.kp _ _ z (.inr rfl)⟩⟩
 rcases hkd with h|h|h|h|h|h|h
 ·refine FY (hk.at (c:=.Union) h rfl) λa A B y=>?_;obtain rfl:=y;cases(show some BP=some f from hf)
  exact up (uni rfl g hz hn (.inl h)) (Yz _ _)
 ·refine FY (hk.at (c:=.Inter) h rfl) λa A B y=>?_;obtain rfl:=y;cases(show some B3=some f from hf)
  exact up (Ra.of F ih X.inn (vs:=[.ref a]) one rfl ⟨rfl,Lm (T:=.bin .inter a A B) (cc hz) g hn rfl ⟨g,.inr rfl⟩⟩) (Yz _ _)
 ·refine FY (hk.at (c:=.AndNot) h rfl) λa A B y=>?_;obtain rfl:=y;cases(show some CA=some f from hf)
  refine AR g.rep.1 λid hi U=>?_;exact up (Ra.of F ih X.nn (vs:=[.ref a]) one rfl ⟨rfl,t_A (cc (sl0 hz)) g.bA (λz=>hn ((Ka g.bA.ok.bd g.ok.2.2.1).mpr z)) hi rfl rfl ⟨g,.inr rfl⟩⟩) (Yz _ _)
 ·refine FY (hk.at (c:=.AndMaybe) h rfl) λa A B y=>?_;obtain rfl:=y;cases(show some Bf=some f from hf)
  refine AR g.rep.1 λid hi U=>?_;exact up (Ra.of F ih X.mn (vs:=[.ref a]) one rfl ⟨rfl,t_A (cc (sl0 hz)) g.bA hn hi rfl rfl ⟨g,.inr rfl⟩⟩) (Yz _ _)
 ·refine HU (hk.at (c:=.Require) h rfl) λa i A B y=>?_;obtain rfl:=y;cases(show some Bm=some f from hf)
  refine Ra.via (bd:=24*(d+1)) (es:=[]) (us:=[]) F ih (Y1 _) X.wn (vs:=[.ref a]) one rfl (f':=B3) (a':=i) (λh=>AB (n:=AE) g.rep.1 h) (λh=>Ae (m:=Ar) g.rI.rep.1.choose_spec.1 (by cases g.rI.rep.1.choose<;>rfl) rfl h) (λh=>h) λzs rz=>?_
  cases rz.nl
  exact Ra.of F ih X.inn (vs:=[.ref i]) one rfl ⟨rfl,Lm (T:=.bin .inter i A B) (cc (aW hz)) g.rI (λz=>hn (Ic.mpr z)) rfl ⟨g,.inr rfl⟩⟩
 ·refine x61 (hk.at (c:=.Inverse) h rfl) λa ma lim wt j A y=>?_;obtain rfl:=y;cases(show some Bs=some f from hf)
  have hl:¬ j<lim:=λz=>hn (LA z (g.ok.2.2.2 z)).act;exact up (Ra.of F ih X.vn (vs:=[.ref a]) one rfl ⟨rfl,AB (n:=Au) g.rep.1 (AB (n:=Aq) g.rep.1 ⟨decide_eq_true (aq.mp hl),g,.inr rfl⟩)⟩) (Yz _ _)
 ·refine FY (hk.at (c:=.DMax) h rfl) λa A B y=>?_;obtain rfl:=y;cases(show some BP=some f from hf)
  exact up (uni rfl g hz hn (.inr h)) (Yz _ _)
theorem Vf(F:KF K k.isAttr)(ih:Kf prog w k K (call d) d)(cn:Ih n d)(X:Qn k K){kd:Int}{f:Nat}{y:Int}{ys:List Yr}(hk:Bu kd T)(hkd:kd=0\/kd=5\/kd=6\/kd=7\/kd=8\/kd=10)(g:AG H T)(hz:sz T<=n)(hn:¬ Ag T.den)(hf:Bt T.cl AP=some f)(hy:A2 VR [.ref T.addr,.int y] ys) :
 Ra prog w k K C (24*(d+1)+12) f ys H (λH'=>AG H' T/\((kd=4\/kd=11)/\(H Ai=some .txt->H' Ai=some .txt)\/H'=H)):=by
 have cc:∀{T},sz T<=n->FQ d T:=λh=>cn _ h d (Y1 _);have up:∀{bd bd' f ys G},Ra prog w k K C bd f ys H G->bd<=bd'->Ra prog w k K C bd' f ys H G:=λh hb A c m s R Yk hh hd=>h A c m s R Yk hh (Mine.up hb hd);rcases hkd with h|h|h|h|h|h
 ·refine x51 (hk.at (c:=.Leaf) h rfl) λa la wa i ds x=>?_;obtain rfl:=x;cases(show some Bq=some f from hf)
  exact up (Ra.of F ih X.ls (vs:=[.ref a,.int y]) hy rfl ⟨rfl,Lm (T:=.leaf a la wa i ds) (cc hz) g hn rfl ⟨g,.inr rfl⟩⟩) (Yz _ _)
 ·refine FY (hk.at (c:=.Inter) h rfl) λa A B x=>?_;obtain rfl:=x;cases(show some BD=some f from hf)
  exact up (Ra.of F ih X.ins (vs:=[.ref a,.int y]) hy rfl ⟨rfl,Lm (T:=.bin .inter a A B) (cc hz) g hn rfl ⟨g,.inr rfl⟩⟩) (Yz _ _)
 ·refine FY (hk.at (c:=.AndNot) h rfl) λa A B x=>?_;obtain rfl:=x;cases(show some BH=some f from hf)
  refine AR g.rep.1 λid hi U=>?_;exact up (Ra.of F ih X.ns (vs:=[.ref a,.int y]) hy rfl ⟨rfl,t_A (cc (sl0 hz)) g.bA (λz=>hn ((Ka g.bA.ok.bd g.ok.2.2.1).mpr z)) hi rfl rfl ⟨g,.inr rfl⟩⟩) (Yz _ _)
 ·refine FY (hk.at (c:=.AndMaybe) h rfl) λa A B x=>?_;obtain rfl:=x;cases(show some A3=some f from hf)
  refine AR g.rep.1 λid hi U=>?_;exact up (Ra.of F ih X.ms (vs:=[.ref a,.int y]) hy rfl ⟨rfl,t_A (cc (sl0 hz)) g.bA hn hi rfl rfl ⟨g,.inr rfl⟩⟩) (Yz _ _)
 ·refine HU (hk.at (c:=.Require) h rfl) λa i A B x=>?_;obtain rfl:=x;cases(show some Az=some f from hf)
  have hz:sz A+sz B+2<=n:=hz;refine Ra.via (bd:=24*(d+1)) (es:=[.var AW]) (us:=[.int y]) F ih (Y1 _) X.ws (vs:=[.ref a,.int y]) hy rfl (f':=BD) (a':=i) (λh=>AB (n:=AE) g.rep.1 h) (λh=>Ae (m:=AP) g.rI.rep.1.choose_spec.1 (by cases g.rI.rep.1.choose<;>rfl) rfl h) (λh=>h) λzs rz=>?_
  exact Ra.of F ih X.ins (vs:=[.ref i,.int y]) (.cons (.ref _) rz) rfl ⟨rfl,Lm (T:=.bin .inter i A B) (cc (aW hz)) g.rI (λz=>hn (Ic.mpr z)) rfl ⟨g,.inr rfl⟩⟩
 ·refine x61 (hk.at (c:=.Inverse) h rfl) λa ma lim wt j A x=>?_;obtain rfl:=x;cases(show some BA=some f from hf)
  have hl:¬ j<lim:=λz=>hn (LA z (g.ok.2.2.2 z)).act;exact up (Ra.of F ih X.vs (vs:=[.ref a,.int y]) hy rfl ⟨rfl,AB (n:=Au) g.rep.1 (AB (n:=Aq) g.rep.1 ⟨decide_eq_true (aq.mp hl),g,.inr rfl⟩)⟩) (Yz _ _)
end
end
def P5:List (Nat×Fi):=[(Dr,F3),(Cr,F4),(BZ,FU),(B0,FV),(CP,FA),(B4,EH),(BI,F7),(CD,EY)]
def Cp:Nat->CI
 | 0=>λU U U U U=>False
 | d+1=>λf vs ks H Q=>op (AN f P5) λi=>ID (Cp d) i vs ks H Q
theorem Vg:∀{d:Nat} {vs us H Q},¬ Cp d E2 vs us H Q
 | 0,_,_,_,_=>λh=>h
 | d+1,vs,us,H,Q=>λh=>by
  have h:op (AN E2 P5) λi=>ID (Cp d) i vs us H Q:=h;rw[show AN E2 P5=Yu from rfl] at h
  exact h
section
variable{a:Nat}{H:MH}{Q:V->MH->Prop}
theorem act_A:∀{T:Tr} {e:Nat} {H:MH} {Q:V->MH->Prop},sz T<=e->AG H T->(∀b,KX T.den b->Q (.bool b) H)->Cp e (F9 T AC) [.ref T.addr] [] H Q:=by
 intro T;have act1:∀{A:Tr} {p e:Nat} {H:MH} {Q:V->MH->Prop},(∀{e:Nat} {H:MH} {Q:V->MH->Prop},sz A<=e->AG H A->(∀b,KX A.den b->Q (.bool b) H)->Cp e (F9 A AC) [.ref A.addr] [] H Q)->sz A<=e->AG H A->A.addr=p->(∀b,KX A.den b->Q (.bool b) H)->Ba H (.ref p) AC λf=>Cp e f [.ref p] [] H Q:=λih he g ad q=>by
  subst ad;exact g.rep.m1 rfl (ih he g q)
 have two:∀{A B:Tr} {i e:Nat} {H:MH} {Q:V->MH->Prop},(∀{e:Nat} {H:MH} {Q:V->MH->Prop},sz A<=e->AG H A->(∀b,KX A.den b->Q (.bool b) H)->Cp e (F9 A AC) [.ref A.addr] [] H Q)->(∀{e:Nat} {H:MH} {Q:V->MH->Prop},sz B<=e->AG H B->(∀b,KX B.den b->Q (.bool b) H)->Cp e (F9 B AC) [.ref B.addr] [] H Q)->sz A+sz B+1<=e->AG H (.bin .inter i A B)->(∀b,(b=true<->Ag (dI A.den B.den))->Q (.bool b) H)->Cp e B0 [.ref i] [] H Q:=λ{A B i e H Q} ihA ihB he g q=>by
  refine BB (O2 he) λe y=>?_;obtain rfl:=y;refine AR g.rep.1 λid own U=>?_;have key:∀b,(b=true<->Ag A.den/\Ag B.den)->Q (.bool b) H:=λb hb=>q b ⟨λz=>by
   refine Es (g.ok.2.2.hd g.bA.ok.bd g.bB.ok.bd (hb.mp z).1 (hb.mp z).2) λx U U h=>?_;exact h.act,λz=>hb.mpr (C8 z)⟩
  refine(AB (n:=Ak) own (act1 ihA (sl1 he) g.bA rfl λba hba=>?_):Ap (Cp e) [] Dd [(AA,.ref i)] H (AS Q));cases ba with
  | false=>exact key false ⟨λz=>(nomatch z),λz=>absurd z.1 hba.neg⟩
  | true=>exact AB (n:=Av) own (act1 ihB (sr1 he) g.bB rfl λbb hbb=>key bb ⟨λz=>⟨hba.pos,hbb.mp z⟩,λz=>hbb.mpr z.2⟩)
 induction T with
 | null a =>
  intro e H Q he g q;obtain⟨e,rfl⟩:∃e',e=e'+1:=O2 (n:=0) he;exact(q false ⟨λz=>(zT z),λw=>BB w λd h=>absurd rfl h⟩:Ap (Cp e) [] Dv [(AA,.ref a)] H (AS Q))
 | leaf a la wa i ds =>
  intro e H Q he g q;obtain⟨e,rfl⟩:∃e',e=e'+1:=O2 (n:=0) he;refine(AB g.rep.1 (AB g.rep.1 (Bx g.rep.2.1 ⟨_,K3 g.ok.2.2.2,q _ ?_⟩)):Ap (Cp e) [] Dw [(AA,.ref a)] H (AS Q));exact⟨λz=>(Jm g.ok).mpr (ag.mp (of_decide_eq_true z)),λz=>decide_eq_true (ag.mpr ((Jm g.ok).mp z))⟩
 | bin k a A B ihA ihB =>
  intro e H Q he g q;have un:Q4 k=true->Cp e BZ [.ref a] [] H Q:=λhu=>by
   obtain⟨e,rfl⟩:∃e',e=e'+1:=O2 he;refine AR g.rep.1 λid own U=>?_;refine(AB own (act1 ihA (sl1 he) g.bA rfl λb hb=>?_):Ap (Cp e) [] DZ [(AA,.ref a)] H (AS Q));replace q:=(show(Tr.bin k a A B).den=dU A.den B.den from congrFun (congrFun (ND hu) _) _)▸q
   cases b with
   | true=>exact q true (KX.t (Jn.mpr (.inl hb.pos)))
   | false=>exact AB own (act1 ihB (sr1 he) g.bB rfl λb hb'=>q b (by exact(MN hb.neg).symm▸hb'))
  cases k with
  | uni=>exact un rfl
  | dm=>exact un rfl
  | inter=>exact two ihA ihB he g q
  | anot =>
   obtain⟨e,rfl⟩:∃e',e=e'+1:=O2 he;refine AR g.rep.1 λid own U=>?_;exact(AB own (act1 ihA (sl1 he) g.bA rfl λb hb=>q b (hb.trans (Ka g.bA.ok.bd g.ok.2.2.1).symm)):Ap (Cp e) [] DO [(AA,.ref a)] H (AS Q))
  | maybe =>
   obtain⟨e,rfl⟩:∃e',e=e'+1:=O2 he;refine AR g.rep.1 λid own U=>?_;exact(AB own (act1 ihA (sl1 he) g.bA rfl λb hb=>q b hb):Ap (Cp e) [] Cj [(AA,.ref a)] H (AS Q))
 | una k a A ihA =>
  intro e H Q he g q;obtain⟨e,rfl⟩:∃e',e=e'+1:=O2 he;cases k with
  | filt =>
   exact(AB (n:=AE) g.rep.1 (act1 ihA (ZX he) g.uA rfl λb hb=>q b (hb.trans (SQ g.uA.ok.bd g.ok.2.2).symm)):Ap (Cp e) [] Bn [(AA,.ref a)] H (AS Q))
  | con =>
   exact(AB (n:=AE) g.rep.1 (act1 ihA (ZX he) g.uA rfl λb hb=>q b (hb.trans K9.symm)):Ap (Cp e) [] Bn [(AA,.ref a)] H (AS Q))
  | inv =>
   exact(AB (n:=Au) g.rep.1 (AB (n:=Aq) g.rep.1 (q _ ⟨λz=>(LA (of_decide_eq_true z) (g.ok.2.2.2 (of_decide_eq_true z))).act,λz=>decide_eq_true (Kc z)⟩)):Ap (Cp e) [] C7 [(AA,.ref a)] H (AS Q))
 | req a i A B ihA ihB =>
  intro e H Q he g q;obtain⟨e,rfl⟩:∃e',e=e'+1:=O2 (n:=sz A+sz B+1) he;exact(AB (n:=AE) g.rep.1 (Ae g.rep.2.1 rfl rfl (two ihA ihB (ZX he) g.rI λb hb=>q b (hb.trans Ic.symm))):Ap (Cp e) [] Bn [(AA,.ref a)] H (AS Q))
end
section
variable{prog:Y8}{w:Y0}{k:Ck}{K:aC}
def fnA(k:Ck)(K:aC)(p:Nat×Fi):Bool:=Ej (K.lookup p.1) λo=>match o.data with
 | .func fd=>Ol K p.2 fd&&JU k p.2 fd
 | _=>false
theorem WJ(F:KF K k.isAttr)(hs:k.strict=false)(hall:P5.all (fnA k K)=true):∀d,Kf prog w k K (Cp d) d
 | 0=>λU U U U U U U U U U U U U U U U U U h=>h.elim
 | d+1=>λA hh hd c m H s f vs ys us zs Q R B Rl r r' h q=>by
  have ih:=WJ F hs hall d;obtain⟨i,hi,h⟩:=O4 (show op (AN f P5) λi=>ID (Cp d) i vs us H Q from h)
  obtain⟨⟨oc,od,odt,os⟩,ho,hb⟩:=D9 (laP hall _ (GE hi));dsimp only at hb;split at hb
  ·rename_i fd;obtain⟨h1,h2⟩:=an hb;exact Ml F ih (λks=>by rw[hs] at ks;cases ks) hh hd (LY.of (f:=f) ⟨_,_,_,ho⟩ h1) (Hq.of h2) B Rl r r' h q
  ·cases hb
end
abbrev iRf:Fi:=⟨[BQ,Mu],[],[],[]⟩
inductive ShT (k k':Ck) (sc:ZR) (body:List af):Prop
 | mk (te:_) (x1:_) (x2:_) (ret:_) (p1:_) (p2:_) (p3:_) (np:_) (rp:_) (hp:_) (tp:_) (rest:_) (p0:body=.Try [.If te [.Expr x1 p1] [.Expr x2 p2] p3] [.ExceptHandler (some (.Name "ReadTooFar" np)) none [.Return (some ret) rp] hp] [] [] tp::rest) (p1:Oc k sc (.e (.var Mu)) te=true) (p2:ShC k sc (.var BQ) AP [.int 0] x1) (p3:ShC k sc (.var BQ) Ar [] x2) (p4:CM k' sc (.not (.meth (.var BQ) AC [] [])) ret=true) (p5:Mf sc "ReadTooFar"=true):ShT k k' sc body
section
variable{prog:Y8}{w:Y0}{k k':Ck}{K:aC}{d n:Nat}{A:Za}{c:Cx}{m:Zf->Option Yr}{H:MH}{s:Yq}{f C:Nat}{R:bh->Yq->Prop}{fd:ZW}{body:List af}{Yk:List eE}{T:Tr}{kd:Int}{sk:Bool}
theorem Vh(F:KF K k.isAttr)(ih:Kf prog w k K (call d) d)(cn:Ih n d)(X:Qn k K)(F':KF K k'.isAttr)(ks:k'.strict=false)(hA:P5.all (fnA k' K)=true)(hG:WH K f iRf fd body)(sh:ShT k k' fd.scope body)(hh:A.handled=none)(hd:8*A.depth+A.units+24*(d+3)<=7900)(hnd:n<=d)
 (B:Base k K c.WM)(B':Base k' K c.WM)(Rl:AU prog w c m H s)(rt:Lj C c.WM)(hfr:A.frames=some Yk)(ho:∀env∈Yk,env.scope.kind≠.module/\env.frame=some c.L)
 (hk:Bu kd T)(hkd:if sk then kd=0\/kd=5\/kd=6\/kd=7\/kd=8\/kd=10 else kd=4\/kd=5\/kd=6\/kd=7\/kd=8\/kd=10\/kd=11)(g:AG H T)(hz:sz T<=n)(hn:¬ Ag T.den)
 (q:∀H' s',AU prog w c m H' s'->(kd=4\/kd=11)/\(H Ai=some .txt->H' Ai=some .txt)\/H'=H->R (.ok (.ret (.bool true))) s'):codeAny (model prog w) A (.call (.ref f) ⟨[.ref T.addr,.bool sk],[]⟩) R s:=by
 obtain⟨te,x1,x2,ret,p1,p2,p3,np,rp,hp,tp,rest,rfl,o1,h1,h2,o2,og⟩:=sh;refine Gl (ρ:=[(BQ,.ref T.addr),(Mu,.bool sk)]) (dm (x:=1) hd (ZU (Zp (d+2)))) hG B Rl (vs:=[.ref T.addr,.bool sk]) (.cons (.ref _) (.cons (.bool _) .nil)) rfl λoL m1 s1 hL O R1 l b=>?_;have hdL:=Kj Rl.fr hL;have oo:KI c Yk:=λenv he=>Am (ho env he) λa1 a2=>⟨a1,c.L,a2,.inl rfl⟩;have Z:=Ev.of (c:=(c.lx (s.heap.objs.size) ((c.L,oL)::c.X))) (A:=A.deeper (callEnv fd s.heap.objs.size f)) F ih (λU U U U=>FM) (λU=>hh) (di hd (ZC (by decide) d)) B O
 have hfr2:(A.deeper (callEnv fd s.heap.objs.size f)).frames=some (callEnv fd s.heap.objs.size f::Yk):=a4 hfr;have key:∀{E:Yr->Yq->Prop} e s',P4 prog w C (c.lx (s.heap.objs.size) ((c.L,oL)::c.X)) m1 (callEnv fd s.heap.objs.size f::Yk) (λH'=>AG H' T/\((kd=4\/kd=11)/\(H Ai=some .txt->H' Ai=some .txt)\/H'=H)) e s' ->
  wpAny (model prog w) (A.deeper (callEnv fd s.heap.objs.size f)) (noteFrame (.ref e) (callEnv fd s.heap.objs.size f)) (λU WQ=>wpAny (model prog w) (A.deeper (callEnv fd s.heap.objs.size f)) (setFlight (.ref e) none) (λU WU=>wpAny (model prog w) (A.deeper (callEnv fd s.heap.objs.size f)) (handleBy (.ref e) (callEnv fd s.heap.objs.size f) [.ExceptHandler (some (.Name "ReadTooFar" np)) none [.Return (some ret) rp] hp])
   (λfl s'=>match fl with|.next=>wpAny (model prog w) (A.deeper (callEnv fd s.heap.objs.size f)) (execs rest (callEnv fd s.heap.objs.size f)) (λfl WQ=>R (.ok (.ret (match fl with|.ret v=>v|_=>.none))) WQ) E s'|f=>R (.ok (.ret (match f with|.ret v=>v|_=>.none))) s') E WU) E WQ) E s':=by
  rintro E e s' ⟨s0,m0,ow,Ln,H',XF,fs,R3,R4,hdw,fl,hfs,hxf,hg,hH⟩;refine AJ λGG hG=>?_;obtain⟨nm,qn,N,bs,bm,hdct,sn,sub,ab,col,dd,k0,k1,k2,k3,k5,mN,mg,hC,hN,hni,Tl,hmg,hx⟩:=rt;obtain⟨D,Yj,Nn,Ld⟩:=R3.led;have fs0:∀x∈fs,c.WM.get? x=none:=λx hx=>by
   rcases hfs x hx with rfl|⟨o,h⟩|h
   ·cases z:c.WM.get? x with
    | none=>rfl
    | some o=>exact absurd (Yy z) (Ng R3.fr.above)
   ·exact(Nn _ (Ld.xs _ (Yw _ h)).1).2.2
   ·refine AR (aE.mp h) λenv he hf=>?_;rcases mcP he with rfl|he
    ·obtain rfl:=Ys hf;exact(Nn _ (Ld.xs _ (Yt _ (.head _))).1).2.2
    ·obtain rfl:=Ys (((ho env he).2).symm.trans hf);exact(Nn _ (Ld.xs _ (Yt _ (.tail _ (.head _)))).1).2.2
  have nf:∀{x o},c.WM.get? x=some o->x∉fs:=λe z=>by exact nS (fs0 _ z) e
  refine Dy B.glo λmg' mb b1 b2 U=>?_;refine hG ?_;refine P3 hfr2 rfl fl (R4.fr.keep _ _ hC) (nf hC) (Tl.hasType ej.hasBase) (λ{s' A' Q E} hk hQ=>?_) λs6 E6 fl6=>?_
  ·have k2:∀b o,c.WM.get? b=some o->s'.heap.get? b=some o:=λb o e=>hk b o (R4.fr.keep b o e) (nf e);refine d6 (by exact O.isc.symm▸O.ikd) (by unfold a7;exact O.isc.symm▸Pc og) ?_ (by decide +kernel)
   exact loadGlobal_global (by exact O.igl.symm▸hmg.keeps k2) hx hQ
  ·have Rc:=b.z R4;refine NB (fl6.sl.ns Rc.fr.ns) λoL' U U gL' hL'=>?_;have mX:(c.L,oL)∈XF++[(s.heap.objs.size,ow),(c.L,oL)]:=Yt _ (.tail _ (.head _));have nFL:c.L≠s.heap.objs.size:=ZF (Yy hL);have hX0:∀p∈c.X,p.1∉fs/\p.1≠s.heap.objs.size/\p.1≠c.L:=λp hp=>by
    have lt:=Rl.lt.2 p hp;refine⟨λz=>?_,ZF lt.1,lt.2⟩;rcases hfs _ z with h|⟨o,h⟩|h
    ·exact(Nn _ (Ld.xs p (Yt _ (.tail _ (.tail _ hp)))).1).2.1 h
    ·exact hxf _ h p (.tail _ hp) rfl
    ·refine AR (aE.mp h) λenv he hf=>?_;rcases mcP he with rfl|he
     ·exact ZF lt.1 (Ys hf).symm
     ·exact lt.2 (Ys (((ho env he).2).symm.trans hf)).symm
   have R6:=AU.flw (c2:=(c.lx (s.heap.objs.size) ((c.L,oL)::c.X))) (XF:=XF++[(s.heap.objs.size,ow),(c.L,oL)]) (X₀:=c.X) (FL:=c.L) R3 (by simp) R4 rfl ⟨ow,Yt _ (.head _)⟩ (λx hx=>by
    rcases hfs x hx with h|⟨o,h⟩|h
    ·exact .inl h
    ·exact .inr ⟨o,Yw _ h⟩
    ·refine AR (aE.mp h) λenv he hf=>?_;rcases mcP he with rfl|he
     ·obtain rfl:=Ys hf;exact .inr ⟨ow,Yt _ (.head _)⟩
     ·obtain rfl:=Ys (((ho env he).2).symm.trans hf);exact .inr ⟨oL,mX⟩) hX0 mX nFL gL' fl6
   refine ZL (Z3 (Fc (Q:=λv H2=>v=.bool true/\H2=H') (Cc (.not (.meth (.var BQ) AC [] [])) _ _ _ _ _ _ _ (Ev.of (C:=Cp n) (d:=n) (c:=(c.lx (s.heap.objs.size) ((c.L,oL')::c.X))) (A:=(A.deeper (callEnv fd s.heap.objs.size f)).mark (some (.ref e))) F' (WJ (prog:=prog) (w:=w) F' ks hA n) (λU U U U=>Vg) (λz=>by replace z:=ks.symm.trans z;exact zT z) (di hd (Yn (ZU hnd) (Yz (d+1) 2))) B' O) l _ _ _ _ _ o2 R6 ?_) λv y H2 s7 rv R7 hq=>?_))
   ·exact hg.rep.m1 rfl (act_A hz hg λb hb=>by
     cases b with
     | true=>exact absurd hb.pos hn
     | false=>exact⟨rfl,rfl⟩)
   ·refine AJ λGG hG=>?_;obtain⟨rfl,rfl⟩:=hq;cases rv
    obtain⟨D',Yl,N',L'⟩:=R7.led;obtain⟨o',U,R''⟩:=R7.swap (gL:=c.L) (obL:=oL') (m':=m) (X':=c.X) (.head _) ((fl6.sl.ns Rc.fr.ns).at' λo e=>by obtain rfl:=Ys (gL'.symm.trans e);exact N'.get (L'.xs _ (.head _)).1) Rl.fr.above λp hp=>⟨.tail _ hp,(hX0 p hp).2.2⟩
    refine hG ?_;exact q H2 s7 (R''.dropX' λp hp=>.tail _ hp) hH
 have nn:∀a,T≠.null a:=λa e=>by
  subst e;have no:∀{z:Int} {c:Cl},kd=z->kcl z=some c->Cl.Null=c:=λh e=>hk _ (h▸e);cases sk with
  | true=>rcases hkd with h|h|h|h|h|h<;>cases(no h rfl)
  | false=>rcases hkd with h|h|h|h|h|h|h<;>cases(no h rfl)
 have sm:(Bt T.cl AP).isSome=true/\(Bt T.cl Ar).isSome=true:=by
  cases T with
  | null a=>exact absurd rfl (nn a)
  | bin k=>cases k<;>exact⟨rfl,rfl⟩
  | una k=>cases k<;>exact⟨rfl,rfl⟩
  | _=>exact⟨rfl,rfl⟩
 refine ZL (wpAny_Try_except (ZL (wpAny_If (Pe (Q:=λb H'=>b=sk/\H'=H) (KC (.e (.var Mu)) _ _ _ _ _ _ _ Z l _ _ _ _ _ o1 R1 ⟨rfl,rfl⟩) λb2 H2 s2 R2 hq=>?_))));obtain⟨rfl,rfl⟩:=hq;cases b2 with
 | true =>
  refine(if_pos rfl).symm▸?_;obtain⟨ov,ap,xs,p',rfl,h1⟩:=h1;refine ZL (wpAny_Expr (Hb Z l ⟨ov,ap,xs,p',rfl,h1⟩ R2 (a':=T.addr) (us:=[.int 0]) (λh=>h) (λh=>g.rep.m sm.1 rfl h) (λh=>h) λzs s3 rz R3=>?_) (GC Z.O) rfl);exact Vf (C:=C) F ih cn X hk hkd g hz hn (fnd T AP sm.1) (.cons (.ref _) rz) (A.deeper (callEnv fd s.heap.objs.size f)) (c.lx (s.heap.objs.size) ((c.L,oL)::c.X)) m1 s3 _ _ hh (Yn (Zo (ai _ _ _).symm) (di hd (Zu _))) B R3 rt hfr2 (oo.deep hdL O.ikd) λe s' th=>key e s' th
 | false =>
  refine(if_neg Zg).symm▸?_;obtain⟨ov,ap,xs,p',rfl,h2⟩:=h2;refine ZL (wpAny_Expr (Hb Z l ⟨ov,ap,xs,p',rfl,h2⟩ R2 (a':=T.addr) (us:=[]) (λh=>h) (λh=>g.rep.m sm.2 rfl h) (λh=>h) λzs s3 rz R3=>?_) (GC Z.O) rfl);cases rz.nl
  exact Ve (C:=C) F ih cn X hk hkd g hz hn (fnd T Ar sm.2) (A.deeper (callEnv fd s.heap.objs.size f)) (c.lx (s.heap.objs.size) ((c.L,oL)::c.X)) m1 s3 _ _ hh (Yn (Zo (ai _ _ _).symm) (di hd (Zu _))) B R3 rt hfr2 (oo.deep hdL O.ikd) λe s' th=>key e s' th
end
end Mine
end
section
namespace Mine
open PySem PySem.W
theorem Ik:∀(T:Tr) (d:Int),T.den d≠none->al T d
 | .null _,_,h=>absurd rfl h
 | .leaf _ _ _ i ds,d,h=>by
  refine AR (FZ h) λs U h1=>?_;have h1:=bv h1;have:∀{l:List (Int×Int)},(d,s)∈l->Jl d l≠none:=by
   intro l
   induction l with
   | nil=>exact λh=>nomatch h
   | cons z r ih =>
    intro h;unfold Jl;split
    ·exact λh=>zS h
    ·rename_i hne;rcases mcP h with rfl|h
     ·exact absurd rfl hne
     ·exact ih h
  exact this h1
 | .bin k _ A B,d,h=>by
  cases k with
  | inter=>exact⟨Ik A d (Gu.mp h).1,Ik B d (Gu.mp h).2⟩
  | _=>exact h
 | .una k _ A,d,h=>by
  cases k with
  | filt=>exact⟨Ik A d (HV.mp h).1,(HV.mp h).2⟩
  | inv=>exact h
  | con=>exact Ik A d (HW.mp h)
 | .req _ _ A B,d,h=>⟨Ik A d (Gv.mp h).1,Ik B d (Gv.mp h).2⟩
noncomputable def Vi(sk:Bool)(kd:Int):Prop:=if sk then kd=0\/kd=5\/kd=6\/kd=7\/kd=8\/kd=10 else kd=4\/kd=5\/kd=6\/kd=7\/kd=8\/kd=10\/kd=11
def CL(d:Nat):CI:=λf vs us H Q =>
 (f=E2/\us=[]/\∃T ds,vs=[.ref T.addr]/\AG H T/\sz T<=24/\sc T<=2/\Gw ds/\(∀x,al T x<->x∈ds)/\H Ai=some .txt/\∀l H',An H H' (fp T)->H' l=none->Q (.ref l) (H'.put l (.list (ds.map .int)))) \/
 (f=Aw/\us=[]/\∃T kd sk,vs=[.ref T.addr,.bool sk]/\Bu kd T/\Vi sk kd/\AG H T/\sz T<=24/\¬ Ag T.den/\∀H',(kd=4\/kd=11)/\(H Ai=some .txt->H' Ai=some .txt)\/H'=H->Q (.bool true) H') \/
 call d f vs us H Q
section
variable{d e a:Nat}{H:MH}{Q:V->MH->Prop}{ns:List Int}{ρ:As}
theorem ask{T:Tr}{kd:Int}{sk:Bool}{ks:List Int}{G:Fl->As->MH->Prop}{es:List E}(hes:∀{Q:List V->MH->Prop},Q (ks.map .int) H->PC (CL d) [] es ρ H Q)(hl:ks.length<=1000)(hk:Bu kd T)(hks:ks.contains kd=true->Vi sk kd)(g:ks.contains kd=true->AG H T)(hz:sz T<=24)(hn:¬ Ag T.den)(hkd:AN Ac ρ=some (.int kd))(htw:AN Eu ρ=some (.ref T.addr))
 (q:∀H',(kd=4\/kd=11)/\(H Ai=some .txt->H' Ai=some .txt)\/An H H' []->G .next ρ H') :
 wS (CL d) [] (.cond (.and [(.e (.cmp .In (.var Ac) (.lst es))),(.not (.e (.fn Aw [(.var Eu),(.bool sk)] [])))]) [.ret (.bool false)] []) ρ H G:=by
 refine Gx hkd (hes ⟨by rw[Y2];exact hl,λl hl'=>⟨_,_,AH _ _ _,.list (by rw[Y2];exact hl) (CT ks),?_⟩⟩)
 have f1:=An.new0 (o:=.list (ks.map V.int)) hl'
 generalize H.put l (.list (ks.map V.int))=H1 at f1 ⊢
 cases hc:ks.contains kd with
 | false=>exact q H1 (.inr f1)
 | true =>
  refine Gx htw (.inr (.inl ⟨rfl,rfl,T,kd,sk,rfl,hk,hks hc,(g hc).nil f1,hz,hn,λH2 h2=>?_⟩));refine q H2 ?_;rcases h2 with h2|rfl
  ·exact .inl ⟨h2.1,λz=>h2.2 (f1.l z)⟩
  ·exact .inr f1
inductive LW (dq:Nat) (kd:Int) (L:List Int):Nat->As->MH->Prop
 | mk {i:Nat} {ρ:As} {H:MH} (Ti:Tr) (e1:AN Eu ρ=some (.ref Ti.addr)) (e2:AN Ac ρ=some (.int kd)) (e3:AN BG ρ=some (.ref dq)) (hq:H dq=some (.list (L.map .int))) (ht:H Ai=some .txt) (g:AG H Ti) (z:sz Ti<=24) (k:Bu kd Ti) (hd:∀d,Ti.den d≠none<->d∈L.drop i):LW dq kd L i ρ H
theorem law_ok(ha:H a=some (.ro (ns.map .int)))(ht:H Ai=some .txt)(hl:ns.length<=1000)(q:∀H',H' Ai=some .txt->Q (.bool true) H'):Ap (CL 199) [] QA [(Ix,.ref a)] H (AS Q):=by
 refine Bx ha ⟨_,6,rfl,rfl,by decide,by rw[Y2];exact hl,λl6 h6=>?_⟩
 have f1:=An.new0 (o:=.list ((ns.map V.int).take 6)) h6;refine .inr (.inr (Sw (e:=192) (ns:=ns.take 6) (Y1 _) (by rw[AH,List.map_take]) (by rw[List.length_take];exact Nat.min_le_left _ _) λm T L kd H2 f2 p hz hs hnew=>?_))
 refine AR p.at_ λdq h1 h2=>?_;have cc:∀{T},sz T<=24->FQ 199 T:=λh=>JM 24 _ h 199 (by decide)
 refine Bx h1 ⟨_,rfl,?_⟩;have ht2:=(f1.trans f2).l ht;refine p.g.rep.m1 rfl (.inr (.inr ((cc hz).copy p.g λT' H3 w3 g3 d3 s3 c3 k3 n3=>?_)));have g3':=p.g.q w3;have ht3:=w3.fr.kp _ _ ht2 (.inr rfl);have hq3:=w3.fr.kp _ _ h2 (.inr rfl);have dj:∀x∈fp T',x∉fp T:=λx hx hx'=>by
  refine HT (p.g.rep.fpi x hx') λc as e=>?_;exact nS (n3 x hx) e
 refine .inl ⟨rfl,rfl,T,L,rfl,g3',hz,hs,p.dc.asc,λx=>⟨p.al x,λhx=>Ik T x ((p.d x).mpr hx)⟩,ht3,λl H4 f4 hl4=>?_⟩;have f5:=An.new0 (o:=.list (L.map V.int)) hl4;have hq5:=f5.l (f4.kp _ _ hq3 (.inr rfl));have ht5:=f5.l (f4.kp _ _ ht3 (.inr rfl));have g5:AG (H4.put l (.list (L.map .int))) T':=AG.nil ⟨g3.rep.frame f4 dj,g3.ok,g3.nd⟩ f5;refine⟨_,_,L,L,AH _ _ _,hq5,CT L,CT L,p.dc.l3,p.dc.l3,?_⟩;refine AI (λz=>absurd z (by rw[bne_self_eq_false];decide)) λU=>?_
 generalize H4.put l (.list (L.map .int))=H5 at hq5 ht5 g5
 refine⟨_,_,hq5,Ut p.dc.l3,rfl,LW dq kd L,
  ⟨T',rfl,rfl,rfl,hq5,ht5,g5,Yn s3 hz,p.k.cl k3,λd=>by exact d3.symm▸p.d d⟩,?_,?_⟩
 ·rintro i ρ H v hv ⟨Ti,e1,e2,e3,hq,ht,g,z,k,hd⟩;refine AR (Zx.mp (Ze.symm.trans hv)) λx hx w=>?_;obtain rfl:=w;refine BB (Zw.mp hx) λhlt ex=>?_;have hdr:L.drop i=x::L.drop (i+1):=by exact(ee hlt)▸ex▸rfl
  have ha:Gw (L.drop i):=p.dc.asc.sublist (cj _ _);rw[hdr] at ha hd;have hx:Hd Ti.den x:=⟨(hd x).mpr (.head _),λy hy=>ha.hd ((hd y).mp hy)⟩;refine⟨hq,?_⟩;have e1':AN Eu (put A0 (.int x) ρ)=some (.ref Ti.addr):=(AY rfl).trans e1;have e2':AN Ac (put A0 (.int x) ρ)=some (.int kd):=(AY rfl).trans e2;have e3':AN BG (put A0 (.int x) ρ)=some (.ref dq):=(AY rfl).trans e3;have e4':AN A0 (put A0 (.int x) ρ)=some (.int x):=BE
  show Ap (CL 199) [] _ (put A0 (.int x) ρ) H _
  generalize put A0 (V.int x) ρ=ρ1 at e1' e2' e3' e4' ⊢
  refine Gx e1' (g.rep.m1 rfl (.inr (.inr ((cc z).act g λb hb=>?_))));cases b with
  | false=>exact absurd hx.act hb.neg
  | true =>
   refine Gx e1' (g.rep.m2 hx.act rfl (.inr (.inr ((cc z).id g hx.act λy H6 w6 hy=>?_))));refine(hy.uniq hx).symm▸Gx e4' ?_;refine AI (λz=>absurd z (by rw[bne_self_eq_false];decide)) λU=>?_
   have g6:=g.q w6;refine Gx e1' (g6.rep.m2 hx.act rfl (.inr (.inr ((cc z).next g6 hx.act λv y T7 H7 U u hy e7=>?_))));replace e7:=(hy.uniq hx)▸e7;refine⟨T7,by exact u.ad.symm▸e1',e2',e3',u.fr.kp _ _ (w6.fr.kp _ _ hq (.inr rfl)) (.inr rfl),u.fr.kp _ _ (w6.fr.kp _ _ ht (.inr rfl)) (.inr rfl),g6.u u,by rw[u.sz];exact z,k.cl u.cl,λd=>?_⟩
   refine e7.symm▸?_;unfold frm;have h1:=(Z5.mp ha).1;constructor
   ·intro h;split at h
    ·rename_i le;rcases mcP ((hd d).mp h) with rfl|h
     ·exact absurd ‹(_:Int)+1<=_› (a5 _)
     ·exact h
    ·exact absurd rfl h
   ·intro h;have:=h1 d h;rw[if_pos (by assumption)]
    exact(hd d).mpr (.tail _ h)
 ·rintro ρ H ⟨Ti,e1,e2,e3,hq,ht,g,z,k,hd⟩;refine⟨hq,?_⟩;have hn:¬ Ag Ti.den:=λt=>BB t λd h=>by
   have:=(hd d).mp h;rw[Y2,List.drop_length] at this;exact nomatch this
  refine Gx e1 (g.rep.m1 rfl (.inr (.inr ((cc z).act g λb hb=>?_))));cases b with
  | true=>exact absurd hb.pos hn
  | false =>
   refine ask (ks:=[4,5,6,7,8,10,11]) (sk:=false) (λh=>h) (by decide) k (λh=>?_) (λU=>g) z hn e2 e1 λH6 h6=>?_
   ·have:=dL.mp h
    simpa [Vi] using this
   ·refine ask (ks:=[0,5,6,7,8,10]) (sk:=true) (λh=>h) (by decide) k (λh=>?_) (λhc=>?_) z hn e2 e1 λH7 h7=>q H7 (h7.elim (λz=>z.2 (h6.elim (λz=>z.2 ht) λz=>z.l ht)) λz=>z.l (h6.elim (λz=>z.2 ht) λz=>z.l ht))
    ·have:=dL.mp h
     simpa [Vi] using this
    ·rcases h6 with⟨rfl|rfl,_⟩|h6
     ·exact absurd hc (by decide)
     ·exact absurd hc (by decide)
     ·exact g.nil h6
end
end Mine
end
section
namespace Mine.Hd
open PySem PySem.W PySem.Calls PyProof.Rows
noncomputable def Kas:List Addr:=[206,276,430,491,531,607,679,778,912,1016,1163,1241,1347,1430,1485,205,275,429,490,530,606,678,777,911,1015,1162,1240,1346,1429,1484,112,161,231,252,266,273,285,300,307,321,335,343,357,378,385,406,420,446,467,481,507,547,555,562,569,576,583,624,633,640,648,662,696,704,718,726,733,740,747,754,761,775,795,803,817,824,831,846,853,874,881,888,928,935,949,956,963,970,977,985,1033,1040,1054,1062,1069,1076,1083,1111,1118,1139,1182,1196,1203,1210,1217,1224,1231,1260,1267,1274,1281,1302,1309,1316,1323,1330,1363,1370,1385,1392,1447,1454,1461,1468,1492,1497,1502,1507,1514,1528,1521,2,105,111,160,230,251,265,272,284,293,299,306,320,334,336,342,356,377,384,405,419,445,466,480,506,546,548,554,561,568,575,582,623,625,632,613,639,641,647,661,695,703,685,717,719,725,732,739,746,753,760,774,794,802,784,816,823,830,839,845,852,873,880,887,927,934,948,955,962,969,976,978,984,1026,1032,1039,1053,1055,1061,1068,1075,1082,1110,1117,1138,1174,1181,1169,1195,1202,1209,1216,1223,1230,1252,1259,1247,1266,1273,1280,1301,1308,1315,1322,1329,1362,1369,1378,1384,1391,1440,1446,1453,1460,1467,1491,1496,1501,1506,1513,1527,1520]
def Kx(P:Y5):Frag:=[(206,o1052),(276,o279),(430,o438),(491,o807),(531,o944),(607,o630),(679,o700),(778,o802),(912,o939),(1016,o1046),(1163,o1478),(1241,o1278),(1347,o1387),(1430,o1473),(1485,o1531),(205,o205 P),(275,o278 P),(429,o437 P),(490,o502 P),(530,o545 P),(606,o624 P),(678,o699 P),(777,o801 P),(911,o938 P),(1015,o1045 P),(1162,o1196 P),(1240,o1277 P),(1346,o1386 P),(1429,o1472 P),(1484,o1530 P),(112,o112),(161,o161),(231,o234),(252,o255),(266,o269),(273,o276),(285,o290),(300,o308),(307,o315),(321,o329),(335,o343),(343,o351),(357,o365),(378,o386),(385,o393),(406,o414),(420,o428),(446,o458),(467,o479),(481,o493),(507,o522),(547,o565),(555,o573),(562,o580),(569,o587),(576,o594),(583,o601),(624,o645),(633,o654),(640,o661),(648,o669),(662,o683),(696,o720),(704,o728),(718,o742),(726,o750),(733,o757),(740,o764),(747,o771),(754,o778),(761,o785),(775,o799),(795,o822),(803,o830),(817,o844),(824,o851),(831,o858),(846,o873),(853,o880),(874,o901),(881,o908),(888,o915),(928,o958),(935,o965),(949,o979),(956,o986),(963,o993),(970,o1000),(977,o1007),(985,o1015),(1033,o1067),(1040,o1074),(1054,o1088),(1062,o1096),(1069,o1103),(1076,o1110),(1083,o1117),(1111,o1145),(1118,o1152),(1139,o1173),(1182,o1219),(1196,o1233),(1203,o1240),(1210,o1247),(1217,o1254),(1224,o1261),(1231,o1268),(1260,o1300),(1267,o1307),(1274,o1314),(1281,o1321),(1302,o1342),(1309,o1349),(1316,o1356),(1323,o1363),(1330,o1370),(1363,o1406),(1370,o1413),(1385,o1428),(1392,o1435),(1447,o1493),(1454,o1500),(1461,o1507),(1468,o1514),(1492,o1541),(1497,o1548),(1502,o1555),(1507,o1562),(1514,o1571),(1528,o1589),(1521,o1580),(2,o30 P),(105,o105),(111,o111),(160,o160),(230,o233),(251,o254),(265,o268),(272,o275),(284,o289),(293,o301),(299,o307),(306,o314),(320,o328),(334,o342),(336,o344),(342,o350),(356,o364),(377,o385),(384,o392),(405,o413),(419,o427),(445,o457),(466,o478),(480,o492),(506,o521),(546,o564),(548,o566),(554,o572),(561,o579),(568,o586),(575,o593),(582,o600),(623,o644),(625,o646),(632,o653),(613,o634),(639,o660),(641,o662),(647,o668),(661,o682),(695,o719),(703,o727),(685,o709),(717,o741),(719,o743),(725,o749),(732,o756),(739,o763),(746,o770),(753,o777),(760,o784),(774,o798),(794,o821),(802,o829),(784,o811),(816,o843),(823,o850),(830,o857),(839,o866),(845,o872),(852,o879),(873,o900),(880,o907),(887,o914),(927,o957),(934,o964),(948,o978),(955,o985),(962,o992),(969,o999),(976,o1006),(978,o1008),(984,o1014),(1026,o1060),(1032,o1066),(1039,o1073),(1053,o1087),(1055,o1089),(1061,o1095),(1068,o1102),(1075,o1109),(1082,o1116),(1110,o1144),(1117,o1151),(1138,o1172),(1174,o1211),(1181,o1218),(1169,o1206),(1195,o1232),(1202,o1239),(1209,o1246),(1216,o1253),(1223,o1260),(1230,o1267),(1252,o1292),(1259,o1299),(1247,o1287),(1266,o1306),(1273,o1313),(1280,o1320),(1301,o1341),(1308,o1348),(1315,o1355),(1322,o1362),(1329,o1369),(1362,o1405),(1369,o1412),(1378,o1421),(1384,o1427),(1391,o1434),(1440,o1486),(1446,o1492),(1453,o1499),(1460,o1506),(1467,o1513),(1491,o1540),(1496,o1547),(1501,o1554),(1506,o1561),(1513,o1570),(1527,o1588),(1520,o1579)]
noncomputable def clNx:Cl->Zf
 | .Base=>⟨#[77,97,116,99,104,101,114]⟩
 | .Null=>⟨#[78,117,108,108,77,97,116,99,104,101,114,67,108,97,115,115]⟩
 | .Leaf=>⟨#[76,105,115,116,77,97,116,99,104,101,114]⟩
 | .Bi=>⟨#[66,105,77,97,116,99,104,101,114]⟩
 | .Add=>⟨#[65,100,100,105,116,105,118,101,66,105,77,97,116,99,104,101,114]⟩
 | .Union=>⟨#[85,110,105,111,110,77,97,116,99,104,101,114]⟩
 | .DMax=>⟨#[68,105,115,106,117,110,99,116,105,111,110,77,97,120,77,97,116,99,104,101,114]⟩
 | .Inter=>⟨#[73,110,116,101,114,115,101,99,116,105,111,110,77,97,116,99,104,101,114]⟩
 | .AndNot=>⟨#[65,110,100,78,111,116,77,97,116,99,104,101,114]⟩
 | .AndMaybe=>⟨#[65,110,100,77,97,121,98,101,77,97,116,99,104,101,114]⟩
 | .Wrap=>⟨#[87,114,97,112,112,105,110,103,77,97,116,99,104,101,114]⟩
 | .Filter=>⟨#[70,105,108,116,101,114,77,97,116,99,104,101,114]⟩
 | .Inverse=>⟨#[73,110,118,101,114,115,101,77,97,116,99,104,101,114]⟩
 | .Require=>⟨#[82,101,113,117,105,114,101,77,97,116,99,104,101,114]⟩
 | .Const=>⟨#[67,111,110,115,116,97,110,116,83,99,111,114,101,87,114,97,112,112,101,114,77,97,116,99,104,101,114]⟩
def gls:List (Nat×Zf):=[(AM,⟨#[78,117,108,108,77,97,116,99,104,101,114]⟩),(DB,⟨#[95,108,97,119,95,115,111,109,101]⟩),(CB,⟨#[95,108,97,119,95,108,101,97,102]⟩),(B6,⟨#[95,108,97,119,95,116,119,111]⟩),(CQ,⟨#[95,108,97,119,95,111,110,101]⟩),(D7,⟨#[95,108,97,119,95,116,114,101,101]⟩),(I1,⟨#[108,97,119]⟩),(Aw,⟨#[95,108,97,119,95,114,101,102,117,115,101,100]⟩)]
noncomputable def Qo:Cl->Bool
 | .Add=>true
 | .AndMaybe=>true
 | .AndNot=>true
 | .Base=>true
 | .Const=>true
 | .DMax=>true
 | .Filter=>true
 | .Inter=>true
 | .Inverse=>true
 | .Leaf=>true
 | .Null=>true
 | .Require=>true
 | .Union=>true
 | .Wrap=>true
 | _=>false
def WK:List Nat:=[Bg,Cd,Bo,Fx,KK,Fy,Eo,KW,FT,Ak,Av,Au,B8,AE,Ad,Bc,Aq,Af,BX,ED]
def viax(c:Cl)(m f:Nat):Bool:=match c with
 | .Base=>Y4 m AQ&&Y4 f Aj
 | .Add=>Y4 m AV&&Y4 f By
 | .Wrap=>Y4 m AV&&Y4 f BR
 | _=>false
def ck:Ck:=⟨λn=>has n WK,clNx,λf=>(AN f gls).getD ⟨#[]⟩,λf=>(AN f gls).isSome,Qo,viax,true⟩
def ck':Ck:={ck with strict:=false}
theorem Kx_as(P:Y5):Kas=(Kx P).map (·.1):=by kernel_rfl
theorem Kx_get(w:Y0):Kas.map (HF w).get?=(Kx w.params).map (λp=>some p.2):=by kernel_rfl
theorem Kx_in(w:Y0):(Kx w.params).In (HF w):=Frag.in_of (Kx_as _) (Kx_get w)
theorem t_none(P:Y5):(specialIn (Kx P) .none "__get__"==some none)=true:=by kernel_rfl
theorem t_cls(P:Y5):clsB (Kx P)=true:=by kernel_rfl
theorem t_meth(P:Y5):V8 (Kx P)=true:=by kernel_rfl
theorem t_attr(P:Y5):V9 (Kx P) WK=true:=by kernel_rfl
theorem q_file:pT.main.file=n1:=by kernel_rfl
theorem q_top:(pT.main.scope.names.lookup ("super":Zf)).isSome=false:=by kernel_rfl
theorem t_fn(P:Y5):Q1.all (fnB n1 ck (Kx P))=true:=by kernel_rfl
def fnAB(K:aC)(i:Fi)(fd:ZW):Bool:=Ol K i fd&&Kh fd&&VK i fd
theorem CY{K:aC}{f:Nat}{i:Fi}{fd:ZW}{oc od osl}(e:K.lookup f=some ⟨oc,od,.func fd,osl⟩)(h:fnAB K i fd=true):WH K f i fd (FN fd.body):=by
 obtain⟨h1,h2,h3⟩:=NN h;exact⟨.of ⟨_,_,_,e⟩ h1,Hr h2,Pl h3⟩
abbrev Hc:FuncData:=fd (sub 5 6) n80 3 [] .none .none .none (s n14 194) (r 265) .none 0
theorem Lo(P:Y5):∃fd body,O5 (Kx P) Ce fd body/\ShN ck fd.scope body:=⟨Hc,_,CY (K:=Kx P) (f:=Ce) (i:=i1) (fd:=Hc) (oc:=.type l4) (od:=none) (osl:=#[]) (by kernel_rfl) (by kernel_rfl),⟨_,_,rfl,by kernel_rfl⟩⟩
abbrev He:FuncData:=fd (sub 7 12) n107 3 [] .none .none .none (s n14 194) (r 384) .none 0
theorem Lp(P:Y5):∃fd body,O5 (Kx P) Cf fd body/\ShL ck fd.scope body:=⟨He,_,CY (K:=Kx P) (f:=Cf) (i:=i1) (fd:=He) (oc:=.type l4) (od:=none) (osl:=#[]) (by kernel_rfl) (by kernel_rfl),⟨_,_,_,_,_,_,rfl,by kernel_rfl,by kernel_rfl⟩⟩
abbrev Gy:FuncData:=fd (sub 13 8) n191 3 [] .none .none .none (s n123 661) (r 753) .none 0
theorem KT(P:Y5):∃fd body,O5 (Kx P) CS fd body/\ShI ck fd.scope body:=⟨Gy,_,CY (K:=Kx P) (f:=CS) (i:=i1) (fd:=Gy) (oc:=.type l4) (od:=none) (osl:=#[]) (by kernel_rfl) (by kernel_rfl),⟨_,_,_,_,_,_,_,_,_,_,_,_,_,_,rfl,by kernel_rfl,by kernel_rfl,by kernel_rfl,by kernel_rfl,by kernel_rfl,by kernel_rfl,by kernel_rfl,by kernel_rfl⟩⟩
abbrev Hf:FuncData:=fd (sub 17 6) n247 3 [] .none .none .none (s n235 1396) (r 1075) .none 0
theorem Lq(P:Y5):∃fd body,O5 (Kx P) BS fd body/\ShW ck fd.scope body:=⟨Hf,_,CY (K:=Kx P) (f:=BS) (i:=i1) (fd:=Hf) (oc:=.type l4) (od:=none) (osl:=#[]) (by kernel_rfl) (by kernel_rfl),⟨_,_,_,_,rfl,by kernel_rfl,by kernel_rfl,by kernel_rfl⟩⟩
abbrev Ff:FuncData:=fd (sub 19 8) n283 3 [] .none .none .none (s n235 1396) (r 1315) .none 0
theorem JX(P:Y5):∃fd body,O5 (Kx P) B5 fd body/\ShV ck fd.scope body:=⟨Ff,_,CY (K:=Kx P) (f:=B5) (i:=i1) (fd:=Ff) (oc:=.type l4) (od:=none) (osl:=#[]) (by kernel_rfl) (by kernel_rfl),⟨_,_,_,_,_,rfl,by kernel_rfl,by kernel_rfl,by kernel_rfl,by kernel_rfl,by kernel_rfl⟩⟩
abbrev Hg:FuncData:=fd (sub 4 14) n65 3 [] .none .none .none (s n14 194) (r 160) .none 0
theorem Lr(P:Y5):∃fd body,VQ ck (Kx P) Aj fd body:=⟨Hg,FN Hg.body,⟨⟨.type l4,none,#[],by kernel_rfl⟩,by kernel_rfl,rfl,rfl,by kernel_rfl,by kernel_rfl,by kernel_rfl,by kernel_rfl,by kernel_rfl,by kernel_rfl,by kernel_rfl,by kernel_rfl,rfl,by kernel_rfl,Hr (by kernel_rfl),by kernel_rfl,⟨_,_,_,_,_,_,_,_,rfl,by kernel_rfl,by kernel_rfl,by kernel_rfl,by kernel_rfl,by kernel_rfl⟩⟩⟩
abbrev GI:FuncData:=fd (sub 18 7) n269 3 [] .none .none .none (s n235 1396) (r 1230) .none 0
theorem Fg(P:Y5):T6 (Kx P) (.ref 1230):=⟨1230,o1267,_,_,_,_,_,_,_,_,rfl,by kernel_rfl,rfl,rfl,by kernel_rfl,rfl,rfl,rfl,rfl⟩
theorem Jx(P:Y5):∃fd body,FnC (Kx P) Cs fd body/\T6 (Kx P) fd.code/\ShF ck fd.scope body:=⟨GI,FN GI.body,⟨.of ⟨.type l4,none,#[],by kernel_rfl⟩ (by kernel_rfl),rfl,rfl,by kernel_rfl,by kernel_rfl⟩,Fg P,⟨_,_,_,_,_,_,_,rfl,by kernel_rfl,by kernel_rfl,⟨_,_,_,_,_,_,_,_,rfl,Pj (by kernel_rfl),by kernel_rfl,by kernel_rfl,by kernel_rfl,by kernel_rfl,by kernel_rfl,by kernel_rfl,by kernel_rfl⟩,⟨_,_,_,_,_,_,_,_,rfl,Pj (by kernel_rfl),by kernel_rfl,by kernel_rfl,by kernel_rfl,by kernel_rfl,by kernel_rfl,by kernel_rfl,by kernel_rfl⟩⟩⟩
theorem al_f(P:Y5):AlF ck (Kx P):=⟨Lr P,Lo P,Lp P,KT P,Lq P,JX P,Jx P⟩
abbrev Gm:FuncData:=fd (sub 11 6) n159 3 [] .none .none .none (s n123 661) (r 582) .none 0
theorem Na(P:Y5):MT ck (Kx P) BP Ec pUni tUni:=⟨Gm,_,CY (K:=Kx P) (f:=BP) (i:=Ec) (fd:=Gm) (oc:=.type l4) (od:=none) (osl:=#[]) (by kernel_rfl) (by kernel_rfl),⟨((FN Gm.body).take 5),_,_,_,_,_,_,rfl,by kernel_rfl,by kernel_rfl,by kernel_rfl⟩⟩
abbrev JY:FuncData:=fd (sub 13 11) n196 3 [] .none .none .none (s n123 661) (r 774) .none 0
theorem Nb(P:Y5):MT ck (Kx P) B3 Ed [] Ll:=⟨JY,_,CY (K:=Kx P) (f:=B3) (i:=Ed) (fd:=JY) (oc:=.type l4) (od:=none) (osl:=#[]) (by kernel_rfl) (by kernel_rfl),⟨[],_,_,_,_,_,_,rfl,by kernel_rfl,by kernel_rfl,by kernel_rfl⟩⟩
abbrev Gz:FuncData:=fd (sub 13 9) n193 3 [] .none .none .none (s n123 661) (r 760) .none 0
theorem KU(P:Y5):MT ck (Kx P) BD DF [] Ll:=⟨Gz,_,CY (K:=Kx P) (f:=BD) (i:=DF) (fd:=Gz) (oc:=.type l4) (od:=none) (osl:=#[]) (by kernel_rfl) (by kernel_rfl),⟨[],_,_,_,_,_,_,rfl,by kernel_rfl,by kernel_rfl,by kernel_rfl⟩⟩
abbrev IQ:FuncData:=fd (sub 14 12) n213 3 [] .none .none .none (s n123 661) (r 880) .none 0
theorem MU(P:Y5):MT ck (Kx P) CA D8 [] tA:=⟨IQ,_,CY (K:=Kx P) (f:=CA) (i:=D8) (fd:=IQ) (oc:=.type l4) (od:=none) (osl:=#[]) (by kernel_rfl) (by kernel_rfl),⟨[],_,_,_,_,_,_,rfl,by kernel_rfl,by kernel_rfl,by kernel_rfl⟩⟩
abbrev GJ:FuncData:=fd (sub 14 13) n214 3 [] .none .none .none (s n123 661) (r 887) .none 0
theorem Jy(P:Y5):MT ck (Kx P) BH Ct [] tA:=⟨GJ,_,CY (K:=Kx P) (f:=BH) (i:=Ct) (fd:=GJ) (oc:=.type l4) (od:=none) (osl:=#[]) (by kernel_rfl) (by kernel_rfl),⟨[],_,_,_,_,_,_,rfl,by kernel_rfl,by kernel_rfl,by kernel_rfl⟩⟩
abbrev G0:FuncData:=fd (sub 15 6) n226 3 [] .none .none .none (s n123 661) (r 969) .none 0
theorem KV(P:Y5):MT ck (Kx P) Bf DG [] tA:=⟨G0,_,CY (K:=Kx P) (f:=Bf) (i:=DG) (fd:=G0) (oc:=.type l4) (od:=none) (osl:=#[]) (by kernel_rfl) (by kernel_rfl),⟨[],_,_,_,_,_,_,rfl,by kernel_rfl,by kernel_rfl,by kernel_rfl⟩⟩
abbrev FO:FuncData:=fd (sub 15 7) n227 3 [] .none .none .none (s n123 661) (r 976) .none 0
theorem Il(P:Y5):MT ck (Kx P) A3 CR [] tA:=⟨FO,_,CY (K:=Kx P) (f:=A3) (i:=CR) (fd:=FO) (oc:=.type l4) (od:=none) (osl:=#[]) (by kernel_rfl) (by kernel_rfl),⟨[],_,_,_,_,_,_,rfl,by kernel_rfl,by kernel_rfl,by kernel_rfl⟩⟩
abbrev Hh:FuncData:=fd (sub 19 9) n284 3 [] .none .none .none (s n235 1396) (r 1322) .none 0
theorem Ls(P:Y5):MT ck (Kx P) Bs Dg [] Vd:=⟨Hh,_,CY (K:=Kx P) (f:=Bs) (i:=Dg) (fd:=Hh) (oc:=.type l4) (od:=none) (osl:=#[]) (by kernel_rfl) (by kernel_rfl),⟨[],_,_,_,_,_,_,rfl,by kernel_rfl,by kernel_rfl,by kernel_rfl⟩⟩
abbrev Fh:FuncData:=fd (sub 19 10) n285 3 [] .none .none .none (s n235 1396) (r 1329) .none 0
theorem JZ(P:Y5):MT ck (Kx P) BA CZ [] Vd:=⟨Fh,_,CY (K:=Kx P) (f:=BA) (i:=CZ) (fd:=Fh) (oc:=.type l4) (od:=none) (osl:=#[]) (by kernel_rfl) (by kernel_rfl),⟨[],_,_,_,_,_,_,rfl,by kernel_rfl,by kernel_rfl,by kernel_rfl⟩⟩
abbrev Hi:FuncData:=fd (sub 7 3) n98 3 [] .none .none .none (s n14 194) (r 320) .none 0
theorem Lu(P:Y5):MT ck (Kx P) Bq DX [] Ll:=⟨Hi,_,CY (K:=Kx P) (f:=Bq) (i:=DX) (fd:=Hi) (oc:=.type l4) (od:=none) (osl:=#[]) (by kernel_rfl) (by kernel_rfl),⟨[],_,_,_,_,_,_,rfl,by kernel_rfl,by kernel_rfl,by kernel_rfl⟩⟩
abbrev KJ:FuncData:=fd (sub 17 12) n253 3 [] .none .none .none (s n235 1396) (r 1117) .none 0
theorem Oz(P:Y5):ViF ck (Kx P) Bm FW Ar []:=⟨KJ,_,CY (K:=Kx P) (f:=Bm) (i:=FW) (fd:=KJ) (oc:=.type l4) (od:=none) (osl:=#[]) (by kernel_rfl) (by kernel_rfl),_,_,.inl rfl,⟨_,_,_,_,rfl,by kernel_rfl,by kernel_rfl,by kernel_rfl,by kernel_rfl,by kernel_rfl⟩⟩
abbrev Hj:FuncData:=fd (sub 17 11) n252 3 [] .none .none .none (s n235 1396) (r 1110) .none 0
theorem Lv(P:Y5):ViF ck (Kx P) Az De AP [.var AW]:=⟨Hj,_,CY (K:=Kx P) (f:=Az) (i:=De) (fd:=Hj) (oc:=.type l4) (od:=none) (osl:=#[]) (by kernel_rfl) (by kernel_rfl),_,_,.inr rfl,⟨_,_,_,_,rfl,by kernel_rfl,by kernel_rfl,by kernel_rfl,by kernel_rfl,by kernel_rfl⟩⟩
theorem rs_all(P:Y5):Qn ck (Kx P):=⟨Na P,Nb P,KU P,MU P,Jy P,KV P,Il P,Ls P,JZ P,Lu P,Oz P,Lv P⟩
abbrev CO:FuncData:=fd (top 28) n327 3 [] .none .none .none (s n308 1935) (r 1520) .none 0
theorem Jz(P:Y5):WH (Kx P) Aw iRf CO (FN CO.body):=CY (K:=Kx P) (f:=Aw) (i:=iRf) (fd:=CO) (oc:=.type l4) (od:=none) (osl:=#[]) (by kernel_rfl) (by kernel_rfl)
theorem Ja:ShT ck ck' CO.scope (FN CO.body):=⟨_,_,_,_,_,_,_,_,_,_,_,_,rfl,by kernel_rfl,⟨_,_,_,_,rfl,by kernel_rfl,by kernel_rfl,by kernel_rfl,by kernel_rfl,by kernel_rfl⟩,⟨_,_,_,_,rfl,by kernel_rfl,by kernel_rfl,by kernel_rfl,by kernel_rfl,by kernel_rfl⟩,by kernel_rfl,by kernel_rfl⟩
abbrev DI:FuncData:=fd (top 29) n329 3 [] .none .none .none (s n308 1935) (r 1527) .none 0
theorem O0(P:Y5):(Kx P).lookup I1=some ⟨.type l4,none,.func DI,#[]⟩:=by kernel_rfl
theorem UB(P:Y5):Ol (Kx P) M9 DI=true:=by kernel_rfl
theorem UC:JU ck M9 DI=true:=by kernel_rfl
theorem t_fnA(P:Y5):P5.all (fnA ck' (Kx P))=true:=by kernel_rfl
theorem b_lim(w:Y0):((HF w).isNs cStatics&&((HF w).nsMap cStatics "sys.recursionlimit"==none))=true:=by kernel_rfl
theorem b_mods(w:Y0):((HF w).get? sysModules).isSome=true:=by kernel_rfl
theorem b_cls(w:Y0):(cls.all λc=>!Qo c||((HF w).nsMap mainGlobals (clNx c)==some (.ref (C5 c))))=true:=by kernel_rfl
theorem b_fns(w:Y0):(gls.all λp=>(HF w).nsMap mainGlobals p.2==some (.ref p.1))=true:=by kernel_rfl
theorem b_bis(w:Y0):(bis.all λp=>((HF w).nsMap mainGlobals p.1==none)&&((HF w).nsMap builtinsNs p.1==some p.2))=true:=by kernel_rfl
theorem b_clD(P:Y5):(cls.all λc=>!Qo c||(!(clNx c==("__debug__":Zf))&&keepIn (Kx P) (.ref (C5 c))))=true:=by kernel_rfl
theorem b_fnD(P:Y5):(gls.all λp=>!(p.2==("__debug__":Zf))&&keepIn (Kx P) (.ref p.1))=true:=by kernel_rfl
def Vj(P:Y5)(cl:Cl)(n f:Nat):Bool:=(typeIn (Kx P) (.ref (C5 cl))==some (.type "type"))&&readsIn (Kx P) (C5 cl) (.type "type")&&(specialIn (Kx P) (.ref (C5 cl)) "__getattribute__"==some (some (.builtin "type.__getattribute__")))&&keepIn (Kx P) (.ref f)
theorem b_via(P:Y5):(Vj P .Add AV By&&Vj P .Wrap AV BR&&Vj P .Base AQ Aj)=true:=by kernel_rfl
theorem b_vA(P:Y5):findCls (Kx P) (.ref (C5 .Add)) (.type "type") (nm AV)=some (.val (.ref By)):=by kernel_rfl
theorem b_vW(P:Y5):findCls (Kx P) (.ref (C5 .Wrap)) (.type "type") (nm AV)=some (.val (.ref BR)):=by kernel_rfl
theorem b_vB(P:Y5):findCls (Kx P) (.ref (C5 .Base)) (.type "type") (nm AQ)=some (.val (.ref Aj)):=by kernel_rfl
theorem b_mak(P:Y5):(cls.all λc=>!Qo c||(makesIn (Kx P) (C5 c)&&((Bt c AV).isSome||(findIn (Kx P) (.ref (C5 c)) "__init__"==some (some (.builtin "object.__init__"))))))=true:=by kernel_rfl
theorem b_no(P:Y5):(Kx P).lookup Ai=none:=by kernel_rfl
theorem b_nall(P:Y5):keepIn (Kx P) (.ref E2)=false:=by kernel_rfl
theorem b_n30(w:Y0):((HF w).isNs 30&&((HF w).nsMap 30 "__init__"==none)&&((HF w).nsMap mainGlobals "ReadTooFar"==some (.ref 31)))=true:=by kernel_rfl
theorem b_31(w:Y0):(HF w).get? 31=some o26:=by kernel_rfl
theorem b_txt(w:Y0):(HF w).get? Ai=some {cls:=.none,data:=.fields #[]}:=by kernel_rfl
theorem P6{p:Cl->Bool}(h:cls.all p=true)(c:Cl):p c=true:=laP h c (Kg c)
theorem P7{a b:Bool}(h:(!a||b)=true)(ha:a=true):b=true:=by replace h:=ha▸h;exact h
theorem UD{f:Nat}(h:(AN f gls).isSome=true):(f,(AN f gls).getD ⟨#[]⟩)∈gls:=by
 refine BB (Zy.mp h) λz hz=>?_;exact hz.symm▸GE hz
theorem P8{P:Y5}{cl:Cl}{n f:Nat}(h:Vj P cl n f=true)(e:findCls (Kx P) (.ref (C5 cl)) (.type "type") (nm n)=some (.val (.ref f))):typeIn (Kx P) (.ref (C5 cl))=some (.type "type")/\readsIn (Kx P) (C5 cl) (.type "type")=true/\findCls (Kx P) (.ref (C5 cl)) (.type "type") (nm n)=some (.val (.ref f)) /\
 specialIn (Kx P) (.ref (C5 cl)) "__getattribute__"=some (some (.builtin "type.__getattribute__"))/\keepIn (Kx P) (.ref f)=true:=by
 refine Am (an h) λh h4=>?_;refine Am (an h) λh h3=>?_;refine Am (an h) λh1 h2=>?_;exact⟨beq_iff_eq.mp h1,h2,e,beq_iff_eq.mp h3,h4⟩
theorem Nc{m n f g:Nat}(h:(Y4 m n&&Y4 f g)=true):m=n/\f=g:=⟨Y6 (an h).1,Y6 (an h).2⟩
section
variable(w:Y0){h:aV}(hk:∀b o,b≠Ai->(HF w).get? b=some o->h.get? b=some o)
include hk
theorem Mq{a:Nat}(e:(HF w).isNs a=true)(n:a≠Ai):h.Ns a ((HF w).nsMap a):=(iU e).at' λo e=>hk a o n e
theorem base:Base ck (Kx w.params) h where
 kin:=λa o e=>hk a o (λz=>by rw[z,b_no] at e;exact zN e) (Kx_in w a o e)
 lim:=by
  refine Am (an (b_lim w)) λh1 h2=>?_;exact⟨_,Mq w hk h1 (by decide),beq_iff_eq.mp h2⟩
 mods:=by
  obtain⟨o,ho⟩:=Zy.mp (b_mods w);exact(hk _ _ (by decide) ho)▸rfl
 nall:=b_nall _
 glo:=by
  have n1:=Mq w hk (O7 w) (by decide)
  have n2:=Mq w hk (q_n2 w) (by decide)
  have c1:=b_cls w;have c2:=b_fns w;have c3:=b_bis w
  revert c1 c2 c3 n1 n2
  generalize (HF w).nsMap mainGlobals=mg
  generalize (HF w).nsMap builtinsNs=mb
  intro n1 n2 c1 c2 c3;exact⟨mg,mb,n1,n2,λcl hn=>beq_iff_eq.mp (P7 (P6 c1 cl) hn),λf hf=>beq_iff_eq.mp (laP c2 _ (UD hf)),λp hp=>(an (laP c3 p hp)).imp beq_iff_eq.mp beq_iff_eq.mp⟩
 bui:=⟨(HF w).nsMap mainGlobals,4,gG w.params,Mq w hk (O7 w) (by decide),q_g6 w,by decide,hk 4 (gG w.params) (by decide) (q_bm w),(P9 w).1,(P9 w).2,rfl⟩
 clD:=λcl hn=>by
  refine Am (an (P7 (P6 (b_clD w.params) cl) hn)) λh1 h2=>?_;exact⟨by rwa [Zq] at h1,h2⟩
 fnD:=λf hf=>by
  refine Am (an (laP (b_fnD w.params) _ (UD hf))) λh1 h2=>?_;exact⟨by rwa [Zq] at h1,h2⟩
 via:=λcl n f hv=>by
  refine CV (NN (b_via w.params)) λh1 h2 h3=>?_;cases cl with
  | Add=>refine Am (Nc hv) λy x=>?_;obtain rfl:=y;obtain rfl:=x;exact P8 h1 (b_vA _)
  | Wrap=>refine Am (Nc hv) λy x=>?_;obtain rfl:=y;obtain rfl:=x;exact P8 h2 (b_vW _)
  | Base=>refine Am (Nc hv) λy x=>?_;obtain rfl:=y;obtain rfl:=x;exact P8 h3 (b_vB _)
  | _=>exact zT hv
 mak:=λcl hn=>by
  refine Am (an (P7 (P6 (b_mak w.params) cl) hn)) λh1 h2=>?_;refine⟨h1,λe=>?_⟩;rw[e] at h2;exact beq_iff_eq.mp h2
theorem rtf:Lj 31 h:=by
 refine CV (NN (b_n30 w)) λh1 h2 h3=>?_;exact⟨_,_,_,_,_,_,_,_,_,_,_,_,_,_,_,_,_,_,hk _ _ (by decide) (b_31 w),Mq w hk h1 (by decide),beq_iff_eq.mp h2,.base,Mq w hk (O7 w) (by decide),beq_iff_eq.mp h3⟩
end
theorem base'{K:aC}{h:aV}(B:Base ck K h):Base ck' K h:=⟨B.kin,B.lim,B.mods,B.nall,B.glo,B.bui,B.clD,B.fnD,B.via,B.mak⟩
theorem kf(P:Y5):KF (Kx P) ck.isAttr:=KF.of (t_meth P) (t_cls P) (t_attr P) (t_none P)
theorem Vk:pw.main.file=n1:=by exact(show pw=pT from Nj).symm▸q_file
theorem q_top':(pw.main.scope.names.lookup ("super":Zf)).isSome=false:=by exact(show pw=pT from Nj).symm▸q_top
theorem sc(w:Y0)(d:Nat):Kf pw w ck (Kx w.params) (call d) d:=Qi (kf _) Vk q_top' (t_fn _) d
def H0(ns:List Int):MH:=λb=>bif Y4 b 1529 then some (.ro (ns.map .int)) else bif Y4 b Ai then some .txt else Yu
theorem UE{w:Y0}{env:eE}{WM:aV}(B:Base ck (Kx w.params) WM)(rt:Lj 31 WM){c:Cx}(hc:c.WM=WM)(O:EO env c.L [] DI.scope)(hf:env.frame=some c.L):Ev pw w (Kx w.params) ck (CL 199) (callerA.deeper env) c env [] DI.scope:=by
 subst hc;have cA:8*callerA.depth+callerA.units<=2412:=by decide
 refine⟨kf _,B,O,λU=>rfl,by show 8*(callerA.depth+1)+(callerA.units+3)<=7900;exact ZK _ _,?_,?_⟩
 ·intro A' hh' hd' c' m H s f vs ys us zs Q R e hna hcase R' r r' h q;have hd':8*A'.depth+A'.units<=8*(callerA.depth+1)+(callerA.units+3)+12:=hd';rcases h with h|h|h
  ·exact absurd h.1 hna
  ·refine CV h λz u t=>?_;obtain rfl:=z;obtain rfl:=u;refine x37 t λT kd sk p hkk hkd g hz hn hq=>?_;obtain rfl:=p;rcases hcase with⟨rfl,hL⟩|hcase
   ·refine AJ λGG hG=>?_;cases r'.nl
    obtain⟨y1,z1,rfl,v1,r⟩:=r.tl;obtain⟨y2,z2,rfl,v2,r⟩:=r.tl;cases r.nl
    cases v1
    cases v2
    refine hG ?_;refine Vh (k':=ck') (n:=24) (d:=199) (Yk:=[env]) (kf _) (sc w 199) (λT h d' hd=>JM 24 T h d' (Yn (m:=199) (by decide) ‹_›)) (rs_all _) (kf _) rfl (t_fnA _) (Jz _) Ja rfl (by exact ZK _ _) (by decide) (e▸B) (base' (e▸B)) R' (e▸rt) (a4 rfl) (λv hv=>?_) hkk hkd g hz hn λH' s' R2 h2=>q _ s' ⟨_,_,.bool true,R2,hq H' h2⟩
    cases msP hv
    exact⟨by rw[O.isc,O.ikd];decide,by rw[hL];exact hf⟩
   ·exact absurd rfl hcase
  ·exact sc w 199 A' hh' (ocA ‹8*_+_<=2412› ‹_›) c' m H s f vs ys us zs Q R (e▸B) R' r r' h q
 ·intro ks Er c' m H s v y Q e R' r h;rcases h with h|h|h
  ·refine AJ λGG hG=>?_;refine CV h λU U z=>?_;refine x28 z λT ds e1 g hz hs hds hal ht hq=>?_;cases e1
   cases r
   refine hG ?_;have hl:ds.length<=50:=by
    refine Es (Ki g.ok) λda a1 a2 a3=>?_;exact(a1.ext hds λx=>(a2 x).symm.trans (hal x))▸a3
   refine g.rep.all λf hf=>al_all (n:=24) (d:=199) (kf _) (sc w 199) (λT h=>JM 24 T h 199 (by decide)) (al_f _) 24 (Y1 _) T hz _ c' m H s _ ds f rfl (by show 8*(callerA.depth+1)+(callerA.units+3)+24*(199+3+sz T)<=7900;exact Yn (Yz _ 2) (ocB ‹8*_+_<=2412› ‹_›)) (e▸B) R' ht g hs hds hal hf λy s' v=>?_
   show wpAny _ _ (Z6 (.type "list") [y]) _ _ s'
   rcases v with⟨l,H',rfl,R2,f2,h1⟩|⟨I,rfl,g2⟩
   ·refine AR (R2.lst (.inl h1)) λxs z h2=>?_;refine Es z λob g1 g2 u=>?_;refine BB u λnn g3=>?_;have hlx:xs.length=ds.length:=by rw[<- h2.length,Y2]
    refine call_list_seq l (.inl rfl) g1 g2 g3 (λh' c2 hk hg=>?_) (by rw[ZI,ao];exact Yn (Zo hlx) (Yn ‹ds.length<=50› (by decide)))
    refine Am (R2.fresh (s':={s' with heap:=h'}) (o:=.list (ds.map .int)) ⟨hk,λU U e=>e,R2.dr,rfl⟩ (Ha (Y1 _)) hg ⟨xs,c2,rfl,h2⟩) λR3 hn=>?_
    exact⟨_,_,.ref _,R3,hq _ _ f2 hn⟩
   ·exact NW (bd:=24*(199+3+sz T)) rfl (by show 8*(callerA.depth+1)+(callerA.units+3)+24*(199+3+sz T)+2<=7900;exact ocB ‹8*_+_<=2412› ‹_›) (Yn (m:=50) ‹_› (by decide)) ht g2 λl H' s' R3 f3 hn=>⟨_,_,.ref _,R3,hq l H' f3 hn⟩
  ·exact absurd h.1 (by decide)
  ·exact(FM h).elim
theorem call_ok:O8:=by
 intro w WO vs ns hk hg ho hI hl hsz hlay;have hk0:∀b o,b≠Ai->(HF w).get? b=some o->(WO.heap.hide Ai).get? b=some o:=λb o nb e=>(iO _ nb).trans (hk b o e);have B:=base w hk0;have hT:=hk _ _ (b_txt w);have X:(Kx w.params).In WO.heap:=λa o e=>iP (B.kin a o e);have G:LY (Kx w.params) I1 M9 DI (FN DI.body):=.of ⟨_,_,_,O0 _⟩ (UB _);have P:=Hq.of UC;refine dT ?_;refine Q3 (Gj (s:=WO) X G.p1 G.p2 G.p3 G.p4 G.pn G.df (.cons (.ref 1529) .nil) .nil (ρ:=[(Ix,.ref 1529)]) rfl) λbinds sl hsl hkr hbind U=>?_;refine Am (GD hkr hsl G.nd) λhnd hin=>?_;refine fQ (fd:=DI) (body:=FN DI.body) (binds:=binds) (by decide) (X _ _ (O0 _)) rfl (B.lim.keeps λb o e=>iP e) (dX X G.code) G.body hbind P.nocell (λx hx=>by refine AR (hin x hx) λp hp e=>?_;exact e.symm▸P.loc p hp) (λWi hns hk1=>?_) G.co G.gen G.kind
 have R:AU pw w ⟨WO.heap.hide Ai,WO.heap.objs.size,[],WO.gens,WO.drawn,WO.os⟩ (λx=>binds.reverse.lookup x) (H0 ns) {WO with heap:=Wi,toks:=WO.toks+binds.length}:=by
  refine⟨⟨hns,λb o e=>hk1 _ _ (iP e),Zo (Heap.hide_size _ _)⟩,⟨λU=>0,[(Ai,{cls:=.none,data:=.fields #[]})],λp hp=>?_,⟨?_,λa o e=>?_,λa c as e=>?_,λp hp=>(nomatch hp)⟩⟩,λU U e=>e,.of_eq hg,rfl⟩
  ·cases msP hp
   exact⟨hk1 _ _ hT,λe=>by have:=Yy hT;exact ZE _ ((show Ai=WO.heap.objs.size from e)▸this),Heap.hide_self _ _⟩
  ·exact ncR ⟨Zn,bE⟩
  ·have e:cond (Y4 a 1529) (some (O.ro (ns.map .int))) (cond (Y4 a Ai) (some .txt) Yu)=some o:=e;cases q:Y4 a 1529 with
   | true=>replace e:=q▸e;obtain rfl:=Ys e;exact(Y6 q).symm▸.inr (.inl ⟨_,vs,0,rfl,(iO _ (by decide)).trans ho,QZ hI⟩)
   | false =>
    replace e:=q▸e;refine UJ (Y4 a Ai) (λq2=>?_) λq2=>?_
    ·replace e:=q2▸e;obtain rfl:=Ys e;exact(Y6 q2).symm▸.inr (.inr ⟨_,.head _,#[],rfl,trivial⟩)
    ·replace e:=q2▸e;exact zN e
  ·have e:cond (Y4 a 1529) (some (O.ro (ns.map .int))) (cond (Y4 a Ai) (some .txt) Yu)=some (.inst c as):=e;cases q:Y4 a 1529<;>rw[q] at e
   ·cases q2:Y4 a Ai<;>rw[q2] at e<;>exact nomatch e
   ·exact nomatch e
 have O:EO (callEnv DI WO.heap.objs.size I1) WO.heap.objs.size [] DI.scope:=⟨rfl,G.kind,rfl,G.gl,G.bi,λx a e=>(zN e),λp hp e=>absurd e (P.nocell p hp)⟩;refine th (TM (UE (env:=callEnv DI WO.heap.objs.size I1) (c:=⟨WO.heap.hide Ai,WO.heap.objs.size,[],WO.gens,WO.drawn,WO.os⟩) B (rtf w hk0) rfl O rfl) (λx U=>JR x) (LZ hkr hnd) P.ok R (law_ok (Q:=λv H=>v=.bool true/\H Ai=some .txt) (ns:=ns) rfl rfl (Yn (m:=63) ‹_› (by decide)) λH' h=>⟨rfl,h⟩)) λf WQ h=>?_
 obtain⟨fl',ρ2,m2,H2,rf,l2,R2,hq⟩:=h;have key:∀y,VR (.bool true) y->H2 Ai=some .txt->y=.bool true/\OldK WO.heap WQ.heap/\WQ.os=WO.os/\Zs WQ.gens:=λy hy ht=>by
  refine AJ λGG hG=>?_;cases hy
  refine Am (R2.txO ht) λz U=>?_;refine AR z λo e1 u=>?_;refine AR u λps e2 U=>?_;refine hG ?_;subst e2;have hb:∀b o',b≠Ai->WO.heap.get? b=some o'->WQ.heap.get? b=some o':=λb o' nb e=>R2.fr.keep b o' ((iO _ nb).trans e);refine⟨rfl,⟨λb o' e=>?_,λb o' e=>?_⟩,R2.os,R2.dr⟩
  ·by_cases hbt:b=Ai
   ·subst hbt;obtain rfl:=Ys (hT.symm.trans e);obtain⟨U,oF,U,U,U,U,U,U,U,U,ec,k1,k2,k3,k4,U⟩:=Fg w.params;exact .inr (.inl ⟨⟨_,_,_,X _ _ k1,k2,k3,k4⟩,rfl,#[],ps,rfl,by exact Array.empty_append.symm▸e1⟩)
   ·exact .inl (hb b o' hbt e)
  ·by_cases hbt:b=Ai
   ·subst hbt;exact⟨_,e1⟩
   ·exact⟨_,hb b o' hbt e⟩
 cases rf with
 | ret hv=>obtain⟨rfl,ht⟩:=hq;exact key _ hv ht
 | next=>exact nomatch hq.1
 | _=>exact hq.elim
end Mine.Hd
end
end
theorem PySem.Challenge.cw_iw0047_03_holds : PySem.Challenge.rw_iw0047_03.Holds := by
  exact PySem.W.holds_law Mine.Hd.saidL fun said => Mine.Hd.holds_by Mine.Hd.call_ok said
